import PyProof.Rows.All
import Wide.All
import OpenK.AllK
import Wide.FinOn
import PySem.Challenge.RW_pg0084_01
set_option Elab.async false
section
section
open PySem PySem.W PySem.W.X PyProof.Rows
namespace Mine
local macro_rules | `(tactic| o_head $_:term) => `(tactic| exact False.elim (by assumption))
set_option maxRecDepth 100000 in
set_option maxHeartbeats 8000000 in
/-- nothing is shown here: its making writes the heap out, as a constant -/
theorem laidOut (none : False) : (PySem.Challenge.rw_pg0084_01.row).Holds := by x_head
end Mine
end
section
open PySem PySem.W PySem.W.X PyProof.Rows
namespace Mine
/-- the objects that no walk asks for -/
def unasked : List Nat := [0, 1, 4, 5, 6, 8, 9, 10, 12, 13, 14, 16, 19, 33, 36, 40, 43, 48, 51, 56, 59, 63, 66, 73, 78, 81, 85, 88, 93, 96, 107, 110, 114, 117, 121, 124, 128, 131, 135, 138, 142, 145, 149, 152, 156, 157, 161, 162]
def asked (p : Addr × Obj) : Bool := unasked.all fun a => Nat.beq p.1 a == false
set_option maxRecDepth 100000 in
noncomputable def heapS : Params → Frag := by
  intro P
  refine (?f : (K : Frag) → (List.filter asked (laidOut.heap_1 P) = K) → Frag) ?K ?h
  case h =>
    conv =>
      lhs
      repeat (whnf; arg 2)
  case f => exact fun K _ => K
end Mine
namespace Mine.Hd
/-- the head's premise, so named that the run is shown at once, not in pieces: the compiled file is a fifth of the other's -/
abbrev LeftQ (p q : Program) (loose : List Str) (Xt : Shared → Bool) {α : Type} (Yf : Shared → α) (Ya : World → α) (N : Nat) : Prop := LeftO p q loose Xt Yf Ya N
def PySem.W.holds_open {r : OpenRow} {q : Program} {loose : List Str} {Xt : Shared → Bool} {XP : (Str → Option Value) → Heap → Prop} {α : Type} {Yf : Shared → α} {Ya : World → α} {YP : World → Heap → Prop} {d : DefRec} {kwd : List (Str × PySem.Expr)} {N : Nat} (left : LeftQ r.prog q loose Xt Yf Ya N) :=
  @_root_.PySem.W.holds_open r q loose Xt XP α Yf Ya YP d kwd N left
local macro_rules | `(tactic| k_head) => `(tactic| o_head (kHook heapS [2, 3, 7, 11, 15, 17, 18, 20, 21, 22, 25, 30, 31, 32, 34, 35, 37, 38, 39, 41, 42, 44, 45, 46, 47, 49, 50, 52, 53, 54, 55, 57, 58, 60, 61, 62, 64, 65, 67, 68, 69, 70, 71, 72, 74, 75, 76, 77, 79, 80, 82, 83, 84, 86, 87, 89, 90, 91, 92, 94, 95, 97, 98, 99, 100, 101, 102, 103, 106, 108, 109, 111, 112, 113, 115, 116, 118, 119, 120, 122, 123, 125, 126, 127, 129, 130, 132, 133, 134, 136, 137, 139, 140, 141, 143, 144, 146, 147, 148, 150, 151, 153, 154, 155, 158, 159, 160, 163, 164] (fun _ => by kernel_rfl)))
set_option maxRecDepth 100000 in
set_option maxHeartbeats 8000000 in
open_top hd for PySem.Challenge.rw_pg0084_01
end Mine.Hd
end
end
section
open PySem PySem.W PyProof.Rows
namespace Mine
def notTab (p : Addr × Obj) : Bool := Nat.beq p.1 70 == false
set_option maxRecDepth 100000 in
noncomputable def heapB : Params → Frag := by
  intro P
  refine (?f : (K : Frag) → (List.filter notTab (heapS P) = K) → Frag) ?K ?h
  case h =>
    conv =>
      lhs
      repeat (whnf; arg 2)
  case f => exact fun K _ => K
set_option maxRecDepth 100000 in
theorem heapB_eq (P : Params) : (heapS P).filter notTab = heapB P := rfl
theorem lookup_notTab {a : Addr} {o : Obj} : ∀ {K : Frag}, (K.filter notTab).lookup a = some o → K.lookup a = some o ∧ @Ne Nat a 70
  | [], e => by cases e
  | (b, x) :: r, e => by
    unfold List.filter at e
    cases hb : notTab (b, x) with
    | true =>
      rw [hb] at e
      simp only [List.lookup] at e ⊢
      split at e
      · rename_i q
        refine ⟨e, fun z => ?_⟩
        have q := beq_iff_eq.mp q
        unfold notTab at hb
        rw [← q, z] at hb
        cases hb
      · exact lookup_notTab e
    | false =>
      rw [hb] at e
      have ih := lookup_notTab e
      refine ⟨?_, ih.2⟩
      simp only [List.lookup]
      split
      · rename_i q
        have q := beq_iff_eq.mp q
        exfalso
        unfold notTab at hb
        simp only at hb
        have : @Eq Nat b 70 := by
          cases h : Nat.beq b 70
          · rw [h] at hb; cases hb
          · exact Nat.eq_of_beq_eq_true h
        exact ih.2 (q.trans this)
      · exact ih.1
/-- the part without the table of __str__ -/
theorem heapB_in {P : Params} {h : Heap} (X : (heapS P).In h) : (heapB P).In h := fun a o e => X a o (lookup_notTab ((heapB_eq P).symm ▸ e)).1
end Mine
end
section
open PySem PySem.W PyProof.Rows
namespace Mine
theorem cleanFn84 : True := by
  k_with_none
  w_top off
  trivial
noncomputable abbrev prg : Program := PySem.Challenge.rw_pg0084_01.row.prog
noncomputable abbrev lse : List Str := looseW Hd.hd.view_39 [Str.ofString "_Accumulator", Str.ofString "ONE_THIRD", Str.ofString "ONE_SIXTH", Str.ofString "TWO_THIRD"]
/-- a def's contract: what the caller's frame and ledger are, and what comes back -/
abbrev Cl (w : World) (f : Addr) (news : List (Addr × Obj)) (vs : List Value) (d u : Nat) (Out : (List (Addr × Obj) → Value → Prop) → Prop) : Prop :=
  PySem.Challenge.rw_pg0084_01 = PySem.Challenge.rw_pg0084_01 →
  ∀ (mean : ExcName → Option Value) (mg mb : Str → Option Value) (dp un : Nat) (gd : Option (List Code)) (cn : Str) (cs : Scope) (a : Addr) (ccd : Value) (cl : List (Str × Addr)) (outer : List Env) (A₀ : Around) (base h₀ : Heap) (L : Addr) (m : Str → Option Value) (s : Shared) (Q E : Value → Shared → Prop),
    Below A₀ base outer h₀ → Fr h₀ L s.heap m → (heapB w.params).In h₀ → News h₀ L s.heap news → Top Hd.hd.view_39 lse mean mg mb h₀ → cs.kind = .function → dp + d < recursionLimit → un + u < cLine →
    Out (fun news' v => ∀ (h' : Heap) (tk' : Nat), Fr h₀ L h' m → News h₀ L h' news' → Q v { s with heap := h', toks := tk' }) →
    wpAny (model prg w) (ktrTop dp un gd cn cs L a ccd cl outer) (call (.ref f) vs) Q E s

theorem Cl.use {w : World} {f : Addr} {news : List (Addr × Obj)} {vs : List Value} {d u : Nat} {Out : (List (Addr × Obj) → Value → Prop) → Prop} (c : Cl w f news vs d u Out)
    {mean : ExcName → Option Value} {mg mb : Str → Option Value} {dp un : Nat} {gd : Option (List Code)} {cn : Str} {cs : Scope} {a : Addr} {ccd : Value} {cl : List (Str × Addr)} {outer : List Env} {A₀ : Around} {base h₀ : Heap} {L : Addr} {m : Str → Option Value} {s : Shared} {Q E : Value → Shared → Prop}
    (B : Below A₀ base outer h₀) (F : Fr h₀ L s.heap m) (X : (heapB w.params).In h₀) (N : News h₀ L s.heap news) (T : Top Hd.hd.view_39 lse mean mg mb h₀) (hk : cs.kind = .function) (hd : dp + d < recursionLimit) (hu : un + u < cLine)
    (hret : Out (fun news' v => ∀ (h' : Heap) (tk' : Nat), Fr h₀ L h' m → News h₀ L h' news' → Q v { s with heap := h', toks := tk' })) :
    wpAny (model prg w) (ktrTop dp un gd cn cs L a ccd cl outer) (call (.ref f) vs) Q E s :=
  c rfl mean mg mb dp un gd cn cs a ccd cl outer A₀ base h₀ L m s Q E B F X N T hk hd hu hret

theorem cl_retF {h₀ h' : Heap} {L : Addr} {m : Str → Option Value} {news : List (Addr × Obj)} {s : Shared} {Q : Value → Shared → Prop} {t : Tok} {tk' : Nat} {x y : UInt64}
    (hret : ∀ (t : Tok) (h' : Heap) (tk' : Nat), Fr h₀ L h' m → News h₀ L h' news → Q (.float x t) { s with heap := h', toks := tk' }) (e : y = x) (F : Fr h₀ L h' m) (N : News h₀ L h' news) : Q (.float y t) { s with heap := h', toks := tk' } := by
  subst e
  exact hret t h' tk' F N
abbrev tup3 (a b c : Value) : Obj := { cls := .type "tuple", data := .seq [a, b, c].toArray }

def vF (m1 m2 hue : UInt64) : UInt64 :=
  if (Float64.cmp (Float64.divmod hue 4607182418800017408).snd 4595172819793696085 == some Ordering.lt) = true then Float64.add m1 (Float64.mul (Float64.mul (Float64.sub m2 m1) (Float64.divmod hue 4607182418800017408).snd) 4618441417868443648)
  else if (Float64.cmp (Float64.divmod hue 4607182418800017408).snd 4602678819172646912 == some Ordering.lt) = true then m2
  else if (Float64.cmp (Float64.divmod hue 4607182418800017408).snd 4604180019048437077 == some Ordering.lt) = true then Float64.add m1 (Float64.mul (Float64.mul (Float64.sub m2 m1) (Float64.sub 4604180019048437077 (Float64.divmod hue 4607182418800017408).snd)) 4618441417868443648)
  else m1

set_option maxRecDepth 100000 in
set_option maxHeartbeats 8000000 in
theorem v_claim (w : World) (m1 m2 hue : UInt64) (t1 t2 t3 : Tok) (news : List (Addr × Obj)) :
   Cl w 126 news [.float m1 t1, .float m2 t2, .float hue t3] 1 8 (fun K => ∀ t, K news (.float (vF m1 m2 hue) t)) := by
  dsimp only [Cl]
  k_fill
  intros; rename_i hret
  refine wpAny_call ?_
  k_dflt cell_enter
  k_steps
  all_goals (
    refine cl_retF hret ?_ (by k_asm) (by k_asm)
    simp only [vF]
    simp_all)

def m2F (l s : UInt64) : UInt64 :=
  if (Float64.cmp l 4602678819172646912 == some Ordering.lt || Float64.cmp l 4602678819172646912 == some Ordering.eq) = true then Float64.mul l (Float64.add 4607182418800017408 s) else Float64.sub (Float64.add l s) (Float64.mul l s)
def m1F (l s : UInt64) : UInt64 := Float64.sub (Float64.mul 4611686018427387904 l) (m2F l s)
set_option maxRecDepth 100000 in
set_option maxHeartbeats 8000000 in
theorem hls_claim (w : World) (h l s : UInt64) (t1 t2 t3 : Tok) (news : List (Addr × Obj)) (h0 : (Float64.cmp s 0 == some Ordering.eq) = false) :
   Cl w 119 news [.float h t1, .float l t2, .float s t3] 2 16 (fun K => ∀ a u1 u2 u3, (∀ p ∈ news, p.1 < a) → K ((a, tup3 (.float (vF (m1F l s) (m2F l s) (Float64.add h 4599676419421066581)) u1) (.float (vF (m1F l s) (m2F l s) h) u2) (.float (vF (m1F l s) (m2F l s) (Float64.sub h 4599676419421066581)) u3)) :: news) (.ref a)) := by
  dsimp only [Cl]
  k_fill
  intros; rename_i hret
  (k_with "call ref" => ((with_reducible show wpAny _ _ (PySem.call (Value.ref 126) _ _) _ _ _); refine' (v_claim _ _ _ _ _ _ _ _).use ?k1 ?k2 ?k3 ?k4 ?k5 ?kK ?kd ?ku ?_; (case k1 => k_asm); (case k2 => k_asm); (case k3 => k_asm); (case k4 => k_asm); (case k5 => k_asm); (case kK => first | exact rfl | assumption); (case kd => ktr_room); (case ku => ktr_units); intro t9 h9 tk9 F9 N9; (try dsimp only); (try k_fold)))
  refine wpAny_call ?_
  k_dflt cell_enter
  k_steps
  all_goals try (exfalso; simp_all; done)
  all_goals (
    rename_i l1 kF kN _ _
    simp only [m1F, m2F, *, if_true, if_false, Bool.false_eq_true] at hret
    exact hret _ _ _ _ l1 _ _ kF kN)

end Mine
end
section
open PySem PySem.W PyProof.Rows
namespace Mine
open PySem.Flt in
theorem max3_num {prog : Program} {w : World} {A : Around} {E : Value → Shared → Prop} {s : Shared} {Q : Value → Shared → Prop} {a b c : Value} (hh : A.handled = none) (ha : NumV a) (hb : NumV b) (hc : NumV c)
    (h : ∀ h' tk, (∀ c o, s.heap.get? c = some o → h'.get? c = some o) → Q (if ltV a b then (if ltV b c then c else b) else (if ltV a c then c else a)) { s with heap := h', toks := tk }) :
    wpAny (model prog w) A (call (.builtin "max") [a, b, c]) Q E s := by
  have hT : (s.heap.push { cls := .type "tuple", data := .seq #[a, b, c] }).IsTuple s.heap.objs.size #[a, b, c] := ⟨_, Heap.get?_push_size _ rfl, rfl, 0, rfl⟩
  refine call_max_three (wpAny_pyIter_tuple hT ?_)
  have hsz : (s.heap.push { cls := .type "tuple", data := .seq #[a, b, c] }).objs.size = s.heap.objs.size + 1 := Heap.size_push ..
  refine ⟨_, [_, s.heap.objs.size], [_], _, _, _, _, rfl, Walks.tuple (A := A.in1) hh _ s.heap.objs.size (by rw [hsz]; exact Nat.ne_of_lt (Nat.lt_succ_self _)) #[a, b, c],
    ⟨⟨_, Heap.get?_push_size _ rfl, rfl, rfl⟩, hT.push _⟩, fun c hc => ?_, by simp, cmpOf_gt #[a, b, c] (by simp [ha, hb, hc]), fun v h' tk hP hk => ?_⟩
  · show c < ((s.heap.push _).push _).objs.size
    rw [Heap.size_push, hsz]
    rcases List.mem_cons.mp hc with rfl | hc
    · rw [hsz]; exact Nat.lt_succ_self _
    · rcases List.mem_cons.mp hc with rfl | hc
      · exact Nat.lt_succ_of_lt (Nat.lt_succ_self _)
      · cases hc
  · have hold : ∀ c o, s.heap.get? c = some o → h'.get? c = some o := fun c o e => by
      refine hk c o (fun hm => ?_) (Heap.get?_push_of_some _ (Heap.get?_push_of_some _ e))
      rcases List.mem_cons.mp hm with e1 | hm
      · have := Heap.lt_size e; rw [e1, hsz] at this; exact Nat.lt_irrefl _ (Nat.lt_of_succ_lt this)
      · cases hm
    have := h h' tk hold
    have hv : v = if ltV a b then (if ltV b c then c else b) else (if ltV a c then c else a) := by
      cases h1 : ltV a b <;> cases h2 : ltV b c <;> cases h3 : ltV a c <;> simp [argBest, h1, h2, h3] at hP <;> simp [hP]
    rw [hv]; exact this
open PySem.Flt in
theorem min3_num {prog : Program} {w : World} {A : Around} {E : Value → Shared → Prop} {s : Shared} {Q : Value → Shared → Prop} {a b c : Value} (hh : A.handled = none) (ha : NumV a) (hb : NumV b) (hc : NumV c)
    (h : ∀ h' tk, (∀ c o, s.heap.get? c = some o → h'.get? c = some o) → Q (if ltV b a then (if ltV c b then c else b) else (if ltV c a then c else a)) { s with heap := h', toks := tk }) :
    wpAny (model prog w) A (call (.builtin "min") [a, b, c]) Q E s := by
  have hT : (s.heap.push { cls := .type "tuple", data := .seq #[a, b, c] }).IsTuple s.heap.objs.size #[a, b, c] := ⟨_, Heap.get?_push_size _ rfl, rfl, 0, rfl⟩
  refine call_min_three (wpAny_pyIter_tuple hT ?_)
  have hsz : (s.heap.push { cls := .type "tuple", data := .seq #[a, b, c] }).objs.size = s.heap.objs.size + 1 := Heap.size_push ..
  refine ⟨_, [_, s.heap.objs.size], [_], _, _, _, _, rfl, Walks.tuple (A := A.in1) hh _ s.heap.objs.size (by rw [hsz]; exact Nat.ne_of_lt (Nat.lt_succ_self _)) #[a, b, c],
    ⟨⟨_, Heap.get?_push_size _ rfl, rfl, rfl⟩, hT.push _⟩, fun c hc => ?_, by simp, cmpOf_lt #[a, b, c] (by simp [ha, hb, hc]), fun v h' tk hP hk => ?_⟩
  · show c < ((s.heap.push _).push _).objs.size
    rw [Heap.size_push, hsz]
    rcases List.mem_cons.mp hc with rfl | hc
    · rw [hsz]; exact Nat.lt_succ_self _
    · rcases List.mem_cons.mp hc with rfl | hc
      · exact Nat.lt_succ_of_lt (Nat.lt_succ_self _)
      · cases hc
  · have hold : ∀ c o, s.heap.get? c = some o → h'.get? c = some o := fun c o e => by
      refine hk c o (fun hm => ?_) (Heap.get?_push_of_some _ (Heap.get?_push_of_some _ e))
      rcases List.mem_cons.mp hm with e1 | hm
      · have := Heap.lt_size e; rw [e1, hsz] at this; exact Nat.lt_irrefl _ (Nat.lt_of_succ_lt this)
      · cases hm
    have := h h' tk hold
    have hv : v = if ltV b a then (if ltV c b then c else b) else (if ltV c a then c else a) := by
      cases h1 : ltV b a <;> cases h2 : ltV c b <;> cases h3 : ltV c a <;> simp [argBest, h1, h2, h3] at hP <;> simp [hP]
    rw [hv]; exact this

def mxF (x y : UInt64) : UInt64 := if (Float64.cmp x y == some .lt) = true then y else x
def mnF (x y : UInt64) : UInt64 := if (Float64.cmp y x == some .lt) = true then y else x
theorem mx3_val (x y z : UInt64) (t u v : Tok) : ∃ k, (if PySem.Flt.ltV (.float x t) (.float y u) then (if PySem.Flt.ltV (.float y u) (.float z v) then Value.float z v else .float y u) else (if PySem.Flt.ltV (.float x t) (.float z v) then .float z v else .float x t)) = Value.float (mxF (mxF x y) z) k := by
  show ∃ k, (if (Float64.cmp x y == some .lt) = true then (if (Float64.cmp y z == some .lt) = true then Value.float z v else .float y u) else (if (Float64.cmp x z == some .lt) = true then Value.float z v else .float x t)) = Value.float (mxF (mxF x y) z) k
  unfold mxF
  by_cases h1 : (Float64.cmp x y == some .lt) = true
  · by_cases h2 : (Float64.cmp y z == some .lt) = true
    · exact ⟨v, by rw [if_pos h1, if_pos h2, if_pos h1, if_pos h2]⟩
    · exact ⟨u, by rw [if_pos h1, if_neg h2, if_pos h1, if_neg h2]⟩
  · by_cases h2 : (Float64.cmp x z == some .lt) = true
    · exact ⟨v, by rw [if_neg h1, if_pos h2, if_neg h1, if_pos h2]⟩
    · exact ⟨t, by rw [if_neg h1, if_neg h2, if_neg h1, if_neg h2]⟩
theorem mn3_val (x y z : UInt64) (t u v : Tok) : ∃ k, (if PySem.Flt.ltV (.float y u) (.float x t) then (if PySem.Flt.ltV (.float z v) (.float y u) then Value.float z v else .float y u) else (if PySem.Flt.ltV (.float z v) (.float x t) then .float z v else .float x t)) = Value.float (mnF (mnF x y) z) k := by
  show ∃ k, (if (Float64.cmp y x == some .lt) = true then (if (Float64.cmp z y == some .lt) = true then Value.float z v else .float y u) else (if (Float64.cmp z x == some .lt) = true then Value.float z v else .float x t)) = Value.float (mnF (mnF x y) z) k
  unfold mnF
  by_cases h1 : (Float64.cmp y x == some .lt) = true
  · by_cases h2 : (Float64.cmp z y == some .lt) = true
    · exact ⟨v, by rw [if_pos h1, if_pos h2, if_pos h1, if_pos h2]⟩
    · exact ⟨u, by rw [if_pos h1, if_neg h2, if_pos h1, if_neg h2]⟩
  · by_cases h2 : (Float64.cmp z x == some .lt) = true
    · exact ⟨v, by rw [if_neg h1, if_pos h2, if_neg h1, if_pos h2]⟩
    · exact ⟨t, by rw [if_neg h1, if_neg h2, if_neg h1, if_neg h2]⟩
section
variable {prog : Program} {w : World} {A : Around} {E : Value → Shared → Prop} {s : Shared} {Q : Value → Shared → Prop} {x y z : UInt64} {t u v : Tok} {h₀ : Heap} {L : Addr} {m : Str → Option Value} {news : List (Addr × Obj)}
theorem max3_ff (hh : A.handled = none) (F : Fr h₀ L s.heap m) (N : News h₀ L s.heap news)
    (h : ∀ h' tk v, Fr h₀ L h' m → News h₀ L h' news → Q (.float (mxF (mxF x y) z) v) { s with heap := h', toks := tk }) :
    wpAny (model prog w) A (call (.builtin "max") [.float x t, .float y u, .float z v]) Q E s :=
  max3_num hh (.float x t) (.float y u) (.float z v) fun h' tk kp => by
    obtain ⟨k, e⟩ := mx3_val x y z t u v
    rw [e]
    exact h h' tk k (F.grownK kp) (N.grown kp)
theorem min3_ff (hh : A.handled = none) (F : Fr h₀ L s.heap m) (N : News h₀ L s.heap news)
    (h : ∀ h' tk v, Fr h₀ L h' m → News h₀ L h' news → Q (.float (mnF (mnF x y) z) v) { s with heap := h', toks := tk }) :
    wpAny (model prog w) A (call (.builtin "min") [.float x t, .float y u, .float z v]) Q E s :=
  min3_num hh (.float x t) (.float y u) (.float z v) fun h' tk kp => by
    obtain ⟨k, e⟩ := mn3_val x y z t u v
    rw [e]
    exact h h' tk k (F.grownK kp) (N.grown kp)
end
end Mine
end
section
open PySem PySem.W PyProof.Rows
namespace Mine
theorem cleanFn84b : True := by
  k_with_none
  w_top off
  trivial
def lF (mx mn : UInt64) : UInt64 := Float64.div (Float64.add mx mn) 4611686018427387904
def sF (mx mn : UInt64) : UInt64 :=
  if (Float64.cmp (lF mx mn) 4602678819172646912 == some Ordering.lt || Float64.cmp (lF mx mn) 4602678819172646912 == some Ordering.eq) = true then Float64.div (Float64.sub mx mn) (Float64.add mx mn) else Float64.div (Float64.sub mx mn) (Float64.sub (Float64.sub 4611686018427387904 mx) mn)
def cF (mx mn x : UInt64) : UInt64 := Float64.div (Float64.sub mx x) (Float64.sub mx mn)
def h0F (r g b mx mn : UInt64) : UInt64 :=
  if (Float64.cmp r mx == some Ordering.eq) = true then Float64.sub (cF mx mn b) (cF mx mn g)
  else if (Float64.cmp g mx == some Ordering.eq) = true then Float64.sub (Float64.add 4611686018427387904 (cF mx mn r)) (cF mx mn b)
  else Float64.sub (Float64.add 4616189618054758400 (cF mx mn g)) (cF mx mn r)
def hF (r g b mx mn : UInt64) : UInt64 := (Float64.divmod (Float64.div (h0F r g b mx mn) 4618441417868443648) 4607182418800017408).snd
structure RgbOk (mx mn : UInt64) : Prop where
  ne : (Float64.cmp mn mx == some Ordering.eq) = false
  z1 : Float64.isZero (Float64.add mx mn) = false
  z2 : Float64.isZero (Float64.sub mx mn) = false
  z3 : Float64.isZero (Float64.sub (Float64.sub 4611686018427387904 mx) mn) = false
set_option maxRecDepth 100000 in
set_option maxHeartbeats 8000000 in
theorem rgb_claim (w : World) (r g b : UInt64) (t1 t2 t3 : Tok) (news : List (Addr × Obj)) (ok : RgbOk (mxF (mxF r g) b) (mnF (mnF r g) b)) :
   Cl w 112 news [.float r t1, .float g t2, .float b t3] 1 8 (fun K => ∀ a u1 u2 u3, (∀ p ∈ news, p.1 < a) → K ((a, tup3 (.float (hF r g b (mxF (mxF r g) b) (mnF (mnF r g) b)) u1) (.float (lF (mxF (mxF r g) b) (mnF (mnF r g) b)) u2) (.float (sF (mxF (mxF r g) b) (mnF (mnF r g) b)) u3)) :: news) (.ref a)) := by
  dsimp only [Cl]
  k_fill
  intros; rename_i hret
  (k_with "call builtin:max" => (refine' max3_ff ?k0 ?k1 ?k2 ?_; (case k0 => exact rfl); (case k1 => k_asm); (case k2 => k_asm); intro h9 tk9 v9 F9 N9; (try dsimp only)))
  (k_with "call builtin:min" => (refine' min3_ff ?k0 ?k1 ?k2 ?_; (case k0 => exact rfl); (case k1 => k_asm); (case k2 => k_asm); intro h9 tk9 v9 F9 N9; (try dsimp only)))
  refine wpAny_call ?_
  k_dflt cell_enter
  k_steps
  all_goals try (exfalso; first | exact Bool.false_ne_true (ok.z1.symm.trans (by with_reducible assumption)) | exact Bool.false_ne_true (ok.z2.symm.trans (by with_reducible assumption)) | exact Bool.false_ne_true (ok.z3.symm.trans (by with_reducible assumption)) | exact Bool.false_ne_true (ok.ne.symm.trans (by with_reducible assumption)))
  all_goals (
    rename_i l1 kF kN _ _
    simp only [hF, h0F, cF, sF, lF, *, if_true, if_false, Bool.false_eq_true] at hret
    exact hret _ _ _ _ l1 _ _ kF kN)
end Mine
end
section
open PySem PySem.W PyProof.Rows
namespace Mine
theorem cleanFn84c : True := by
  k_with_none
  w_top off
  trivial
def hueF (r g b : UInt64) : UInt64 := hF r g b (mxF (mxF r g) b) (mnF (mnF r g) b)
def litF (r g b : UInt64) : UInt64 := lF (mxF (mxF r g) b) (mnF (mnF r g) b)
def satF (r g b : UInt64) : UInt64 := sF (mxF (mxF r g) b) (mnF (mnF r g) b)
def plcF (r g b : UInt64) : UInt64 := Float64.add (Float64.mul (hueF r g b) 4631952216750555136) 4602678819172646912
def placeF (r g b : UInt64) : Int := Flt.toInt Float64.truncOf (plcF r g b)
def turnF (r g b : UInt64) (ar : Int) : UInt64 := Float64.sub (Float64.div (Float64.ofInt ar) 4631952216750555136) (hueF r g b)
def mirR (r g b : UInt64) (ar : Int) : UInt64 := vF (m1F (litF r g b) (satF r g b)) (m2F (litF r g b) (satF r g b)) (Float64.add (turnF r g b ar) 4599676419421066581)
def mirG (r g b : UInt64) (ar : Int) : UInt64 := vF (m1F (litF r g b) (satF r g b)) (m2F (litF r g b) (satF r g b)) (turnF r g b ar)
def mirB (r g b : UInt64) (ar : Int) : UInt64 := vF (m1F (litF r g b) (satF r g b)) (m2F (litF r g b) (satF r g b)) (Float64.sub (turnF r g b ar) 4599676419421066581)
structure ColOk (r g b : UInt64) : Prop where
  rgb : RgbOk (mxF (mxF r g) b) (mnF (mnF r g) b)
  sat : (Float64.cmp (satF r g b) 0 == some Ordering.eq) = false
  nan : Float64.isNaN (plcF r g b) = false
  inf : Float64.isInf (plcF r g b) = false
theorem cl_retI {h₀ h' : Heap} {L : Addr} {m : Str → Option Value} {news news₁ : List (Addr × Obj)} {s : Shared} {Q : Value → Shared → Prop} {t : Tok} {tk' : Nat} {x y : Int}
    (hret : ∀ (t : Tok) (h' : Heap) (tk' : Nat), Fr h₀ L h' m → News h₀ L h' news → Q (.int x t) { s with heap := h', toks := tk' }) (e : y = x) (F : Fr h₀ L h' m) (N : News h₀ L h' news₁) (hs : ∀ p ∈ news, p ∈ news₁) : Q (.int y t) { s with heap := h', toks := tk' } := by
  subst e
  exact hret t h' tk' F (fun p hp => N p (hs p hp))
set_option maxRecDepth 100000 in
set_option maxHeartbeats 8000000 in
theorem place_claim (w : World) (r g b : UInt64) (t1 t2 t3 : Tok) (c : Addr) (news : List (Addr × Obj)) (hc : (c, tup3 (.float r t1) (.float g t2) (.float b t3)) ∈ news) (ok : ColOk r g b) :
   Cl w 133 news [.ref c] 2 16 (fun K => ∀ t, K news (.int (placeF r g b) t)) := by
  dsimp only [Cl]
  k_fill
  intros; rename_i hret
  (k_with "call ref" => ((with_reducible show wpAny _ _ (PySem.call (Value.ref 112) _ _) _ _ _); refine' (rgb_claim _ _ _ _ _ _ _ _ ok.rgb).use ?k1 ?k2 ?k3 ?k4 ?k5 ?kK ?kd ?ku ?_; (case k1 => k_asm); (case k2 => k_asm); (case k3 => k_asm); (case k4 => k_asm); (case k5 => k_asm); (case kK => first | exact rfl | assumption); (case kd => ktr_room); (case ku => ktr_units); intro a9 u1 u2 u3 l9 h9 tk9 F9 N9; (try dsimp only); (try k_fold)))
  refine wpAny_call ?_
  k_dflt cell_enter
  k_steps
  · exact absurd (ok.nan.symm.trans (by assumption)) Bool.false_ne_true
  · exact absurd (ok.inf.symm.trans (by assumption)) Bool.false_ne_true
  refine cl_retI hret rfl (by k_asm) (by k_asm) (fun p hp => .tail _ hp)
set_option maxRecDepth 100000 in
set_option maxHeartbeats 8000000 in
theorem mirrored_claim (w : World) (r g b : UInt64) (t1 t2 t3 : Tok) (c : Addr) (ar : Int) (t4 : Tok) (news : List (Addr × Obj)) (hc : (c, tup3 (.float r t1) (.float g t2) (.float b t3)) ∈ news) (ok : ColOk r g b) (hov : ¬ Flt.Over ar) :
   Cl w 140 news [.ref c, .int ar t4] 3 24 (fun K => ∀ a u1 u2 u3, (∀ p ∈ news, p.1 < a) → K ((a, tup3 (.float (mirR r g b ar) u1) (.float (mirG r g b ar) u2) (.float (mirB r g b ar) u3)) :: news) (.ref a)) := by
  dsimp only [Cl]
  k_fill
  intros; rename_i hret
  (k_with "call ref" => ((with_reducible show wpAny _ _ (PySem.call (Value.ref 112) _ _) _ _ _); refine' (rgb_claim _ _ _ _ _ _ _ _ ok.rgb).use ?k1 ?k2 ?k3 ?k4 ?k5 ?kK ?kd ?ku ?_; (case k1 => k_asm); (case k2 => k_asm); (case k3 => k_asm); (case k4 => k_asm); (case k5 => k_asm); (case kK => first | exact rfl | assumption); (case kd => ktr_room); (case ku => ktr_units); intro a9 u1 u2 u3 l9 h9 tk9 F9 N9; (try dsimp only); (try k_fold)))
  (k_with "call ref" => ((with_reducible show wpAny _ _ (PySem.call (Value.ref 119) _ _) _ _ _); refine' (hls_claim _ _ _ _ _ _ _ _ ok.sat).use ?k1 ?k2 ?k3 ?k4 ?k5 ?kK ?kd ?ku ?_; (case k1 => k_asm); (case k2 => k_asm); (case k3 => k_asm); (case k4 => k_asm); (case k5 => k_asm); (case kK => first | exact rfl | assumption); (case kd => ktr_room); (case ku => ktr_units); intro a9 u1 u2 u3 l9 h9 tk9 F9 N9; (try dsimp only); (try k_fold)))
  refine wpAny_call ?_
  k_dflt cell_enter
  k_steps
  rename_i kF kN _ _
  refine hret a9 u1 u2 u3 ?_ _ _ kF (cb_drop kN ?_)
  · exact fun p hp => l9 p (.tail _ hp)
  · intro p hp
    rcases List.mem_cons.mp hp with rfl | hp
    · exact .head _
    · exact .tail _ (.tail _ hp)
end Mine
end
section
open PySem PySem.W PyProof.Rows
namespace Mine
theorem canon_list_ga : (Manifest.canonical "list.__getattribute__" != "object.__getattribute__") = false := by decide +kernel
section
variable {prog : Program} {w : World} {A : Around} {E : Value → Shared → Prop} {s : Shared} {K : Frag} {x C : Addr} {ox : Obj} {od : Option Obj} {name : Str}

theorem acc_method {f tf : Value} {pl : Sem Bool} {Q : Value × List Value → Shared → Prop} (X : K.In s.heap) (I : InstAt s.heap x ox C od) (hga : findIn K (.ref C) "__getattribute__" = some (some (.builtin "list.__getattribute__"))) (hk : findIn K (.ref C) "__getattr__" = some none)
    (hf : findIn K (.ref C) name = some (some f)) (ht : typeIn K f = some tf) (htf : (tf != .type "function" && tf != .type "method_descriptor" && tf != .type "wrapper_descriptor") = false) (hs : shadowIn od name = some false) (h : Q (f, [.ref x]) s) :
    wpAny (model prog w) A (getMethod (.ref x) name pl) Q E s := by
  have hcan := canon_list_ga
  unfold getMethod specialOf
  refine wpAny_bind (wpAny_bind (I.type.here ((looks_findIn X hga).here ?_)))
  dsimp only
  rw [hcan, if_neg (by decide)]
  refine wpAny_bind (wpAny_bind (I.type.here ((looks_findIn X hk).here ?_)))
  refine wpAny_bind (wpAny_bind (I.type.here ((looks_findIn X hf).here (wpAny_bind ((looks_typeIn X ht).here ?_)))))
  rw [if_neg (by rw [htf]; decide)]
  refine wpAny_bind (wpAny_loadPart I.at_ ?_)
  have hd := I.dict
  cases e : ox.dict with
  | none => exact wpAny_bind (wpAny_rule (wpAny_pure h))
  | some dx =>
    cases od with
    | none => rw [e] at hd; exact hd.elim
    | some o =>
      rw [e] at hd
      obtain ⟨r, a, b⟩ := Option.map_eq_some_iff.mp hs
      refine wpAny_bind (wpAny_bind (wpAny_loadPart hd ?_))
      rw [nsLook_of a]
      cases r with
      | none => exact wpAny_pure (wpAny_bind (wpAny_rule (wpAny_pure h)))
      | some _ => cases b

theorem acc_isList {M : Model} {h : Heap} (X : K.In h) (I : InstAt h x ox C od) (hsub : subIn K (.ref C) (.type "list") = some true) : Looks M h (isInstance (.ref x) (.type "list")) true :=
  I.type.andThen (looks_subIn X hsub)

theorem check_sub {M : Model} {self : Value} {rest : List Value} {id owner n : String} {Q : Unit → Shared → Prop} (hsplit : splitId id = some (owner, n))
    (hkind : (Manifest.find? owner).bind (·.attrs.lookup n) = some .slot ∨ (Manifest.find? owner).bind (·.attrs.lookup n) = some .method)
    (L : Looks M s.heap (isInstance self (.type owner)) true) (ha : argsOk id ⟨self :: rest, []⟩) (hQ : Q () s) : wpAny M A (checkBuiltinCall id ⟨self :: rest, []⟩) Q E s := by
  have hk : builtinKind id = (Manifest.find? owner).bind (·.attrs.lookup n) := by simp only [builtinKind, hsplit]
  rcases hkind with h | h <;>
    · simp only [checkBuiltinCall, hk, h, hsplit]
      refine wpAny_bind (L.here ?_)
      simp only [Bool.not_true, Bool.false_eq_true, if_false]
      cases hsig : Manifest.signature? id with
      | none => exact wpAny_pure hQ
      | some sig =>
        simp only [argsOk, hsig] at ha
        have h2 : Bind.checkArgs id sig ⟨self :: rest, []⟩ = pure () := ha
        show wpAny M A (Bind.checkArgs id sig ⟨self :: rest, []⟩) Q E s
        rw [h2]; exact wpAny_pure hQ

theorem split_append : splitId "list.append" = some ("list", "append") := by decide +kernel
theorem kind_append : (Manifest.find? "list").bind (·.attrs.lookup "append") = some .method := by decide +kernel
theorem split_pop : splitId "list.pop" = some ("list", "pop") := by decide +kernel
theorem kind_pop : (Manifest.find? "list").bind (·.attrs.lookup "pop") = some .method := by decide +kernel
theorem split_getitem : splitId "list.__getitem__" = some ("list", "__getitem__") := by decide +kernel
theorem kind_getitem : (Manifest.find? "list").bind (·.attrs.lookup "__getitem__") = some .method := by decide +kernel
theorem split_setitem : splitId "list.__setitem__" = some ("list", "__setitem__") := by decide +kernel
theorem kind_setitem : (Manifest.find? "list").bind (·.attrs.lookup "__setitem__") = some .slot := by decide +kernel
theorem split_len : splitId "list.__len__" = some ("list", "__len__") := by decide +kernel
theorem kind_len : (Manifest.find? "list").bind (·.attrs.lookup "__len__") = some .slot := by decide +kernel

theorem acc_append {v : Value} {xs : Array Value} {n : Nat} {Q : Value → Shared → Prop} (X : K.In s.heap) (I : InstAt s.heap x ox C od) (hsub : subIn K (.ref C) (.type "list") = some true) (hd : ox.data = .seq xs n)
    (hz : xs.size ≤ 1000) (h : Q .none { s with heap := s.heap.update x (Obj.mapSeq (·.push v)) }) : wpAny (model prog w) A (call (.builtin "list.append") [.ref x, v]) Q E s := by
  refine wpAny_call (codeAny_call_builtin PySem.F.slot_list_append.plain PySem.F.entry_list_append (check_sub split_append (.inr kind_append) (acc_isList X I hsub) (PySem.F.args_list_append_2 _ _) ?_))
  unfold Builtin.«list.append» selfAndOne noKeywords Builtin.List.listUpdate
  simp only [List.isEmpty_nil, if_true, pure_bind]
  refine wpAny_bind (wpAny_updateSeq (f := fun a => a.push v) I.at_ hd (wpAny_pure h) (by rw [sizeLine_eq]; omega) (by show (xs.push v).size ≤ _; rw [Array.size_push, sizeLine_eq]; omega))
end
end Mine
end
section
open PySem PySem.W PyProof.Rows
namespace Mine
abbrev bnd (T id : String) (x : Addr) : Obj := { cls := .type T, data := .fields #[.builtin id, .ref x] }
theorem slot_wd : Slot "wrapper_descriptor" "__get__" "wrapper_descriptor.__get__" :=
  .of (owner := "wrapper_descriptor") (n := "__get__") (by rw [typeLookup_type, builtinLookup_eq_fast]; kernel_rfl) (by decide +kernel) (by decide +kernel) (by decide +kernel)
    (by first | exact .inl (by decide +kernel) | exact .inr (by decide +kernel)) (by rw [isSubtype_type]; kernel_rfl)
theorem entry_wd : entryFor table "wrapper_descriptor.__get__" = some Builtin.«wrapper_descriptor.__get__» := entryFor_of_tree (by kernel_rfl)
theorem args_wd (a b c : Value) : argsOk "wrapper_descriptor.__get__" ⟨[a, b, c], []⟩ := by unfold argsOk; kernel_rfl
theorem type_wd : typeOf (.builtin "list.__len__") = pure (.type "wrapper_descriptor") := by show builtinType _ = _; rw [builtinType_eq_fast]; kernel_rfl
theorem slot_md : Slot "method_descriptor" "__get__" "method_descriptor.__get__" :=
  .of (owner := "method_descriptor") (n := "__get__") (by rw [typeLookup_type, builtinLookup_eq_fast]; kernel_rfl) (by decide +kernel) (by decide +kernel) (by decide +kernel)
    (by first | exact .inl (by decide +kernel) | exact .inr (by decide +kernel)) (by rw [isSubtype_type]; kernel_rfl)
theorem entry_md : entryFor table "method_descriptor.__get__" = some Builtin.«method_descriptor.__get__» := entryFor_of_tree (by kernel_rfl)
theorem args_md (a b c : Value) : argsOk "method_descriptor.__get__" ⟨[a, b, c], []⟩ := by unfold argsOk; kernel_rfl
theorem type_md : typeOf (.builtin "list.pop") = pure (.type "method_descriptor") := by show builtinType _ = _; rw [builtinType_eq_fast]; kernel_rfl
theorem owner_len : (kfb_private% "ownerAndName") "list.__len__" = ("list", "__len__") := by first | decide +kernel | kernel_rfl
theorem owner_pop : (kfb_private% "ownerAndName") "list.pop" = ("list", "pop") := by first | decide +kernel | kernel_rfl
theorem told_pop : Manifest.toldItsClass.contains "list.pop" = false := by decide +kernel
section
variable {prog : Program} {w : World} {M : Model} {A : Around} {E : Value → Shared → Prop} {s : Shared} {K : Frag} {x C : Addr}
theorem run_wd {P : Fin → Shared → Prop} (L : Looks M s.heap (isInstance (.ref x) (.type "list")) true) (h : P (.done (.ret (.ref s.heap.objs.size))) { s with heap := s.heap.push (bnd "method-wrapper" "list.__len__" x) }) :
    wpAny M A (Builtin.«wrapper_descriptor.__get__» ⟨[.builtin "list.__len__", .ref x, .ref C], []⟩) P E s := by
  unfold Builtin.«wrapper_descriptor.__get__»
  refine wpAny_bind (wpAny_of_eq (a := (.builtin "list.__len__", some (.ref x), some (.ref C))) (by first | rfl | kernel_rfl) ?_)
  show wpAny M A ((kfb_private% "checkInstance") (.builtin "list.__len__") (.ref x) >>= fun _ => (newFields "method-wrapper" [.builtin "list.__len__", .ref x] >>= ret)) P E s
  refine wpAny_bind ?_
  show wpAny M A (pure ((PySem.Str.ofString ((kfb_private% "ownerAndName") "list.__len__").2), Value.type ((kfb_private% "ownerAndName") "list.__len__").1) >>= fun p => (isInstance (.ref x) p.2 >>= _)) _ E s
  rw [owner_len]
  refine wpAny_bind (wpAny_pure (wpAny_bind (L.here ?_)))
  refine wpAny_pure ?_
  exact wpAny_bind (wpAny_newObj_type (wpAny_pure h))
theorem run_md {P : Fin → Shared → Prop} (L : Looks M s.heap (isInstance (.ref x) (.type "list")) true) (h : P (.done (.ret (.ref s.heap.objs.size))) { s with heap := s.heap.push (bnd "builtin_function_or_method" "list.pop" x) }) :
    wpAny M A (Builtin.«method_descriptor.__get__» ⟨[.builtin "list.pop", .ref x, .ref C], []⟩) P E s := by
  unfold Builtin.«method_descriptor.__get__»
  refine wpAny_bind (wpAny_of_eq (a := (.builtin "list.pop", some (.ref x), some (.ref C))) (by first | rfl | kernel_rfl) ?_)
  simp only [told_pop, Bool.false_eq_true, if_false, pure_bind]
  show wpAny M A ((kfb_private% "checkInstance") (.builtin "list.pop") (.ref x) >>= fun _ => (newFields "builtin_function_or_method" [.builtin "list.pop", .ref x] >>= ret)) P E s
  refine wpAny_bind ?_
  show wpAny M A (pure ((PySem.Str.ofString ((kfb_private% "ownerAndName") "list.pop").2), Value.type ((kfb_private% "ownerAndName") "list.pop").1) >>= fun p => (isInstance (.ref x) p.2 >>= _)) _ E s
  rw [owner_pop]
  refine wpAny_bind (wpAny_pure (wpAny_bind (L.here ?_)))
  refine wpAny_pure ?_
  exact wpAny_bind (wpAny_newObj_type (wpAny_pure h))
end
section
variable {prog : Program} {w : World} {A : Around} {E : Value → Shared → Prop} {h : Heap} {g : Array GenState} {d : Drawn} {t : Nat} {os : OsState}
theorem super_ga_b {so D x C : Addr} {l₀ l : List Value} {K : Frag} {name : Str} {tk : Tok} {id T gid BT : String} {Bi : Builtin} {Q : Fin → Shared → Prop}
    (hso : h.get? so = some { cls := .type "super", dict := none, data := .fields #[.ref D, .ref x, .ref C], slots := #[] }) (hno : Looks (model prog w) h (opaqueClassAbove (.ref C)) none)
    (hC : Looks (model prog w) h (mroOf (.ref C)) l₀) (hl : (l₀.dropWhile (· != .ref D)).drop 1 = l) (X : K.In h)
    (hf : alongIn K name l = some (some (.builtin id))) (hty : typeOf (.builtin id) = pure (.type T)) (slot : Slot T "__get__" gid) (entry : entryFor table gid = some Bi) (args : argsOk gid ⟨[.builtin id, .ref x, .ref C], []⟩) (hxC : x ≠ C) (hn : (name == ("__class__" : Str)) = false)
    (hrun : ∀ (A' : Around) (E' : Value → Shared → Prop) (P : Fin → Shared → Prop), P (.done (.ret (.ref h.objs.size))) ⟨h.push (bnd BT id x), g, d, t, os⟩ → wpAny (model prog w) A' (Bi ⟨[.builtin id, .ref x, .ref C], []⟩) P E' ⟨h, g, d, t, os⟩)
    (hq : Q (.done (.ret (.ref h.objs.size))) ⟨h.push (bnd BT id x), g, d, t, os⟩) :
    wpAny (model prog w) A (Builtin.«super.__getattribute__» ⟨[.ref so, .str name tk], []⟩) Q E ⟨h, g, d, t, os⟩ := by
  have hlk := slot.lookup
  have hne : (Value.ref x == Value.ref C) = false := by simp [hxC]
  have hTf : (⟨h, g, d, t, os⟩ : Shared).TypeIs (.builtin id) T := hty
  have hdt : ({ cls := .type "super", dict := none, data := .fields #[.ref D, .ref x, .ref C], slots := #[] } : Obj).data = .fields #[.ref D, .ref x, .ref C] := rfl
  have f0 : (#[.ref D, .ref x, .ref C] : Array Value)[0]? = some (.ref D) := rfl
  have f1 : (#[.ref D, .ref x, .ref C] : Array Value)[1]? = some (.ref x) := rfl
  have f2 : (#[.ref D, .ref x, .ref C] : Array Value)[2]? = some (.ref C) := rfl
  unfold Builtin.«super.__getattribute__»
  repeat (first
    | (with_reducible refine wpAny_field hso hdt f0 ?_) | (with_reducible refine wpAny_field hso hdt f1 ?_) | (with_reducible refine wpAny_field hso hdt f2 ?_)
    | (with_reducible refine ks_wpAny_notOpaque hno ?_)
    | (with_reducible refine Looks.at hC ?_; rw [hl])
    | (refine ks_forIn_along X (fun _ _ => rfl) rfl ?_ hf)
    | (with_reducible refine wpAny_typeOf hTf ?_)
    | (with_reducible refine wpAny_call_entry slot hTf entry (hrun _ _ _ ?_) args)
    | (with_reducible refine ⟨_, rfl, ?_⟩)
    | (simp only [hn, hne, Bool.or_false, Bool.false_eq_true, if_false])
    | wp_step
    | dsimp only)
  all_goals exact hq
theorem getMethod_super_b {so D x C : Addr} {l₀ l : List Value} {K : Frag} {name : Str} {id T gid BT : String} {Bi : Builtin} {pl : Sem Bool} {Q : Value × List Value → Shared → Prop}
    (hso : h.get? so = some { cls := .type "super", dict := none, data := .fields #[.ref D, .ref x, .ref C], slots := #[] }) (hno : Looks (model prog w) h (opaqueClassAbove (.ref C)) none)
    (hC : Looks (model prog w) h (mroOf (.ref C)) l₀) (hl : (l₀.dropWhile (· != .ref D)).drop 1 = l) (X : K.In h)
    (hf : alongIn K name l = some (some (.builtin id))) (hty : typeOf (.builtin id) = pure (.type T)) (slot : Slot T "__get__" gid) (entry : entryFor table gid = some Bi) (args : argsOk gid ⟨[.builtin id, .ref x, .ref C], []⟩) (hxC : x ≠ C) (hn : (name == ("__class__" : Str)) = false)
    (hrun : ∀ (A' : Around) (E' : Value → Shared → Prop) (P : Fin → Shared → Prop), P (.done (.ret (.ref h.objs.size))) ⟨h.push (bnd BT id x), g, d, t + 1, os⟩ → wpAny (model prog w) A' (Bi ⟨[.builtin id, .ref x, .ref C], []⟩) P E' ⟨h, g, d, t + 1, os⟩)
    (hq : Q (.ref h.objs.size, []) ⟨h.push (bnd BT id x), g, d, t + 1, os⟩) :
    wpAny (model prog w) A (getMethod (.ref so) name pl) Q E ⟨h, g, d, t, os⟩ := by
  have hlk := PySem.F.ks_slot_super_ga.lookup
  have hcan := PySem.F.ks_canon_super_ga
  have hT : ∀ t', (⟨h, g, d, t', os⟩ : Shared).TypeIs (.ref so) "super" := fun _ => ⟨_, hso, rfl⟩
  unfold getMethod
  refine wpAny_bind (wpAny_specialOf (hT _) hlk ?_)
  show wpAny _ _ (if (Manifest.canonical "super.__getattribute__" != "object.__getattribute__") = true then _ else _) _ _ _
  rw [if_pos hcan]
  unfold getAttr getAttrBy
  refine wpAny_bind (wpAny_bind (wpAny_mkText (wpAny_holding (wpAny_bind (wpAny_typeOf (hT _) (wpAny_bind (wpAny_of_eq hlk ?_)))))))
  show wpAny _ _ (getAttrByItsOwn (.ref so) (.str name t) (.type "super") (.builtin "super.__getattribute__") true false) _ _ _
  unfold getAttrByItsOwn hookBefore callGetattribute boundAndCalled
  refine wpAny_bind (wpAny_of_eq (show (if onTheHeap (.type "super") then typeLookup (.type "super") "__getattr__" else pure none) = pure none from rfl) ?_)
  refine wpAny_bind (wpAny_attempt (wpAny_holding ?_))
  show wpAny _ _ (bindSpecial (.builtin "super.__getattribute__") (.ref so) >>= _) _ _ _
  refine wpAny_bind (wpAny_of_eq (PySem.F.ks_slot_super_ga.bind _) ?_)
  refine wpAny_mono (Q := fun v s' => v = .ref h.objs.size ∧ s' = ⟨h.push (bnd BT id x), g, d, t + 1, os⟩) (E := fun _ _ => False)
    (wpAny_call_entry PySem.F.ks_slot_super_ga (hT _) PySem.F.ks_entry_super_ga (super_ga_b hso hno hC hl X hf hty slot entry args hxC hn hrun ⟨_, rfl, rfl, rfl⟩) (PySem.F.ks_gaArgs_super _ _)) (fun v s' hv => ?_) fun _ _ z => z.elim
  obtain ⟨rfl, rfl⟩ := hv
  exact wpAny_pure (wpAny_pure hq)
end
section
variable {prog : Program} {w : World} {A : Around} {E : Value → Shared → Prop} {s : Shared} {h₀ : Heap} {L : Addr} {m : Str → Option Value} {news : List (Addr × Obj)} {K : Frag} {x C D so : Addr} {ox : Obj} {odx : Option Obj}
theorem super_len {pl : Sem Bool} {Q : Value × List Value → Shared → Prop} (F : Fr h₀ L s.heap m) (X₀ : K.In h₀) (N : News h₀ L s.heap news) (hso : (so, ks_superObj D x C) ∈ news) (I : InstAt s.heap x ox C odx) (ho : nsIn K cStatics "thirdparty.any" = some none)
    (hm : ks_superIn K C D "__len__" = some (some (.builtin "list.__len__"))) (hsub : subIn K (.ref C) (.type "list") = some true)
    (h : ∀ q h', Fr h₀ L h' m → News h₀ L h' ((q, bnd "method-wrapper" "list.__len__" x) :: news) → (∀ p ∈ news, p.1 < q) → Q (.ref q, []) { s with heap := h', toks := s.toks + 1 }) : wpAny (model prog w) A (getMethod (.ref so) "__len__" pl) Q E s := by
  have X : K.In s.heap := X₀.keeps F.keep
  have LI := acc_isList (M := model prog w) X I hsub
  obtain ⟨hh, g, d, t, os⟩ := s
  cases hc : clsIn K C with
  | none => unfold ks_superIn at hm; rw [hc] at hm; cases hm
  | some cd =>
    unfold ks_superIn at hm
    rw [hc] at hm
    refine getMethod_super_b (BT := "method-wrapper") (N _ hso).1 (looks_opaque X ho) (l₀ := cd.mro) ?_ rfl X hm type_wd slot_wd entry_wd (args_wd _ _ _) (ks_ne X I hc) (by decide) (fun A' E' P hP => run_wd LI hP) ?_
    · exact fun A Q E s k q => wpAny_bind ((looks_clsIn X hc) A _ E s k (wpAny_pure q))
    · obtain ⟨F', N', l'⟩ := ks_newsPush (s := ⟨hh, g, d, t, os⟩) (o := bnd "method-wrapper" "list.__len__" x) F N rfl (Heap.get?_push_at rfl rfl) (fun b o e => Heap.get?_push_of_some _ e)
      exact h _ _ F' N' l'
theorem super_pop {pl : Sem Bool} {Q : Value × List Value → Shared → Prop} (F : Fr h₀ L s.heap m) (X₀ : K.In h₀) (N : News h₀ L s.heap news) (hso : (so, ks_superObj D x C) ∈ news) (I : InstAt s.heap x ox C odx) (ho : nsIn K cStatics "thirdparty.any" = some none)
    (hm : ks_superIn K C D "pop" = some (some (.builtin "list.pop"))) (hsub : subIn K (.ref C) (.type "list") = some true)
    (h : ∀ q h', Fr h₀ L h' m → News h₀ L h' ((q, bnd "builtin_function_or_method" "list.pop" x) :: news) → (∀ p ∈ news, p.1 < q) → Q (.ref q, []) { s with heap := h', toks := s.toks + 1 }) : wpAny (model prog w) A (getMethod (.ref so) "pop" pl) Q E s := by
  have X : K.In s.heap := X₀.keeps F.keep
  have LI := acc_isList (M := model prog w) X I hsub
  obtain ⟨hh, g, d, t, os⟩ := s
  cases hc : clsIn K C with
  | none => unfold ks_superIn at hm; rw [hc] at hm; cases hm
  | some cd =>
    unfold ks_superIn at hm
    rw [hc] at hm
    refine getMethod_super_b (BT := "builtin_function_or_method") (N _ hso).1 (looks_opaque X ho) (l₀ := cd.mro) ?_ rfl X hm type_md slot_md entry_md (args_md _ _ _) (ks_ne X I hc) (by decide) (fun A' E' P hP => run_md LI hP) ?_
    · exact fun A Q E s k q => wpAny_bind ((looks_clsIn X hc) A _ E s k (wpAny_pure q))
    · obtain ⟨F', N', l'⟩ := ks_newsPush (s := ⟨hh, g, d, t, os⟩) (o := bnd "builtin_function_or_method" "list.pop" x) F N rfl (Heap.get?_push_at rfl rfl) (fun b o e => Heap.get?_push_of_some _ e)
      exact h _ _ F' N' l'
end
end Mine
end
section
open PySem PySem.W PyProof.Rows
namespace Mine
theorem bnd_cls {T : String} (hT : T = "method-wrapper" ∨ T = "builtin_function_or_method") : (Value.type T != Value.type "method") = true ∧ (Value.type T == Value.type "builtin_function_or_method" || Value.type T == Value.type "method-wrapper") = true ∧ (Value.type T == Value.type "method" || Value.type T == Value.type "builtin_function_or_method" || Value.type T == Value.type "method-wrapper") = true := by
  rcases hT with rfl | rfl <;> decide
section
variable {prog : Program} {w : World} {M : Model} {A : Around} {E : Value → Shared → Prop} {s : Shared} {K : Frag} {x C u : Addr} {ox : Obj} {od : Option Obj} {T id : String}
theorem callWith_bnd0 {pos : Pos} {env : Env} {first : List Value} {Q : Value → Shared → Prop} (hT : T = "method-wrapper" ∨ T = "builtin_function_or_method") (ho : s.heap.get? u = some (bnd T id x))
    (h : wpAny M A (call (.ref u) (first ++ [])) Q E s) : wpAny M A (callWith pos (.ref u) first (backTo pos (starEach [] env)) []) Q E s := by
  unfold callWith
  refine wpAny_bind (wpAny_holding (wpAny_mono (evalArgs_nil3 (Q := fun a s₁ => a = ⟨[], []⟩ ∧ s₁ = s) ⟨rfl, rfl⟩) (fun a s₁ h₁ => wpAny_bind (wpAny_standAt ?_)) fun _ _ z => z))
  obtain ⟨rfl, rfl⟩ := h₁
  refine wpAny_bind (m := keeperOf (.ref u)) ?_
  unfold keeperOf
  refine wpAny_bind (wpAny_load ho ?_)
  simp only [(bnd_cls hT).1, (bnd_cls hT).2.1, if_true]
  refine wpAny_pure ?_
  exact wpAny_bind (wpAny_mono h (fun r s₂ hr => wpAny_bind (wpAny_holding (wpAny_point (wpAny_pure hr)))) fun _ _ z => z)
theorem call_bnd {rest : List Value} {Bi : Builtin} {Q : Value → Shared → Prop} (hT : T = "method-wrapper" ∨ T = "builtin_function_or_method") (ho : s.heap.get? u = some (bnd T id x)) (hp : plainId id = true) (hb : entryFor table id = some Bi)
    (hc : ∀ (Q' : Unit → Shared → Prop) (E' : Value → Shared → Prop), Q' () s → wpAny (model prog w) A.in1 (checkBoundCall id ⟨.ref x :: rest, []⟩) Q' E' s)
    (h : wpAny (model prog w) A.in1 (Bi ⟨.ref x :: rest, []⟩) (fun fin s' => match fin with
      | .done f => (match (Except.ok f : Result) with | .ok (.ret v) => Q v s' | .ok _ => False | .error e => E e s')
      | .again c' => c'.quiet = true ∧ codeAny (model prog w) A c' (fun r s' => match r with | .ok (.ret v) => Q v s' | .ok _ => False | .error e => E e s') s') E s) :
    wpAny (model prog w) A (call (.ref u) rest) Q E s := by
  refine wpAny_call (codeAny_of_tree ?_)
  show wpAny _ A.in1 (callAny (.ref u) ⟨rest, []⟩) _ _ _
  unfold callAny
  refine wpAny_bind (wpAny_load ho ?_)
  simp only [(bnd_cls hT).2.2, (bnd_cls hT).1, if_true]
  refine wpAny_bind (hc _ _ (wpAny_pure ⟨plainId_quiet hp _, codeAny_builtin hb ?_⟩))
  rw [Around.under_plainId hp _]
  exact h
theorem bound_len {Q' : Unit → Shared → Prop} {E' : Value → Shared → Prop} (h : Q' () s) : wpAny M A (checkBoundCall "list.__len__" ⟨[.ref x], []⟩) Q' E' s := by
  have ha := PySem.F.args_list_len_1 (.ref x)
  have hk : builtinKind "list.__len__" = some .slot := by decide +kernel
  unfold checkBoundCall
  unfold argsOk at ha
  cases hs : Manifest.signature? "list.__len__" with
  | none => exact wpAny_pure h
  | some sig =>
    rw [hs] at ha
    simp only [hk]
    have h2 : Bind.checkArgs "list.__len__" sig ⟨[.ref x], []⟩ = pure () := ha
    show wpAny M A (if (Manifest.AttrKind.slot != Manifest.AttrKind.method && Manifest.AttrKind.slot != Manifest.AttrKind.classMethod) = true then Bind.checkArgs "list.__len__" sig ⟨[.ref x], []⟩ else _) _ _ _
    rw [if_pos (by decide), h2]
    exact wpAny_pure h
theorem call_len {n : Nat} {xs : Array Value} {Q : Value → Shared → Prop} (ho : s.heap.get? u = some (bnd "method-wrapper" "list.__len__" x)) (hx : s.heap.get? x = some ox) (hd : ox.data = .seq xs n)
    (h : Q (.int xs.size s.toks) { s with toks := s.toks + 1 }) : wpAny (model prog w) A (call (.ref u) []) Q E s := by
  refine call_bnd (.inl rfl) ho PySem.F.slot_list_len.plain PySem.F.entry_list_len (fun Q' E' h' => bound_len h') ?_
  unfold Builtin.«list.__len__»
  refine wpAny_bind (wpAny_of_eq (a := (.ref x, [])) (by first | rfl | kernel_rfl) ?_)
  show wpAny _ _ (seqSize x >>= fun k => retInt k) _ _ _
  unfold seqSize
  refine wpAny_bind (wpAny_bind (wpAny_loadPart hx ?_))
  rw [hd]
  exact wpAny_pure (wpAny_bind (wpAny_mkInt (wpAny_pure h)))
theorem erase_last (vs : List Value) (v : Value) : (vs ++ [v]).toArray.eraseIdxIfInBounds vs.length = vs.toArray := by
  unfold Array.eraseIdxIfInBounds
  rw [dif_pos (by simp)]
  simp [List.eraseIdx_append_of_length_le]
theorem args_pop_full (a : Value) : (match Manifest.signature? "list.pop" with | some sig => Bind.checkArgs "list.pop" { sig with full := s!"{(PySem.Str.ofString "_Accumulator").toString}.{Bind.lastOf "list.pop"}" } ⟨[a], []⟩ | none => pure ()) = pure () := by kernel_rfl
theorem bound_pop {cd : ClassData} {Q' : Unit → Shared → Prop} {E' : Value → Shared → Prop} (X : K.In s.heap) (I : InstAt s.heap x ox C od) (hmod : subIn K (.ref C) (.type "module") = some false) (hc : clsIn K C = some cd) (hq : cd.qualname = PySem.Str.ofString "_Accumulator") (hty : typeIn K (.ref C) = some (.type "type"))
    (h : Q' () s) : wpAny M A (checkBoundCall "list.pop" ⟨[.ref x], []⟩) Q' E' s := by
  have ha := args_pop_full (.ref x)
  have hk : builtinKind "list.pop" = some .method := by decide +kernel
  have hv : Manifest.varargsMethods.contains "list.pop" = false := by decide +kernel
  unfold checkBoundCall
  cases hs : Manifest.signature? "list.pop" with
  | none => exact wpAny_pure h
  | some sig =>
    rw [hs] at ha
    simp only [hk]
    show wpAny M A (if (Manifest.AttrKind.method != Manifest.AttrKind.method && Manifest.AttrKind.method != Manifest.AttrKind.classMethod) = true then _ else _) _ _ _
    rw [if_neg (by decide)]
    have LM : Looks M s.heap (isInstance (.ref x) (.type "module")) false := I.type.andThen (looks_subIn X hmod)
    refine wpAny_bind (LM.here ?_)
    simp only [hv, Bool.or_self, Bool.false_eq_true, if_false]
    obtain ⟨hh, g, d, t, os⟩ := s
    refine wpAny_bind (ks_wpAny_isType_inst I.at_ (fun c e => ?_) ?_)
    · have := I.no
      unfold notCls at this
      rw [e] at this
      exact Bool.noConfusion this
    · simp only [Bool.false_eq_true, if_false]
      refine wpAny_bind (I.type.here ?_)
      show wpAny M A (classData C >>= _) _ _ _
      refine wpAny_bind ((looks_clsIn X hc).here ?_)
      refine wpAny_bind ((looks_typeIn X hty).here ?_)
      rw [if_pos (by decide), hq]
      have h2 : Bind.checkArgs "list.pop" { sig with full := s!"{(PySem.Str.ofString "_Accumulator").toString}.{Bind.lastOf "list.pop"}" } ⟨[.ref x], []⟩ = pure () := ha
      rw [h2]
      exact wpAny_pure h
theorem call_pop {cd : ClassData} {n : Nat} {vs : List Value} {v : Value} {Q : Value → Shared → Prop} (X : K.In s.heap) (I : InstAt s.heap x ox C od) (hmod : subIn K (.ref C) (.type "module") = some false) (hc : clsIn K C = some cd) (hq : cd.qualname = PySem.Str.ofString "_Accumulator") (hty : typeIn K (.ref C) = some (.type "type"))
    (ho : s.heap.get? u = some (bnd "builtin_function_or_method" "list.pop" x)) (hd : ox.data = .seq (vs ++ [v]).toArray n) (hz : vs.length ≤ 1000)
    (h : Q v { s with heap := s.heap.update x (Obj.mapSeq fun a => a.eraseIdxIfInBounds vs.length) }) : wpAny (model prog w) A (call (.ref u) []) Q E s := by
  refine call_bnd (.inr rfl) ho PySem.F.slot_list_pop.plain PySem.F.entry_list_pop (fun Q' E' h' => bound_pop X I hmod hc hq hty h') ?_
  unfold Builtin.«list.pop»
  refine wpAny_bind (wpAny_of_eq (a := (.ref x, [])) (by first | rfl | kernel_rfl) ?_)
  refine wpAny_bind (wpAny_pure ?_)
  have hfit : Builtin.List.listFitsIndex (-1) = true := by decide
  simp only [hfit, Bool.not_true, Bool.false_eq_true, if_false]
  unfold Builtin.List.listItems
  refine wpAny_bind (wpAny_bind (wpAny_seqItems I.at_ hd (wpAny_pure ?_)))
  have he : (vs ++ [v]).toArray.isEmpty = false := by simp
  simp only [he, Bool.false_eq_true, if_false]
  have hi : seqIndex? (-1) (vs ++ [v]).toArray.size = some vs.length := by
    simp [seqIndex?]; omega
  have hg : (vs ++ [v]).toArray[vs.length]? = some v := by simp
  simp only [hi, Option.bind_some, hg, Option.map_some]
  unfold Builtin.List.listUpdate
  exact wpAny_bind (wpAny_updateSeq (f := fun a => a.eraseIdxIfInBounds vs.length) I.at_ hd (wpAny_pure h) (by rw [sizeLine_eq]; simp; omega) (by
    show ((vs ++ [v]).toArray.eraseIdxIfInBounds vs.length).size ≤ _
    rw [erase_last, sizeLine_eq]; simp; omega))
end
end Mine
end
section
open PySem PySem.W PyProof.Rows
namespace Mine
theorem cleanAcc84d : True := by
  k_with_none
  w_top off
  trivial
abbrev accObj (dx : Addr) (vs : List Value) (n : Nat) : Obj := { cls := .ref 101, dict := some dx, data := .seq vs.toArray n }
abbrev accDict (w : World) (t t' : Tok) (k : Nat) : Obj := dictOf [⟨PyData.keyHash w.params (PySem.Str.ofString "_initial_size"), .str (PySem.Str.ofString "_initial_size") t, .int 0 t'⟩] k
theorem acc_inst {h₀ h : Heap} {L st dx : Addr} {news : List (Addr × Obj)} {vs : List Value} {n : Nat} {od : Obj} (N : News h₀ L h news) (h1 : (st, accObj dx vs n) ∈ news) (h2 : (dx, od) ∈ news) : InstAt h st (accObj dx vs n) 101 (some od) :=
  ⟨(N _ h1).1, rfl, rfl, (N _ h2).1⟩
local macro_rules | `(tactic| k_mem) => `(tactic| first | ktr_member | exact List.mem_cons_self | (refine List.mem_cons_of_mem _ ?_; k_mem))
local macro_rules | `(tactic| k_inst) => `(tactic| exact acc_inst (by k_asm) (by k_mem) (by k_mem))
set_option maxRecDepth 100000 in
set_option maxHeartbeats 8000000 in
theorem pc_claim (w : World) (st dx : Addr) (vs : List Value) (n k : Nat) (t1 t2 : Tok) (news : List (Addr × Obj)) (hs : (st, accObj dx vs n) ∈ news) (hd : (dx, accDict w t1 t2 k) ∈ news) :
   Cl w 98 news [.ref st] 3 24 (fun K => ∀ t, K news (.int vs.length t)) := by
  dsimp only [Cl]
  k_fill
  intros; rename_i hret
  (k_with "getMethod ref" => (k_dflt (refine' super_len ?k1 ?k2 ?k3 ?k4 ?k5 ?k6 ?k7 ?k8 ?_; (case k1 => k_asm); (case k2 => k_asm); (case k3 => k_asm); (case k4 => k_mem); (case k5 => k_inst); (case k6 => k_is); (case k7 => ks_is); (case k8 => k_is); intro q9 h9 F9 N9 l9)))
  (k_with "callWith ref" => (k_dflt (refine' callWith_bnd0 ?k1 ?k2 ?_; (case k2 => exact News.get (by k_asm) (by k_mem)); (case k1 => first | exact .inl rfl | exact .inr rfl); (try dsimp only [List.nil_append]))))
  (k_with "call ref" => (k_dflt (refine' call_len ?k1 ?k2 ?k3 ?_; (case k1 => exact News.get (by k_asm) (by k_mem)); (case k2 => exact News.get (by k_asm) (by k_mem)); (case k3 => exact rfl); (try dsimp only))))
  refine wpAny_call ?_
  k_dflt (refine' ks_code_super ?k1 ?k2 ?k3 ?k4 ?k5 ?kA ?kF ?kK ?k6 ?k7 ?k8 ?k9 ?kB ?_ ?c1 ?c2 ?c3 ?c4; (case kA => exact rfl); (case kF => exact rfl); (case kK => assumption); (case k1 => k_asm); (case k2 => k_asm); (case k3 => k_asm); (case k4 => k_asm); (case k5 => k_asm); (case k6 => k_is); (case k7 => k_is); (case k8 => ktr_room); (case k9 => exact BindsTo.of_eq rfl); (case kB => exact locs rfl); (case c1 => decide); (case c2 => exact rfl); (case c3 => exact rfl); (case c4 => exact rfl); intro g' L' h' FG' F' N' B' X' T' l1; (try dsimp only); (try k_lift B'))
  k_steps
  refine cl_retI hret ?_ (by k_asm) (by k_asm) (fun p hp => .tail _ (.tail _ hp))
  simp
end Mine
end
section
open PySem PySem.W PyProof.Rows
namespace Mine
theorem cleanAcc84e : True := by
  k_with_none
  w_top off
  trivial
section
variable {prog : Program} {w : World} {A : Around} {E : Value → Shared → Prop} {s : Shared} {h₀ : Heap} {L : Addr} {m : Str → Option Value} {news news' : List (Addr × Obj)} {K : Frag} {x dx u : Addr} {od : Obj}
theorem mapSeq_acc {vs ws : List Value} {n : Nat} {f : Array Value → Array Value} (e : f vs.toArray = ws.toArray) (hl : ws.length ≠ vs.length) : Obj.mapSeq f (accObj dx vs n) = accObj dx ws (n + 1) := by
  show (⟨.ref 101, some dx, .seq (f vs.toArray) (if (f vs.toArray).size == vs.toArray.size then n else n + 1), #[]⟩ : Obj) = _
  rw [e]
  have : (ws.toArray.size == vs.toArray.size) = false := by simp [hl]
  rw [this]; rfl
theorem upd_K {vs ws : List Value} {n : Nat} {f : Array Value → Array Value} (e : f vs.toArray = ws.toArray) (hl : ws.length ≠ vs.length) (F : Fr h₀ L s.heap m) (N : News h₀ L s.heap news) (U : Upd x (accObj dx vs n) (accObj dx ws (n + 1)) news news') :
    Fr h₀ L (s.heap.update x (Obj.mapSeq f)) m ∧ News h₀ L (s.heap.update x (Obj.mapSeq f)) news' := by
  obtain ⟨pre, post, rfl, rfl, a, b⟩ := U.split
  exact news_upd F N a b (mapSeq_acc e hl) rfl
theorem upd_mem {d : Addr} {o o' : Obj} {l l' : List (Addr × Obj)} (U : Upd d o o' l l') : (d, o) ∈ l := by
  obtain ⟨pre, post, rfl, rfl, a, b⟩ := U.split
  simp
theorem acc_pop_K {cd : ClassData} {vs : List Value} {v : Value} {n : Nat} {Q : Value → Shared → Prop} (F : Fr h₀ L s.heap m) (X₀ : K.In h₀) (N : News h₀ L s.heap news) (hu : (u, bnd "builtin_function_or_method" "list.pop" x) ∈ news) (hd : (dx, od) ∈ news)
    (U : Upd x (accObj dx (vs ++ [v]) n) (accObj dx vs (n + 1)) news news') (hmod : subIn K (.ref 101) (.type "module") = some false) (hc : clsIn K 101 = some cd) (hq : cd.qualname = PySem.Str.ofString "_Accumulator") (hty : typeIn K (.ref 101) = some (.type "type"))
    (hz : vs.length ≤ 1000) (h : ∀ h', Fr h₀ L h' m → News h₀ L h' news' → Q v { s with heap := h' }) : wpAny (model prog w) A (call (.ref u) []) Q E s := by
  have hx := upd_mem U
  have hu' := upd_K (f := fun a => a.eraseIdxIfInBounds vs.length) (erase_last vs v) (by simp) F N U
  exact call_pop (X₀.keeps F.keep) (acc_inst N hx hd) hmod hc hq hty (N _ hu).1 rfl hz (h _ hu'.1 hu'.2)
theorem acc_append_K {vs : List Value} {v : Value} {n : Nat} {Q : Value → Shared → Prop} (F : Fr h₀ L s.heap m) (X₀ : K.In h₀) (N : News h₀ L s.heap news) (hd : (dx, od) ∈ news)
    (U : Upd x (accObj dx vs n) (accObj dx (vs ++ [v]) (n + 1)) news news') (hsub : subIn K (.ref 101) (.type "list") = some true)
    (hz : vs.length ≤ 1000) (h : ∀ h', Fr h₀ L h' m → News h₀ L h' news' → Q .none { s with heap := h' }) : wpAny (model prog w) A (call (.builtin "list.append") [.ref x, v]) Q E s := by
  have hx := upd_mem U
  have hu' := upd_K (f := fun a => a.push v) (by simp) (by simp) F N U
  exact acc_append (X₀.keeps F.keep) (acc_inst N hx hd) hsub rfl (by simpa using hz) (h _ hu'.1 hu'.2)
end
theorem test_is {α : Type} {M : Model} {A : Around} {E : Value → Shared → Prop} {s : Shared} {g : Heap} {L : Addr} {m : Str → Option Value} {news : List (Addr × Obj)} {t : Sem α} {P : α → Shared → Prop} (b : α) (F : Fr g L s.heap m) (N : News g L s.heap news)
    (h2 : ∀ h9 tk9, Fr g L h9 m → News g L h9 news → P b { s with heap := h9, toks := tk9 })
    (h1 : wpAny M A t (fun b' s' => b' = b ∧ ∃ h9 tk9, s' = { s with heap := h9, toks := tk9 } ∧ Fr g L h9 m ∧ News g L h9 news) (fun _ _ => False) s) : wpAny M A t P E s := by
  refine wpAny_mono h1 (fun b' s' h => ?_) (fun _ _ h => h.elim)
  obtain ⟨rfl, h9, tk9, rfl, F9, N9⟩ := h
  exact h2 h9 tk9 F9 N9
abbrev tup2 (a b : Value) : Obj := { cls := .type "tuple", data := .seq [a, b].toArray }
local macro_rules | `(tactic| k_mem) => `(tactic| first | ktr_member | exact List.mem_cons_self | (refine List.mem_cons_of_mem _ ?_; k_mem))
local macro_rules | `(tactic| k_inst) => `(tactic| exact acc_inst (by k_asm) (by k_mem) (by k_mem))
local macro_rules | `(tactic| k_all) => `(tactic| assumption)
set_option maxRecDepth 100000 in
set_option maxHeartbeats 8000000 in
theorem pop_claim (w : World) (st dx : Addr) (vs : List Value) (v : Value) (n k : Nat) (t1 t2 : Tok) (rest : List (Addr × Obj)) (hne : @Ne Nat st dx) (hs : ∀ p ∈ rest, p.1 ≠ st) (hz : vs.length ≤ 1000) :
   Cl w 61 ((st, accObj dx (vs ++ [v]) n) :: (dx, accDict w t1 t2 k) :: rest) [.ref st] 5 40 (fun K => K ((st, accObj dx vs (n + 1)) :: (dx, accDict w t1 t2 k) :: rest) v) := by
  dsimp only [Cl]
  k_fill
  intros; rename_i hret
  (k_with "getMethod ref" => (k_dflt (refine' super_pop ?k1 ?k2 ?k3 ?k4 ?k5 ?k6 ?k7 ?k8 ?_; (case k1 => k_asm); (case k2 => k_asm); (case k3 => k_asm); (case k4 => k_mem); (case k5 => k_inst); (case k6 => k_is); (case k7 => ks_is); (case k8 => k_is); intro q9 h9 F9 N9 l9; (try k_lt l9))))
  (k_with "getMethod ref" => (k_dflt (refine' acc_method ?k1 ?k2 ?k3 ?k4 ?k5 ?k6 ?k7 ?k8 ?_; (case k1 => k_in); (case k2 => k_inst); (case k3 => k_is); (case k4 => k_is); (case k5 => k_is); (case k6 => k_is); (case k7 => decide); (case k8 => rfl))))
  (k_with "callWith ref" => (k_dflt (refine' callWith_bnd0 ?k1 ?k2 ?_; (case k2 => exact News.get (by k_asm) (by k_mem)); (case k1 => first | exact .inl rfl | exact .inr rfl); (try dsimp only [List.nil_append]))))
  (k_with "call ref" => (k_dflt (refine' acc_pop_K ?k1 ?k2 ?k3 ?k4 ?k5 ?k6 ?k7 ?k8 ?k9 ?k10 ?k11 ?_; (case k1 => k_asm); (case k2 => k_asm); (case k3 => k_asm); (case k4 => k_mem); (case k6 => k_upd); (case k5 => k_mem); (case k7 => k_is); (case k8 => k_is); (case k9 => rfl); (case k10 => k_is); (case k11 => assumption); intro h9 F9 N9; (try dsimp only))))
  (k_with "call ref" => ((with_reducible show wpAny _ _ (PySem.call (Value.ref 98) _ _) _ _ _); refine' (pc_claim _ _ _ _ _ _ _ _ _ ?kh ?kg).use ?k1 ?k2 ?k3 ?k4 ?k5 ?kK ?kd ?ku ?_; (case k4 => k_asm); (case k1 => k_asm); (case k2 => k_asm); (case k3 => k_asm); (case k5 => k_asm); (case kh => k_mem); (case kg => k_mem); (case kK => first | exact rfl | assumption); (case kd => ktr_room); (case ku => ktr_units); intro t9 h9 tk9 F9 N9; (try dsimp only); (try k_fold)))
  refine wpAny_call ?_
  k_dflt (refine' ks_code_super ?k1 ?k2 ?k3 ?k4 ?k5 ?kA ?kF ?kK ?k6 ?k7 ?k8 ?k9 ?kB ?_ ?c1 ?c2 ?c3 ?c4; (case kA => exact rfl); (case kF => exact rfl); (case kK => assumption); (case k1 => k_asm); (case k2 => k_asm); (case k3 => k_asm); (case k4 => k_asm); (case k5 => k_asm); (case k6 => k_is); (case k7 => k_is); (case k8 => ktr_room); (case k9 => exact BindsTo.of_eq rfl); (case kB => exact locs rfl); (case c1 => decide); (case c2 => exact rfl); (case c3 => exact rfl); (case c4 => exact rfl); intro g' L' h' FG' F' N' B' X' T' l1; (try dsimp only); (try k_lift B'))
  refine ks_wpAt_execs_cons (ks_wpAt_If (wpAt_of_wpAny ?_))
  refine test_is false F' N' ?_ ?_
  rotate_left
  · k_steps
    · simp; omega
    · k_asm
    · k_asm
  · intro h8 tk8 F8 N8
    clear N' F'
    refine wpAt_of_wpAny (wpAny_execs_nil ?_)
    dsimp only
    refine ks_wpAt_execs_cons (ks_wpAt_Return_some (ks_wpAt_MethodCall ?_))
    k_steps
    rename_i kF kN _ _
    exact hret _ _ kF (cb_drop kN fun p hp => .tail _ (.tail _ hp))
end Mine
end
section
open PySem PySem.W PyProof.Rows
namespace Mine
theorem cleanAcc84f : True := by
  k_with_none
  w_top off
  trivial
theorem allLt_to {d : Nat} {l : List (Addr × Obj)} (h : AllLt d l) : ∀ p ∈ l, p.1 < d := by
  induction l with
  | nil => intro p hp; cases hp
  | cons a r ih =>
    intro p hp
    rcases List.mem_cons.mp hp with rfl | hp
    · exact h.1
    · exact ih h.2 p hp
local macro_rules | `(tactic| k_mem) => `(tactic| first | ktr_member | exact List.mem_cons_self | (refine List.mem_cons_of_mem _ ?_; k_mem))
local macro_rules | `(tactic| k_inst) => `(tactic| exact acc_inst (by k_asm) (by k_mem) (by k_mem))
local macro_rules | `(tactic| k_all) => `(tactic| assumption)
set_option maxRecDepth 100000 in
set_option maxHeartbeats 8000000 in
theorem pop0_claim (w : World) (st dx : Addr) (n k : Nat) (t1 t2 : Tok) (news : List (Addr × Obj)) (hs : (st, accObj dx [] n) ∈ news) (hd : (dx, accDict w t1 t2 k) ∈ news) :
   Cl w 61 news [.ref st] 5 40 (fun K => ∀ a u1 u2, (∀ p ∈ news, p.1 < a) → K ((a, tup2 (.str (PySem.Str.ofString "") u1) (.str (PySem.Str.ofString "") u2)) :: news) (.ref a)) := by
  dsimp only [Cl]
  k_fill
  intros; rename_i hret
  (k_with "getMethod ref" => (k_dflt (refine' acc_method ?k1 ?k2 ?k3 ?k4 ?k5 ?k6 ?k7 ?k8 ?_; (case k1 => k_in); (case k2 => k_inst); (case k3 => k_is); (case k4 => k_is); (case k5 => k_is); (case k6 => k_is); (case k7 => decide); (case k8 => rfl))))
  (k_with "call ref" => ((with_reducible show wpAny _ _ (PySem.call (Value.ref 98) _ _) _ _ _); refine' (pc_claim _ _ _ _ _ _ _ _ _ ?kh ?kg).use ?k1 ?k2 ?k3 ?k4 ?k5 ?kK ?kd ?ku ?_; (case k4 => k_asm); (case k1 => k_asm); (case k2 => k_asm); (case k3 => k_asm); (case k5 => k_asm); (case kh => first | assumption | k_mem); (case kg => first | assumption | k_mem); (case kK => first | exact rfl | assumption); (case kd => ktr_room); (case ku => ktr_units); intro t9 h9 tk9 F9 N9; (try dsimp only); (try k_fold)))
  refine wpAny_call ?_
  k_dflt (refine' ks_code_super ?k1 ?k2 ?k3 ?k4 ?k5 ?kA ?kF ?kK ?k6 ?k7 ?k8 ?k9 ?kB ?_ ?c1 ?c2 ?c3 ?c4; (case kA => exact rfl); (case kF => exact rfl); (case kK => assumption); (case k1 => k_asm); (case k2 => k_asm); (case k3 => k_asm); (case k4 => k_asm); (case k5 => k_asm); (case k6 => k_is); (case k7 => k_is); (case k8 => ktr_room); (case k9 => exact BindsTo.of_eq rfl); (case kB => exact locs rfl); (case c1 => decide); (case c2 => exact rfl); (case c3 => exact rfl); (case c4 => exact rfl); intro g' L' h' FG' F' N' B' X' T' l1; (try dsimp only); (try k_lift B'))
  refine ks_wpAt_execs_cons (ks_wpAt_If (wpAt_of_wpAny ?_))
  refine test_is true F' N' ?_ ?_
  rotate_left
  · k_steps
    all_goals first | k_asm | (simp; done)
  · intro h8 tk8 F8 N8
    clear N' F'
    refine wpAt_of_wpAny ?_
    k_steps
    rename_i l1 kF kN _ _
    exact hret _ _ _ l1 _ _ kF kN
set_option maxRecDepth 100000 in
set_option maxHeartbeats 8000000 in
theorem push_claim (w : World) (st dx : Addr) (vs : List Value) (v1 v2 : Value) (n k : Nat) (t1 t2 : Tok) (rest : List (Addr × Obj)) (hne : @Ne Nat st dx) (hs : ∀ p ∈ rest, p.1 ≠ st) (hz : vs.length ≤ 1000) :
   Cl w 45 ((st, accObj dx vs n) :: (dx, accDict w t1 t2 k) :: rest) [.ref st, v1, v2] 1 8 (fun K => ∀ a, (∀ p ∈ (st, accObj dx vs n) :: (dx, accDict w t1 t2 k) :: rest, p.1 < a) → K ((a, tup2 v1 v2) :: (st, accObj dx (vs ++ [.ref a]) (n + 1)) :: (dx, accDict w t1 t2 k) :: rest) .none) := by
  dsimp only [Cl]
  k_fill
  intros; rename_i hret
  (k_with "getMethod ref" => (k_dflt (refine' acc_method ?k1 ?k2 ?k3 ?k4 ?k5 ?k6 ?k7 ?k8 ?_; (case k1 => k_in); (case k2 => k_inst); (case k3 => k_is); (case k4 => k_is); (case k5 => k_is); (case k6 => k_is); (case k7 => decide); (case k8 => rfl))))
  (k_with "call builtin:list.append" => (k_dflt (refine' acc_append_K ?k1 ?k2 ?k3 ?k4 ?k5 ?k6 ?k7 ?_; (case k1 => k_asm); (case k2 => k_asm); (case k3 => k_asm); (case k5 => k_upd); (case k4 => k_mem); (case k6 => k_is); (case k7 => assumption); intro h9 F9 N9; (try dsimp only))))
  refine wpAny_call ?_
  k_dflt cell_enter
  k_steps
  rename_i kF kN _ _
  exact hret _ (allLt_to (l := _ :: _ :: rest) (by assumption)) _ _ kF kN
end Mine
end
section
open PySem PySem.W PyProof.Rows
set_option maxRecDepth 100000
namespace Mine
section
variable {prog : Program} {w : World} {A : Around} {E : Value → Shared → Prop} {s : Shared} {K : Frag} {x C sl : Addr} {ox : Obj} {od : Option Obj}
theorem acc_special {name : Str} {id : String} {args : List Value} {Q : Option Value → Shared → Prop} {T : String} {nm : Str} (slot : Slot T nm id) (X : K.In s.heap) (I : InstAt s.heap x ox C od) (hf : findIn K (.ref C) name = some (some (.builtin id)))
    (h : wpAny (model prog w) A (call (.builtin id) (.ref x :: args)) (fun v => Q (some v)) E s) : wpAny (model prog w) A (callSpecial? (.ref x) name args) Q E s := by
  simp only [callSpecial?, specialOf]
  refine wpAny_bind (wpAny_bind (I.type.here ((looks_findIn X hf).here ?_)))
  simp only [slot.bind]
  exact wpAny_holding (wpAny_bind (wpAny_pure (wpAny_bind (wpAny_mono h (fun v s' h' => wpAny_pure h') fun _ _ h' => h'))))
theorem acc_key {name : Str} {k : Value} {Q : Value → Shared → Prop} (X : K.In s.heap) (I : InstAt s.heap x ox C od) (hq : noSeq K C = true) (h : Q k s) : wpAny (model prog w) A (sequenceKey (.ref x) k name) Q E s := by
  unfold sequenceKey
  refine wpAny_bind (I.type.here ?_)
  refine wpAny_bind ((anyM_none X hq).here ?_)
  rw [if_pos (show (!false) = true from rfl)]
  exact wpAny_pure h
theorem acc_parts {vl vu vs : Value} {lo hi st : Option Int} {Q : Value × Value × Value → Shared → Prop} (hs : s.heap.IsSliceOf sl vl vu vs) (pl : IsPart vl lo) (pu : IsPart vu hi) (ps : IsPart vs st) (h0 : st ≠ some 0)
    (h : Q (rawPart lo, rawPart hi, rawPart st) s) : wpAny (model prog w) A (Builtin.List.listSliceParts (.ref sl)) Q E s := by
  obtain ⟨os, hos, hcs, hds⟩ := id hs
  rw [listSliceParts_eq]
  have hstep : ¬ ((rawPart st == rawInt 0) = true) := by
    cases st with
    | none => exact Bool.false_ne_true
    | some c =>
      intro hh
      have : c = 0 := by simpa [rawPart, rawInt] using hh
      exact h0 (by rw [this])
  refine wpAny_bind (wpAny_field hos hds (x := vs) rfl (wpAny_bind (wpAny_listPart ps ?_)))
  rw [if_neg hstep]
  refine wpAny_bind (wpAny_field hos hds (x := vl) rfl (wpAny_bind (wpAny_listPart pl ?_)))
  exact wpAny_bind (wpAny_field hos hds (x := vu) rfl (wpAny_bind (wpAny_listPart pu (wpAny_pure h))))
set_option maxHeartbeats 4000000 in
theorem acc_getslice {items : Array Value} {n : Nat} {vl vu : Value} {lo hi : Option Int} {Q : Value → Shared → Prop} (X : K.In s.heap) (I : InstAt s.heap x ox C od) (hsub : subIn K (.ref C) (.type "list") = some true) (hq : noSeq K C = true)
    (hf : findIn K (.ref C) "__getitem__" = some (some (.builtin "list.__getitem__"))) (hd : ox.data = .seq items n) (hz : items.size ≤ 1000)
    (hs : s.heap.IsSliceOf sl vl vu .none) (pl : IsPart vl lo) (pu : IsPart vu hi)
    (h : Q (.ref s.heap.objs.size) { s with heap := s.heap.push { cls := .type "list", data := .seq (slicePick items lo hi none) } }) : wpAny (model prog w) A (getItem (.ref x) (.ref sl)) Q E s := by
  obtain ⟨os, hos, hcs, hds⟩ := id hs
  have hTs : s.TypeIs (.ref sl) "slice" := ⟨os, hos, hcs⟩
  unfold getItem
  refine wpAny_holding ?_
  refine wpAny_bind (acc_key X I hq ?_)
  refine wpAny_bind ?_
  refine acc_special PySem.F.slot_list_getitem X I hf ?_
  refine wpAny_call (codeAny_call_builtin PySem.F.slot_list_getitem.plain PySem.F.entry_list_getitem (check_sub (id := "list.__getitem__") (owner := "list") (n := "__getitem__") split_getitem (.inr kind_getitem) (acc_isList X I hsub) (PySem.F.args_list_getitem_2 _ _) ?_))
  unfold Builtin.«list.__getitem__» selfAndOne noKeywords
  simp only [List.isEmpty_nil, if_true, pure_bind]
  refine wpAny_bind ?_
  unfold Builtin.List.listSubscript?
  refine wpAny_bind (wpAny_specialOf hTs slice_no_index ?_)
  simp only [Option.isNone_none, if_true]
  refine wpAny_pure ?_
  show wpAny _ _ (typeOf (.ref sl) >>= _) _ _ s
  refine wpAny_bind (wpAny_typeOf hTs ?_)
  rw [if_neg (by decide)]
  refine wpAny_bind (acc_parts hs pl pu .none (by simp) ?_)
  refine wpAny_bind (m := Builtin.List.listItems (.ref x)) ?_
  unfold Builtin.List.listItems
  refine wpAny_bind (wpAny_seqItems I.at_ hd (wpAny_pure ?_))
  refine wpAny_bind (wpAny_of_eq (sliceIndices_raw lo hi none items.size (by simp)) ?_)
  exact wpAny_bind (wpAny_newObj_type (wpAny_pure (wpAny_pure h)) (Nat.le_trans (slicePick_size_le items lo hi none) (by rw [sizeLine_eq]; omega)))
theorem acc_tail {lower upper : Option PySem.Expr} {v : PySem.Expr} {p : Pos} {i : Value} {Q : Value → Shared → Prop} (X : K.In s.heap) (I : InstAt s.heap x ox C od) (hf : findIn K (.ref C) "__getitem__" = some (some (.builtin "list.__getitem__")))
    (h : wpAny (model prog w) A (getItem (.ref x) i) Q E s) (ht : ∀ r, letTemporaryGo v (.ref x) r = pure ()) : wpAny (model prog w) A (subscriptTail v (.Slice lower upper none p) (.ref x) i) Q E s := by
  unfold subscriptTail getitemInPython specialOf
  refine wpAny_bind (wpAny_bind (wpAny_bind (I.type.here ((looks_findIn X hf).here (wpAny_pure ?_)))))
  refine wpAny_bind ?_
  show wpAny _ _ (operate [i, .ref x] (getItem (.ref x) i)) _ _ _
  exact wpAny_operating (wpAny_mono h (fun r s₃ h₃ => by
    show wpAny _ _ (letTemporaryGo v (.ref x) r >>= fun _ => pure r) _ _ _
    rw [ht]; exact wpAny_bind (wpAny_pure (wpAny_pure h₃))) fun _ _ z => z)
theorem listOf_items {l : Addr} {ws : List Value} {msg : String} {o : Obj} {j : Nat} {Q : Array Value → Shared → Prop} (hl : s.heap.get? l = some o) (hc : o.cls = .type "list") (hd : o.data = .seq ws.toArray j) (h : Q ws.toArray s) :
    wpAny (model prog w) A (Builtin.List.listAllItems (.ref l) msg) Q E s := by
  unfold Builtin.List.listAllItems
  refine wpAny_bind (wpAny_typeOf (T := "list") ⟨_, hl, hc⟩ ?_)
  rw [if_pos (by decide)]
  unfold Builtin.List.listItems
  exact wpAny_bind (wpAny_seqItems hl hd (wpAny_pure h))
set_option maxHeartbeats 4000000 in
theorem acc_setslice {items : Array Value} {n : Nat} {vl vu : Value} {lo hi : Option Int} {l : Addr} {ws : List Value} {o : Obj} {j : Nat} {Q : Unit → Shared → Prop} (X : K.In s.heap) (I : InstAt s.heap x ox C od) (hsub : subIn K (.ref C) (.type "list") = some true) (hq : noSeq K C = true)
    (hf : findIn K (.ref C) "__setitem__" = some (some (.builtin "list.__setitem__"))) (hd : ox.data = .seq items n) (hz : items.size ≤ 1000) (hw : ws.length ≤ 1000)
    (hs : s.heap.IsSliceOf sl vl vu .none) (pl : IsPart vl lo) (pu : IsPart vu hi) (hl : s.heap.get? l = some o) (hlc : o.cls = .type "list") (hld : o.data = .seq ws.toArray j) (hne : x ≠ l)
    (h : Q () { s with heap := s.heap.update x (Obj.mapSeq fun xs => xs.extract 0 (sliceBounds lo hi none items.size).1.toNat ++ ws.toArray ++ xs.extract (max (sliceBounds lo hi none items.size).1 (sliceBounds lo hi none items.size).2.1).toNat xs.size) }) :
    wpAny (model prog w) A (setItem (.ref x) (.ref sl) (.ref l)) Q E s := by
  obtain ⟨os, hos, hcs, hds⟩ := id hs
  have hTs : s.TypeIs (.ref sl) "slice" := ⟨os, hos, hcs⟩
  unfold setItem
  refine wpAny_holding ?_
  refine wpAny_bind (acc_key X I hq ?_)
  refine wpAny_bind ?_
  refine acc_special PySem.F.slot_list_setitem X I hf ?_
  refine wpAny_call (codeAny_call_builtin PySem.F.slot_list_setitem.plain PySem.F.entry_list_setitem (check_sub (id := "list.__setitem__") (owner := "list") (n := "__setitem__") split_setitem (.inl kind_setitem) (acc_isList X I hsub) (PySem.F.args_list_setitem_3 _ _ _) ?_))
  unfold Builtin.«list.__setitem__»
  refine wpAny_bind (wpAny_of_eq (a := (.ref x, [.ref sl, .ref l])) rfl ?_)
  dsimp only
  refine wpAny_bind ?_
  unfold Builtin.List.listSubscript?
  refine wpAny_bind (wpAny_specialOf hTs slice_no_index ?_)
  simp only [Option.isNone_none, if_true]
  refine wpAny_pure ?_
  show wpAny _ _ (typeOf (.ref sl) >>= _) _ _ s
  refine wpAny_bind (wpAny_typeOf hTs ?_)
  rw [if_neg (by decide)]
  refine wpAny_bind (acc_parts hs pl pu .none (by simp) ?_)
  have hsame : Builtin.List.listSameRef (.ref x) (.ref l) = false := by simp [Builtin.List.listSameRef, hne]
  simp only [hsame, Bool.false_eq_true, if_false]
  refine wpAny_bind (listOf_items hl hlc hld ?_)
  refine wpAny_bind (m := Builtin.List.listItems (.ref x)) ?_
  unfold Builtin.List.listItems
  refine wpAny_bind (wpAny_seqItems I.at_ hd (wpAny_pure ?_))
  refine wpAny_bind (wpAny_of_eq (sliceIndices_raw lo hi none items.size (by simp)) ?_)
  have hstep : (sliceBounds lo hi none items.size).2.2 = 1 := rfl
  rw [if_pos (by rfl)]
  refine wpAny_bind (wpAny_rule ?_)
  have hlong : Builtin.List.listTooLong (items.size + ws.toArray.size) = false := by
    have e : ws.toArray.size = ws.length := List.size_toArray ..
    unfold Builtin.List.listTooLong
    exact decide_eq_false (by rw [sizeLine_eq]; omega)
  simp only [hlong, Bool.false_eq_true, if_false]
  unfold Builtin.List.listUpdate
  refine wpAny_bind (wpAny_updateSeq (f := fun xs => xs.extract 0 (sliceBounds lo hi none items.size).1.toNat ++ ws.toArray ++ xs.extract (max (sliceBounds lo hi none items.size).1 (sliceBounds lo hi none items.size).2.1).toNat xs.size) I.at_ hd ?_ (by rw [sizeLine_eq]; omega) ?_)
  · exact wpAny_bind (wpAny_letGo (wpAny_pure (wpAny_pure h)))
  · show (items.extract 0 _ ++ ws.toArray ++ items.extract _ items.size).size ≤ _
    simp only [Array.size_append, Array.size_extract, List.size_toArray, sizeLine_eq]
    omega
end
end Mine
end
section
open PySem PySem.W PyProof.Rows
namespace Mine
theorem cleanAcc84h : True := by
  k_with_none
  w_top off
  trivial
section
variable {prog : Program} {w : World} {A : Around} {E : Value → Shared → Prop} {s : Shared} {h₀ : Heap} {L : Addr} {m : Str → Option Value} {news news' : List (Addr × Obj)} {K : Frag} {x dx l : Addr} {od : Obj} {vs ws zs : List Value} {n j : Nat} {vl vu : Value} {lo hi : Option Int}
theorem acc_slice_K {lower upper : Option PySem.Expr} {v : PySem.Expr} {p : Pos} {Q : Value → Shared → Prop} (F : Fr h₀ L s.heap m) (X₀ : K.In h₀) (N : News h₀ L s.heap news) (hx : (x, accObj dx vs n) ∈ news) (hd : (dx, od) ∈ news)
    (hsub : subIn K (.ref 101) (.type "list") = some true) (hq : noSeq K 101 = true) (hf : findIn K (.ref 101) "__getitem__" = some (some (.builtin "list.__getitem__"))) (hz : vs.length ≤ 1000) (pl : IsPart vl lo) (pu : IsPart vu hi) (e : slicePick vs.toArray lo hi none = zs.toArray)
    (ht : ∀ r, letTemporaryGo v (.ref x) r = pure ())
    (h : ∀ D h', Fr h₀ L h' m → News h₀ L h' ((D, listOf zs.toArray 0) :: news) → (∀ p ∈ news, p.1 < D) → Q (.ref D) { s with heap := h' }) :
    wpAny (model prog w) A (subscriptTail v (.Slice lower upper none p) (.ref x) (.ref s.heap.objs.size)) Q E { s with heap := s.heap.push { cls := .type "slice", data := .fields #[vl, vu, .none] } } := by
  have F1 : Fr h₀ L (s.heap.push { cls := .type "slice", data := .fields #[vl, vu, .none] }) m := F.push _
  have N1 : News h₀ L (s.heap.push { cls := .type "slice", data := .fields #[vl, vu, .none] }) news := N.grown fun _ _ e => Heap.get?_push_of_some _ e
  have X1 : K.In (s.heap.push { cls := .type "slice", data := .fields #[vl, vu, .none] }) := X₀.keeps F1.keep
  have I1 := acc_inst N1 hx hd
  refine acc_tail (s := { s with heap := s.heap.push { cls := .type "slice", data := .fields #[vl, vu, .none] } }) X1 I1 hf ?_ ht
  refine acc_getslice (s := { s with heap := s.heap.push { cls := .type "slice", data := .fields #[vl, vu, .none] } }) X1 I1 hsub hq hf rfl (by simpa using hz) (Heap.IsSliceOf.new ..) pl pu ?_
  have N2 := News.push F1 N1 { cls := .type "list", data := .seq (slicePick vs.toArray lo hi none) }
  rw [e] at N2 ⊢
  exact h _ _ (F1.push _) N2 fun p hp => Heap.lt_size (N1 p hp).1
theorem acc_setslice_K {Q : Unit → Shared → Prop} {ys : List Value} (F : Fr h₀ L s.heap m) (X₀ : K.In h₀) (N : News h₀ L s.heap news) (hd : (dx, od) ∈ news) (hl : (l, listOf ws.toArray j) ∈ news)
    (U : Upd x (accObj dx vs n) (accObj dx ys (if ys.length = vs.length then n else n + 1)) news news')
    (hsub : subIn K (.ref 101) (.type "list") = some true) (hq : noSeq K 101 = true) (hf : findIn K (.ref 101) "__setitem__" = some (some (.builtin "list.__setitem__"))) (hz : vs.length ≤ 1000) (hw : ws.length ≤ 1000) (pl : IsPart vl lo) (pu : IsPart vu hi)
    (e : vs.toArray.extract 0 (sliceBounds lo hi none vs.toArray.size).1.toNat ++ ws.toArray ++ vs.toArray.extract (max (sliceBounds lo hi none vs.toArray.size).1 (sliceBounds lo hi none vs.toArray.size).2.1).toNat vs.toArray.size = ys.toArray)
    (h : ∀ h', Fr h₀ L h' m → News h₀ L h' news' → Q () { s with heap := h' }) :
    wpAny (model prog w) A (setItem (.ref x) (.ref s.heap.objs.size) (.ref l)) Q E { s with heap := s.heap.push { cls := .type "slice", data := .fields #[vl, vu, .none] } } := by
  have F1 : Fr h₀ L (s.heap.push { cls := .type "slice", data := .fields #[vl, vu, .none] }) m := F.push _
  have N1 : News h₀ L (s.heap.push { cls := .type "slice", data := .fields #[vl, vu, .none] }) news := N.grown fun _ _ e => Heap.get?_push_of_some _ e
  have X1 : K.In (s.heap.push { cls := .type "slice", data := .fields #[vl, vu, .none] }) := X₀.keeps F1.keep
  have hx := upd_mem U
  have I1 := acc_inst N1 hx hd
  have hne : x ≠ l := by
    intro h1
    have a := (N _ hx).1
    have b := (N _ hl).1
    simp only at a b
    rw [h1, b] at a
    have c : Value.type "list" = Value.ref 101 := congrArg Obj.cls (Option.some.inj a)
    cases c
  refine acc_setslice (s := { s with heap := s.heap.push { cls := .type "slice", data := .fields #[vl, vu, .none] } }) X1 I1 hsub hq hf rfl (by simpa using hz) hw (Heap.IsSliceOf.new ..) pl pu (N1 _ hl).1 rfl rfl hne ?_
  obtain ⟨pre, post, rfl, rfl, a, b⟩ := U.split
  have hm : Obj.mapSeq (fun xs => xs.extract 0 (sliceBounds lo hi none vs.toArray.size).1.toNat ++ ws.toArray ++ xs.extract (max (sliceBounds lo hi none vs.toArray.size).1 (sliceBounds lo hi none vs.toArray.size).2.1).toNat xs.size) (accObj dx vs n) = accObj dx ys (if ys.length = vs.length then n else n + 1) := by
    show (⟨.ref 101, some dx, .seq (vs.toArray.extract 0 (sliceBounds lo hi none vs.toArray.size).1.toNat ++ ws.toArray ++ vs.toArray.extract (max (sliceBounds lo hi none vs.toArray.size).1 (sliceBounds lo hi none vs.toArray.size).2.1).toNat vs.toArray.size) (if ((vs.toArray.extract 0 (sliceBounds lo hi none vs.toArray.size).1.toNat ++ ws.toArray ++ vs.toArray.extract (max (sliceBounds lo hi none vs.toArray.size).1 (sliceBounds lo hi none vs.toArray.size).2.1).toNat vs.toArray.size).size == vs.toArray.size) = true then n else n + 1), #[]⟩ : Obj) = _
    rw [e]
    simp only [List.size_toArray, beq_iff_eq]
  have q := news_upd F1 N1 a b hm rfl
  exact h _ q.1 q.2
end
theorem bounds_from1 (v : Value) (vs : List Value) : sliceBounds (some 1) none none (v :: vs).toArray.size = (((1 : Nat) : Int), ((vs.length + 1 : Nat) : Int), 1) := by
  simp only [sliceBounds, Option.getD_none, show (1 : Int) > 0 by decide, if_true, if_neg (show ¬ ((1 : Int) < 0) by decide), List.size_toArray, List.length_cons]
  refine Prod.ext ?_ (Prod.ext ?_ rfl) <;> simp only <;> omega
theorem pick_from1 (v : Value) (vs : List Value) : slicePick (v :: vs).toArray (some 1) none none = vs.toArray := by
  rw [kmk_pick_nat _ (bounds_from1 v vs)]
  simp
theorem set_from1 (v : Value) (vs : List Value) : (v :: vs).toArray.extract 0 (sliceBounds (some 1) none none (v :: vs).toArray.size).1.toNat ++ [].toArray ++ (v :: vs).toArray.extract (max (sliceBounds (some 1) none none (v :: vs).toArray.size).1 (sliceBounds (some 1) none none (v :: vs).toArray.size).2.1).toNat (v :: vs).toArray.size = [v].toArray := by
  rw [bounds_from1]
  have e : (max ((1 : Nat) : Int) ((vs.length + 1 : Nat) : Int)).toNat = vs.length + 1 := by omega
  simp only [e]
  simp
theorem bounds_all (n : Nat) : sliceBounds none none none n = (((0 : Nat) : Int), (n : Int), 1) := by
  simp only [sliceBounds, Option.getD_none, show (1 : Int) > 0 by decide, if_true]
  rfl
theorem set_all (vs ws : List Value) : vs.toArray.extract 0 (sliceBounds none none none vs.toArray.size).1.toNat ++ ws.toArray ++ vs.toArray.extract (max (sliceBounds none none none vs.toArray.size).1 (sliceBounds none none none vs.toArray.size).2.1).toNat vs.toArray.size = ws.toArray := by
  rw [bounds_all]
  have e : (max ((0 : Nat) : Int) ((vs.toArray.size : Nat) : Int)).toNat = vs.toArray.size := by omega
  simp only [e]
  simp
local macro_rules | `(tactic| k_mem) => `(tactic| first | ktr_member | exact List.mem_cons_self | (refine List.mem_cons_of_mem _ ?_; k_mem))
local macro_rules | `(tactic| k_inst) => `(tactic| exact acc_inst (by k_asm) (by k_mem) (by k_mem))
local macro_rules | `(tactic| k_all) => `(tactic| assumption)
local macro_rules | `(tactic| cell_enter) => `(tactic| (refine' code_def ?k1 ?k2 ?k3 ?k4 ?k5 ?kA ?kF ?kK ?k6 ?k7 ?k8 ?k9 ?kB ?_ ?c2 ?c3 ?c4 ?c5; (case kA => exact rfl); (case kF => exact rfl); (case kK => assumption); (case k1 => k_asm); (case k2 => k_asm); (case k3 => k_asm); (case k4 => k_asm); (case k5 => k_asm); (case k6 => k_is); (case k7 => k_is); (case k8 => ktr_room); (case k9 => exact binds_K (by k_in) rfl (by k_is) rfl rfl rfl); (case c5 => decide); (case kB => exact locs rfl); (case c2 => exact rfl); (case c3 => exact rfl); (case c4 => exact rfl); k_whole; intro g' L' h' FG' F' N' B' X' T'; (try dsimp only); (try k_lift B'); (try k_fold)))
set_option maxRecDepth 100000 in
set_option maxHeartbeats 8000000 in
theorem popfrom_claim (w : World) (st dx : Addr) (v : Value) (vs : List Value) (n k : Nat) (t1 t2 t3 : Tok) (rest : List (Addr × Obj)) (hne : @Ne Nat st dx) (hs : ∀ p ∈ rest, p.1 ≠ st) (hz : vs.length ≤ 900) :
   Cl w 53 ((st, accObj dx (v :: vs) n) :: (dx, accDict w t1 t2 k) :: rest) [.ref st, .int 1 t3] 1 8 (fun K => ∀ a n', (∀ p ∈ (st, accObj dx vs n) :: (dx, accDict w t1 t2 k) :: rest, p.1 < a) → K ((a, listOf vs.toArray 0) :: (st, accObj dx [v] n') :: (dx, accDict w t1 t2 k) :: rest) (.ref a)) := by
  dsimp only [Cl]
  k_fill
  intros; rename_i hret
  refine wpAny_call ?_
  k_dflt cell_enter
  (k_with "subscriptTail Name Slice ref ref" => (k_dflt (refine' acc_slice_K ?k1 ?k2 ?k3 ?k4 ?k5 ?k6 ?k7 ?k8 ?k9 ?k10 ?k11 ?k12 ?k13 ?_; (case k1 => k_asm); (case k2 => k_asm); (case k3 => k_asm); (case k4 => k_mem); (case k5 => k_mem); (case k6 => k_is); (case k7 => k_is); (case k8 => k_is); (case k9 => (simp only [List.length_cons]; omega)); (case k10 => kmk_part); (case k11 => kmk_part); (case k12 => exact pick_from1 _ _); (case k13 => kmk_pure); intro D' h' F' N' l1; (try k_lt l1))))
  (k_with "setItem ref ref" => (k_dflt (refine' acc_setslice_K ?k1 ?k2 ?k3 ?k4 ?k5 ?k6 ?k7 ?k8 ?k9 ?k10 ?k11 ?k12 ?k13 ?k14 ?_; (case k1 => k_asm); (case k2 => k_asm); (case k3 => k_asm); (case k5 => k_mem); (case k6 => k_upd); (case k4 => k_mem); (case k7 => k_is); (case k8 => k_is); (case k9 => k_is); (case k10 => (simp only [List.length_cons]; omega)); (case k11 => simp); (case k12 => kmk_part); (case k13 => kmk_part); (case k14 => exact set_from1 _ _); intro h' F' N')))
  k_steps
  rename_i kF kN _ _
  refine hret _ _ (allLt_to (l := (st, accObj dx vs n) :: (dx, _) :: rest) l1) _ _ kF (cb_drop kN fun p hp => .tail _ hp)
end Mine
end
section
open PySem PySem.W PyProof.Rows
namespace Mine
theorem cleanAcc84i : True := by
  k_with_none
  w_top off
  trivial
theorem refuse_acc (self : Value) (C : Addr) : refuseLoop self "__setattr__" [.ref C, .type "list", .type "object"] = pure () := by
  rw [refuseLoop_ref]
  kernel_rfl
section
variable {prog : Program} {w : World} {A : Around} {E : Value → Shared → Prop} {s : Shared} {h₀ : Heap} {L : Addr} {m : Str → Option Value} {news news' : List (Addr × Obj)} {K : Frag} {x dx C C' : Addr} {ox od od' : Obj} {es es' : List DictEntry} {n n' : Nat} {cd : ClassData} {name : Str} {v : Value}
theorem put_acc (h h2 : Int) (t t' t2 : Tok) (i : Int) (v : Value) (k : Nat) : (putL (Str.ofString "_initial_size") h2 (.str (Str.ofString "_initial_size") t2) v [⟨h, .str (Str.ofString "_initial_size") t, .int i t'⟩], putN (Str.ofString "_initial_size") [⟨h, .str (Str.ofString "_initial_size") t, .int i t'⟩] k) = ([⟨h, .str (Str.ofString "_initial_size") t, v⟩], k) := by
  have e : (Value.str (Str.ofString "_initial_size") t).isStr (Str.ofString "_initial_size") = true := by
    show ((Str.ofString "_initial_size") == Str.ofString "_initial_size") = true
    decide +kernel
  simp [putL, putN, e]
theorem acc_osa {R : Result → Shared → Prop} {tk : Tok} (X : K.In s.heap) (I : InstAt s.heap x ox C (some (dictOf es n))) (hd : ox.dict = some dx)
    (hc : clsIn K C = some cd) (hm : cd.mro = [.ref C', .type "list", .type "object"]) (hw : cd.hasDict = true) (ha : findIn K (.ref C) name = some none) (hsub : subIn K (.ref C) (.type "object") = some true)
    (hr : es.any (·.refKey) = false) (hz : es'.length ≤ 1000) (D : s.heap.get? dx = some (dictOf es n))
    (D' : (s.heap.update dx (Obj.putName name (PyData.keyHash w.params name) (.str name s.toks) v)).get? dx = some (dictOf es' n'))
    (h : R (.ok (.ret .none)) { s with heap := s.heap.update dx (Obj.putName name (PyData.keyHash w.params name) (.str name s.toks) v), toks := s.toks + 1 }) :
    codeAny (model prog w) A (.call (.builtin "object.__setattr__") ⟨[.ref x, .str name tk, v], []⟩) R s := by
  have SF := PySem.F.store_object
  have LI : Looks (model prog w) s.heap (isInstance (.ref x) (.type "object")) true := I.type.andThen (looks_subIn X hsub)
  refine codeAny_call_builtin SF.slot.plain SF.entry (check_sub (id := "object.__setattr__") (owner := "object") (n := "__setattr__") SF.split (.inl (by have := SF.kind; simpa only [builtinKind, SF.split] using this)) LI (SF.args _ _ _) ?_)
  rw [osa_eq, refuse_eq]
  have hmro : Looks (model prog w) s.heap (mroOf (.ref C)) cd.mro := (looks_clsIn X hc).andThen .now
  refine wpAny_bind (wpAny_bind (I.type.here (wpAny_bind (hmro.here ?_))))
  rw [hm, refuse_acc]
  refine wpAny_pure (wpAny_bind (I.type.here (wpAny_bind ((looks_findIn X ha).here (wpAny_bind (Looks.now.here ?_))))))
  obtain ⟨hx, hcl, hn, -⟩ := I
  obtain ⟨oc, odi, oda, osl⟩ := ox
  dsimp only at hcl hd
  subst hcl hd
  refine wpAny_bind (wpAny_pure (wpAny_bind (wpAny_bind (wpAny_loadPart hx (wpAny_bind ((looks_clsIn X hc).here ?_))))))
  rw [hw]
  refine wpAny_pure (a := some dx) (wpAny_bind (wpAny_pure (wpAny_bind ?_)))
  unfold nsSet
  refine wpAny_bind (wpAny_bind (wpAny_askSetting (wpAny_pure (wpAny_bind (wpAny_mkText (wpAny_bind (wpAny_loadPart D ?_)))))))
  have c : (!es.toArray.any (·.key.isStr name) && es.toArray.any (·.refKey)) = false := by
    rw [Bool.and_eq_false_iff]
    right
    simpa using hr
  have hdd : (dictOf es n).data = .dict es.toArray n := rfl
  rw [hdd]
  dsimp only
  rw [aRefKeyMayBeTheName_at, c]
  refine wpAny_updatePart D (wpAny_bind (wpAny_lookBehind D' (pastItsLine_dict (by rw [List.size_toArray, sizeLine_eq]; omega)) (wpAny_pure h)))
theorem acc_set {Q : Unit → Shared → Prop} (F : Fr h₀ L s.heap m) (X₀ : K.In h₀) (N : News h₀ L s.heap news) (I : InstAt s.heap x ox C (some (dictOf es n))) (hd : ox.dict = some dx)
    (hs : findIn K (.ref C) "__setattr__" = some (some (.builtin "object.__setattr__"))) (hc : clsIn K C = some cd) (hm : cd.mro = [.ref C', .type "list", .type "object"]) (hw : cd.hasDict = true) (ha : findIn K (.ref C) name = some none) (hsub : subIn K (.ref C) (.type "object") = some true)
    (hr : es.any (·.refKey) = false) (e : (putL name (PyData.keyHash w.params name) (.str name (s.toks + 1)) v es, putN name es n) = (es', n')) (U : Upd dx (dictOf es n) (dictOf es' n') news news') (hz : es'.length ≤ 1000)
    (h : ∀ h', Fr h₀ L h' m → News h₀ L h' news' → Q () { s with heap := h', toks := s.toks + 2 }) :
    wpAny (model prog w) A (setAttr (.ref x) name v) Q E s := by
  have X : K.In s.heap := X₀.keeps F.keep
  obtain ⟨pre, post, rfl, rfl, a, b⟩ := U.split
  obtain ⟨e1, e2⟩ := Prod.mk.inj e
  have e3 : Obj.putName name (PyData.keyHash w.params name) (.str name (s.toks + 1)) v (dictOf es n) = dictOf es' n' := by rw [putName_dict, e1, e2]
  obtain ⟨F2, N2⟩ := news_upd (f := Obj.putName name (PyData.keyHash w.params name) (.str name (s.toks + 1)) v) F N a b e3 rfl
  refine set_plain X I hs ?_
  exact acc_osa (s := { s with toks := s.toks + 1 }) X I hd hc hm hw ha hsub hr hz (N (dx, dictOf es n) (by simp)).1 (N2 (dx, dictOf es' n') (by simp)).1 (h _ F2 N2)
end
local macro_rules | `(tactic| k_mem) => `(tactic| first | ktr_member | exact List.mem_cons_self | (refine List.mem_cons_of_mem _ ?_; k_mem))
local macro_rules | `(tactic| k_inst) => `(tactic| exact acc_inst (by k_asm) (by k_mem) (by k_mem))
local macro_rules | `(tactic| k_all) => `(tactic| assumption)
local macro_rules | `(tactic| cell_enter) => `(tactic| (refine' code_def ?k1 ?k2 ?k3 ?k4 ?k5 ?kA ?kF ?kK ?k6 ?k7 ?k8 ?k9 ?kB ?_ ?c2 ?c3 ?c4 ?c5; (case kA => exact rfl); (case kF => exact rfl); (case kK => assumption); (case k1 => k_asm); (case k2 => k_asm); (case k3 => k_asm); (case k4 => k_asm); (case k5 => k_asm); (case k6 => k_is); (case k7 => k_is); (case k8 => ktr_room); (case k9 => exact binds_K (by k_in) rfl (by k_is) rfl rfl rfl); (case c5 => decide); (case kB => exact locs rfl); (case c2 => exact rfl); (case c3 => exact rfl); (case c4 => exact rfl); k_whole; intro g' L' h' FG' F' N' B' X' T'; (try dsimp only); (try k_lift B'); (try k_fold)))
local macro_rules | `(tactic| k_upd) => `(tactic| first | exact Upd.head (by assumption) | exact Upd.tail (by assumption) (Upd.head (by assumption)))
set_option maxRecDepth 100000 in
set_option maxHeartbeats 8000000 in
theorem reset_claim (w : World) (st dx l : Addr) (vs ws : List Value) (n k j : Nat) (t1 t2 : Tok) (rest : List (Addr × Obj)) (hne : @Ne Nat st dx) (hs : ∀ p ∈ rest, p.1 ≠ st) (hs2 : ∀ p ∈ rest, p.1 ≠ dx) (hz : vs.length ≤ 900) (hw : ws.length ≤ 900) (hl : (l, listOf ws.toArray j) ∈ rest) :
   Cl w 83 ((st, accObj dx vs n) :: (dx, accDict w t1 t2 k) :: rest) [.ref st, .ref l] 1 8 (fun K => ∀ n' k' t1' t2', K ((st, accObj dx ws n') :: (dx, accDict w t1' t2' k') :: rest) .none) := by
  dsimp only [Cl]
  k_fill
  intros; rename_i hret
  refine wpAny_call ?_
  k_dflt cell_enter
  (k_with "setItem ref ref" => (k_dflt (refine' acc_setslice_K ?k1 ?k2 ?k3 ?k4 ?k5 ?k6 ?k7 ?k8 ?k9 ?k10 ?k11 ?k12 ?k13 ?k14 ?_; (case k1 => k_asm); (case k2 => k_asm); (case k3 => k_asm); (case k5 => exact .tail _ (.tail _ hl)); (case k6 => k_upd); (case k4 => k_mem); (case k7 => k_is); (case k8 => k_is); (case k9 => k_is); (case k10 => omega); (case k11 => omega); (case k12 => kmk_part); (case k13 => kmk_part); (case k14 => exact set_all _ _); intro h' F' N')))
  (k_with "setAttr ref" => (k_dflt (refine' acc_set ?k1 ?k2 ?k3 ?k4 ?k5 ?k6 ?k7 ?k7b ?k7c ?k8 ?k9 ?k10 ?k11 ?k12 ?k13 ?_; (case k1 => k_asm); (case k2 => k_asm); (case k3 => k_asm); (case k4 => k_inst); (case k5 => exact rfl); (case k6 => k_is); (case k7 => k_is); (case k7b => exact rfl); (case k7c => exact rfl); (case k8 => k_is); (case k9 => k_is); (case k10 => exact rfl); (case k11 => exact put_acc _ _ _ _ _ _ _ _); (case k12 => k_upd); (case k13 => exact Nat.le_of_ble_eq_true rfl); intro h' F' N')))
  k_steps
  rename_i kF kN _ _
  exact hret _ _ _ _ _ _ kF kN
end Mine
end
section
open PySem PySem.W PyProof.Rows
namespace Mine
theorem cleanAcc84j : True := by
  k_with_none
  w_top off
  trivial
structure Ent where
  a : Addr
  t1 : Tok
  t2 : Tok
  c : Bool
abbrev ltr (c : Bool) : Str := cond c (Str.ofString "a") (Str.ofString "b")
abbrev Ent.val (e : Ent) : Value := .ref e.a
abbrev Ent.obj (e : Ent) : Obj := tup2 (.str (Str.ofString "") e.t1) (.str (ltr e.c) e.t2)
structure StkOk (bs R0 : List (Addr × Obj)) (st dx : Addr) (es : List Ent) (rest : List (Addr × Obj)) : Prop where
  ne : @Ne Nat st dx
  s : ∀ p ∈ rest, p.1 ≠ st
  d : ∀ p ∈ rest, p.1 ≠ dx
  b : ∀ p ∈ bs, p ∈ rest
  m : ∀ e ∈ es, (e.a, e.obj) ∈ rest ∧ ((e.a, e.obj) ∈ R0 ∨ ∀ q ∈ bs, q.1 < e.a)
theorem StkOk.cons {bs R0 : List (Addr × Obj)} {st dx : Addr} {es : List Ent} {rest : List (Addr × Obj)} (h : StkOk bs R0 st dx es rest) {a : Addr} {o : Obj} (h1 : st < a) (h2 : dx < a) : StkOk bs R0 st dx es ((a, o) :: rest) where
  ne := h.ne
  s := fun p hp => by
    rcases List.mem_cons.mp hp with rfl | hp
    · exact Nat.ne_of_gt h1
    · exact h.s p hp
  d := fun p hp => by
    rcases List.mem_cons.mp hp with rfl | hp
    · exact Nat.ne_of_gt h2
    · exact h.d p hp
  b := fun p hp => .tail _ (h.b p hp)
  m := fun e he => ⟨.tail _ (h.m e he).1, (h.m e he).2⟩
theorem StkOk.put {bs R0 : List (Addr × Obj)} {st dx : Addr} {es : List Ent} {e : Ent} {rest : List (Addr × Obj)} (h : StkOk bs R0 st dx es ((e.a, e.obj) :: rest)) (hf : ∀ q ∈ bs, q.1 < e.a) : StkOk bs R0 st dx (es ++ [e]) ((e.a, e.obj) :: rest) where
  ne := h.ne
  s := h.s
  d := h.d
  b := h.b
  m := fun x hx => by
    rcases List.mem_append.mp hx with hx | hx
    · exact h.m x hx
    · rw [List.mem_singleton.mp hx]; exact ⟨.head _, .inr hf⟩
theorem StkOk.sub {bs R0 : List (Addr × Obj)} {st dx : Addr} {es es' : List Ent} {rest : List (Addr × Obj)} (h : StkOk bs R0 st dx es rest) (hs : ∀ e ∈ es', e ∈ es) : StkOk bs R0 st dx es' rest := ⟨h.ne, h.s, h.d, h.b, fun e he => h.m e (hs e he)⟩
theorem push2_claim (w : World) (st dx : Addr) (vs : List Value) (v1 v2 : Value) (n k : Nat) (t1 t2 : Tok) (rest : List (Addr × Obj)) (es : List Ent) {bs R0 : List (Addr × Obj)} (ok : StkOk bs R0 st dx es rest) (hz : vs.length ≤ 1000) :
   Cl w 45 ((st, accObj dx vs n) :: (dx, accDict w t1 t2 k) :: rest) [.ref st, v1, v2] 1 8 (fun K => ∀ a, StkOk bs R0 st dx es ((a, tup2 v1 v2) :: rest) → (∀ q ∈ bs, q.1 < a) → K ((st, accObj dx (vs ++ [.ref a]) (n + 1)) :: (dx, accDict w t1 t2 k) :: (a, tup2 v1 v2) :: rest) .none) := by
  intro hr mean mg mb dp un gd cn cs a ccd cl outer A₀ base h₀ L m s Q E b1 b2 b3 b4 b5 b6 b7 b8 hret
  refine push_claim w st dx vs v1 v2 n k t1 t2 rest ok.ne ok.s hz hr mean mg mb dp un gd cn cs a ccd cl outer A₀ base h₀ L m s Q E b1 b2 b3 b4 b5 b6 b7 b8 ?_
  intro a hlt h' tk' F' N'
  refine hret a (ok.cons (hlt (st, _) (.head _)) (hlt (dx, accDict w t1 t2 k) (.tail _ (.head _)))) (fun q hq => hlt q (.tail _ (.tail _ (ok.b q hq)))) h' tk' F' (cb_drop N' ?_)
  intro p hp
  rcases List.mem_cons.mp hp with rfl | hp
  · exact .tail _ (.head _)
  · rcases List.mem_cons.mp hp with rfl | hp
    · exact .tail _ (.tail _ (.head _))
    · rcases List.mem_cons.mp hp with rfl | hp
      · exact .head _
      · exact .tail _ (.tail _ (.tail _ hp))
theorem popfrom2_claim (w : World) (st dx : Addr) (l : List Value) (hl : l ≠ []) (n k : Nat) (t1 t2 t3 : Tok) (rest : List (Addr × Obj)) (es : List Ent) {bs R0 : List (Addr × Obj)} (ok : StkOk bs R0 st dx es rest) (hz : l.length ≤ 900) :
   Cl w 53 ((st, accObj dx l n) :: (dx, accDict w t1 t2 k) :: rest) [.ref st, .int 1 t3] 1 8 (fun K => ∀ a n', StkOk bs R0 st dx es ((a, listOf (l.drop 1).toArray 0) :: rest) → K ((st, accObj dx (l.take 1) n') :: (dx, accDict w t1 t2 k) :: (a, listOf (l.drop 1).toArray 0) :: rest) (.ref a)) := by
  cases l with
  | nil => exact absurd rfl hl
  | cons v vs =>
  intro hr mean mg mb dp un gd cn cs a ccd cl outer A₀ base h₀ L m s Q E b1 b2 b3 b4 b5 b6 b7 b8 hret
  refine popfrom_claim w st dx v vs n k t1 t2 t3 rest ok.ne ok.s (by simp only [List.length_cons] at hz; omega) hr mean mg mb dp un gd cn cs a ccd cl outer A₀ base h₀ L m s Q E b1 b2 b3 b4 b5 b6 b7 b8 ?_
  intro a n' hlt h' tk' F' N'
  refine hret a n' (ok.cons (hlt (st, _) (.head _)) (hlt (dx, accDict w t1 t2 k) (.tail _ (.head _)))) h' tk' F' (cb_drop N' ?_)
  intro p hp
  rcases List.mem_cons.mp hp with rfl | hp
  · exact .tail _ (.head _)
  · rcases List.mem_cons.mp hp with rfl | hp
    · exact .tail _ (.tail _ (.head _))
    · rcases List.mem_cons.mp hp with rfl | hp
      · exact .head _
      · exact .tail _ (.tail _ (.tail _ hp))
theorem bounds_init (n : Nat) : sliceBounds none (some (-1)) none n = (((0 : Nat) : Int), ((n - 1 : Nat) : Int), 1) := by
  simp only [sliceBounds, Option.getD_none, show (1 : Int) > 0 by decide, if_true, if_pos (show (-1 : Int) < 0 by decide)]
  refine Prod.ext rfl (Prod.ext ?_ rfl)
  simp only
  omega
theorem pick_init (vs : List Value) : (slicePick vs.toArray none (some (-1)) none).toList = vs.dropLast := by
  rw [kmk_pick_nat _ (bounds_init _)]
  simp [List.dropLast_eq_take]
def LaidOut (w : World) (bs R0 : List (Addr × Obj)) (st dx : Addr) (rest : List (Addr × Obj)) (ds : List Bool) (K : List (Addr × Obj) → Value → Prop) : Prop :=
  ∀ es' n' k' u1 u2 rest', es'.map Ent.c = ds → StkOk bs R0 st dx es' rest' → (∀ p ∈ rest, p ∈ rest') → K ((st, accObj dx (es'.map Ent.val) n') :: (dx, accDict w u1 u2 k') :: rest') .none
theorem pop0_after {h₀ h : Heap} {L : Addr} {p q r : Addr × Obj} {rest : List (Addr × Obj)} (N : News h₀ L h (p :: q :: r :: rest)) : News h₀ L h (q :: r :: p :: rest) := cb_drop N fun x hx => by
  rcases List.mem_cons.mp hx with rfl | hx
  · exact .tail _ (.head _)
  · rcases List.mem_cons.mp hx with rfl | hx
    · exact .tail _ (.tail _ (.head _))
    · rcases List.mem_cons.mp hx with rfl | hx
      · exact .head _
      · exact .tail _ (.tail _ (.tail _ hx))
theorem pop0_ok {bs R0 : List (Addr × Obj)} {st dx a : Addr} {es : List Ent} {o1 o2 o : Obj} {rest : List (Addr × Obj)} (h : StkOk bs R0 st dx es rest) (hl : ∀ p ∈ (st, o1) :: (dx, o2) :: rest, p.1 < a) : StkOk bs R0 st dx es ((a, o) :: rest) :=
  h.cons (hl (st, o1) (.head _)) (hl (dx, o2) (.tail _ (.head _)))
local macro_rules | `(tactic| k_mem) => `(tactic| first | assumption | ktr_member | exact List.mem_cons_self | (refine List.mem_cons_of_mem _ ?_; k_mem))
local macro_rules | `(tactic| k_inst) => `(tactic| exact acc_inst (by k_asm) (by k_mem) (by k_mem))
local macro_rules | `(tactic| k_all) => `(tactic| assumption)
set_option maxRecDepth 100000 in
set_option maxHeartbeats 8000000 in
theorem laid0_claim (w : World) (st dx : Addr) (n k : Nat) (t1 t2 t3 t4 : Tok) (c : Bool) (most : Int) (rest : List (Addr × Obj)) {bs R0 : List (Addr × Obj)} (ok : StkOk bs R0 st dx [] rest) (hm : 1 ≤ most) :
   Cl w 154 ((st, accObj dx [] n) :: (dx, accDict w t1 t2 k) :: rest) [.ref st, .str (ltr c) t3, .int most t4] 7 60 (LaidOut w bs R0 st dx rest [c]) := by
  dsimp only [Cl]
  k_fill
  intros; rename_i hret
  (k_with "getMethod ref" => (k_dflt (refine' acc_method ?k1 ?k2 ?k3 ?k4 ?k5 ?k6 ?k7 ?k8 ?_; (case k1 => k_in); (case k2 => k_inst); (case k3 => k_is); (case k4 => k_is); (case k5 => k_is); (case k6 => k_is); (case k7 => decide); (case k8 => rfl))))
  (k_with "call ref" => ((with_reducible show wpAny _ _ (PySem.call (Value.ref 61) _ _) _ _ _); refine' (pop0_claim _ _ _ _ _ _ _ _ ?kh ?kg).use ?k1 ?k2 ?k3 ?k4 ?k5 ?kK ?kd ?ku ?_; (case k4 => k_asm); (case k1 => k_asm); (case k2 => k_asm); (case k3 => k_asm); (case k5 => k_asm); (case kh => first | assumption | k_mem); (case kg => first | assumption | k_mem); (case kK => first | exact rfl | assumption); (case kd => ktr_room); (case ku => ktr_units); intro a9 u91 u92 l9 h9 tk9 F9 N9; (have N99 := pop0_after N9); (have ok9 := pop0_ok (o := tup2 (.str (Str.ofString "") u91) (.str (Str.ofString "") u92)) ok l9); (clear N9); (try dsimp only); (try k_fold)))
  (k_with "call ref" => ((with_reducible show wpAny _ _ (PySem.call (Value.ref 45) _ _) _ _ _); refine' (push2_claim _ _ _ _ _ _ _ _ _ _ _ _ ?ok ?hz).use ?k1 ?k2 ?k3 ?k4 ?k5 ?kK ?kd ?ku ?_; (case k4 => k_asm); (case k1 => k_asm); (case k2 => k_asm); (case k3 => k_asm); (case k5 => k_asm); (case ok => assumption); (case hz => simp); (case kK => first | exact rfl | assumption); (case kd => ktr_room); (case ku => ktr_units); intro a8 ok8 f8 h8 tk8 F8 N8; (try dsimp only); (try k_fold)))
  (k_with "call ref" => ((with_reducible show wpAny _ _ (PySem.call (Value.ref 98) _ _) _ _ _); refine' (pc_claim _ _ _ _ _ _ _ _ _ ?kh ?kg).use ?k1 ?k2 ?k3 ?k4 ?k5 ?kK ?kd ?ku ?_; (case k4 => k_asm); (case k1 => k_asm); (case k2 => k_asm); (case k3 => k_asm); (case k5 => k_asm); (case kh => first | assumption | k_mem); (case kg => first | assumption | k_mem); (case kK => first | exact rfl | assumption); (case kd => ktr_room); (case ku => ktr_units); intro t9 h9 tk9 F9 N9; (try dsimp only); (try k_fold)))
  cases c <;> dsimp only [ltr, cond] <;> (
    refine wpAny_call ?_
    k_dflt cell_enter
    k_steps
    · rename_i hlt
      exfalso
      simp only [List.nil_append, List.length_cons, List.length_nil] at hlt
      omega
    · rename_i kF kN _ _
      first
        | exact hret [⟨a8, _, _, false⟩] _ _ _ _ _ rfl (ok8.put (e := ⟨a8, _, _, false⟩) (es := []) f8) (fun p hp => .tail _ (.tail _ hp)) _ _ kF kN
        | exact hret [⟨a8, _, _, true⟩] _ _ _ _ _ rfl (ok8.put (e := ⟨a8, _, _, true⟩) (es := []) f8) (fun p hp => .tail _ (.tail _ hp)) _ _ kF kN)
end Mine
end
section
open PySem PySem.W PyProof.Rows
namespace Mine
theorem cleanAcc84k : True := by
  k_with_none
  w_top off
  trivial
theorem slice_ok {bs R0 : List (Addr × Obj)} {h₀ h : Heap} {L st dx a : Addr} {es : List Ent} {o1 o2 o : Obj} {rest : List (Addr × Obj)} (_N : News h₀ L h ((a, o) :: (st, o1) :: (dx, o2) :: rest)) (h : StkOk bs R0 st dx es rest) (hl : ∀ p ∈ (st, o1) :: (dx, o2) :: rest, p.1 < a) : StkOk bs R0 st dx es ((a, o) :: rest) := pop0_ok h hl
theorem reset2_claim (w : World) (st dx l : Addr) (es : List Ent) (vs ws : List Value) (n k j : Nat) (t1 t2 : Tok) (rest : List (Addr × Obj)) {bs R0 : List (Addr × Obj)} (ok : StkOk bs R0 st dx es ((l, listOf ws.toArray j) :: rest)) (hz : vs.length ≤ 900) (hw : ws.length ≤ 900) :
   Cl w 83 ((st, accObj dx vs n) :: (dx, accDict w t1 t2 k) :: (l, listOf ws.toArray j) :: rest) [.ref st, .ref l] 1 8 (fun K => ∀ n' k' t1' t2', K ((st, accObj dx ws n') :: (dx, accDict w t1' t2' k') :: (l, listOf ws.toArray j) :: rest) .none) :=
  reset_claim w st dx l vs ws n k j t1 t2 _ ok.ne ok.s ok.d hz hw (.head _)
theorem laid_over {w : World} {bs R0 : List (Addr × Obj)} {st dx : Addr} {es : List Ent} {rest rest' : List (Addr × Obj)} {ds : List Bool} {K : List (Addr × Obj) → Value → Prop} (hret : LaidOut w bs R0 st dx rest ds K) (ok : StkOk bs R0 st dx es rest') (x1 x2 : Ent) (h1 : (x1.a, x1.obj) ∈ rest') (h2 : (x2.a, x2.obj) ∈ rest') (f1 : ∀ q ∈ bs, q.1 < x1.a) (f2 : ∀ q ∈ bs, q.1 < x2.a) (hs : ∀ p ∈ rest, p ∈ rest')
    (hds : (((es.map Ent.c ++ [x1.c]) ++ [x2.c]).drop 1).dropLast = ds) (n' k' : Nat) (u1 u2 : Tok) : K ((st, accObj dx (((es.map Ent.val ++ [Value.ref x1.a] ++ [Value.ref x2.a]).drop 1).dropLast) n') :: (dx, accDict w u1 u2 k') :: rest') .none := by
  have e : (((es ++ [x1] ++ [x2]).drop 1).dropLast).map Ent.val = ((es.map Ent.val ++ [Value.ref x1.a] ++ [Value.ref x2.a]).drop 1).dropLast := by simp [List.map_dropLast, List.map_drop]
  rw [← e]
  refine hret _ n' k' u1 u2 rest' (by rw [← hds]; simp [List.map_dropLast, List.map_drop]) ⟨ok.ne, ok.s, ok.d, ok.b, fun x hx => ?_⟩ hs
  have hx := List.mem_of_mem_drop (List.dropLast_subset _ hx)
  simp only [List.mem_append, List.mem_singleton, or_assoc] at hx
  rcases hx with hx | rfl | rfl
  · exact ok.m x hx
  · exact ⟨h1, .inr f1⟩
  · exact ⟨h2, .inr f2⟩
theorem laid_on {w : World} {bs R0 : List (Addr × Obj)} {st dx : Addr} {es : List Ent} {rest rest' : List (Addr × Obj)} {ds : List Bool} {K : List (Addr × Obj) → Value → Prop} (hret : LaidOut w bs R0 st dx rest ds K) (ok : StkOk bs R0 st dx es rest') (x1 x2 : Ent) (h1 : (x1.a, x1.obj) ∈ rest') (h2 : (x2.a, x2.obj) ∈ rest') (f1 : ∀ q ∈ bs, q.1 < x1.a) (f2 : ∀ q ∈ bs, q.1 < x2.a) (hs : ∀ p ∈ rest, p ∈ rest')
    (hds : (es.map Ent.c ++ [x1.c]) ++ [x2.c] = ds) (n' k' : Nat) (u1 u2 : Tok) : K ((st, accObj dx (es.map Ent.val ++ [.ref x1.a] ++ [.ref x2.a]) n') :: (dx, accDict w u1 u2 k') :: rest') .none := by
  have e : (es ++ [x1] ++ [x2]).map Ent.val = es.map Ent.val ++ [Value.ref x1.a] ++ [Value.ref x2.a] := by simp
  rw [← e]
  refine hret _ n' k' u1 u2 rest' (by rw [← hds]; simp) ⟨ok.ne, ok.s, ok.d, ok.b, fun x hx => ?_⟩ hs
  simp only [List.mem_append, List.mem_singleton, or_assoc] at hx
  rcases hx with hx | rfl | rfl
  · exact ok.m x hx
  · exact ⟨h1, .inr f1⟩
  · exact ⟨h2, .inr f2⟩
theorem slice_init {prog : Program} {w : World} {A : Around} {E : Value → Shared → Prop} {h : Heap} {g : Array GenState} {d : Drawn} {t : Nat} {os : OsState} {h₀ : Heap} {L l : Addr} {m : Str → Option Value} {news : List (Addr × Obj)} {value slice : PySem.Expr} {vs : List Value} {vl vu : Value} {Q : Value → Shared → Prop}
    (F : Fr h₀ L h m) (N : News h₀ L h news) (hl : h.IsList l vs.toArray) (pl : IsPart vl none) (pu : IsPart vu (some (-1)))
    (hq : ∀ D h', Fr h₀ L h' m → News h₀ L h' ((D, listOf vs.dropLast.toArray 0) :: news) → (∀ p ∈ news, p.1 < D) → Q (.ref D) ⟨h', g, d, t, os⟩)
    (hs : subscripted slice false (.ref l) (.ref h.objs.size) = operate [.ref h.objs.size, .ref l] (getItem (.ref l) (.ref h.objs.size))) (ht : ∀ r, letTemporaryGo value (.ref l) r = pure ()) (hz : vs.toArray.size ≤ sizeLine) :
    wpAny (model prog w) A (subscriptTail value slice (.ref l) (.ref h.objs.size)) Q E ⟨h.push { cls := .type "slice", data := .fields #[vl, vu, .none] }, g, d, t, os⟩ :=
  kmk_slice_lit (s := ⟨h, g, d, t, os⟩) F N hl pl pu (pick_init vs) hq hs ht hz
local macro_rules | `(tactic| k_mem) => `(tactic| first | assumption | ktr_member | exact List.mem_cons_self | (refine List.mem_cons_of_mem _ ?_; k_mem))
local macro_rules | `(tactic| k_inst) => `(tactic| exact acc_inst (by k_asm) (by k_mem) (by k_mem))
local macro_rules | `(tactic| k_all) => `(tactic| assumption)
set_option maxRecDepth 100000 in
set_option maxHeartbeats 8000000 in
theorem laid1_claim (w : World) (st dx : Addr) (es : List Ent) (e : Ent) (n k : Nat) (t1 t2 t3 t4 : Tok) (c : Bool) (most : Int) (rest : List (Addr × Obj)) {bs R0 : List (Addr × Obj)} (ok : StkOk bs R0 st dx (es ++ [e]) rest) (hz : es.length ≤ 800) :
   Cl w 154 ((st, accObj dx (es.map Ent.val ++ [e.val]) n) :: (dx, accDict w t1 t2 k) :: rest) [.ref st, .str (ltr c) t3, .int most t4] 7 60 (LaidOut w bs R0 st dx rest (if e.c = c then es.map Ent.c else if most < ((es.length + 2 : Nat) : Int) then (((es.map Ent.c ++ [e.c]) ++ [c]).drop 1).dropLast else (es.map Ent.c ++ [e.c]) ++ [c])) := by
  have hin : (e.a, e.obj) ∈ rest := (ok.m e (by simp)).1
  have ok7 : StkOk bs R0 st dx es rest := ok.sub fun e he => List.mem_append_left _ he
  dsimp only [Cl]
  k_fill
  intros; rename_i hret
  (k_with "getMethod ref" => (k_dflt (refine' acc_method ?k1 ?k2 ?k3 ?k4 ?k5 ?k6 ?k7 ?k8 ?_; (case k1 => k_in); (case k2 => k_inst); (case k3 => k_is); (case k4 => k_is); (case k5 => k_is); (case k6 => k_is); (case k7 => decide); (case k8 => rfl))))
  (k_with "call ref" => ((with_reducible show wpAny _ _ (PySem.call (Value.ref 61) _ _) _ _ _); refine' (pop_claim _ _ _ _ _ _ _ _ _ _ ?kn ?ks ?kz).use ?k1 ?k2 ?k3 ?k4 ?k5 ?kK ?kd ?ku ?_; (case k4 => k_asm); (case k1 => k_asm); (case k2 => k_asm); (case k3 => k_asm); (case k5 => k_asm); (case kn => exact ok.ne); (case ks => exact ok.s); (case kz => (simp only [List.length_map]; omega)); (case kK => first | exact rfl | assumption); (case kd => ktr_room); (case ku => ktr_units); intro h9 tk9 F9 N9; (try dsimp only); (try k_fold)))
  (k_with "call ref" => ((with_reducible show wpAny _ _ (PySem.call (Value.ref 45) _ _) _ _ _); refine' (push2_claim _ _ _ _ _ _ _ _ _ _ _ _ ?ok ?hz).use ?k1 ?k2 ?k3 ?k4 ?k5 ?kK ?kd ?ku ?_; (case k4 => k_asm); (case k1 => k_asm); (case k2 => k_asm); (case k3 => k_asm); (case k5 => k_asm); (case ok => assumption); (case hz => (simp only [List.length_map, List.length_append, List.length_cons, List.length_nil]; omega)); (case kK => first | exact rfl | assumption); (case kd => ktr_room); (case ku => ktr_units); intro a8 ok8 f8 h8 tk8 F8 N8; (try dsimp only); (try k_fold)))
  (k_with "call ref" => ((with_reducible show wpAny _ _ (PySem.call (Value.ref 98) _ _) _ _ _); refine' (pc_claim _ _ _ _ _ _ _ _ _ ?kh ?kg).use ?k1 ?k2 ?k3 ?k4 ?k5 ?kK ?kd ?ku ?_; (case k4 => k_asm); (case k1 => k_asm); (case k2 => k_asm); (case k3 => k_asm); (case k5 => k_asm); (case kh => first | assumption | k_mem); (case kg => first | assumption | k_mem); (case kK => first | exact rfl | assumption); (case kd => ktr_room); (case ku => ktr_units); intro t9 h9 tk9 F9 N9; (try dsimp only); (try k_fold)))
  (k_with "call ref" => ((with_reducible show wpAny _ _ (PySem.call (Value.ref 53) _ _) _ _ _); refine' (popfrom2_claim _ _ _ _ ?hl _ _ _ _ _ _ _ ?ok ?hz).use ?k1 ?k2 ?k3 ?k4 ?k5 ?kK ?kd ?ku ?_; (case k4 => k_asm); (case k1 => k_asm); (case k2 => k_asm); (case k3 => k_asm); (case k5 => k_asm); (case ok => assumption); (case hl => simp); (case hz => (simp only [List.length_map, List.length_append, List.length_cons, List.length_nil]; omega)); (case kK => first | exact rfl | assumption); (case kd => ktr_room); (case ku => ktr_units); intro a6 n6 ok6 h8 tk8 F8 N8; (try dsimp only); (try k_fold)))
  (k_with "call ref" => ((with_reducible show wpAny _ _ (PySem.call (Value.ref 83) _ _) _ _ _); refine' (reset2_claim _ _ _ _ _ _ _ _ _ _ _ _ _ ?ok ?hz ?hy).use ?k1 ?k2 ?k3 ?k4 ?k5 ?kK ?kd ?ku ?_; (case k4 => k_asm); (case k1 => k_asm); (case k2 => k_asm); (case k3 => k_asm); (case k5 => k_asm); (case ok => assumption); (case hz => (simp only [List.length_take, List.length_map, List.length_append, List.length_cons, List.length_nil]; omega)); (case hy => (simp only [List.length_dropLast, List.length_drop, List.length_map, List.length_append, List.length_cons, List.length_nil]; omega)); (case kK => first | exact rfl | assumption); (case kd => ktr_room); (case ku => ktr_units); intro n5 k5 t15 t25 h8 tk8 F8 N8; (try dsimp only); (try k_fold)))
  (k_with "subscriptTail Name Slice ref ref" => (k_dflt (refine' slice_init ?jF ?jN ?jl ?jp ?jq ?_ ?js ?jt ?jz; (case jF => k_asm); (case jN => k_asm); (case jl => exact News.isList (by k_asm) (.tail _ (.tail _ (.head _)))); (case jp => kmk_part); (case jq => kmk_part); (case js => with_unfolding_all rfl); (case jt => kmk_pure); (case jz => (simp only [List.size_toArray, List.length_map, List.length_append, List.length_drop, List.length_cons, List.length_nil, sizeLine_eq]; omega)); intro D' h' F' N' l1; (have N98 := pop0_after N'); (have ok9 := slice_ok N' ok6 l1); (clear N'))))
  cases c <;> cases hc : e.c <;> dsimp only [ltr, cond, Ent.obj] at *
  · simp only [hc] at hin
    refine wpAny_call ?_
    k_dflt cell_enter
    k_steps
    rename_i kF kN _ _
    exact hret es _ _ _ _ rest (by rw [hc]; rfl) ok7 (fun p hp => hp) _ _ kF kN
  · simp only [hc] at hin
    refine wpAny_call ?_
    k_dflt cell_enter
    k_steps
    · (with_reducible rename (most < _) => hlt)
      rename_i kF kN _ _
      refine laid_over hret (by assumption) ⟨_, _, _, true⟩ ⟨_, _, _, false⟩ (by k_mem) (by k_mem) (by assumption) (by assumption) ?_ ?_ _ _ _ _ _ _ kF kN
      · intro p hp
        repeat (first | exact hp | refine .tail _ ?_)
      · rw [if_neg (by rw [hc]; decide), if_pos (by simpa using hlt), hc]
    · rename_i hlt kF kN _ _
      refine laid_on hret (by assumption) ⟨_, _, _, true⟩ ⟨_, _, _, false⟩ (by k_mem) (by k_mem) (by assumption) (by assumption) ?_ ?_ _ _ _ _ _ _ kF kN
      · intro p hp
        repeat (first | exact hp | refine .tail _ ?_)
      · rw [if_neg (by rw [hc]; decide), if_neg (by simpa using hlt), hc]
  · simp only [hc] at hin
    refine wpAny_call ?_
    k_dflt cell_enter
    k_steps
    · (with_reducible rename (most < _) => hlt)
      rename_i kF kN _ _
      refine laid_over hret (by assumption) ⟨_, _, _, false⟩ ⟨_, _, _, true⟩ (by k_mem) (by k_mem) (by assumption) (by assumption) ?_ ?_ _ _ _ _ _ _ kF kN
      · intro p hp
        repeat (first | exact hp | refine .tail _ ?_)
      · rw [if_neg (by rw [hc]; decide), if_pos (by simpa using hlt), hc]
    · rename_i hlt kF kN _ _
      refine laid_on hret (by assumption) ⟨_, _, _, false⟩ ⟨_, _, _, true⟩ (by k_mem) (by k_mem) (by assumption) (by assumption) ?_ ?_ _ _ _ _ _ _ kF kN
      · intro p hp
        repeat (first | exact hp | refine .tail _ ?_)
      · rw [if_neg (by rw [hc]; decide), if_neg (by simpa using hlt), hc]
  · simp only [hc] at hin
    refine wpAny_call ?_
    k_dflt cell_enter
    k_steps
    rename_i kF kN _ _
    exact hret es _ _ _ _ rest (by rw [hc]; rfl) ok7 (fun p hp => hp) _ _ kF kN
end Mine
end
section
open PySem PySem.W PyProof.Rows
namespace Mine
def stmtBody : Stmt → List Stmt
  | .FunctionDef _ _ b .. => b
  | _ => []
def stmtScope : Stmt → Option Scope
  | .FunctionDef _ _ _ _ _ _ sc .. => some sc
  | _ => none
noncomputable def lastS : List Stmt → Option Stmt
  | [] => none
  | [a] => some a
  | _ :: r => lastS r
noncomputable def lawTail : { l : List Stmt // ((lastS PySem.Challenge.pw_pg0084_01.main.body).map stmtBody).map (List.drop 5) = some l } := by
  refine ⟨?l, ?h⟩
  case h =>
    conv => lhs; whnf; arg 1; whnf
noncomputable def lawScope : { l : Scope // ((lastS PySem.Challenge.pw_pg0084_01.main.body).bind stmtScope) = some l } := by
  refine ⟨?l, ?h⟩
  case h =>
    conv => lhs; whnf
end Mine
end
section
open PySem PySem.W PyProof.Rows
namespace Mine
section
variable {prog : Program} {w : World} {A : Around} {E : Value → Shared → Prop} {s : Shared} {env : Env} {h₀ : Heap} {target : Expr} {body : List Stmt} {Q : Flow → Shared → Prop}
/-- a turn's end: the iterators stand as they stood, the invariant holds of the rest -/
def TurnEnd (h₀ : Heap) (L : Addr) (s : Shared) (its keep : List (Addr × Obj)) (J : (Str → Option Value) → List (Addr × Obj) → Prop) (f : Flow) (s₂ : Shared) : Prop :=
  f = .next ∧ ∃ h' tk m' news', s₂ = { s with heap := h', toks := tk } ∧ Fr h₀ L h' m' ∧ News h₀ L h' (its ++ news') ∧ (∀ p ∈ news', ∀ q ∈ its, p.1 ≠ q.1) ∧ (∀ p ∈ keep, p ∈ news') ∧ J m' news'
theorem TurnEnd.mk {L : Addr} {its keep : List (Addr × Obj)} {J : (Str → Option Value) → List (Addr × Obj) → Prop} {h' : Heap} {tk : Nat} {m' : Str → Option Value} {all : List (Addr × Obj)} (news' : List (Addr × Obj)) (F : Fr h₀ L h' m') (N : News h₀ L h' all) (hs : ∀ p ∈ its ++ news', p ∈ all)
    (ho : ∀ p ∈ news', ∀ q ∈ its, p.1 ≠ q.1) (hk : ∀ p ∈ keep, p ∈ news') (hJ : J m' news') : TurnEnd h₀ L s its keep J .next { s with heap := h', toks := tk } :=
  ⟨rfl, h', tk, m', news', rfl, F, fun p hp => N p (hs p hp), ho, hk, hJ⟩
theorem subL_of {k n : List (Addr × Obj)} (h : ∀ p ∈ k, p ∈ n) : SubL k n := by
  induction k with
  | nil => trivial
  | cons a r ih => exact ⟨h a (.head _), ih fun p hp => h p (.tail _ hp)⟩
theorem allObj_of {ws : List (Addr × String)} {k : List (Addr × Obj) → Prop} (h : ∀ its, Objs ws its → k its) : AllObj ws k := by
  induction ws generalizing k with
  | nil => exact h [] trivial
  | cons a r ih =>
    refine AllObj.cons fun o ho => ih fun its hi => h _ ⟨⟨rfl, ho⟩, hi⟩
theorem items_inv {ws : List (Addr × String)} {keep : List (Addr × Obj)} (Inv : List Itm → (Str → Option Value) → List (Addr × Obj) → Prop)
    (step : ∀ a r m news its v h tk, Inv (a :: r) m news → Objs ws its → a.Is v h → (∀ p ∈ news, ∀ q ∈ its, p.1 ≠ q.1) → Fr h₀ env.locals h m → News h₀ env.locals h (its ++ news) →
      wpAny (model prog w) A (assign target env v) (fun _ s₂ => wpAny (model prog w) A (execs body env) (TurnEnd h₀ env.locals { s with heap := h, toks := tk } its keep (Inv r)) E s₂) E { s with heap := h, toks := tk })
    (fin : ∀ m news h tk, Inv [] m news → Fr h₀ env.locals h m → News h₀ env.locals h news → Q .next { s with heap := h, toks := tk }) :
    ∀ xs m news, Inv xs m news → (∀ p ∈ news, ∀ q ∈ ws, p.1 ≠ q.1) → ItemsRest prog w A E h₀ env target body Q s ws keep xs m news := by
  intro xs
  induction xs with
  | nil => exact fun m news hi _ => ItemsRest.zero fun h tk F N => fin m news h tk hi F N
  | cons a r ih =>
    intro m news hi hw v h tk ha F
    refine allObj_of fun its ho N => ?_
    have hoff : ∀ p ∈ news, ∀ q ∈ its, p.1 ≠ q.1 := by
      intro p hp q hq e
      have h1 : q.1 ∈ its.map (·.1) := List.mem_map.mpr ⟨q, hq, rfl⟩
      rw [ho.map] at h1
      obtain ⟨u, hu, e2⟩ := List.mem_map.mp h1
      exact hw p hp u hu (e.trans e2.symm)
    refine wpAny_mono (step a r m news its v h tk hi ho ha hoff F N) (fun _ s₂ h₂ => wpAny_mono h₂ (fun f s₃ h₃ => ?_) fun _ _ e => e) fun _ _ e => e
    obtain ⟨rfl, h', tk', m', news', rfl, F', N', ho', hk', hJ'⟩ := h₃
    refine ⟨h', tk', m', news', rfl, F', N', ho', subL_of hk', ih m' news' hJ' fun p hp u hu e => ?_⟩
    have h1 : u.1 ∈ ws.map (·.1) := List.mem_map.mpr ⟨u, hu, rfl⟩
    rw [← ho.map] at h1
    obtain ⟨q, hq, e2⟩ := List.mem_map.mp h1
    exact ho' p hp q hq (e.trans e2.symm)
theorem for_list {ax : Addr} {lo : Obj} {vs : List Value} {n : Nat} {m₀ : Str → Option Value} {news : List (Addr × Obj)}
    (hh : A.handled = none) (F : Fr h₀ env.locals s.heap m₀) (N : News h₀ env.locals s.heap news) (hm : (ax, lo) ∈ news) (hc : lo.cls = .type "list") (hd : lo.data = .seq vs.toArray n)
    (Inv : List Value → (Str → Option Value) → List (Addr × Obj) → Prop) (h0 : Inv vs m₀ news)
    (step : ∀ v r m news I io h tk, Inv (v :: r) m news → (∀ p ∈ news, p.1 ≠ I) → Fr h₀ env.locals h m → News h₀ env.locals h ((I, io) :: news) →
      wpAny (model prog w) A (assign target env v) (fun _ s₂ => wpAny (model prog w) A (execs body env) (TurnEnd h₀ env.locals { s with heap := h, toks := tk } [(I, io)] [(ax, lo)] (Inv r)) E s₂) E { s with heap := h, toks := tk })
    (fin : ∀ m news h tk, Inv [] m news → Fr h₀ env.locals h m → News h₀ env.locals h news → Q .next { s with heap := h, toks := tk }) :
    wpAny (model prog w) A (pyIter (.ref ax)) (fun it s₂ => TurnsAt prog w A h₀ env target body Q E it s₂) E s := by
  refine iter_listTurns hh F N hm hc hd fun I hI => ?_
  refine items_inv (fun xs m news => ∃ vs, xs = vs.map Itm.val ∧ Inv vs m news) ?_ ?_ _ _ _ ⟨vs, rfl, h0⟩ fun p hp q hq e => ?_
  · rintro a r m news its v h tk ⟨vs, e, hi⟩ ho ha hoff F N
    cases vs with
    | nil => cases e
    | cons u us =>
      obtain ⟨rfl, rfl⟩ := List.cons.inj e
      obtain rfl : v = u := ha
      have hmap := ho.map
      rcases its with _ | ⟨⟨I', io⟩, _ | ⟨q2, q3⟩⟩
      · simp at hmap
      · simp only [List.map_cons, List.map_nil, List.cons.injEq, and_true] at hmap
        subst hmap
        refine wpAny_mono (step v us m news I' io h tk hi (fun p hp => hoff p hp _ (.head _)) F N) (fun _ s₂ h₂ => wpAny_mono h₂ (fun f s₃ h₃ => ?_) fun _ _ e => e) fun _ _ e => e
        obtain ⟨rfl, h', tk', m', news', rfl, F', N', ho', hk', hJ'⟩ := h₃
        exact ⟨rfl, h', tk', m', news', rfl, F', N', ho', hk', us, rfl, hJ'⟩
      · simp at hmap
  · rintro m news h tk ⟨vs, e, hi⟩ F N
    cases vs with
    | nil => exact fin m news h tk hi F N
    | cons _ _ => cases e
  · rw [List.mem_singleton.mp hq] at e
    exact absurd (hI p hp) (e ▸ Nat.lt_irrefl _)
theorem for_range {x : Str} {r : Addr} {a₀ b₀ : Int} {t₀ u₀ v₀ : Tok} {n : Nat} {m₀ : Str → Option Value} {news : List (Addr × Obj)}
    (hh : A.handled = none) (hr : IsRange s.heap r a₀ b₀ 1 t₀ u₀ v₀) (hsmall : Builtin.Range.small a₀ b₀ 1 = true) (hn : Builtin.Range.rangeSize a₀ b₀ 1 = (n : Int)) (F : Fr h₀ env.locals s.heap m₀) (N : News h₀ env.locals s.heap news)
    (Inv : Nat → (Str → Option Value) → List (Addr × Obj) → Prop) (h0 : Inv 0 m₀ news)
    (step : ∀ i t m news I io h tk, i < n → Inv i m news → (∀ p ∈ news, p.1 ≠ I) → Fr h₀ env.locals h (fun y => if y = x then some (.int (a₀ + (i : Int)) t) else m y) → News h₀ env.locals h ((I, io) :: news) →
      wpAny (model prog w) A (execs body env) (TurnEnd h₀ env.locals { s with heap := h, toks := tk } [(I, io)] [] (Inv (i + 1))) E { s with heap := h, toks := tk })
    (fin : ∀ m news h tk, Inv n m news → Fr h₀ env.locals h m → News h₀ env.locals h news → Q .next { s with heap := h, toks := tk }) :
    wpAny (model prog w) A (pyIter (.ref r)) (fun it s₂ => LoopAtV prog w A h₀ env x body Q E it s₂) E s := by
  refine iter_rangeUnr hh hr hsmall hn F N fun I hI => ?_
  have go : ∀ k i m news, i + k = n → Inv i m news → (∀ p ∈ news, p.1 ≠ I) → RangeRest prog w A E h₀ env x body Q s I a₀ n k i m news := by
    intro k
    induction k with
    | zero =>
      intro i m news e hi _
      have e : i = n := by omega
      subst e
      exact RangeRest.zero fun h tk F N => fin m news h tk hi F N
    | succ k ih =>
      intro i m news e hi ho
      refine RangeRest.succ fun t h tk F N => ?_
      refine wpAny_mono (step i t m news I _ h tk (by omega) hi ho F N) (fun f s₃ h₃ => ?_) fun _ _ e => e
      obtain ⟨rfl, h', tk', m', news', rfl, F', N', ho', hk', hJ'⟩ := h₃
      exact ⟨h', tk', m', news', rfl, F', N', fun p hp => ho' p hp _ (.head _), ih (i + 1) m' news' (by omega) hJ' fun p hp => ho' p hp _ (.head _)⟩
  exact go n 0 m₀ news (by omega) h0 fun p hp e => absurd (hI p hp) (e ▸ Nat.lt_irrefl _)
end
end Mine
end
section
open PySem PySem.W PyProof.Rows
namespace Mine
structure Col where
  r : UInt64
  g : UInt64
  b : UInt64
structure CEnt where
  a : Addr
  c : Col
  t1 : Tok
  t2 : Tok
  t3 : Tok
structure PEnt where
  i : Int
  t : Tok
abbrev CEnt.val (e : CEnt) : Value := .ref e.a
abbrev CEnt.obj (e : CEnt) : Obj := tup3 (.float e.c.r e.t1) (.float e.c.g e.t2) (.float e.c.b e.t3)
abbrev PEnt.val (e : PEnt) : Value := .int e.i e.t
abbrev arI (g : Int) (x : Bool) : Int := cond x g 0
abbrev stepP (g p : Int) (x : Bool) : Int := (arI g x - p).fmod 48
abbrev colS (c : Col) (ar : Int) : Col := ⟨mirR c.r c.g c.b ar, mirG c.r c.g c.b ar, mirB c.r c.g c.b ar⟩
/-- what a colour near a place is, k mirrors on: the floats' part of the proof brings one -/
structure NearOk (Near : Nat → Int → Col → Prop) (g : Int) : Prop where
  g0 : 0 ≤ g
  g1 : g ≤ 100
  ok : ∀ k p c, k ≤ 60 → Near k p c → ColOk c.r c.g c.b ∧ placeF c.r c.g c.b = p
  go : ∀ k p c x, k ≤ 60 → Near k p c → Near (k + 1) (stepP g p x) (colS c (arI g x))
inductive Walked (Near : Nat → Int → Col → Prop) (g : Int) : List Int → List Col → Nat → Prop
  | start {p : Int} {c : Col} : Near 0 p c → Walked Near g [p] [c] 0
  | step {ps : List Int} {cs : List Col} {p : Int} {c : Col} {n : Nat} (x : Bool) : Walked Near g (ps ++ [p]) (cs ++ [c]) n → Near n p c → Walked Near g (ps ++ [p] ++ [stepP g p x]) (cs ++ [c] ++ [colS c (arI g x)]) (n + 1)
theorem appL {prog : Program} {w : World} {A : Around} {E : Value → Shared → Prop} {s : Shared} {h₀ : Heap} {L D : Addr} {m : Str → Option Value} {news news' : List (Addr × Obj)} {vs : List Value} {n : Nat} {x : Value} {Q : Value → Shared → Prop} (F : Fr h₀ L s.heap m) (N : News h₀ L s.heap news) (U : Upd D (listOf vs.toArray n) (listOf (vs ++ [x]).toArray (n + 1)) news news')
    (hz : vs.length ≤ 1000) (h : ∀ h', Fr h₀ L h' m → News h₀ L h' news' → Q .none { s with heap := h' }) : wpAny (model prog w) A (call (.builtin "list.append") [.ref D, x]) Q E s := by
  refine append_K (its := vs.toArray) F N (by rw [show vs.toArray.push x = (vs ++ [x]).toArray by simp]; exact U) h (by rw [List.size_toArray, sizeLine_eq]; omega)
theorem lastL {prog : Program} {w : World} {A : Around} {E : Value → Shared → Prop} {s : Shared} {h₀ : Heap} {L D : Addr} {news : List (Addr × Obj)} {vs : List Value} {v : Value} {n : Nat} {t : Tok} {Q : Value → Shared → Prop} (N : News h₀ L s.heap news) (hm : (D, listOf (vs ++ [v]).toArray n) ∈ news) (h : Q v s) :
    wpAny (model prog w) A (getItem (.ref D) (.int (-1) t)) Q E s := by
  refine wpAny_getItem_list_neg (N.isList hm) (by decide) (by simp; omega) (by decide) ?_ h
  have e : (-1 + ((vs ++ [v]).toArray.size : Int)).toNat = vs.length := by simp; omega
  rw [e]
  simp
theorem lastT {prog : Program} {w : World} {A : Around} {E : Value → Shared → Prop} {s : Shared} {h₀ : Heap} {L D : Addr} {news : List (Addr × Obj)} {vs : List Value} {v : Value} {n : Nat} {t : Tok} {value slice : PySem.Expr} {Q : Value → Shared → Prop} (N : News h₀ L s.heap news) (hm : (D, listOf (vs ++ [v]).toArray n) ∈ news) (h : Q v s)
    (hs : subscripted slice false (.ref D) (.int (-1) t) = operate [.ref D, .int (-1) t] (getItem (.ref D) (.int (-1) t))) :
    wpAny (model prog w) A (subscriptTail value slice (.ref D) (.int (-1) t)) Q E s :=
  tail_any (N.isList hm).typeIs slot_list_getitem.lookup (lastL N hm h) hs
noncomputable abbrev lawEnv (L fa : Addr) (gl : Value) : Env := envOf (Str.ofString "law") lawScope.1 L fa gl
/-- places and colours on the ledger -/
abbrev L6 (P C : Addr) (vP vC : List Value) (nP nC : Nat) (rest : List (Addr × Obj)) : List (Addr × Obj) := (P, listOf vP.toArray nP) :: (C, listOf vC.toArray nC) :: rest
structure LOk (P C : Addr) (es : List CEnt) (rest : List (Addr × Obj)) : Prop where
  ne : @Ne Nat P C
  s : ∀ p ∈ rest, p.1 ≠ P
  d : ∀ p ∈ rest, p.1 ≠ C
  m : ∀ e ∈ es, (e.a, e.obj) ∈ rest
def bodyOf : Stmt → List Stmt
  | .For _ _ b .. => b
  | _ => []
noncomputable def numBody : { l : List Stmt // lawTail.1.head?.map bodyOf = some l } := by
  refine ⟨?l, ?h⟩
  case h =>
    conv => lhs; whnf; arg 1; whnf
noncomputable def turnBody : { l : List Stmt // numBody.1.head?.map bodyOf = some l } := by
  refine ⟨?l, ?h⟩
  case h =>
    conv => lhs; whnf; arg 1; whnf
end Mine
end
section
open PySem PySem.W PyProof.Rows
namespace Mine
theorem cleanTail84b : True := by
  k_with_none
  w_top off
  trivial
local macro_rules | `(tactic| k_mem) => `(tactic| first | assumption | ktr_member | exact List.mem_cons_self | (refine List.mem_cons_of_mem _ ?_; k_mem))
local macro_rules | `(tactic| k_all) => `(tactic| assumption)
theorem around_ok {g : Int} (g0 : 0 ≤ g) (g1 : g ≤ 100) (i : Int) : ¬ Flt.Over ([0, g].getD i.toNat 0) := by
  have h : 0 ≤ [0, g].getD i.toNat 0 ∧ [0, g].getD i.toNat 0 ≤ 100 := by
    rcases i.toNat with _ | _ | n
    · simp
    · simp [g0, g1]
    · simp
  have h2 : ([0, g].getD i.toNat 0).natAbs ≤ 100 := by omega
  have h3 : (100 : Nat) < 2 ^ 1024 - 2 ^ 970 := by decide +kernel
  exact fun x => absurd (Nat.le_trans x h2) (Nat.not_le_of_lt h3)
def turnX (n k : Int) : Bool := decide ((n + k).fmod 2 = 1)
theorem turn_ar (n k g : Int) : [0, g].getD ((n + k).fmod 2).toNat 0 = arI g (turnX n k) := by
  have h0 := Int.fmod_nonneg_of_pos (n + k) (show (0 : Int) < 2 by decide)
  have h1 := Int.fmod_lt_of_pos (n + k) (show (0 : Int) < 2 by decide)
  unfold turnX arI
  generalize (n + k).fmod 2 = z at *
  have : z = 0 ∨ z = 1 := by omega
  rcases this with rfl | rfl <;> rfl
set_option maxRecDepth 100000 in
set_option maxHeartbeats 8000000 in
theorem turn_body (w : World) {mean : ExcName → Option Value} {mg mb : Str → Option Value} {base h₀ : Heap} {L fa P C : Addr} {gl : Value} {s : Shared} {Q : Flow → Shared → Prop} {E : Value → Shared → Prop} {m : Str → Option Value}
    {n k g : Int} {tn tt tg : Tok} {qs : List PEnt} {q : PEnt} {es : List CEnt} {e : CEnt} {nP nC : Nat} {rest : List (Addr × Obj)} {ma : Option Value}
    (B : Below callerA base [] h₀) (X : (heapB w.params).In h₀) (T : Top Hd.hd.view_39 lse mean mg mb h₀)
    (F : Fr h₀ L s.heap (fun y => if y = Str.ofString "turn" then some (.int k tt) else if y = Str.ofString "around" then ma else if y = Str.ofString "number" then some (.int n tn) else if y = Str.ofString "colours" then some (.ref C) else if y = Str.ofString "places" then some (.ref P) else if y = Str.ofString "gap" then some (.int g tg) else m y))
    (N : News h₀ L s.heap (L6 P C (qs.map PEnt.val ++ [.int q.i q.t]) (es.map CEnt.val ++ [.ref e.a]) nP nC rest)) (ok : LOk P C (es ++ [e]) rest) (hc : ColOk e.c.r e.c.g e.c.b) (hz : qs.length ≤ 100) (hz2 : es.length ≤ 100) (g0 : 0 ≤ g) (g1 : g ≤ 100) (hn : 0 ≤ n) (hn2 : n ≤ 1000000) (hk : 0 ≤ k) (hk2 : k ≤ 10)
    (hQ : ∀ (h' : Heap) (tk' : Nat) (t' : Tok) (q' : PEnt) (e' : CEnt) (nP' nC' : Nat) (new : List (Addr × Obj)), q'.i = stepP g q.i (turnX n k) → e'.c = colS e.c (arI g (turnX n k)) → LOk P C (es ++ [e] ++ [e']) (new ++ rest) → (e'.a, e'.obj) ∈ new → (∀ p ∈ new, ∀ r ∈ rest, r.1 < p.1) →
      Fr h₀ L h' (fun y => if y = Str.ofString "turn" then some (.int k tt) else if y = Str.ofString "around" then some (.int (arI g (turnX n k)) t') else if y = Str.ofString "number" then some (.int n tn) else if y = Str.ofString "colours" then some (.ref C) else if y = Str.ofString "places" then some (.ref P) else if y = Str.ofString "gap" then some (.int g tg) else m y) →
      News h₀ L h' (L6 P C (qs.map PEnt.val ++ [.int q.i q.t] ++ [.int q'.i q'.t]) (es.map CEnt.val ++ [.ref e.a] ++ [.ref e'.a]) nP' nC' (new ++ rest)) → Q .next { s with heap := h', toks := tk' }) :
    wpAny (model prg w) (callerA.deeper (lawEnv L fa gl)) (execs turnBody.1 (lawEnv L fa gl)) Q E s := by
  revert X
  refine (fun (f : PySem.Challenge.rw_pg0084_01 = PySem.Challenge.rw_pg0084_01 → _) => f rfl) ?_
  k_fill
  intro _ X
  dsimp only [turnBody, lawEnv, lawScope]
  have he : (e.a, tup3 (.float e.c.r e.t1) (.float e.c.g e.t2) (.float e.c.b e.t3)) ∈ rest := ok.m e (by simp)
  have hP := ok.s
  have hC := ok.d
  have hPC := ok.ne
  (k_with "subscriptTail" => ((with_reducible show wpAny _ _ (subscriptTail _ _ (Value.ref _) (Value.int (-1) _)) _ _ _); k_dflt (refine' lastT ?k1 ?k2 ?_ ?k3; (case k1 => k_asm); (case k2 => k_mem); (case k3 => with_unfolding_all rfl))))
  (k_with "call builtin:list.append" => (k_dflt (refine' appL ?k1 ?k2 ?k3 ?k4 ?_; (case k1 => k_asm); (case k2 => k_asm); (case k3 => k_upd); (case k4 => (simp only [List.length_map, List.length_append, List.length_cons, List.length_nil]; omega)); intro h' F' N')))
  (k_with "call ref" => ((with_reducible show wpAny _ _ (PySem.call (Value.ref 140) _ _) _ _ _); k_dflt (refine' (mirrored_claim _ _ _ _ _ _ _ _ _ _ _ ?hc ?ok ?ho).use ?k1 ?k2 ?k3 ?k4 ?k5 ?kK ?kd ?ku ?_; (case k1 => k_asm); (case k2 => k_asm); (case k3 => k_asm); (case k4 => k_asm); (case k5 => k_asm); (case hc => k_mem); (case ok => assumption); (case ho => exact around_ok g0 g1 _); (case kK => first | exact rfl | assumption); (case kd => exact Nat.le_of_ble_eq_true rfl); (case ku => exact Nat.le_of_ble_eq_true rfl); intro a9 u1 u2 u3 l9 h9 tk9 F9 N9; (try k_lt l9); (try dsimp only); (try k_fold))))
  k_steps
  rename_i l' h1 l1 t1 h2 F2 N2 tk2 h3 F3 N3 tk3
  rw [turn_ar] at F' N'
  obtain ⟨b1, b2, b3, b4⟩ := l9
  obtain ⟨c1, c2, c3⟩ := l1
  have b5 := allLt_to b4
  have c4 := allLt_to c3
  refine hQ h' _ t1 ⟨stepP g q.i (turnX n k), tk2 + 1 + 1 + 1 + 1⟩ ⟨a9, colS e.c (arI g (turnX n k)), u1, u2, u3⟩ (nP + 1) (nC + 1) [(a9, (⟨a9, colS e.c (arI g (turnX n k)), u1, u2, u3⟩ : CEnt).obj), (l', listOf #[Value.int 0 s.toks, Value.int g tg] 0)] rfl rfl ⟨ok.ne, ?_, ?_, ?_⟩ (.head _) ?_ ?_ (cb_drop N' ?_)
  · intro p hp
    rcases List.mem_cons.mp hp with rfl | hp
    · exact Nat.ne_of_gt b2
    rcases List.mem_cons.mp hp with rfl | hp
    · exact Nat.ne_of_gt c1
    exact ok.s p hp
  · intro p hp
    rcases List.mem_cons.mp hp with rfl | hp
    · exact Nat.ne_of_gt b3
    rcases List.mem_cons.mp hp with rfl | hp
    · exact Nat.ne_of_gt c2
    exact ok.d p hp
  · intro x hx
    rcases List.mem_append.mp hx with hx | hx
    · exact .tail _ (.tail _ (ok.m x hx))
    · rw [List.mem_singleton.mp hx]; exact .head _
  · intro p hp r hr
    rcases List.mem_cons.mp hp with rfl | hp
    · exact b5 r hr
    · rw [List.mem_singleton.mp hp]; exact c4 r hr
  · have e1 : (fun y => if y = Str.ofString "around" then some (Value.int (arI g (turnX n k)) t1) else if y = Str.ofString "turn" then some (.int k tt) else if y = Str.ofString "around" then ma else if y = Str.ofString "number" then some (.int n tn) else if y = Str.ofString "colours" then some (.ref C) else if y = Str.ofString "places" then some (.ref P) else if y = Str.ofString "gap" then some (.int g tg) else m y) = (fun y => if y = Str.ofString "turn" then some (.int k tt) else if y = Str.ofString "around" then some (.int (arI g (turnX n k)) t1) else if y = Str.ofString "number" then some (.int n tn) else if y = Str.ofString "colours" then some (.ref C) else if y = Str.ofString "places" then some (.ref P) else if y = Str.ofString "gap" then some (.int g tg) else m y) := by
      funext y
      by_cases h : y = Str.ofString "around"
      · subst h
        simp [show Str.ofString "around" ≠ Str.ofString "turn" from by decide +kernel]
      · simp only [if_neg h]
    rw [e1] at F'
    exact F'
  · intro p hp
    rcases List.mem_cons.mp hp with rfl | hp
    · exact .tail _ (.tail _ (.head _))
    rcases List.mem_cons.mp hp with rfl | hp
    · exact .tail _ (.tail _ (.tail _ (.head _)))
    rcases List.mem_cons.mp hp with rfl | hp
    · exact .head _
    rcases List.mem_cons.mp hp with rfl | hp
    · exact .tail _ (.head _)
    exact .tail _ (.tail _ (.tail _ (.tail _ hp)))
end Mine
end
section
open PySem PySem.W PyProof.Rows
namespace Mine
theorem cleanTail84c : True := by
  k_with_none
  w_top off
  trivial
def Hold (P : Prop) : Prop := P
theorem hold {P : Prop} (h : Hold P) : P := h
structure St6 (Near : Nat → Int → Col → Prop) (g : Int) (qs : List PEnt) (q : PEnt) (es : List CEnt) (e : CEnt) (n : Nat) : Prop where
  w : Walked Near g (qs.map PEnt.i ++ [q.i]) (es.map CEnt.c ++ [e.c]) n
  near : Near n q.i e.c
  lq : qs.length = n
  le : es.length = n
theorem St6.step {Near : Nat → Int → Col → Prop} {g : Int} {qs : List PEnt} {q q' : PEnt} {es : List CEnt} {e e' : CEnt} {n : Nat} (h : St6 Near g qs q es e n) (hN : NearOk Near g) (hn : n ≤ 60) (x : Bool) (h1 : q'.i = stepP g q.i x) (h2 : e'.c = colS e.c (arI g x)) : St6 Near g (qs ++ [q]) q' (es ++ [e]) e' (n + 1) where
  w := by
    have := h.w.step x h.near
    simp only [List.map_append, List.map_cons, List.map_nil]
    rw [h1, h2]
    exact this
  near := by rw [h1, h2]; exact hN.go n q.i e.c x hn h.near
  lq := by simp [h.lq]
  le := by simp [h.le]
/-- the frame's names while the colours are mirrored -/
abbrev m6 (m : Str → Option Value) (mt ma mn : Option Value) (P C : Addr) (g : Int) (tg : Tok) : Str → Option Value := fun y => if y = Str.ofString "turn" then mt else if y = Str.ofString "around" then ma else if y = Str.ofString "number" then mn else if y = Str.ofString "colours" then some (.ref C) else if y = Str.ofString "places" then some (.ref P) else if y = Str.ofString "gap" then some (.int g tg) else m y
local macro_rules | `(tactic| k_mem) => `(tactic| first | assumption | ktr_member | exact List.mem_cons_self | (refine List.mem_cons_of_mem _ ?_; k_mem))
local macro_rules | `(tactic| k_all) => `(tactic| assumption)
theorem small7 : ∀ b : Fin 8, Builtin.Range.small 0 (b.1 : Int) 1 = true ∧ Builtin.Range.rangeSize 0 (b.1 : Int) 1 = (b.1 : Int) := by decide +kernel
theorem ofNews {h₀ h : Heap} {L : Addr} {a b : List (Addr × Obj)} (N : News h₀ L h a) (hs : ∀ p ∈ b, p ∈ a) : News h₀ L h b := cb_drop N hs
theorem turns_loop (w : World) {mean : ExcName → Option Value} {mg mb : Str → Option Value} {base h₀ : Heap} {L fa P C r : Addr} {gl : Value} {s : Shared} {Q : Flow → Shared → Prop} {m : Str → Option Value} {Near : Nat → Int → Col → Prop}
    {n g b : Int} {tn tg t0 u0 v0 : Tok} {qs : List PEnt} {q : PEnt} {es : List CEnt} {e : CEnt} {nP nC cnt : Nat} {rest : List (Addr × Obj)} {mt ma : Option Value}
    (B : Below callerA base [] h₀) (X : (heapB w.params).In h₀) (T : Top Hd.hd.view_39 lse mean mg mb h₀)
    (hr : IsRange s.heap r 0 b 1 t0 u0 v0) (hb : 0 ≤ b) (hb7 : b ≤ 7)
    (F : Fr h₀ L s.heap (m6 m mt ma (some (.int n tn)) P C g tg))
    (N : News h₀ L s.heap (L6 P C (qs.map PEnt.val ++ [.int q.i q.t]) (es.map CEnt.val ++ [.ref e.a]) nP nC rest)) (ok : LOk P C (es ++ [e]) rest) (hN : NearOk Near g) (st : St6 Near g qs q es e cnt) (hcn : cnt ≤ 50) (hn : 0 ≤ n) (hn2 : n ≤ 1000000)
    (hQ : ∀ (h' : Heap) (tk' : Nat) (mt' ma' : Option Value) (qs' : List PEnt) (q' : PEnt) (es' : List CEnt) (e' : CEnt) (nP' nC' cnt' : Nat) (new : List (Addr × Obj)), cnt' ≤ cnt + 7 → St6 Near g qs' q' es' e' cnt' → LOk P C (es' ++ [e']) (new ++ rest) → (∀ x ∈ es' ++ [e'], (x.a, x.obj) ∈ new ∨ x ∈ es ++ [e]) → (∀ p ∈ new, ∀ r ∈ rest, r.1 < p.1) →
      Fr h₀ L h' (m6 m mt' ma' (some (.int n tn)) P C g tg) → News h₀ L h' (L6 P C (qs'.map PEnt.val ++ [.int q'.i q'.t]) (es'.map CEnt.val ++ [.ref e'.a]) nP' nC' (new ++ rest)) → Q .next { s with heap := h', toks := tk' }) :
    wpAny (model prg w) (callerA.deeper (lawEnv L fa gl)) (pyIter (.ref r)) (fun it s₂ => LoopAtV prg w (callerA.deeper (lawEnv L fa gl)) h₀ (lawEnv L fa gl) (Str.ofString "turn") turnBody.1 Q (fun _ _ => False) it s₂) (fun _ _ => False) s := by
  have hs := small7 ⟨b.toNat, by omega⟩
  have eb : ((b.toNat : Nat) : Int) = b := by omega
  simp only [eb] at hs
  refine for_range (n := b.toNat) rfl hr hs.1 (hs.2.trans eb.symm) F N
    (fun i m1 news => ∃ mt' ma' qs' q' es' e' nP' nC' new, m1 = m6 m mt' ma' (some (.int n tn)) P C g tg ∧ news = L6 P C (qs'.map PEnt.val ++ [.int q'.i q'.t]) (es'.map CEnt.val ++ [.ref e'.a]) nP' nC' (new ++ rest) ∧ St6 Near g qs' q' es' e' (cnt + i) ∧ LOk P C (es' ++ [e']) (new ++ rest) ∧ (∀ x ∈ es' ++ [e'], (x.a, x.obj) ∈ new ∨ x ∈ es ++ [e]) ∧ ∀ p ∈ new, ∀ r ∈ rest, r.1 < p.1)
    ⟨mt, ma, qs, q, es, e, nP, nC, [], rfl, rfl, st, ok, fun x hx => .inr hx, fun p hp => nomatch hp⟩ ?_ ?_
  · rintro i t m1 news I io h tk hi ⟨mt', ma', qs', q', es', e', nP', nC', new, rfl, rfl, st', ok', hfrom, hnew⟩ hI F1 N1
    have hPI := hI (P, _) (.head _)
    have hCI := hI (C, _) (.tail _ (.head _))
    have F2 : Fr h₀ (lawEnv L fa gl).locals h (fun y => if y = Str.ofString "turn" then some (.int (i : Int) t) else if y = Str.ofString "around" then ma' else if y = Str.ofString "number" then some (.int n tn) else if y = Str.ofString "colours" then some (.ref C) else if y = Str.ofString "places" then some (.ref P) else if y = Str.ofString "gap" then some (.int g tg) else m y) := by
      have e1 : (fun y => if y = Str.ofString "turn" then some (Value.int (0 + (i : Int)) t) else m6 m mt' ma' (some (.int n tn)) P C g tg y) = (fun y => if y = Str.ofString "turn" then some (.int (i : Int) t) else if y = Str.ofString "around" then ma' else if y = Str.ofString "number" then some (.int n tn) else if y = Str.ofString "colours" then some (.ref C) else if y = Str.ofString "places" then some (.ref P) else if y = Str.ofString "gap" then some (.int g tg) else m y) := by
        funext y
        rw [Int.zero_add]
        by_cases hy : y = Str.ofString "turn"
        · simp only [if_pos hy]
        · simp only [if_neg hy]
      rw [e1] at F1
      exact F1
    have hlen := st'.lq
    have hlen2 := st'.le
    refine turn_body w (qs := qs') (q := q') (es := es') (e := e') (nP := nP') (nC := nC') B X T F2 (ofNews N1 ?_) (rest := (I, io) :: (new ++ rest)) ⟨ok'.ne, ?_, ?_, fun x hx => .tail _ (ok'.m x hx)⟩ (hN.ok _ _ _ (by omega) st'.near).1 (by omega) (by omega) hN.g0 hN.g1 hn hn2 (by omega) (by omega) ?_
    · intro p hp
      rcases List.mem_cons.mp hp with rfl | hp
      · exact .tail _ (.head _)
      rcases List.mem_cons.mp hp with rfl | hp
      · exact .tail _ (.tail _ (.head _))
      rcases List.mem_cons.mp hp with rfl | hp
      · exact .head _
      exact .tail _ (.tail _ (.tail _ hp))
    · intro p hp
      rcases List.mem_cons.mp hp with rfl | hp
      · exact fun h => hPI h.symm
      · exact ok'.s p hp
    · intro p hp
      rcases List.mem_cons.mp hp with rfl | hp
      · exact fun h => hCI h.symm
      · exact ok'.d p hp
    · intro h' tk' t' q2 e2 nP2 nC2 new2 hq2 he2 ok2 hin2 hnew2 F3 N3
      have st2 := st'.step hN (by omega) (turnX n i) hq2 he2
      refine TurnEnd.mk (all := _) (L6 P C ((qs' ++ [q']).map PEnt.val ++ [.int q2.i q2.t]) ((es' ++ [e']).map CEnt.val ++ [.ref e2.a]) nP2 nC2 ((new2 ++ new) ++ rest)) F3 N3 ?_ ?_ (fun p hp => nomatch hp)
        ⟨some (.int (i : Int) t), some (.int (arI g (turnX n i)) t'), qs' ++ [q'], q2, es' ++ [e'], e2, nP2, nC2, new2 ++ new, rfl, rfl, st2, ?_, ?_, ?_⟩
      · intro p hp
        simp only [L6, List.map_append, List.map_cons, List.map_nil, List.cons_append, List.nil_append, List.append_assoc, List.mem_cons, List.mem_append] at hp ⊢
        rcases hp with h | h | h | h | h | h <;> simp [h]
      · intro p hp q hq
        rw [List.mem_singleton.mp hq]
        rcases List.mem_cons.mp hp with rfl | hp
        · exact hPI
        rcases List.mem_cons.mp hp with rfl | hp
        · exact hCI
        simp only [List.append_assoc] at hp
        rcases List.mem_append.mp hp with hp | hp
        · exact Nat.ne_of_gt (hnew2 p hp (I, io) (.head _))
        · exact hI p (.tail _ (.tail _ hp))
      · refine ⟨ok2.ne, fun p hp => ok2.s p ?_, fun p hp => ok2.d p ?_, fun x hx => ?_⟩
        · simp only [List.append_assoc, List.mem_append, List.mem_cons] at hp ⊢
          rcases hp with h | h | h <;> simp [h]
        · simp only [List.append_assoc, List.mem_append, List.mem_cons] at hp ⊢
          rcases hp with h | h | h <;> simp [h]
        · have hx' : x ∈ es' ++ [e'] ++ [e2] := hx
          rcases List.mem_append.mp hx' with hx' | hx'
          · have := ok'.m x hx'
            rw [List.append_assoc]
            exact List.mem_append_right _ this
          · rw [List.mem_singleton.mp hx', List.append_assoc]
            exact List.mem_append_left _ hin2
      · intro x hx
        have hx' : x ∈ es' ++ [e'] ++ [e2] := hx
        rcases List.mem_append.mp hx' with hx' | hx'
        · rcases hfrom x hx' with h | h
          · exact .inl (List.mem_append_right _ h)
          · exact .inr h
        · rw [List.mem_singleton.mp hx']
          exact .inl (List.mem_append_left _ hin2)
      · intro p hp r hr
        rcases List.mem_append.mp hp with hp | hp
        · exact hnew2 p hp r (.tail _ (List.mem_append_right _ hr))
        · exact hnew p hp r hr
  · rintro m1 news h tk ⟨mt', ma', qs', q', es', e', nP', nC', new, rfl, rfl, st', ok', hfrom, hnew⟩ F1 N1
    exact hQ h tk mt' ma' qs' q' es' e' nP' nC' (cnt + b.toNat) new (by omega) st' ok' hfrom hnew F1 N1
set_option maxRecDepth 100000 in
set_option maxHeartbeats 8000000 in
theorem num_body (w : World) {mean : ExcName → Option Value} {mg mb : Str → Option Value} {base h₀ : Heap} {L fa P C : Addr} {gl : Value} {s : Shared} {Q : Flow → Shared → Prop} {m : Str → Option Value} {Near : Nat → Int → Col → Prop}
    {n g : Int} {tn tg : Tok} {qs : List PEnt} {q : PEnt} {es : List CEnt} {e : CEnt} {nP nC cnt : Nat} {rest : List (Addr × Obj)} {mt ma : Option Value}
    (B : Below callerA base [] h₀) (X : (heapB w.params).In h₀) (T : Top Hd.hd.view_39 lse mean mg mb h₀)
    (F : Fr h₀ L s.heap (m6 m mt ma (some (.int n tn)) P C g tg))
    (N : News h₀ L s.heap (L6 P C (qs.map PEnt.val ++ [.int q.i q.t]) (es.map CEnt.val ++ [.ref e.a]) nP nC rest)) (ok : LOk P C (es ++ [e]) rest) (hN : NearOk Near g) (st : St6 Near g qs q es e cnt) (hcn : cnt ≤ 50) (hn : 0 ≤ n) (hn2 : n ≤ 1000000)
    (hQ : ∀ (h' : Heap) (tk' : Nat) (mt' ma' : Option Value) (qs' : List PEnt) (q' : PEnt) (es' : List CEnt) (e' : CEnt) (nP' nC' cnt' : Nat) (new : List (Addr × Obj)), cnt' ≤ cnt + 7 → St6 Near g qs' q' es' e' cnt' → LOk P C (es' ++ [e']) (new ++ rest) → (∀ x ∈ es' ++ [e'], (x.a, x.obj) ∈ new ∨ x ∈ es ++ [e]) → (∀ p ∈ new, ∀ r ∈ rest, r.1 < p.1) →
      Fr h₀ L h' (m6 m mt' ma' (some (.int n tn)) P C g tg) → News h₀ L h' (L6 P C (qs'.map PEnt.val ++ [.int q'.i q'.t]) (es'.map CEnt.val ++ [.ref e'.a]) nP' nC' (new ++ rest)) → Q .next { s with heap := h', toks := tk' }) :
    wpAny (model prg w) (callerA.deeper (lawEnv L fa gl)) (execs numBody.1 (lawEnv L fa gl)) Q (fun _ _ => False) s := by
  revert X
  refine (fun (f : PySem.Challenge.rw_pg0084_01 = PySem.Challenge.rw_pg0084_01 → _) => f rfl) ?_
  k_fill
  intro _ X
  dsimp only [numBody, lawEnv, lawScope]
  (k_with "exec For Name Call cons nil" => (k_dflt (refine' For_invV h₀ ?k1 ?k2 ?_ ?k3 ?k4; (case k1 => rfl); (case k2 => rfl); (case k3 => exact fun _ => rfl); (case k4 => exact PassesOwn.never))))
  (k_with "pyIter ref" => refine hold ?_)
  k_steps
  all_goals
    rename IsRange _ _ _ _ _ _ _ _ => hr
    rename_i F1 N1 _
    exact turns_loop w B X T hr (by decide) (by decide) F1 N1 ok hN st hcn hn hn2 fun h' tk' mt' ma' qs' q' es' e' nP' nC' cnt' new a1 a2 a3 a4 a5 a6 a7 => wpAny_execs_nil (hQ h' tk' mt' ma' qs' q' es' e' nP' nC' cnt' new a1 a2 a3 a4 a5 a6 a7)
end Mine
end
section
open PySem PySem.W PyProof.Rows
namespace Mine
theorem cleanTail84d : True := by
  k_with_none
  w_top off
  trivial
noncomputable def numsFor : { st : Stmt // lawTail.1.head? = some st } := by
  refine ⟨?l, ?h⟩
  case h =>
    conv => lhs; whnf
set_option maxRecDepth 100000 in
set_option maxHeartbeats 8000000 in
theorem nums_loop (w : World) {mean : ExcName → Option Value} {mg mb : Str → Option Value} {base h₀ : Heap} {L fa P C D : Addr} {gl : Value} {s : Shared} {Q : Flow → Shared → Prop} {m : Str → Option Value} {Near : Nat → Int → Col → Prop}
    {g : Int} {tg : Tok} {qs : List PEnt} {q : PEnt} {es : List CEnt} {e : CEnt} {nP nC j : Nat} {vs : List Value} {ns : List Int} {rest : List (Addr × Obj)} {mt ma mn : Option Value}
    (B : Below callerA base [] h₀) (X : (heapB w.params).In h₀) (T : Top Hd.hd.view_39 lse mean mg mb h₀)
    (F : Fr h₀ L s.heap (m6 m mt ma mn P C g tg)) (hmD : m (Str.ofString "numbers") = some (.ref D)) (hD : (D, listOf vs.toArray j) ∈ rest) (hI : IntsAre vs ns) (hb : ∀ n ∈ ns, 0 ≤ n ∧ n ≤ 1000000) (hl : ns.length ≤ 5)
    (N : News h₀ L s.heap (L6 P C (qs.map PEnt.val ++ [.int q.i q.t]) (es.map CEnt.val ++ [.ref e.a]) nP nC rest)) (ok : LOk P C (es ++ [e]) rest) (hN : NearOk Near g) (st : St6 Near g qs q es e 0)
    (hQ : ∀ (h' : Heap) (tk' : Nat) (mt' ma' mn' : Option Value) (qs' : List PEnt) (q' : PEnt) (es' : List CEnt) (e' : CEnt) (nP' nC' cnt' : Nat) (new : List (Addr × Obj)), cnt' ≤ 35 → St6 Near g qs' q' es' e' cnt' → LOk P C (es' ++ [e']) (new ++ rest) →
      Fr h₀ L h' (m6 m mt' ma' mn' P C g tg) → News h₀ L h' (L6 P C (qs'.map PEnt.val ++ [.int q'.i q'.t]) (es'.map CEnt.val ++ [.ref e'.a]) nP' nC' (new ++ rest)) → Q .next { s with heap := h', toks := tk' }) :
    wpAny (model prg w) (callerA.deeper (lawEnv L fa gl)) (exec numsFor.1 (lawEnv L fa gl)) Q (fun _ _ => False) s := by
  have step : ∀ (v : Value) (n : Int) (mt' ma' mn' : Option Value) (qs' : List PEnt) (q' : PEnt) (es' : List CEnt) (e' : CEnt) (nP' nC' cnt' : Nat) (new : List (Addr × Obj)) (h : Heap) (tk : Nat) (I : Addr) (io : Obj) (t : Tok) (R : Flow → Shared → Prop),
      v = .int n t → 0 ≤ n → n ≤ 1000000 → cnt' ≤ 50 → St6 Near g qs' q' es' e' cnt' → LOk P C (es' ++ [e']) (new ++ rest) →
      (∀ p ∈ L6 P C (qs'.map PEnt.val ++ [.int q'.i q'.t]) (es'.map CEnt.val ++ [.ref e'.a]) nP' nC' (new ++ rest), p.1 ≠ I) →
      Fr h₀ L h (m6 m mt' ma' mn' P C g tg) → News h₀ L h ((I, io) :: L6 P C (qs'.map PEnt.val ++ [.int q'.i q'.t]) (es'.map CEnt.val ++ [.ref e'.a]) nP' nC' (new ++ rest)) →
      (∀ (h' : Heap) (tk' : Nat) (mt2 ma2 : Option Value) (qs2 : List PEnt) (q2 : PEnt) (es2 : List CEnt) (e2 : CEnt) (nP2 nC2 cnt2 : Nat) (new2 : List (Addr × Obj)), cnt2 ≤ cnt' + 7 → St6 Near g qs2 q2 es2 e2 cnt2 → LOk P C (es2 ++ [e2]) (new2 ++ (I, io) :: (new ++ rest)) → (∀ x ∈ es2 ++ [e2], (x.a, x.obj) ∈ new2 ∨ x ∈ es' ++ [e']) → (∀ p ∈ new2, ∀ r ∈ (I, io) :: (new ++ rest), r.1 < p.1) →
        Fr h₀ L h' (m6 m mt2 ma2 (some (.int n t)) P C g tg) → News h₀ L h' (L6 P C (qs2.map PEnt.val ++ [.int q2.i q2.t]) (es2.map CEnt.val ++ [.ref e2.a]) nP2 nC2 (new2 ++ (I, io) :: (new ++ rest))) → R .next { s with heap := h', toks := tk' }) →
      wpAny (model prg w) (callerA.deeper (lawEnv L fa gl)) (assign (match numsFor.1 with | .For t .. => t | _ => default) (lawEnv L fa gl) v) (fun _ s₂ => wpAny (model prg w) (callerA.deeper (lawEnv L fa gl)) (execs numBody.1 (lawEnv L fa gl)) R (fun _ _ => False) s₂) (fun _ _ => False) { s with heap := h, toks := tk } := by
    intro v n mt' ma' mn' qs' q' es' e' nP' nC' cnt' new h tk I io t R hv h0 h1 hc st' ok' hI' F' N' hR
    subst hv
    generalize hbd : numBody.1 = bd
    dsimp only [numsFor, lawEnv, lawScope]
    k_steps
    subst hbd
    rename_i h2 F2 N2
    have F3 : Fr h₀ L h2 (m6 m mt' ma' (some (.int n t)) P C g tg) := by
      have e1 : (fun y => if y = Str.ofString "number" then some (Value.int n t) else m6 m mt' ma' mn' P C g tg y) = m6 m mt' ma' (some (.int n t)) P C g tg := by
        funext y
        unfold m6
        by_cases hy : y = Str.ofString "number"
        · subst hy
          simp [show Str.ofString "number" ≠ Str.ofString "turn" from by decide +kernel, show Str.ofString "number" ≠ Str.ofString "around" from by decide +kernel]
        · simp only [if_neg hy]
      rw [e1] at F2
      exact F2
    have hPI := hI' (P, _) (.head _)
    have hCI := hI' (C, _) (.tail _ (.head _))
    refine num_body w (qs := qs') (q := q') (es := es') (e := e') (nP := nP') (nC := nC') (cnt := cnt') (rest := (I, io) :: (new ++ rest)) B X T F3 (ofNews N2 ?_) ⟨ok'.ne, ?_, ?_, fun x hx => .tail _ (ok'.m x hx)⟩ hN st' hc h0 h1 hR
    · intro p hp
      rcases List.mem_cons.mp hp with rfl | hp
      · exact .tail _ (.head _)
      rcases List.mem_cons.mp hp with rfl | hp
      · exact .tail _ (.tail _ (.head _))
      rcases List.mem_cons.mp hp with rfl | hp
      · exact .head _
      exact .tail _ (.tail _ (.tail _ hp))
    · intro p hp
      rcases List.mem_cons.mp hp with rfl | hp
      · exact fun h => hPI h.symm
      · exact ok'.s p hp
    · intro p hp
      rcases List.mem_cons.mp hp with rfl | hp
      · exact fun h => hCI h.symm
      · exact ok'.d p hp
  have main : wpAny (model prg w) (callerA.deeper (lawEnv L fa gl)) (pyIter (.ref D)) (fun it s₂ => TurnsAt prg w (callerA.deeper (lawEnv L fa gl)) h₀ (lawEnv L fa gl) (match numsFor.1 with | .For t .. => t | _ => default) numBody.1 Q (fun _ _ => False) it s₂) (fun _ _ => False) s := by
    refine for_list (lo := listOf vs.toArray j) rfl F N (.tail _ (.tail _ hD)) rfl rfl
      (fun vs' m1 news => ∃ ns' mt' ma' mn' qs' q' es' e' nP' nC' cnt' new, IntsAre vs' ns' ∧ (∀ n ∈ ns', 0 ≤ n ∧ n ≤ 1000000) ∧ cnt' + 7 * ns'.length ≤ 35 ∧ m1 = m6 m mt' ma' mn' P C g tg ∧ news = L6 P C (qs'.map PEnt.val ++ [.int q'.i q'.t]) (es'.map CEnt.val ++ [.ref e'.a]) nP' nC' (new ++ rest) ∧ St6 Near g qs' q' es' e' cnt' ∧ LOk P C (es' ++ [e']) (new ++ rest))
      ⟨ns, mt, ma, mn, qs, q, es, e, nP, nC, 0, [], hI, hb, by omega, rfl, rfl, st, ok⟩ ?_ ?_
    · rintro v r m1 news I io h tk ⟨ns', mt', ma', mn', qs', q', es', e', nP', nC', cnt', new, hI', hb', hcnt, rfl, rfl, st', ok'⟩ hoff F1 N1
      cases hI' with
      | cons n t hI2 =>
      rename_i ns2
      rw [List.length_cons] at hcnt
      refine step _ n mt' ma' mn' qs' q' es' e' nP' nC' cnt' new h tk I io t _ rfl (hb' n (.head _)).1 (hb' n (.head _)).2 (by omega) st' ok' hoff F1 N1 ?_
      intro h' tk' mt2 ma2 qs2 q2 es2 e2 nP2 nC2 cnt2 new2 hc2 st2 ok2 hfrom hnew2 F2 N2
      have hPI := hoff (P, _) (.head _)
      have hCI := hoff (C, _) (.tail _ (.head _))
      refine TurnEnd.mk (all := _) (L6 P C (qs2.map PEnt.val ++ [.int q2.i q2.t]) (es2.map CEnt.val ++ [.ref e2.a]) nP2 nC2 ((new2 ++ new) ++ rest)) F2 N2 ?_ ?_ ?_
        ⟨ns2, mt2, ma2, _, qs2, q2, es2, e2, nP2, nC2, cnt2, new2 ++ new, hI2, fun n hn => hb' n (.tail _ hn), by omega, rfl, rfl, st2, ?_⟩
      · intro p hp
        simp only [L6, List.cons_append, List.nil_append, List.append_assoc, List.mem_cons, List.mem_append] at hp ⊢
        rcases hp with h | h | h | h | h | h <;> simp [h]
      · intro p hp x hx
        rw [List.mem_singleton.mp hx]
        rcases List.mem_cons.mp hp with rfl | hp
        · exact hPI
        rcases List.mem_cons.mp hp with rfl | hp
        · exact hCI
        rw [List.append_assoc] at hp
        rcases List.mem_append.mp hp with hp | hp
        · exact Nat.ne_of_gt (hnew2 p hp (I, io) (.head _))
        · exact hoff p (.tail _ (.tail _ hp))
      · intro p hp
        rw [List.mem_singleton.mp hp]
        exact .tail _ (.tail _ (List.mem_append_right _ hD))
      · refine ⟨ok2.ne, fun p hp => ok2.s p ?_, fun p hp => ok2.d p ?_, fun x hx => ?_⟩
        · simp only [List.append_assoc, List.mem_append, List.mem_cons] at hp ⊢
          rcases hp with h | h | h <;> simp [h]
        · simp only [List.append_assoc, List.mem_append, List.mem_cons] at hp ⊢
          rcases hp with h | h | h <;> simp [h]
        · rw [List.append_assoc]
          rcases hfrom x hx with h | h
          · exact List.mem_append_left _ h
          · exact List.mem_append_right _ (ok'.m x h)
    · rintro m1 news h tk ⟨ns', mt', ma', mn', qs', q', es', e', nP', nC', cnt', new, hI', hb', hcnt, rfl, rfl, st', ok'⟩ F1 N1
      exact hQ h tk mt' ma' mn' qs' q' es' e' nP' nC' cnt' new (by omega) st' ok' F1 N1
  have hmN : m6 m mt ma mn P C g tg (Str.ofString "numbers") = some (.ref D) := by
    unfold m6
    simp only [show Str.ofString "numbers" ≠ Str.ofString "turn" from by decide +kernel, show Str.ofString "numbers" ≠ Str.ofString "around" from by decide +kernel, show Str.ofString "numbers" ≠ Str.ofString "number" from by decide +kernel, show Str.ofString "numbers" ≠ Str.ofString "colours" from by decide +kernel, show Str.ofString "numbers" ≠ Str.ofString "places" from by decide +kernel, show Str.ofString "numbers" ≠ Str.ofString "gap" from by decide +kernel, if_false]
    exact hmD
  refine For_turns (target := match numsFor.1 with | .For t .. => t | _ => default) (body := numBody.1) F ?_ (fun _ => rfl) PassesOwn.never
  exact ld F hmN main
end Mine
end
section
open PySem PySem.W PyProof.Rows
namespace Mine
theorem cleanTail84e : True := by
  k_with_none
  w_top off
  trivial
theorem Walked.len {Near : Nat → Int → Col → Prop} {g : Int} {ps : List Int} {cs : List Col} {n : Nat} (h : Walked Near g ps cs n) : ps.length = n + 1 ∧ cs.length = n + 1 := by
  induction h with
  | start _ => exact ⟨rfl, rfl⟩
  | step x _ _ ih =>
    simp only [List.length_append, List.length_cons, List.length_nil] at ih ⊢
    omega
theorem Walked.all {Near : Nat → Int → Col → Prop} {g : Int} (hN : NearOk Near g) {ps : List Int} {cs : List Col} {n : Nat} (h : Walked Near g ps cs n) (hn : n ≤ 59) : ∀ (i : Nat) (p : Int) (c : Col), ps[i]? = some p → cs[i]? = some c → ColOk c.r c.g c.b ∧ placeF c.r c.g c.b = p := by
  induction h with
  | start h0 =>
    intro i p c hp hc
    cases i with
    | zero =>
      simp only [List.getElem?_cons_zero, Option.some.injEq] at hp hc
      subst hp hc
      exact hN.ok 0 _ _ (by omega) h0
    | succ i => simp at hp
  | @step ps cs p0 c0 n x hw h1 ih =>
    intro i p c hp hc
    have hl := hw.len
    have hl1 : (ps ++ [p0]).length = n + 1 := hl.1
    have hl2 : (cs ++ [c0]).length = n + 1 := hl.2
    by_cases hi : i < n + 1
    · rw [List.getElem?_append_left (by omega)] at hp hc
      exact ih (by omega) i p c hp hc
    · by_cases he : i = n + 1
      · subst he
        rw [List.getElem?_append_right (by omega), hl1] at hp
        rw [List.getElem?_append_right (by omega), hl2] at hc
        simp only [Nat.sub_self, List.getElem?_cons_zero, Option.some.injEq] at hp hc
        subst hp hc
        exact hN.ok (n + 1) _ _ (by omega) (hN.go n p0 c0 x (by omega) h1)
      · rw [List.getElem?_append_right (by omega), hl1] at hp
        have : i - (n + 1) = (i - (n + 2)) + 1 := by omega
        rw [this] at hp
        simp at hp
noncomputable def toldAsg : { st : Stmt // lawTail.1[1]? = some st } := by
  refine ⟨?l, ?h⟩
  case h =>
    conv => lhs; whnf
def asgVal : Stmt → Option Expr
  | .Assign _ v _ => some v
  | _ => none
def compElt : Expr → Option Expr
  | .ListComp e _ _ _ => some e
  | _ => none
def compScope : Expr → Option Scope
  | .ListComp _ _ s _ => some s
  | _ => none
noncomputable def toldElt : { e : Expr // (asgVal toldAsg.1).bind compElt = some e } := by
  refine ⟨?l, ?h⟩
  case h =>
    conv => lhs; whnf
noncomputable def toldScope : { e : Scope // (asgVal toldAsg.1).bind compScope = some e } := by
  refine ⟨?l, ?h⟩
  case h =>
    conv => lhs; whnf
local macro_rules | `(tactic| k_mem) => `(tactic| first | assumption | ktr_member | exact List.mem_cons_self | (refine List.mem_cons_of_mem _ ?_; k_mem))
local macro_rules | `(tactic| k_all) => `(tactic| assumption)
set_option maxRecDepth 100000 in
set_option maxHeartbeats 8000000 in
theorem told_elt (w : World) {mean : ExcName → Option Value} {mg mb : Str → Option Value} {base h₀ : Heap} {L fa I C' D : Addr} {gl : Value} {s : Shared} {m m₂ : Str → Option Value} {oI oC : Obj} {ys : List Value} {news : List (Addr × Obj)} {cl : List (Str × Addr)} {E' : Value → Shared → Prop} {Q : Value → Shared → Prop} {e : CEnt}
    (B : Below callerA base [] h₀) (X : (heapB w.params).In h₀) (T : Top Hd.hd.view_39 lse mean mg mb h₀)
    (hC : LCg.NsObj oC m₂) (hx : m₂ (Str.ofString "colour") = some (.ref e.a)) (F : Fr h₀ L s.heap m) (N : News h₀ L s.heap ((I, oI) :: (C', oC) :: (D, LCg.lst ys) :: news)) (he : (e.a, e.obj) ∈ news) (ok : ColOk e.c.r e.c.g e.c.b)
    (hQ : ∀ t h' tk', Fr h₀ L h' m → News h₀ L h' ((I, oI) :: (C', oC) :: (D, LCg.lst ys) :: news) → Q (.int (placeF e.c.r e.c.g e.c.b) t) { s with heap := h', toks := tk' }) :
    wpAny (model prg w) (callerA.deeper (lawEnv L fa gl)) (eval toldElt.1 (compEnvC toldScope.1 cl C' (lawEnv L fa gl))) Q E' s := by
  revert X
  refine (fun (f : PySem.Challenge.rw_pg0084_01 = PySem.Challenge.rw_pg0084_01 → _) => f rfl) ?_
  k_fill
  intro _ X
  dsimp only [toldElt, toldScope, lawEnv, lawScope]
  (k_with "call ref" => ((with_reducible show wpAny _ _ (PySem.call (Value.ref 133) _ _) _ _ _); k_dflt (refine' (place_claim _ _ _ _ _ _ _ _ _ ?hc ?ok).use ?k1 ?k2 ?k3 ?k4 ?k5 ?kK ?kd ?ku ?_; (case k1 => k_asm); (case k2 => k_asm); (case k3 => k_asm); (case k4 => k_asm); (case k5 => k_asm); (case hc => k_mem); (case ok => assumption); (case kK => first | exact rfl | assumption); (case kd => exact Nat.le_of_ble_eq_true rfl); (case ku => exact Nat.le_of_ble_eq_true rfl); intro t9 h9 tk9 F9 N9; (try dsimp only); (try k_fold))))
  k_steps
  exact hQ _ _ _ F9 N9
theorem IntsAre.snoc {vs : List Value} {ns : List Int} (h : IntsAre vs ns) (i : Int) (t : Tok) : IntsAre (vs ++ [.int i t]) (ns ++ [i]) := by
  induction h with
  | nil => exact .cons _ _ .nil
  | cons _ _ _ ih => exact .cons _ _ ih
set_option maxRecDepth 100000 in
set_option maxHeartbeats 8000000 in
theorem told_stmt (w : World) {mean : ExcName → Option Value} {mg mb : Str → Option Value} {base h₀ : Heap} {L fa C : Addr} {gl : Value} {s : Shared} {m : Str → Option Value} {news : List (Addr × Obj)} {E' : Value → Shared → Prop} {Q : Flow → Shared → Prop} {es : List CEnt} {ps : List Int} {nC : Nat}
    (B : Below callerA base [] h₀) (X : (heapB w.params).In h₀) (T : Top Hd.hd.view_39 lse mean mg mb h₀)
    (F : Fr h₀ L s.heap m) (N : News h₀ L s.heap news) (hm : m (Str.ofString "colours") = some (.ref C)) (hC : (C, listOf (es.map CEnt.val).toArray nC) ∈ news) (he : ∀ e ∈ es, (e.a, e.obj) ∈ news) (hl : ps.length = es.length) (hl2 : es.length ≤ 100)
    (hok : ∀ (i : Nat) (p : Int) (c : Col), ps[i]? = some p → (es.map CEnt.c)[i]? = some c → ColOk c.r c.g c.b ∧ placeF c.r c.g c.b = p)
    (hQ : ∀ D h' tk' ys, IntsAre ys ps → Fr h₀ L h' (fun z => if z = Str.ofString "told" then some (.ref D) else m z) → News h₀ L h' ((D, LCg.lst ys) :: news) → LCg.Off1 D news → Q .next { s with heap := h', toks := tk' }) :
    wpAny (model prg w) (callerA.deeper (lawEnv L fa gl)) (exec toldAsg.1 (lawEnv L fa gl)) Q E' s := by
  have rest : ∀ (s₂ : Shared) (k i : Nat) (ys : List Value), i + k = es.length → IntsAre ys (ps.take i) → (∀ D h' tk' ys, IntsAre ys ps → Fr h₀ L h' (fun z => if z = Str.ofString "told" then some (.ref D) else m z) → News h₀ L h' ((D, LCg.lst ys) :: news) → LCg.Off1 D news → Q .next { s₂ with heap := h', toks := tk' }) →
      LCg.CompRest prg w (callerA.deeper (lawEnv L fa gl)) h₀ L m (lawEnv L fa gl) toldElt.1 (Str.ofString "colour") toldScope.1 [] s₂ (LCg.SrcAt h₀ C (es.map CEnt.val).toArray) (fun i v => (es.map CEnt.val).toArray[i]? = some v) (LCg.FinA h₀ L m s₂ (Str.ofString "told") Q) k i ys news := by
    intro s₂ k
    induction k with
    | zero =>
      intro i ys hi hy hq
      refine LCg.CompRest.zero fun D h tk F' N' o1 => hq D h tk ys ?_ F' N' o1
      have : i = ps.length := by omega
      rw [this, List.take_length] at hy
      exact hy
    | succ k ih =>
      intro i ys hi hy hq
      refine LCg.CompRest.succ fun v I oI C' oC D m₂ h tk E2 hv hoC hx F' N' off hne => ?_
      have hlt : i < es.length := by omega
      have hv2 : v = .ref (es[i]).a := by simpa [hlt] using hv.symm
      subst hv2
      obtain ⟨c1, c2⟩ := hok i (ps[i]'(by omega)) (es[i]).c (by simp [List.getElem?_eq_getElem (show i < ps.length by omega)]) (by simp [hlt])
      refine told_elt w (s := { s₂ with heap := h, toks := tk }) B X T hoC hx F' N' (he _ (List.getElem_mem hlt)) c1 ?_
      intro t h' tk' F2 N2
      refine LCg.CompEnd.intro (s₁ := { s₂ with heap := h, toks := tk }) F2 N2 news (fun p hp => hp) off (.inr ⟨_, hC, rfl, _, rfl⟩) (ih (i + 1) _ (by omega) ?_ hq)
      rw [c2]
      have e2 : ps.take (i + 1) = ps.take i ++ [ps[i]'(by omega)] := by
        rw [List.take_add_one, List.getElem?_eq_getElem (show i < ps.length by omega)]
        rfl
      rw [e2]
      exact IntsAre.snoc hy _ t
  refine LCg.Assign_ListComp_U (scope := toldScope.1) (elt := toldElt.1) (x := Str.ofString "colour") (y := Str.ofString "told") (cl := []) F rfl ?_ ?_ ?_ rfl ?_ ?_ rfl rfl ?_ (fun _ => rfl)
  · with_unfolding_all rfl
  · with_unfolding_all rfl
  · decide
  · decide
  · rfl
  · refine ld F hm ?_
    refine LCg.CompSrc.ledger rfl F N hC (by rw [List.size_toArray, List.length_map, sizeLine_eq]; omega) fun g => ?_
    rw [List.size_toArray, List.length_map]
    exact rest _ _ 0 [] (by omega) .nil hQ
end Mine
end
section
open PySem PySem.W PyProof.Rows
namespace Mine
theorem cleanWays84 : True := by
  k_with_none
  w_top off
  trivial
def forBody : Stmt → List Stmt
  | .For _ _ b .. => b
  | .While _ b .. => b
  | _ => []
noncomputable def waysBody : { l : List Stmt // (PySem.Challenge.pw_pg0084_01.main.body[14]?).map stmtBody = some l } := by
  refine ⟨?l, ?h⟩
  case h =>
    conv => lhs; whnf; arg 1; whnf
noncomputable def waysScope : { l : Scope // (PySem.Challenge.pw_pg0084_01.main.body[14]?).bind stmtScope = some l } := by
  refine ⟨?l, ?h⟩
  case h =>
    conv => lhs; whnf
noncomputable def waysWhile : { l : Stmt // waysBody.1[1]? = some l } := by
  refine ⟨?l, ?h⟩
  case h =>
    conv => lhs; whnf
noncomputable def waysTurn : { l : List Stmt // some (forBody waysWhile.1) = some l } := by
  refine ⟨?l, ?h⟩
  case h =>
    conv => lhs; whnf; arg 1; whnf
noncomputable def waysSpot : { l : List Stmt // waysTurn.1[1]?.map forBody = some l } := by
  refine ⟨?l, ?h⟩
  case h =>
    conv => lhs; whnf; arg 1; whnf
noncomputable def waysOther : { l : List Stmt // waysSpot.1[0]?.map forBody = some l } := by
  refine ⟨?l, ?h⟩
  case h =>
    conv => lhs; whnf; arg 1; whnf
noncomputable abbrev waysEnv (L : Addr) : Env := envOf (Str.ofString "_law_ways") waysScope.1 L 147 (.ref 146)
abbrev wStep (spot other : Int) (x : List (Int × Int) × List Int) : List (Int × Int) × List Int := if kdfHas x.1 other = true then x else (kdfPut x.1 other (kdfLook x.1 spot 0 + 1), x.2 ++ [other])
/-- the frame's names in _law_ways -/
abbrev mW (m : Str → Option Value) (mo ms ml mr : Option Value) (W : Addr) (g : Int) (tg : Tok) : Str → Option Value := fun y => if y = Str.ofString "other" then mo else if y = Str.ofString "spot" then ms else if y = Str.ofString "later" then ml else if y = Str.ofString "row" then mr else if y = Str.ofString "ways" then some (.ref W) else if y = Str.ofString "gap" then some (.int g tg) else m y
local macro_rules | `(tactic| k_mem) => `(tactic| first | assumption | ktr_member | exact List.mem_cons_self | (refine List.mem_cons_of_mem _ ?_; k_mem))
local macro_rules | `(tactic| k_all) => `(tactic| assumption)
theorem IntsAre.snoc2 {vs : List Value} {ns : List Int} (h : IntsAre vs ns) (i : Int) (t : Tok) : IntsAre (vs ++ [.int i t]) (ns ++ [i]) := by
  induction h with
  | nil => exact .cons _ _ .nil
  | cons _ _ _ ih => exact .cons _ _ ih
set_option maxRecDepth 100000 in
set_option maxHeartbeats 8000000 in
theorem other_body (w : World) {mean : ExcName → Option Value} {mg mb : Str → Option Value} {h₀ : Heap} {dp un : Nat} {gd : Option (List Code)} {cn : Str} {cs : Scope} {L₀ a : Addr} {ccd : Value} {cl : List (Str × Addr)} {outer : List Env} {L W La : Addr} {s : Shared} {m : Str → Option Value} {E : Value → Shared → Prop} {Q : Flow → Shared → Prop}
    {spot other g : Int} {tsp tot tg : Tok} {mr : Option Value} {rest : List (Addr × Obj)} {o : Obj} {kvs : List (Int × Value)} {c : List (Int × Int)} {vl : List Value} {nl : List Int} {jl : Nat}
    (X : (heapB w.params).In h₀) (T : Top Hd.hd.view_39 lse mean mg mb h₀)
    (F : Fr h₀ L s.heap (mW m (some (.int other tot)) (some (.int spot tsp)) (some (.ref La)) mr W g tg)) (N : News h₀ L s.heap ((W, o) :: (La, listOf vl.toArray jl) :: rest)) (hne : @Ne Nat W La) (hsW : ∀ p ∈ rest, p.1 ≠ W) (hsL : ∀ p ∈ rest, p.1 ≠ La)
    (hlo : (W == sysModules) = false) (hdo : o.IsDictOf (PySem.intKind prg w) kvs) (hf : PyProof.V.FlatPairs PyData.int kvs (kdfD c)) (hc : c.length ≤ 1000) (hv : vl.length ≤ 900) (hi : IntsAre vl nl) (hhas : kdfHas c spot = true) (hlook : 0 ≤ kdfLook c spot 0 ∧ kdfLook c spot 0 ≤ 1000)
    (hQ : ∀ h' tk' o' kvs' vl' jl', o'.IsDictOf (PySem.intKind prg w) kvs' → PyProof.V.FlatPairs PyData.int kvs' (kdfD (wStep spot other (c, nl)).1) → IntsAre vl' (wStep spot other (c, nl)).2 → 
      Fr h₀ L h' (mW m (some (.int other tot)) (some (.int spot tsp)) (some (.ref La)) mr W g tg) → News h₀ L h' ((W, o') :: (La, listOf vl'.toArray jl') :: rest) → Q .next { s with heap := h', toks := tk' }) :
    wpAny (model prg w) ((ktrTop dp un gd cn cs L₀ a ccd cl outer).deeper (waysEnv L)) (execs waysOther.1 (waysEnv L)) Q E s := by
  revert X
  refine (fun (f : PySem.Challenge.rw_pg0084_01 = PySem.Challenge.rw_pg0084_01 → _) => f rfl) ?_
  k_fill
  intro _ X
  dsimp only [waysOther, waysEnv, waysScope]
  k_steps
  · rename_i h1
    refine hQ _ _ o kvs vl jl hdo ?_ ?_ F N
    · rw [wStep, if_pos h1]; exact hf
    · rw [wStep, if_pos h1]; exact hi
  · rename_i h1 _ _ _ _ _ hd' hf' _ F' N'
    refine hQ _ _ _ _ (vl ++ [.int other tot]) (jl + 1) hd' ?_ ?_ F' ?_
    · rw [wStep, if_neg (by rw [h1]; decide)]; exact hf'
    · rw [wStep, if_neg (by rw [h1]; decide)]; exact IntsAre.snoc2 hi other tot
    · rw [List.push_toArray] at N'; exact N'
end Mine
end
section
open PySem PySem.W PyProof.Rows
namespace Mine
theorem cleanWays84b : True := by
  k_with_none
  w_top off
  trivial
def HoldW (P : Prop) : Prop := P
theorem holdW {P : Prop} (h : HoldW P) : P := h
abbrev wSpot (g : Int) (x : List (Int × Int) × List Int) (spot : Int) : List (Int × Int) × List Int := wStep spot ((g - spot).fmod 48) (wStep spot ((0 - spot).fmod 48) x)
local macro_rules | `(tactic| k_mem) => `(tactic| first | assumption | ktr_member | exact List.mem_cons_self | (refine List.mem_cons_of_mem _ ?_; k_mem))
local macro_rules | `(tactic| k_all) => `(tactic| assumption)
def forTgt : Stmt → Option Expr
  | .For t .. => some t
  | _ => none
noncomputable def spotTgt : { l : Expr // waysSpot.1[0]?.bind forTgt = some l } := by
  refine ⟨?l, ?h⟩
  case h =>
    conv => lhs; whnf
theorem step_has {spot other x : Int} {c : List (Int × Int)} {nl : List Int} (h : kdfHas c x = true) : kdfHas (wStep spot other (c, nl)).1 x = true := by
  unfold wStep
  split
  · exact h
  · rename_i h2
    unfold kdfHas at h2
    unfold kdfPut
    rw [if_neg h2]
    unfold kdfHas at h ⊢
    simp only [List.any_append, h, Bool.true_or]
theorem step_look {spot other x : Int} {c : List (Int × Int)} {nl : List Int} (h : kdfHas c x = true) : kdfLook (wStep spot other (c, nl)).1 x 0 = kdfLook c x 0 := by
  unfold wStep
  split
  · rfl
  · rename_i h2
    unfold kdfHas at h2
    unfold kdfPut
    rw [if_neg h2]
    unfold kdfHas at h
    unfold kdfLook
    simp only [List.find?_append]
    cases hf : c.find? fun p => decide (p.1 = x) with
    | none =>
      rw [List.find?_eq_none] at hf
      obtain ⟨p, hp, e⟩ := List.any_eq_true.mp h
      exact absurd e (hf p hp)
    | some p => rfl
theorem step_len {spot other : Int} {c : List (Int × Int)} {nl : List Int} : (wStep spot other (c, nl)).1.length ≤ c.length + 1 ∧ (wStep spot other (c, nl)).2.length ≤ nl.length + 1 := by
  unfold wStep
  split
  · exact ⟨Nat.le_succ _, Nat.le_succ _⟩
  · refine ⟨kdfPut_len _ _ _, ?_⟩
    simp
theorem ints_len {vs : List Value} {ns : List Int} (h : IntsAre vs ns) : vs.length = ns.length := h.length
theorem mW_other {m : Str → Option Value} {mo ms ml mr v : Option Value} {W : Addr} {g : Int} {tg : Tok} : (fun y => if y = Str.ofString "other" then v else mW m mo ms ml mr W g tg y) = mW m v ms ml mr W g tg := by
  funext y
  unfold mW
  by_cases hy : y = Str.ofString "other"
  · simp only [if_pos hy]
  · simp only [if_neg hy]
def WInv (w : World) (m : Str → Option Value) (spot : Int) (c : List (Int × Int)) (fin : List (Int × Int) × List Int) (tsp : Tok) (La : Addr) (mr : Option Value) (W : Addr) (g : Int) (tg : Tok) (rest : List (Addr × Obj)) (vs' : List Value) (m1 : Str → Option Value) (news : List (Addr × Obj)) : Prop :=
  ∃ (os : List Int) (o' : Obj) (kvs' : List (Int × Value)) (vl' : List Value) (jl' : Nat) (mo' : Option Value) (x : List (Int × Int) × List Int), IntsAre vs' os ∧ os.length ≤ 2 ∧ m1 = mW m mo' (some (.int spot tsp)) (some (.ref La)) mr W g tg ∧ news = (W, o') :: (La, listOf vl'.toArray jl') :: rest ∧ o'.IsDictOf (PySem.intKind prg w) kvs' ∧ PyProof.V.FlatPairs PyData.int kvs' (kdfD x.1) ∧ IntsAre vl' x.2 ∧
    x.1.length + os.length ≤ 902 ∧ x.2.length + os.length ≤ 802 ∧ kdfHas x.1 spot = true ∧ kdfLook x.1 spot 0 = kdfLook c spot 0 ∧ os.foldl (fun x ot => wStep spot ot x) x = fin
set_option maxRecDepth 100000 in
set_option maxHeartbeats 8000000 in
theorem other_loop (w : World) {mean : ExcName → Option Value} {mg mb : Str → Option Value} {h₀ : Heap} {dp un : Nat} {gd : Option (List Code)} {cn : Str} {cs : Scope} {L₀ a : Addr} {ccd : Value} {cl : List (Str × Addr)} {outer : List Env} {L W La D : Addr} {s : Shared} {m : Str → Option Value} {Q : Flow → Shared → Prop}
    {spot g o1 o2 : Int} {tsp tg t1 t2 : Tok} {mo mr : Option Value} {rest : List (Addr × Obj)} {o : Obj} {kvs : List (Int × Value)} {c : List (Int × Int)} {vl : List Value} {nl : List Int} {jl j : Nat}
    (X : (heapB w.params).In h₀) (T : Top Hd.hd.view_39 lse mean mg mb h₀)
    (F : Fr h₀ L s.heap (mW m mo (some (.int spot tsp)) (some (.ref La)) mr W g tg)) (N : News h₀ L s.heap ((W, o) :: (La, listOf vl.toArray jl) :: (D, listOf [.int o1 t1, .int o2 t2].toArray j) :: rest)) (hne : @Ne Nat W La) (hsW : ∀ p ∈ (D, listOf [.int o1 t1, .int o2 t2].toArray j) :: rest, p.1 ≠ W) (hsL : ∀ p ∈ (D, listOf [.int o1 t1, .int o2 t2].toArray j) :: rest, p.1 ≠ La)
    (hlo : (W == sysModules) = false) (hdo : o.IsDictOf (PySem.intKind prg w) kvs) (hf : PyProof.V.FlatPairs PyData.int kvs (kdfD c)) (hc : c.length ≤ 900) (hv : vl.length ≤ 800) (hi : IntsAre vl nl) (hhas : kdfHas c spot = true) (hlook : 0 ≤ kdfLook c spot 0 ∧ kdfLook c spot 0 ≤ 900)
    (hQ : ∀ h' tk' o' kvs' vl' jl' mo', o'.IsDictOf (PySem.intKind prg w) kvs' → PyProof.V.FlatPairs PyData.int kvs' (kdfD (wStep spot o2 (wStep spot o1 (c, nl))).1) → IntsAre vl' (wStep spot o2 (wStep spot o1 (c, nl))).2 → 
      Fr h₀ L h' (mW m mo' (some (.int spot tsp)) (some (.ref La)) mr W g tg) → News h₀ L h' ((W, o') :: (La, listOf vl'.toArray jl') :: rest) → Q .next { s with heap := h', toks := tk' }) :
    wpAny (model prg w) ((ktrTop dp un gd cn cs L₀ a ccd cl outer).deeper (waysEnv L)) (pyIter (.ref D)) (fun it s₂ => TurnsAt prg w ((ktrTop dp un gd cn cs L₀ a ccd cl outer).deeper (waysEnv L)) h₀ (waysEnv L) spotTgt.1 waysOther.1 Q (fun _ _ => False) it s₂) (fun _ _ => False) s := by
  have hvl := hi.length
  refine for_list (lo := listOf [.int o1 t1, .int o2 t2].toArray j) rfl F N (.tail _ (.tail _ (.head _))) rfl rfl
    (WInv w m spot c (wStep spot o2 (wStep spot o1 (c, nl))) tsp La mr W g tg ((D, listOf [.int o1 t1, .int o2 t2].toArray j) :: rest))
    ⟨[o1, o2], o, kvs, vl, jl, mo, (c, nl), .cons _ _ (.cons _ _ .nil), Nat.le_refl _, rfl, rfl, hdo, hf, hi, by simp only [List.length_cons, List.length_nil]; omega, by simp only [List.length_cons, List.length_nil]; omega, hhas, rfl, rfl⟩ ?_ ?_
  · rintro v r m1 news I io h tk ⟨os, o', kvs', vl', jl', mo', ⟨c', n'⟩, hos, hol, rfl, rfl, hd', hf', hi', hl1, hl2, hh', hk', hfold⟩ hI F1 N1
    cases hos with
    | cons ot tt hos2 =>
    rename_i os2
    have hWI := hI (W, _) (.head _)
    have hLI := hI (La, _) (.tail _ (.head _))
    simp only [List.length_cons] at hl1 hl2 hol
    have hvl' := hi'.length
    dsimp only at hl1 hl2 hvl' hk' hh' hf' hi'
    have hst := step_len (spot := spot) (other := ot) (c := c') (nl := n')
    generalize hbd : waysOther.1 = bd
    dsimp only [spotTgt, waysEnv, waysScope]
    k_steps
    subst hbd
    rename_i h2 F2 N2
    rw [mW_other] at F2
    refine other_body w (vl := vl') (nl := n') (jl := jl') (c := c') (o := o') (kvs := kvs') (rest := (I, io) :: (D, listOf [.int o1 t1, .int o2 t2].toArray j) :: rest) X T F2 (cb_drop N2 ?_) hne ?_ ?_ hlo hd' hf' (by omega) (by omega) hi' hh' (by rw [hk']; exact ⟨hlook.1, by omega⟩) ?_
    · intro p hp
      rcases List.mem_cons.mp hp with rfl | hp
      · exact .tail _ (.head _)
      rcases List.mem_cons.mp hp with rfl | hp
      · exact .tail _ (.tail _ (.head _))
      rcases List.mem_cons.mp hp with rfl | hp
      · exact .head _
      exact .tail _ (.tail _ (.tail _ hp))
    · intro p hp
      rcases List.mem_cons.mp hp with rfl | hp
      · exact fun h => hWI h.symm
      · exact hsW p hp
    · intro p hp
      rcases List.mem_cons.mp hp with rfl | hp
      · exact fun h => hLI h.symm
      · exact hsL p hp
    · intro h3 tk3 o3 kvs3 vl3 jl3 hd3 hf3 hi3 F3 N3
      refine TurnEnd.mk (all := _) ((W, o3) :: (La, listOf vl3.toArray jl3) :: (D, listOf [.int o1 t1, .int o2 t2].toArray j) :: rest) F3 N3 ?_ ?_ ?_
        ⟨os2, o3, kvs3, vl3, jl3, _, wStep spot ot (c', n'), hos2, by omega, rfl, rfl, hd3, hf3, hi3, by omega, by omega, step_has hh', (step_look hh').trans hk', hfold⟩
      · intro p hp
        rcases List.mem_cons.mp hp with rfl | hp
        · exact .tail _ (.tail _ (.head _))
        rcases List.mem_cons.mp hp with rfl | hp
        · exact .head _
        rcases List.mem_cons.mp hp with rfl | hp
        · exact .tail _ (.head _)
        exact .tail _ (.tail _ (.tail _ hp))
      · intro p hp q hq
        rw [List.mem_singleton.mp hq]
        rcases List.mem_cons.mp hp with rfl | hp
        · exact hWI
        rcases List.mem_cons.mp hp with rfl | hp
        · exact hLI
        exact hI p (.tail _ (.tail _ hp))
      · intro p hp
        rw [List.mem_singleton.mp hp]
        exact .tail _ (.tail _ (.head _))
  · rintro m1 news h tk ⟨os, o', kvs', vl', jl', mo', x, hos, hol, rfl, rfl, hd', hf', hi', hl1, hl2, hh', hk', hfold⟩ F1 N1
    cases hos
    rw [List.foldl_nil] at hfold
    subst hfold
    exact hQ h tk o' kvs' vl' jl' mo' hd' hf' hi' F1 (cb_drop N1 fun p hp => by
      rcases List.mem_cons.mp hp with rfl | hp
      · exact .head _
      rcases List.mem_cons.mp hp with rfl | hp
      · exact .tail _ (.head _)
      exact .tail _ (.tail _ (.tail _ hp)))
set_option maxRecDepth 100000 in
set_option maxHeartbeats 8000000 in
theorem spot_body (w : World) {mean : ExcName → Option Value} {mg mb : Str → Option Value} {h₀ : Heap} {dp un : Nat} {gd : Option (List Code)} {cn : Str} {cs : Scope} {L₀ a : Addr} {ccd : Value} {cl : List (Str × Addr)} {outer : List Env} {L W La : Addr} {s : Shared} {m : Str → Option Value} {Q : Flow → Shared → Prop}
    {spot g : Int} {tsp tg : Tok} {mo mr : Option Value} {rest : List (Addr × Obj)} {o : Obj} {kvs : List (Int × Value)} {c : List (Int × Int)} {vl : List Value} {nl : List Int} {jl : Nat}
    (X : (heapB w.params).In h₀) (T : Top Hd.hd.view_39 lse mean mg mb h₀)
    (F : Fr h₀ L s.heap (mW m mo (some (.int spot tsp)) (some (.ref La)) mr W g tg)) (N : News h₀ L s.heap ((W, o) :: (La, listOf vl.toArray jl) :: rest)) (hne : @Ne Nat W La) (hsW : ∀ p ∈ rest, p.1 ≠ W) (hsL : ∀ p ∈ rest, p.1 ≠ La)
    (hlo : (W == sysModules) = false) (hdo : o.IsDictOf (PySem.intKind prg w) kvs) (hf : PyProof.V.FlatPairs PyData.int kvs (kdfD c)) (hc : c.length ≤ 900) (hv : vl.length ≤ 800) (hi : IntsAre vl nl) (hhas : kdfHas c spot = true) (hlook : 0 ≤ kdfLook c spot 0 ∧ kdfLook c spot 0 ≤ 900) (hsp : 0 ≤ spot ∧ spot ≤ 48) (hg : 0 ≤ g ∧ g ≤ 100)
    (hQ : ∀ h' tk' o' kvs' vl' jl' mo', o'.IsDictOf (PySem.intKind prg w) kvs' → PyProof.V.FlatPairs PyData.int kvs' (kdfD (wSpot g (c, nl) spot).1) → IntsAre vl' (wSpot g (c, nl) spot).2 → 
      Fr h₀ L h' (mW m mo' (some (.int spot tsp)) (some (.ref La)) mr W g tg) → News h₀ L h' ((W, o') :: (La, listOf vl'.toArray jl') :: rest) → Q .next { s with heap := h', toks := tk' }) :
    wpAny (model prg w) ((ktrTop dp un gd cn cs L₀ a ccd cl outer).deeper (waysEnv L)) (execs waysSpot.1 (waysEnv L)) Q (fun _ _ => False) s := by
  revert X
  refine (fun (f : PySem.Challenge.rw_pg0084_01 = PySem.Challenge.rw_pg0084_01 → _) => f rfl) ?_
  k_fill
  intro _ X
  dsimp only [waysSpot, waysEnv, waysScope]
  (k_with "exec For Name List cons nil" => (k_dflt (refine' For_turns F ?_ ?k3 ?k4; (case k3 => exact fun _ => rfl); (case k4 => exact PassesOwn.never))))
  (k_with "pyIter ref" => refine holdW ?_)
  k_steps
  rename_i D h2 F2 N2 l1
  obtain ⟨b1, b2, b3⟩ := l1
  refine other_loop w (o1 := (0 - spot).fmod 48) (o2 := (g - spot).fmod 48) (t1 := s.toks + 1 + 1 + 1) (t2 := s.toks + 1 + 1 + 1 + 1 + 1 + 1) (j := 0) (D := D) (vl := vl) (nl := nl) (jl := jl) (c := c) (o := o) (kvs := kvs) (rest := rest) X T F2 (cb_drop N2 ?_) hne ?_ ?_ hlo hdo hf hc hv hi hhas hlook ?_
  · intro p hp
    rcases List.mem_cons.mp hp with rfl | hp
    · exact .tail _ (.head _)
    rcases List.mem_cons.mp hp with rfl | hp
    · exact .tail _ (.tail _ (.head _))
    rcases List.mem_cons.mp hp with rfl | hp
    · exact .head _
    exact .tail _ (.tail _ (.tail _ hp))
  · intro p hp
    rcases List.mem_cons.mp hp with rfl | hp
    · exact Nat.ne_of_gt b1
    · exact hsW p hp
  · intro p hp
    rcases List.mem_cons.mp hp with rfl | hp
    · exact Nat.ne_of_gt b2
    · exact hsL p hp
  · exact fun h' tk' o' kvs' vl' jl' mo' a1 a2 a3 a4 a5 => wpAny_execs_nil (hQ h' tk' o' kvs' vl' jl' mo' a1 a2 a3 a4 a5)
end Mine
end
section
open PySem PySem.W PyProof.Rows
namespace Mine
theorem cleanWays84c : True := by
  k_with_none
  w_top off
  trivial
abbrev wRow (g : Int) (c : List (Int × Int)) (row : List Int) : List (Int × Int) × List Int := row.foldl (wSpot g) (c, [])
theorem spot_has {spot g x : Int} {y : List (Int × Int) × List Int} (h : kdfHas y.1 x = true) : kdfHas (wSpot g y spot).1 x = true := step_has (step_has h)
theorem spot_look {spot g x : Int} {y : List (Int × Int) × List Int} (h : kdfHas y.1 x = true) : kdfLook (wSpot g y spot).1 x 0 = kdfLook y.1 x 0 := (step_look (step_has h)).trans (step_look h)
theorem spot_len {spot g : Int} {y : List (Int × Int) × List Int} : (wSpot g y spot).1.length ≤ y.1.length + 2 ∧ (wSpot g y spot).2.length ≤ y.2.length + 2 := by
  obtain ⟨c, nl⟩ := y
  have h1 := step_len (spot := spot) (other := (0 - spot).fmod 48) (c := c) (nl := nl)
  unfold wSpot
  generalize hz : wStep spot ((0 - spot).fmod 48) (c, nl) = z at *
  obtain ⟨c2, n2⟩ := z
  have h2 := step_len (spot := spot) (other := (g - spot).fmod 48) (c := c2) (nl := n2)
  dsimp only at h1 ⊢
  omega
theorem mW_spot {m : Str → Option Value} {mo ms ml mr v : Option Value} {W : Addr} {g : Int} {tg : Tok} : (fun y => if y = Str.ofString "spot" then v else mW m mo ms ml mr W g tg y) = mW m mo v ml mr W g tg := by
  funext y
  unfold mW
  by_cases hy : y = Str.ofString "spot"
  · subst hy
    simp [show Str.ofString "spot" ≠ Str.ofString "other" from by decide +kernel]
  · simp only [if_neg hy]
theorem mW_later {m : Str → Option Value} {mo ms ml mr v : Option Value} {W : Addr} {g : Int} {tg : Tok} : (fun y => if y = Str.ofString "later" then v else mW m mo ms ml mr W g tg y) = mW m mo ms v mr W g tg := by
  funext y
  unfold mW
  by_cases hy : y = Str.ofString "later"
  · subst hy
    simp [show Str.ofString "later" ≠ Str.ofString "other" from by decide +kernel, show Str.ofString "later" ≠ Str.ofString "spot" from by decide +kernel]
  · simp only [if_neg hy]
theorem mW_row {m : Str → Option Value} {mo ms ml mr v : Option Value} {W : Addr} {g : Int} {tg : Tok} : (fun y => if y = Str.ofString "row" then v else mW m mo ms ml mr W g tg y) = mW m mo ms ml v W g tg := by
  funext y
  unfold mW
  by_cases hy : y = Str.ofString "row"
  · subst hy
    simp [show Str.ofString "row" ≠ Str.ofString "other" from by decide +kernel, show Str.ofString "row" ≠ Str.ofString "spot" from by decide +kernel, show Str.ofString "row" ≠ Str.ofString "later" from by decide +kernel]
  · simp only [if_neg hy]
noncomputable def rowTgt : { l : Expr // waysTurn.1[1]?.bind forTgt = some l } := by
  refine ⟨?l, ?h⟩
  case h =>
    conv => lhs; whnf
def RInv (w : World) (m : Str → Option Value) (c : List (Int × Int)) (fin : List (Int × Int) × List Int) (La : Addr) (mr : Option Value) (W : Addr) (g : Int) (tg : Tok) (rest : List (Addr × Obj)) (vs' : List Value) (m1 : Str → Option Value) (news : List (Addr × Obj)) : Prop :=
  ∃ (ss : List Int) (o' : Obj) (kvs' : List (Int × Value)) (vl' : List Value) (jl' : Nat) (mo' ms' : Option Value) (x : List (Int × Int) × List Int), IntsAre vs' ss ∧ m1 = mW m mo' ms' (some (.ref La)) mr W g tg ∧ news = (W, o') :: (La, listOf vl'.toArray jl') :: rest ∧ o'.IsDictOf (PySem.intKind prg w) kvs' ∧ PyProof.V.FlatPairs PyData.int kvs' (kdfD x.1) ∧ IntsAre vl' x.2 ∧
    x.1.length + 2 * ss.length ≤ 600 ∧ x.2.length + 2 * ss.length ≤ 600 ∧ (∀ s ∈ ss, kdfHas x.1 s = true ∧ kdfLook x.1 s 0 = kdfLook c s 0) ∧ (∀ s ∈ ss, (0 ≤ kdfLook c s 0 ∧ kdfLook c s 0 ≤ 900) ∧ 0 ≤ s ∧ s ≤ 48) ∧ ss.foldl (wSpot g) x = fin
local macro_rules | `(tactic| k_mem) => `(tactic| first | assumption | ktr_member | exact List.mem_cons_self | (refine List.mem_cons_of_mem _ ?_; k_mem))
local macro_rules | `(tactic| k_all) => `(tactic| assumption)
set_option maxRecDepth 100000 in
set_option maxHeartbeats 8000000 in
theorem row_loop (w : World) {mean : ExcName → Option Value} {mg mb : Str → Option Value} {h₀ : Heap} {dp un : Nat} {gd : Option (List Code)} {cn : Str} {cs : Scope} {L₀ a : Addr} {ccd : Value} {cl : List (Str × Addr)} {outer : List Env} {L W La R : Addr} {s : Shared} {m : Str → Option Value} {Q : Flow → Shared → Prop}
    {g : Int} {tg : Tok} {mo ms : Option Value} {rest : List (Addr × Obj)} {o : Obj} {kvs : List (Int × Value)} {c : List (Int × Int)} {vr : List Value} {nr : List Int} {jr : Nat}
    (X : (heapB w.params).In h₀) (T : Top Hd.hd.view_39 lse mean mg mb h₀)
    (F : Fr h₀ L s.heap (mW m mo ms (some (.ref La)) (some (.ref R)) W g tg)) (N : News h₀ L s.heap ((W, o) :: (La, listOf [].toArray 0) :: (R, listOf vr.toArray jr) :: rest)) (hne : @Ne Nat W La) (hsW : ∀ p ∈ (R, listOf vr.toArray jr) :: rest, p.1 ≠ W) (hsL : ∀ p ∈ (R, listOf vr.toArray jr) :: rest, p.1 ≠ La)
    (hlo : (W == sysModules) = false) (hdo : o.IsDictOf (PySem.intKind prg w) kvs) (hf : PyProof.V.FlatPairs PyData.int kvs (kdfD c)) (hc : c.length ≤ 100) (hi : IntsAre vr nr) (hl : nr.length ≤ 100) (hrow : ∀ s ∈ nr, kdfHas c s = true ∧ (0 ≤ kdfLook c s 0 ∧ kdfLook c s 0 ≤ 900) ∧ 0 ≤ s ∧ s ≤ 48) (hg : 0 ≤ g ∧ g ≤ 100)
    (hQ : ∀ h' tk' o' kvs' vl' jl' mo' ms', o'.IsDictOf (PySem.intKind prg w) kvs' → PyProof.V.FlatPairs PyData.int kvs' (kdfD (wRow g c nr).1) → IntsAre vl' (wRow g c nr).2 → 
      Fr h₀ L h' (mW m mo' ms' (some (.ref La)) (some (.ref R)) W g tg) → News h₀ L h' ((W, o') :: (La, listOf vl'.toArray jl') :: (R, listOf vr.toArray jr) :: rest) → Q .next { s with heap := h', toks := tk' }) :
    wpAny (model prg w) ((ktrTop dp un gd cn cs L₀ a ccd cl outer).deeper (waysEnv L)) (pyIter (.ref R)) (fun it s₂ => TurnsAt prg w ((ktrTop dp un gd cn cs L₀ a ccd cl outer).deeper (waysEnv L)) h₀ (waysEnv L) rowTgt.1 waysSpot.1 Q (fun _ _ => False) it s₂) (fun _ _ => False) s := by
  refine for_list (lo := listOf vr.toArray jr) rfl F N (.tail _ (.tail _ (.head _))) rfl rfl
    (RInv w m c (wRow g c nr) La (some (.ref R)) W g tg ((R, listOf vr.toArray jr) :: rest))
    ⟨nr, o, kvs, [], 0, mo, ms, (c, []), hi, rfl, rfl, hdo, hf, .nil, by simp only; omega, by simp only [List.length_nil]; omega, fun s hs => ⟨(hrow s hs).1, rfl⟩, fun s hs => (hrow s hs).2, rfl⟩ ?_ ?_
  · rintro v r m1 news I io h tk ⟨ss, o', kvs', vl', jl', mo', ms', ⟨c', n'⟩, hos, rfl, rfl, hd', hf', hi', hl1, hl2, hh', hb', hfold⟩ hI F1 N1
    cases hos with
    | cons sp tt hos2 =>
    rename_i ss2
    have hWI := hI (W, _) (.head _)
    have hLI := hI (La, _) (.tail _ (.head _))
    simp only [List.length_cons] at hl1 hl2
    have hvl' := hi'.length
    dsimp only at hl1 hl2 hvl' hh' hf' hi'
    have hst := spot_len (spot := sp) (g := g) (y := (c', n'))
    dsimp only at hst
    have hsp := hb' sp (.head _)
    have hhs := hh' sp (.head _)
    generalize hbd : waysSpot.1 = bd
    dsimp only [rowTgt, waysEnv, waysScope]
    k_steps
    subst hbd
    rename_i h2 F2 N2
    rw [mW_spot] at F2
    refine spot_body w (vl := vl') (nl := n') (jl := jl') (c := c') (o := o') (kvs := kvs') (rest := (I, io) :: (R, listOf vr.toArray jr) :: rest) X T F2 (cb_drop N2 ?_) hne ?_ ?_ hlo hd' hf' (by omega) (by omega) hi' hhs.1 (by rw [hhs.2]; exact hsp.1) hsp.2 hg ?_
    · intro p hp
      rcases List.mem_cons.mp hp with rfl | hp
      · exact .tail _ (.head _)
      rcases List.mem_cons.mp hp with rfl | hp
      · exact .tail _ (.tail _ (.head _))
      rcases List.mem_cons.mp hp with rfl | hp
      · exact .head _
      exact .tail _ (.tail _ (.tail _ hp))
    · intro p hp
      rcases List.mem_cons.mp hp with rfl | hp
      · exact fun h => hWI h.symm
      · exact hsW p hp
    · intro p hp
      rcases List.mem_cons.mp hp with rfl | hp
      · exact fun h => hLI h.symm
      · exact hsL p hp
    · intro h3 tk3 o3 kvs3 vl3 jl3 mo3 hd3 hf3 hi3 F3 N3
      refine TurnEnd.mk (all := _) ((W, o3) :: (La, listOf vl3.toArray jl3) :: (R, listOf vr.toArray jr) :: rest) F3 N3 ?_ ?_ ?_
        ⟨ss2, o3, kvs3, vl3, jl3, mo3, _, wSpot g (c', n') sp, hos2, rfl, rfl, hd3, hf3, hi3, by omega, by omega, fun s hs => ⟨spot_has (hh' s (.tail _ hs)).1, (spot_look (hh' s (.tail _ hs)).1).trans (hh' s (.tail _ hs)).2⟩, fun s hs => hb' s (.tail _ hs), hfold⟩
      · intro p hp
        rcases List.mem_cons.mp hp with rfl | hp
        · exact .tail _ (.tail _ (.head _))
        rcases List.mem_cons.mp hp with rfl | hp
        · exact .head _
        rcases List.mem_cons.mp hp with rfl | hp
        · exact .tail _ (.head _)
        exact .tail _ (.tail _ (.tail _ hp))
      · intro p hp q hq
        rw [List.mem_singleton.mp hq]
        rcases List.mem_cons.mp hp with rfl | hp
        · exact hWI
        rcases List.mem_cons.mp hp with rfl | hp
        · exact hLI
        exact hI p (.tail _ (.tail _ hp))
      · intro p hp
        rw [List.mem_singleton.mp hp]
        exact .tail _ (.tail _ (.head _))
  · rintro m1 news h tk ⟨ss, o', kvs', vl', jl', mo', ms', x, hos, rfl, rfl, hd', hf', hi', hl1, hl2, hh', hb', hfold⟩ F1 N1
    cases hos
    rw [List.foldl_nil] at hfold
    subst hfold
    exact hQ h tk o' kvs' vl' jl' mo' ms' hd' hf' hi' F1 N1
set_option maxRecDepth 100000 in
set_option maxHeartbeats 8000000 in
theorem ways_turn (w : World) {mean : ExcName → Option Value} {mg mb : Str → Option Value} {h₀ : Heap} {dp un : Nat} {gd : Option (List Code)} {cn : Str} {cs : Scope} {L₀ a : Addr} {ccd : Value} {cl : List (Str × Addr)} {outer : List Env} {L W R : Addr} {s : Shared} {m : Str → Option Value} {Q : Flow → Shared → Prop}
    {g : Int} {tg : Tok} {mo ms ml : Option Value} {rest : List (Addr × Obj)} {o : Obj} {kvs : List (Int × Value)} {c : List (Int × Int)} {vr : List Value} {nr : List Int} {jr : Nat}
    (X : (heapB w.params).In h₀) (T : Top Hd.hd.view_39 lse mean mg mb h₀)
    (F : Fr h₀ L s.heap (mW m mo ms ml (some (.ref R)) W g tg)) (N : News h₀ L s.heap ((W, o) :: (R, listOf vr.toArray jr) :: rest)) (hsW : ∀ p ∈ (R, listOf vr.toArray jr) :: rest, p.1 ≠ W)
    (hlo : (W == sysModules) = false) (hdo : o.IsDictOf (PySem.intKind prg w) kvs) (hf : PyProof.V.FlatPairs PyData.int kvs (kdfD c)) (hc : c.length ≤ 100) (hi : IntsAre vr nr) (hl : nr.length ≤ 100) (hrow : ∀ s ∈ nr, kdfHas c s = true ∧ (0 ≤ kdfLook c s 0 ∧ kdfLook c s 0 ≤ 900) ∧ 0 ≤ s ∧ s ≤ 48) (hg : 0 ≤ g ∧ g ≤ 100)
    (hQ : ∀ h' tk' o' kvs' vl' jl' mo' ms' La, o'.IsDictOf (PySem.intKind prg w) kvs' → PyProof.V.FlatPairs PyData.int kvs' (kdfD (wRow g c nr).1) → IntsAre vl' (wRow g c nr).2 → (∀ p ∈ (La, listOf vl'.toArray jl') :: rest, p.1 ≠ W) → 
      Fr h₀ L h' (mW m mo' ms' (some (.ref La)) (some (.ref La)) W g tg) → News h₀ L h' ((W, o') :: (La, listOf vl'.toArray jl') :: rest) → Q .next { s with heap := h', toks := tk' }) :
    wpAny (model prg w) ((ktrTop dp un gd cn cs L₀ a ccd cl outer).deeper (waysEnv L)) (execs waysTurn.1 (waysEnv L)) Q (fun _ _ => False) s := by
  revert X
  refine (fun (f : PySem.Challenge.rw_pg0084_01 = PySem.Challenge.rw_pg0084_01 → _) => f rfl) ?_
  k_fill
  intro _ X
  dsimp only [waysTurn, waysEnv, waysScope]
  (k_with "exec For Name Name cons nil" => refine holdW ?_)
  k_steps
  rename_i La h1 l1 h2 F2 N2
  obtain ⟨b1, b2, b3⟩ := l1
  have b4 := allLt_to b3
  rw [mW_later] at F2
  have hm : mW m mo ms (some (.ref La)) (some (.ref R)) W g tg (Str.ofString "row") = some (.ref R) := by
    unfold mW
    simp [show Str.ofString "row" ≠ Str.ofString "other" from by decide +kernel, show Str.ofString "row" ≠ Str.ofString "spot" from by decide +kernel, show Str.ofString "row" ≠ Str.ofString "later" from by decide +kernel]
  refine For_turns (target := rowTgt.1) (body := waysSpot.1) F2 ?_ (fun _ => rfl) PassesOwn.never
  refine ld F2 hm ?_
  refine row_loop w (La := La) (R := R) (vr := vr) (nr := nr) (jr := jr) (c := c) (o := o) (kvs := kvs) (rest := rest) X T F2 (cb_drop N2 ?_) (Nat.ne_of_lt b1) hsW ?_ hlo hdo hf hc hi hl hrow hg ?_
  · intro p hp
    rcases List.mem_cons.mp hp with rfl | hp
    · exact .tail _ (.head _)
    rcases List.mem_cons.mp hp with rfl | hp
    · exact .head _
    rcases List.mem_cons.mp hp with rfl | hp
    · exact .tail _ (.tail _ (.head _))
    exact .tail _ (.tail _ (.tail _ hp))
  · intro p hp
    rcases List.mem_cons.mp hp with rfl | hp
    · exact Nat.ne_of_lt b2
    · exact Nat.ne_of_lt (b4 p hp)
  · intro h3 tk3 o3 kvs3 vl3 jl3 mo3 ms3 hd3 hf3 hi3 F3 N3
    clear N2 F2 hm
    dsimp only
    k_steps
    rename_i h4 F4 N4
    rw [mW_row] at F4
    refine hQ _ _ o3 kvs3 vl3 jl3 mo3 ms3 La hd3 hf3 hi3 ?_ F4 (cb_drop N4 ?_)
    · intro p hp
      rcases List.mem_cons.mp hp with rfl | hp
      · exact Nat.ne_of_gt b1
      · exact hsW p (.tail _ hp)
    · intro p hp
      rcases List.mem_cons.mp hp with rfl | hp
      · exact .head _
      rcases List.mem_cons.mp hp with rfl | hp
      · exact .tail _ (.head _)
      exact .tail _ (.tail _ (.tail _ hp))
end Mine
end
section
open PySem PySem.W PyProof.Rows
namespace Mine
noncomputable def goodW (g : Int) : Nat → List (Int × Int) → List Int → Bool
  | 0, _, row => row.isEmpty
  | k + 1, c, row => row.isEmpty || (decide (c.length ≤ 100) && decide (row.length ≤ 100) && row.all (fun s => kdfHas c s && decide (0 ≤ kdfLook c s 0) && decide (kdfLook c s 0 ≤ 900) && decide (0 ≤ s) && decide (s ≤ 48)) && goodW g k (wRow g c row).1 (wRow g c row).2)
noncomputable def endW (g : Int) : Nat → List (Int × Int) → List Int → List (Int × Int)
  | 0, c, _ => c
  | k + 1, c, row => if row.isEmpty then c else endW g k (wRow g c row).1 (wRow g c row).2
end Mine
end
section
open PySem PySem.W PyProof.Rows
namespace Mine
def whileTest : Stmt → Option Expr
  | .While t .. => some t
  | _ => none
noncomputable def waysTest : { l : Expr // whileTest waysWhile.1 = some l } := by
  refine ⟨?l, ?h⟩
  case h =>
    conv => lhs; whnf
theorem mW_at_row {m : Str → Option Value} {mo ms ml mr : Option Value} {W : Addr} {g : Int} {tg : Tok} : mW m mo ms ml mr W g tg (Str.ofString "row") = mr := by
  unfold mW
  simp [show Str.ofString "row" ≠ Str.ofString "other" from by decide +kernel, show Str.ofString "row" ≠ Str.ofString "spot" from by decide +kernel, show Str.ofString "row" ≠ Str.ofString "later" from by decide +kernel]
set_option maxRecDepth 100000 in
set_option maxHeartbeats 8000000 in
theorem ways_while (w : World) {mean : ExcName → Option Value} {mg mb : Str → Option Value} {h₀ : Heap} {dp un : Nat} {gd : Option (List Code)} {cn : Str} {cs : Scope} {L₀ a : Addr} {ccd : Value} {cl : List (Str × Addr)} {outer : List Env} {L W : Addr} {m : Str → Option Value} {Q : Flow → Shared → Prop} {s₀ : Shared}
    {g : Int} {tg : Tok} {rest : List (Addr × Obj)} (fin : List (Int × Int))
    (X : (heapB w.params).In h₀) (T : Top Hd.hd.view_39 lse mean mg mb h₀) (hlo : (W == sysModules) = false) (hg : 0 ≤ g ∧ g ≤ 100)
    (hQ : ∀ h' tk' o' kvs' mo' ms' ml' mr', o'.IsDictOf (PySem.intKind prg w) kvs' → PyProof.V.FlatPairs PyData.int kvs' (kdfD fin) → 
      Fr h₀ L h' (mW m mo' ms' ml' mr' W g tg) → News h₀ L h' ((W, o') :: rest) → Q .next { s₀ with heap := h', toks := tk' }) :
    ∀ (k : Nat) (h : Heap) (tk : Nat) (c : List (Int × Int)) (nr : List Int) (vr : List Value) (jr : Nat) (R : Addr) (o : Obj) (kvs : List (Int × Value)) (mo ms ml : Option Value), goodW g k c nr = true → endW g k c nr = fin → IntsAre vr nr → o.IsDictOf (PySem.intKind prg w) kvs → PyProof.V.FlatPairs PyData.int kvs (kdfD c) →
      (∀ p ∈ (R, listOf vr.toArray jr) :: rest, p.1 ≠ W) → Fr h₀ L h (mW m mo ms ml (some (.ref R)) W g tg) → News h₀ L h ((W, o) :: (R, listOf vr.toArray jr) :: rest) →
      WhlRest prg w ((ktrTop dp un gd cn cs L₀ a ccd cl outer).deeper (waysEnv L)) (fun _ _ => False) (waysEnv L) waysTest.1 waysTurn.1 [] Q (k + 1) { s₀ with heap := h, toks := tk } := by
  intro k
  induction k with
  | zero =>
    intro h tk c nr vr jr R o kvs mo ms ml hgood hend hi hdo hf hsW F N
    have hn : nr = [] := by unfold goodW at hgood; exact List.isEmpty_iff.mp hgood
    subst hn
    cases hi
    unfold endW at hend
    subst hend
    refine whl_turn PassesOwn.never ?_
    refine isTrue_plain (ld F mW_at_row (wpAny_truthy_list (N.isList (.tail _ (.head _))) (by decide) ?_))
    refine WhlIf.no rfl (wpAny_execs_nil ?_)
    exact hQ h _ o kvs mo ms ml _ hdo hf F (cb_drop N fun p hp => by
      rcases List.mem_cons.mp hp with rfl | hp
      · exact .head _
      exact .tail _ (.tail _ hp))
  | succ k ih =>
    intro h tk c nr vr jr R o kvs mo ms ml hgood hend hi hdo hf hsW F N
    cases hnr : nr.isEmpty with
    | true =>
      have hn : nr = [] := List.isEmpty_iff.mp hnr
      subst hn
      cases hi
      unfold endW at hend
      simp only [List.isEmpty_nil, if_true] at hend
      subst hend
      refine whl_turn PassesOwn.never ?_
      refine isTrue_plain (ld F mW_at_row (wpAny_truthy_list (N.isList (.tail _ (.head _))) (by decide) ?_))
      refine WhlIf.no rfl (wpAny_execs_nil ?_)
      exact hQ h _ o kvs mo ms ml _ hdo hf F (cb_drop N fun p hp => by
        rcases List.mem_cons.mp hp with rfl | hp
        · exact .head _
        exact .tail _ (.tail _ hp))
    | false =>
      unfold goodW at hgood
      unfold endW at hend
      simp only [hnr, Bool.false_or, Bool.and_eq_true, decide_eq_true_eq, List.all_eq_true] at hgood
      rw [hnr, if_neg Bool.false_ne_true] at hend
      obtain ⟨⟨⟨hc, hl⟩, hrow⟩, hgood2⟩ := hgood
      have hlen := hi.length
      refine whl_turn PassesOwn.never ?_
      refine isTrue_plain (ld F mW_at_row (wpAny_truthy_list (N.isList (.tail _ (.head _))) (by rw [List.size_toArray]; omega) ?_))
      have hne : (!vr.toArray.isEmpty) = true := by
        cases hi with
        | nil => cases hnr
        | cons _ _ _ => rfl
      refine WhlIf.yes hne ?_
      refine ways_turn w (R := R) (vr := vr) (nr := nr) (jr := jr) (c := c) (o := o) (kvs := kvs) (rest := rest) X T F N hsW hlo hdo hf hc hi hl (fun s hs => ?_) hg ?_
      · have := hrow s hs
        obtain ⟨⟨⟨⟨a1, a2⟩, a3⟩, a4⟩, a5⟩ := this
        exact ⟨a1, ⟨a2, a3⟩, a4, a5⟩
      · intro h' tk' o' kvs' vl' jl' mo' ms' La hd' hf' hi' hsW' F' N'
        exact ih h' tk' (wRow g c nr).1 (wRow g c nr).2 vl' jl' La o' kvs' mo' ms' _ hgood2 hend hi' hd' hf' hsW' F' N'
end Mine
end
section
open PySem PySem.W PyProof.Rows
namespace Mine
theorem cleanWays84f : True := by
  k_with_none
  w_top off
  trivial
noncomputable def waysOf (p g : Int) : List (Int × Int) := endW g 13 [(p, 0)] [p]
theorem mW_of {h₀ h : Heap} {L W R : Addr} {m0 : Str → Option Value} {g : Int} {tg : Tok} (F : Fr h₀ L h (fun y => if y = Str.ofString "ways" then some (.ref W) else if y = Str.ofString "row" then some (.ref R) else m0 y)) (hg : m0 (Str.ofString "gap") = some (.int g tg)) :
    Fr h₀ L h (mW m0 (m0 (Str.ofString "other")) (m0 (Str.ofString "spot")) (m0 (Str.ofString "later")) (some (.ref R)) W g tg) := by
  have e : (fun y => if y = Str.ofString "ways" then some (Value.ref W) else if y = Str.ofString "row" then some (.ref R) else m0 y) = mW m0 (m0 (Str.ofString "other")) (m0 (Str.ofString "spot")) (m0 (Str.ofString "later")) (some (.ref R)) W g tg := by
    funext y
    unfold mW
    by_cases h1 : y = Str.ofString "other"
    · subst h1
      simp [show Str.ofString "other" ≠ Str.ofString "ways" from by decide +kernel, show Str.ofString "other" ≠ Str.ofString "row" from by decide +kernel]
    by_cases h2 : y = Str.ofString "spot"
    · subst h2
      simp [show Str.ofString "spot" ≠ Str.ofString "ways" from by decide +kernel, show Str.ofString "spot" ≠ Str.ofString "row" from by decide +kernel, show Str.ofString "spot" ≠ Str.ofString "other" from by decide +kernel]
    by_cases h3 : y = Str.ofString "later"
    · subst h3
      simp [show Str.ofString "later" ≠ Str.ofString "ways" from by decide +kernel, show Str.ofString "later" ≠ Str.ofString "row" from by decide +kernel, show Str.ofString "later" ≠ Str.ofString "other" from by decide +kernel, show Str.ofString "later" ≠ Str.ofString "spot" from by decide +kernel]
    by_cases h4 : y = Str.ofString "row"
    · subst h4
      simp [h1, h2, h3, show Str.ofString "row" ≠ Str.ofString "ways" from by decide +kernel]
    by_cases h5 : y = Str.ofString "ways"
    · simp only [if_neg h1, if_neg h2, if_neg h3, if_neg h4, if_pos h5]
    by_cases h6 : y = Str.ofString "gap"
    · simp only [if_neg h1, if_neg h2, if_neg h3, if_neg h4, if_neg h5, if_pos h6]
      rw [h6]; exact hg
    · simp only [if_neg h1, if_neg h2, if_neg h3, if_neg h4, if_neg h5, if_neg h6]
  rw [e] at F
  exact F
local macro_rules | `(tactic| k_mem) => `(tactic| first | assumption | ktr_member | exact List.mem_cons_self | (refine List.mem_cons_of_mem _ ?_; k_mem))
local macro_rules | `(tactic| k_all) => `(tactic| assumption)
set_option maxRecDepth 100000 in
set_option maxHeartbeats 8000000 in
theorem ways_claim (w : World) (p g : Int) (t1 t2 : Tok) (news : List (Addr × Obj)) (hgood : goodW g 13 [(p, 0)] [p] = true) (hg : 0 ≤ g ∧ g ≤ 100) :
   Cl w 147 news [.int p t1, .int g t2] 1 8 (fun K => ∀ W o kvs, o.IsDictOf (PySem.intKind prg w) kvs → PyProof.V.FlatPairs PyData.int kvs (kdfD (waysOf p g)) → (W == sysModules) = false → (∀ q ∈ news, q.1 < W) → K ((W, o) :: news) (.ref W)) := by
  dsimp only [Cl]
  k_fill
  intros; rename_i hret
  refine wpAny_call ?_
  k_dflt cell_enter
  (k_with "eval Dict" => (k_dflt (refine' kdn_eval (knd := PySem.intKind prg w) ?k1 ?k2 ?k3 ?k4 ?k5 ?k6 ?k7 ?_; (case k1 => k_asm); (case k2 => k_asm); (case k3 => exact Top.nolimit (by k_asm)); (case k4 => rfl); (case k5 => rfl); (case k6 => exact List.cons_ne_nil _ _); (case k7 => exact Nat.le_of_ble_eq_true rfl); intro d' h' o' F' N' l1 lo' hd'; (try k_lt l1))))
  (k_with "KdnMade" => (k_dflt (refine' kdn_made_intF ?k1 ?k2 ?k3 ?k4 ?k5 ?k6 ?k7 ?_; (case k1 => k_asm); (case k2 => k_asm); (case k3 => exact UpdF.head (by assumption)); (case k4 => k_asm); (case k5 => rfl); (case k6 => simp [intKeyPairs]); (case k7 => rfl); intro h' o' F' N' hd' hf'; (try dsimp only at N'))))
  (k_with "execs cons" => ((with_reducible show wpAny _ _ (execs (Stmt.While _ _ _ _ :: _) _) _ _ _); refine holdW ?_))
  k_steps
  rename_i h5 o1 hd1 hf1 R h4 la D h3 lb h2 h1 h0 F N
  have F2 := mW_of F (by rfl)
  obtain ⟨la1, la2⟩ := la
  obtain ⟨lb1, lb2, lb3⟩ := lb
  have la3 := allLt_to la2
  have lb4 := allLt_to lb3
  refine wpAny_execs_cons (wpAny_mono (E := fun _ _ => False) (whl_start (test := waysTest.1) (body := waysTurn.1) (orelse := []) 14 (ways_while w (rest := news) (waysOf p g) (by assumption) (by assumption) lo' hg ?_ 13 h0 _ [(p, 0)] [p] [.int p t1] 0 R o1 _ _ _ _ hgood rfl (.cons _ _ .nil) hd1 hf1 ?_ F2 ?_)) (fun _ _ h => h) (fun _ _ h => h.elim))
  · intro h' tk' o' kvs' mo' ms' ml' mr' hd2 hf2 F3 N3
    clear F2 N F
    dsimp only
    k_steps
    rename_i kF kN _ _
    exact hret d' o' kvs' hd2 hf2 lo' l1 _ _ kF kN
  · intro q hq
    rcases List.mem_cons.mp hq with rfl | hq
    · exact Nat.ne_of_gt la1
    · exact Nat.ne_of_lt (l1 q hq)
  · refine cb_drop N ?_
    intro q hq
    rcases List.mem_cons.mp hq with rfl | hq
    · exact .tail _ (.tail _ (.head _))
    rcases List.mem_cons.mp hq with rfl | hq
    · exact .tail _ (.head _)
    exact .tail _ (.tail _ (.tail _ hq))
end Mine
end
section
open PySem PySem.W PyProof.Rows
namespace Mine
theorem cleanAcc84l : True := by
  k_with_none
  w_top off
  trivial
def HoldL (P : Prop) : Prop := P
theorem holdL {P : Prop} (h : HoldL P) : P := h
abbrev accNew (C dx : Addr) : Obj := { cls := .ref C, dict := some dx, data := .seq #[] }
theorem ln_split : splitId "list.__new__" = some ("list", "__new__") := by decide +kernel
theorem ln_kind : builtinKind "list.__new__" = some .builtinFn := by decide +kernel
/-- what is known of a class that list makes -/
structure MadeL (M : Model) (h : Heap) (C : Addr) : Prop where
  obj : ∃ oc od cd sl, h.get? C = some ⟨oc, od, .cls cd, sl⟩ ∧ cd.hasDel = false ∧ cd.mro.isEmpty = false
  made : Looks M h (Bind.madeBy (.ref C)) (some "list.__new__")
  base : Looks M h (Bind.staticBase (.ref C)) (.ref C)
  self : Looks M h (isSubtype (.ref C) (.ref C)) true
  subl : Looks M h (isSubtype (.ref C) (.type "list")) true
  call : Looks M h (specialOf (.ref C) "__call__") (some (.builtin "type.__call__"))
  typ : Looks M h (isInstance (.ref C) (.type "type")) true
theorem madeL_of {K : Frag} {M : Model} {h : Heap} (X : K.In h) {C : Addr} {oc : Value} {od : Option Addr} {cd : ClassData} {sl : Array (Option Value)} (ho : K.lookup C = some ⟨oc, od, .cls cd, sl⟩) (e2 : cd.hasDel = false) (e3 : (sl.toList[4]?).join = some (.builtin "list.__new__"))
    (e4 : cd.mro = [.ref C, .type "list", .type "object"]) (h5 : subIn K (.ref C) (.ref C) = some true) (h6 : subIn K (.ref C) (.type "list") = some true) (h7 : specialIn K (.ref C) "__call__" = some (some (.builtin "type.__call__"))) (h8 : instIn K (.ref C) (.type "type") = some true) : MadeL M h C := by
  have hc : clsIn K C = some cd := by unfold clsIn; rw [ho]
  have hm : Looks M h (mroOf (.ref C)) cd.mro := (looks_clsIn X hc).andThen .now
  rw [e4] at hm
  have made : Looks M h (Bind.madeBy (.ref C)) (some "list.__new__") := by
    intro A Q E s k q
    unfold Bind.madeBy
    refine wpAny_bind (hm A _ E s k ?_)
    rw [List.forIn_cons]
    refine wpAny_bind (wpAny_bind (wpAny_bind (wpAny_bind (wpAny_loadPart (k _ _ (X _ _ ho)) (wpAny_pure ?_)))))
    dsimp only
    rw [← Array.getElem?_toList, e3]
    exact wpAny_pure (wpAny_pure (wpAny_pure q))
  refine ⟨⟨oc, od, cd, sl, X _ _ ho, e2, by rw [e4]; rfl⟩, made, ?_, looks_subIn X h5, looks_subIn X h6, looks_specialIn X h7, looks_instIn X h8⟩
  intro A Q E s k q
  unfold Bind.staticBase
  refine wpAny_bind (hm A _ E s k ?_)
  rw [List.forIn_cons]
  exact wpAny_bind (wpAny_bind (wpAny_bind (made A _ E s k (wpAny_pure (wpAny_pure (wpAny_pure q))))))
section
variable {prog : Program} {w : World} {A : Around} {K : Frag} {C : Addr} {R : Result → Shared → Prop} {h : Heap} {g : Array GenState} {d : Drawn} {t : Nat} {os : OsState}
theorem acc_new {rest : List Value} (Y : MadeL (model prog w) h C)
    (hq : R (.ok (.ret (.ref (h.objs.size + 1)))) ⟨(h.push emptyDict).push (accNew C h.objs.size), g, d, t, os⟩) :
    codeAny (model prog w) A (.call (.builtin "list.__new__") ⟨.ref C :: rest, []⟩) R ⟨h, g, d, t, os⟩ := by
  obtain ⟨⟨oc, od, cd, sl, hC, e2, e4⟩, made, base, self, subl, call, typ⟩ := Y
  refine codeAny_of_tree ?_
  show wpAny _ A.in1 (do checkBuiltinCall "list.__new__" ⟨.ref C :: rest, []⟩; again (.builtin "list.__new__" ⟨.ref C :: rest, []⟩)) _ _ _
  simp only [checkBuiltinCall, ln_kind, ln_split]
  repeat (first | simp only [bne_self_eq_false, Bool.false_eq_true, if_false, Bool.not_true] | lk)
  refine ⟨plainId_quiet PySem.F.plain_list_new _, codeAny_builtin_stack PySem.F.entry_list_new rfl fun p st => ?_⟩
  rw [Around.under_plainId PySem.F.plain_list_new _]
  have hown := owner_list_new
  simp only [hown]
  repeat (first | simp only [bne_self_eq_false, Bool.false_eq_true, if_false, Bool.not_true] | lk)
  have hC2 : ((h.push { cls := .type "dict", data := .dict #[] }).push { cls := .ref C, dict := some h.objs.size, data := .seq #[] }).get? C = some ⟨oc, od, .cls cd, sl⟩ := Heap.get?_push_of_some _ (Heap.get?_push_of_some _ hC)
  refine nd_load hC2 ?_
  refine wpAny_pure ?_
  dsimp only
  refine wpAny_pure ?_
  rw [e2]
  refine wpAny_pure (wpAny_pure ?_)
  show R _ _
  rw [Heap.size_push]
  exact hq
theorem acc_core {rest : List Value} {init : Value} (Y : MadeL (model prog w) h C) (hi : Looks (model prog w) h (typeLookup (.ref C) "__init__") (some init)) (hb : ∀ self, Looks (model prog w) h (bindSpecial init self) (init, [self]))
    (hq : codeAny (model prog w) (A.under (.builtin "type.__call__" ⟨.ref C :: rest, []⟩)) (.call init ⟨.ref (h.objs.size + 1) :: rest, []⟩) (InitBack (h.objs.size + 1) R) ⟨(h.push emptyDict).push (accNew C h.objs.size), g, d, t, os⟩) :
    codeAny (model prog w) A (.call (.ref C) ⟨rest, []⟩) R ⟨h, g, d, t, os⟩ := by
  have Y' := Y
  obtain ⟨⟨oc, od, cd, sl, hC, e2, e4⟩, made, base, self, subl, call, typ⟩ := Y
  have hm : Looks (model prog w) h (mroOf (.ref C)) cd.mro := ((Looks.ld (part := none) hC).andThen .now).andThen .now
  refine codeAny_of_tree ?_
  show wpAny _ _ (callAny (.ref C) _) _ _ _
  refine nd_load hC ?_
  show wpAny _ _ (callAny.viaDunder (.ref C) _) _ _ _
  unfold callAny.viaDunder
  refine wpAny_bind (call.at ?_)
  dsimp only
  rw [tc_bind]
  refine wpAny_bind (wpAny_pure (wpAny_bind (wpAny_pure ?_)))
  refine wpAny_pure (a := Fin.again (.call (.builtin "type.__call__") ⟨.ref C :: rest, []⟩)) (And.intro rfl ?_)
  refine codeAny_call_builtin_at (Code.quiet_builtin _ (by decide +kernel)) entry_typeCall (check_slot tc_kind tc_split typ (tc_args _ _ _) ?_)
  unfold Builtin.«type.__call__»
  repeat (first | simp only [e4, Bool.false_eq_true, if_false] | with_reducible refine wpAny_call ?_ | lk)
  refine acc_new Y' ?_
  have k : ∀ b o, h.get? b = some o → ((h.push emptyDict).push (accNew C h.objs.size)).get? b = some o := fun b o e => Heap.get?_push_of_some _ (Heap.get?_push_of_some _ e)
  have hx : ((h.push emptyDict).push (accNew C h.objs.size)).get? (h.objs.size + 1) = some (accNew C h.objs.size) := by heap_get
  have t1 : Looks (model prog w) ((h.push emptyDict).push (accNew C h.objs.size)) (typeOf (.ref (h.objs.size + 1))) (.ref C) := (Looks.ld hx).andThen .now
  have s1 := self.keeps k
  have i1 := hi.keeps k
  have b1 := (hb (.ref (h.objs.size + 1))).keeps k
  unfold isInstance callSpecial? specialOf
  repeat (first | with_reducible refine wpAny_call ?_ | lk)
  refine codeAny_mono hq fun r s' z => ?_
  rcases r with e | (v | _ | _ | _) <;> first | exact z | exact z.elim | skip
  obtain ⟨rfl, z⟩ := z
  exact wpAny_pure (wpAny_pure z)
end
section
variable {prog : Program} {w : World} {A : Around} {K : Frag} {C : Addr} {s : Shared} {h₀ : Heap} {L : Addr} {m : Str → Option Value} {news : List (Addr × Obj)} {R : Result → Shared → Prop} {oc : Value} {od : Option Addr} {cd : ClassData} {sl : Array (Option Value)}
theorem acc_make {rest : List Value} {fI : Addr} (F : Fr h₀ L s.heap m) (N : News h₀ L s.heap news) (X : K.In s.heap) (ho : K.lookup C = some ⟨oc, od, .cls cd, sl⟩) (e2 : cd.hasDel = false) (e3 : (sl.toList[4]?).join = some (.builtin "list.__new__"))
    (e4 : cd.mro = [.ref C, .type "list", .type "object"]) (h5 : subIn K (.ref C) (.ref C) = some true) (h6 : subIn K (.ref C) (.type "list") = some true) (h7 : specialIn K (.ref C) "__call__" = some (some (.builtin "type.__call__"))) (h8 : instIn K (.ref C) (.type "type") = some true)
    (hi : findIn K (.ref C) "__init__" = some (some (.ref fI))) (hf : typeIn K (.ref fI) = some (.type "function"))
    (h : ∀ x dx h', Fr h₀ L h' m → News h₀ L h' ((x, accNew C dx) :: (dx, emptyDict) :: news) → (∀ p ∈ news, p.1 < dx) → dx < x →
      codeAny (model prog w) (A.under (.builtin "type.__call__" ⟨.ref C :: rest, []⟩)) (.call (.ref fI) ⟨.ref x :: rest, []⟩) (InitBack x R) { s with heap := h' }) :
    codeAny (model prog w) A (.call (.ref C) ⟨rest, []⟩) R s := by
  obtain ⟨hh, g, d, t, os⟩ := s
  refine acc_core (madeL_of X ho e2 e3 e4 h5 h6 h7 h8) (looks_findIn X hi) (fun self => bind_fn X self hf) (h _ hh.objs.size _ ((F.push _).push _) ?_ (fun p hp => Heap.lt_size (N p hp).1) (Nat.lt_succ_self _))
  have := (N.push F emptyDict).push (F.push _) (accNew C hh.objs.size)
  rwa [Heap.size_push] at this
end
theorem type_wdi : typeOf (.builtin "list.__init__") = pure (.type "wrapper_descriptor") := by show builtinType _ = _; rw [builtinType_eq_fast]; kernel_rfl
theorem owner_init : (kfb_private% "ownerAndName") "list.__init__" = ("list", "__init__") := by first | decide +kernel | kernel_rfl
section
variable {prog : Program} {w : World} {M : Model} {A : Around} {E : Value → Shared → Prop} {s : Shared} {K : Frag} {x C : Addr}
theorem run_wdi {P : Fin → Shared → Prop} (L : Looks M s.heap (isInstance (.ref x) (.type "list")) true) (h : P (.done (.ret (.ref s.heap.objs.size))) { s with heap := s.heap.push (bnd "method-wrapper" "list.__init__" x) }) :
    wpAny M A (Builtin.«wrapper_descriptor.__get__» ⟨[.builtin "list.__init__", .ref x, .ref C], []⟩) P E s := by
  unfold Builtin.«wrapper_descriptor.__get__»
  refine wpAny_bind (wpAny_of_eq (a := (.builtin "list.__init__", some (.ref x), some (.ref C))) (by first | rfl | kernel_rfl) ?_)
  show wpAny M A ((kfb_private% "checkInstance") (.builtin "list.__init__") (.ref x) >>= fun _ => (newFields "method-wrapper" [.builtin "list.__init__", .ref x] >>= ret)) P E s
  refine wpAny_bind ?_
  show wpAny M A (pure ((PySem.Str.ofString ((kfb_private% "ownerAndName") "list.__init__").2), Value.type ((kfb_private% "ownerAndName") "list.__init__").1) >>= fun p => (isInstance (.ref x) p.2 >>= _)) _ E s
  rw [owner_init]
  refine wpAny_bind (wpAny_pure (wpAny_bind (L.here ?_)))
  refine wpAny_pure ?_
  exact wpAny_bind (wpAny_newObj_type (wpAny_pure h))
end
section
variable {prog : Program} {w : World} {A : Around} {E : Value → Shared → Prop} {s : Shared} {h₀ : Heap} {L : Addr} {m : Str → Option Value} {news news' : List (Addr × Obj)} {K : Frag} {x C D so u dx : Addr} {ox : Obj} {odx : Option Obj} {od : Obj}
theorem super_init {pl : Sem Bool} {Q : Value × List Value → Shared → Prop} (F : Fr h₀ L s.heap m) (X₀ : K.In h₀) (N : News h₀ L s.heap news) (hso : (so, ks_superObj D x C) ∈ news) (I : InstAt s.heap x ox C odx) (ho : nsIn K cStatics "thirdparty.any" = some none)
    (hm : ks_superIn K C D "__init__" = some (some (.builtin "list.__init__"))) (hsub : subIn K (.ref C) (.type "list") = some true)
    (h : ∀ q h', Fr h₀ L h' m → News h₀ L h' ((q, bnd "method-wrapper" "list.__init__" x) :: news) → (∀ p ∈ news, p.1 < q) → Q (.ref q, []) { s with heap := h', toks := s.toks + 1 }) : wpAny (model prog w) A (getMethod (.ref so) "__init__" pl) Q E s := by
  have X : K.In s.heap := X₀.keeps F.keep
  have LI := acc_isList (M := model prog w) X I hsub
  obtain ⟨hh, g, d, t, os⟩ := s
  cases hc : clsIn K C with
  | none => unfold ks_superIn at hm; rw [hc] at hm; cases hm
  | some cd =>
    unfold ks_superIn at hm
    rw [hc] at hm
    refine getMethod_super_b (BT := "method-wrapper") (N _ hso).1 (looks_opaque X ho) (l₀ := cd.mro) ?_ rfl X hm type_wdi slot_wd entry_wd (by unfold argsOk; kernel_rfl) (ks_ne X I hc) (by decide) (fun A' E' P hP => run_wdi LI hP) ?_
    · exact fun A Q E s k q => wpAny_bind ((looks_clsIn X hc) A _ E s k (wpAny_pure q))
    · obtain ⟨F', N', l'⟩ := ks_newsPush (s := ⟨hh, g, d, t, os⟩) (o := bnd "method-wrapper" "list.__init__" x) F N rfl (Heap.get?_push_at rfl rfl) (fun b o e => Heap.get?_push_of_some _ e)
      exact h _ _ F' N' l'
theorem bound_init {M : Model} {Q' : Unit → Shared → Prop} {E' : Value → Shared → Prop} (h : Q' () s) : wpAny M A (checkBoundCall "list.__init__" ⟨[.ref x], []⟩) Q' E' s := by
  have ha := PySem.F.args_list_init_1 (.ref x)
  have hk : builtinKind "list.__init__" = some .slot := by decide +kernel
  unfold checkBoundCall
  unfold argsOk at ha
  cases hs : Manifest.signature? "list.__init__" with
  | none => exact wpAny_pure h
  | some sig =>
    rw [hs] at ha
    simp only [hk]
    have h2 : Bind.checkArgs "list.__init__" sig ⟨[.ref x], []⟩ = pure () := ha
    show wpAny M A (if (Manifest.AttrKind.slot != Manifest.AttrKind.method && Manifest.AttrKind.slot != Manifest.AttrKind.classMethod) = true then Bind.checkArgs "list.__init__" sig ⟨[.ref x], []⟩ else _) _ _ _
    rw [if_pos (by decide), h2]
    exact wpAny_pure h
theorem call_init {n : Nat} {Q : Value → Shared → Prop} (ho : s.heap.get? u = some (bnd "method-wrapper" "list.__init__" x)) (hx : s.heap.get? x = some ox) (hd : ox.data = .seq #[] n)
    (h : Q .none { s with heap := s.heap.update x (Obj.mapSeq fun _ => #[]) }) : wpAny (model prog w) A (call (.ref u) []) Q E s := by
  refine call_bnd (.inl rfl) ho PySem.F.slot_list_init.plain PySem.F.entry_list_init (fun Q' E' h' => bound_init h') ?_
  unfold Builtin.«list.__init__»
  simp only [List.isEmpty_nil, Bool.not_true, Bool.false_eq_true, if_false, List.length_nil]
  rw [if_neg (by decide)]
  unfold Builtin.List.listItems
  refine wpAny_bind (wpAny_bind (wpAny_seqItems hx hd (wpAny_pure ?_)))
  unfold Builtin.List.listUpdate
  refine wpAny_bind (wpAny_updateSeq (f := fun _ => #[]) hx hd ?_ (by simp) (by simp))
  exact wpAny_bind (wpAny_letGo (wpAny_pure h))
theorem call_init_K {Q : Value → Shared → Prop} {n : Nat} (F : Fr h₀ L s.heap m) (N : News h₀ L s.heap news) (hu : (u, bnd "method-wrapper" "list.__init__" x) ∈ news)
    (U : Upd x (accObj dx [] n) (accObj dx [] n) news news') (h : ∀ h', Fr h₀ L h' m → News h₀ L h' news' → Q .none { s with heap := h' }) : wpAny (model prog w) A (call (.ref u) []) Q E s := by
  have hx := upd_mem U
  obtain ⟨pre, post, rfl, rfl, a, b⟩ := U.split
  have q := news_upd (f := Obj.mapSeq fun _ => #[]) F N a b rfl rfl
  exact call_init (N _ hu).1 (N _ hx).1 rfl (h _ q.1 q.2)
end
theorem new_end {w : World} {h₀ h : Heap} {L x dx : Addr} {p q : Addr × Obj} {news : List (Addr × Obj)} {tt t0 : Tok}
    (N : News h₀ L h (p :: q :: (x, accObj dx [] 0) :: (dx, dictOf (putL (Str.ofString "_initial_size") (PyData.keyHash w.params (Str.ofString "_initial_size")) (.str (Str.ofString "_initial_size") tt) (.int 0 t0) []) (putN (Str.ofString "_initial_size") [] 0)) :: news)) :
    News h₀ L h ((x, accObj dx [] 0) :: (dx, accDict w tt t0 1) :: news) := cb_drop N fun p hp => by
  rcases List.mem_cons.mp hp with rfl | hp
  · exact .tail _ (.tail _ (.head _))
  rcases List.mem_cons.mp hp with rfl | hp
  · exact .tail _ (.tail _ (.tail _ (.head _)))
  exact .tail _ (.tail _ (.tail _ (.tail _ hp)))
local macro_rules | `(tactic| cell_enter) => `(tactic| (refine' code_def ?k1 ?k2 ?k3 ?k4 ?k5 ?kA ?kF ?kK ?k6 ?k7 ?k8 ?k9 ?kB ?_ ?c2 ?c3 ?c4 ?c5; (case kA => exact rfl); (case kF => exact rfl); (case kK => assumption); (case k1 => k_asm); (case k2 => k_asm); (case k3 => k_asm); (case k4 => k_asm); (case k5 => k_asm); (case k6 => k_is); (case k7 => k_is); (case k8 => ktr_room); (case k9 => exact binds_K (by k_in) rfl (by k_is) rfl rfl rfl); (case c5 => decide); (case kB => exact locs rfl); (case c2 => exact rfl); (case c3 => exact rfl); (case c4 => exact rfl); k_whole; intro g' L' h' FG' F' N' B' X' T'; (try dsimp only); (try k_lift B'); (try k_fold)))
local macro_rules | `(tactic| k_mem) => `(tactic| first | assumption | ktr_member | exact List.mem_cons_self | (refine List.mem_cons_of_mem _ ?_; k_mem))
local macro_rules | `(tactic| k_inst) => `(tactic| exact acc_inst (by k_asm) (by k_mem) (by k_mem))
local macro_rules | `(tactic| k_all) => `(tactic| assumption)
set_option maxRecDepth 100000 in
set_option maxHeartbeats 8000000 in
theorem new_claim (w : World) (t0 : Tok) (news : List (Addr × Obj)) :
   Cl w 101 news [.int 0 t0] 5 40 (fun K => ∀ st dx n k t1 t2, @Ne Nat st dx → (∀ p ∈ news, p.1 ≠ st) → (∀ p ∈ news, p.1 ≠ dx) → K ((st, accObj dx [] n) :: (dx, accDict w t1 t2 k) :: news) (.ref st)) := by
  dsimp only [Cl]
  k_fill
  intros; rename_i hret
  refine wpAny_call ?_
  k_dflt (refine' acc_make ?k1 ?k2 ?k3 ?k4 ?k5 ?k6 ?k7 ?k8 ?k9 ?k10 ?k11 ?k12 ?k13 ?_; (case k1 => k_asm); (case k2 => k_asm); (case k3 => k_in); (case k4 => k_is); (case k5 => exact rfl); (case k6 => exact rfl); (case k7 => exact rfl); (case k8 => k_is); (case k9 => k_is); (case k10 => k_is); (case k11 => k_is); (case k12 => k_is); (case k13 => k_is))
  intro x dx h' F' N' l1 l2
  have N2 : News _ _ h' ((x, accObj dx [] 0) :: (dx, dictOf [] 0) :: news) := N'
  clear N'
  have hxd : @Ne Nat x dx := Nat.ne_of_gt l2
  have hd1 : ∀ p ∈ news, p.1 ≠ dx := fun p hp => Nat.ne_of_lt (l1 p hp)
  have hx1 : ∀ p ∈ news, p.1 ≠ x := fun p hp => Nat.ne_of_lt (Nat.lt_trans (l1 p hp) l2)
  (k_with "setAttr ref" => (k_dflt (refine' acc_set ?k1 ?k2 ?k3 ?k4 ?k5 ?k6 ?k7 ?k7b ?k7c ?k8 ?k9 ?k10 ?k11 ?k12 ?k13 ?_; (case k1 => k_asm); (case k2 => k_asm); (case k3 => k_asm); (case k4 => k_inst); (case k5 => exact rfl); (case k6 => k_is); (case k7 => k_is); (case k7b => exact rfl); (case k7c => exact rfl); (case k8 => k_is); (case k9 => k_is); (case k10 => exact rfl); (case k11 => exact rfl); (case k12 => k_upd); (case k13 => exact Nat.le_of_ble_eq_true rfl); intro h' F' N'; (try dsimp only); refine holdL ?_)))
  (k_with "getMethod ref" => (k_dflt (refine' super_init ?k1 ?k2 ?k3 ?k4 ?k5 ?k6 ?k7 ?k8 ?_; (case k1 => k_asm); (case k2 => k_asm); (case k3 => k_asm); (case k4 => k_mem); (case k5 => k_inst); (case k6 => k_is); (case k7 => ks_is); (case k8 => k_is); intro q9 h9 F9 N9 l9; (try k_lt l9))))
  (k_with "callWith ref" => (k_dflt (refine' callWith_bnd0 ?k1 ?k2 ?_; (case k2 => exact News.get (by k_asm) (by k_mem)); (case k1 => first | exact .inl rfl | exact .inr rfl); (try dsimp only [List.nil_append]))))
  (k_with "call ref" => (k_dflt (refine' call_init_K ?k1 ?k2 ?k3 ?k4 ?_; (case k1 => k_asm); (case k2 => k_asm); (case k3 => k_mem); (case k4 => k_upd); intro h9 F9 N9; (try dsimp only))))
  k_dflt (refine' ks_code_super ?k1 ?k2 ?k3 ?k4 ?k5 ?kA ?kF ?kK ?k6 ?k7 ?k8 ?k9 ?kB ?_ ?c1 ?c2 ?c3 ?c4; (case kA => exact rfl); (case kF => exact rfl); (case kK => assumption); (case k1 => k_asm); (case k2 => k_asm); (case k3 => k_asm); (case k4 => k_asm); (case k5 => k_asm); (case k6 => k_is); (case k7 => k_is); (case k8 => ktr_room); (case k9 => exact binds_K (by k_in) rfl (by k_is) rfl rfl rfl); (case kB => exact locs rfl); (case c1 => decide); (case c2 => exact rfl); (case c3 => exact rfl); (case c4 => exact rfl); intro g' L' h' FG' F' N' B' X' T' l1; (try dsimp only); (try k_lift B'))
  k_steps
  refine ks_wpAt_execs_cons (ks_wpAt_Expr_any (ks_wpAt_MethodCall ?_))
  k_steps
  rename_i kF kN _ _
  exact hret x dx 0 _ _ t0 hxd hx1 hd1 _ _ kF (new_end kN)
end Mine
end
section
open PySem PySem.W PyProof.Rows
namespace Mine
theorem cleanTail84f : True := by
  k_with_none
  w_top off
  trivial
noncomputable def neqIf : { st : Stmt // lawTail.1[2]? = some st } := by
  refine ⟨?l, ?h⟩
  case h =>
    conv => lhs; whnf
noncomputable def wsAsg : { st : Stmt // lawTail.1[3]? = some st } := by
  refine ⟨?l, ?h⟩
  case h =>
    conv => lhs; whnf
local macro_rules | `(tactic| k_mem) => `(tactic| first | assumption | ktr_member | exact List.mem_cons_self | (refine List.mem_cons_of_mem _ ?_; k_mem))
local macro_rules | `(tactic| k_all) => `(tactic| assumption)
set_option maxRecDepth 100000 in
set_option maxHeartbeats 8000000 in
theorem neq_stmt (w : World) {mean : ExcName → Option Value} {mg mb : Str → Option Value} {base h₀ : Heap} {L fa P D : Addr} {gl : Value} {s : Shared} {m : Str → Option Value} {news : List (Addr × Obj)} {E' : Value → Shared → Prop} {Q : Flow → Shared → Prop} {vs ys : List Value} {ps : List Int} {nP : Nat}
    (B : Below callerA base [] h₀) (X : (heapB w.params).In h₀) (T : Top Hd.hd.view_39 lse mean mg mb h₀)
    (F : Fr h₀ L s.heap m) (N : News h₀ L s.heap news) (hm1 : m (Str.ofString "told") = some (.ref D)) (hm2 : m (Str.ofString "places") = some (.ref P)) (hD : (D, LCg.lst ys) ∈ news) (hP : (P, listOf vs.toArray nP) ∈ news) (i1 : IntsAre ys ps) (i2 : IntsAre vs ps) (hl : ps.length ≤ 100)
    (hQ : ∀ h' tk', Fr h₀ L h' m → News h₀ L h' news → Q .next { s with heap := h', toks := tk' }) :
    wpAny (model prg w) (callerA.deeper (lawEnv L fa gl)) (exec neqIf.1 (lawEnv L fa gl)) Q E' s := by
  revert X
  refine (fun (f : PySem.Challenge.rw_pg0084_01 = PySem.Challenge.rw_pg0084_01 → _) => f rfl) ?_
  k_fill
  intro _ X
  dsimp only [neqIf, lawEnv, lawScope]
  k_steps
  refine ld F hm1 ?_
  try dsimp only
  refine ld F hm2 ?_
  try dsimp only
  refine ne_intsK (N.isList hD) i1 (N.isList hP) i2 (Nat.le_of_ble_eq_true rfl) ?_
  simp only [decide_true, Bool.not_true]
  k_steps
  exact hQ s.heap s.toks F N
end Mine
end
section
open PySem PySem.W PyProof.Rows
namespace Mine
theorem cleanTail84g : True := by
  k_with_none
  w_top off
  trivial
theorem firstT {prog : Program} {w : World} {A : Around} {E : Value → Shared → Prop} {s : Shared} {h₀ : Heap} {L D : Addr} {news : List (Addr × Obj)} {vs : List Value} {v : Value} {n : Nat} {t : Tok} {value slice : PySem.Expr} {Q : Value → Shared → Prop} (N : News h₀ L s.heap news) (hm : (D, listOf (v :: vs).toArray n) ∈ news) (h : Q v s)
    (hs : subscripted slice false (.ref D) (.int 0 t) = operate [.ref D, .int 0 t] (getItem (.ref D) (.int 0 t))) :
    wpAny (model prog w) A (subscriptTail value slice (.ref D) (.int 0 t)) Q E s :=
  tail_any (N.isList hm).typeIs slot_list_getitem.lookup (wpAny_getItem_list (N.isList hm) (by decide) (by decide) (by simp) h) hs
local macro_rules | `(tactic| k_mem) => `(tactic| first | assumption | ktr_member | exact List.mem_cons_self | (refine List.mem_cons_of_mem _ ?_; k_mem))
local macro_rules | `(tactic| k_all) => `(tactic| assumption)
set_option maxRecDepth 100000 in
set_option maxHeartbeats 8000000 in
theorem ws_stmt (w : World) {mean : ExcName → Option Value} {mg mb : Str → Option Value} {base h₀ : Heap} {L fa D : Addr} {gl : Value} {s : Shared} {m : Str → Option Value} {news : List (Addr × Obj)} {E' : Value → Shared → Prop} {Q : Flow → Shared → Prop} {ys : List Value} {p g : Int} {t tg : Tok}
    (B : Below callerA base [] h₀) (X : (heapB w.params).In h₀) (T : Top Hd.hd.view_39 lse mean mg mb h₀)
    (F : Fr h₀ L s.heap m) (N : News h₀ L s.heap news) (hm1 : m (Str.ofString "told") = some (.ref D)) (hm2 : m (Str.ofString "gap") = some (.int g tg)) (hD : (D, LCg.lst (.int p t :: ys)) ∈ news) (hgood : goodW g 13 [(p, 0)] [p] = true) (hg : 0 ≤ g ∧ g ≤ 100)
    (hQ : ∀ h' tk' W o kvs st dx n k t1 t2, o.IsDictOf (PySem.intKind prg w) kvs → PyProof.V.FlatPairs PyData.int kvs (kdfD (waysOf p g)) → (W == sysModules) = false → (∀ q ∈ news, q.1 < W) → @Ne Nat st dx → (∀ p ∈ (W, o) :: news, p.1 ≠ st) → (∀ p ∈ (W, o) :: news, p.1 ≠ dx) →
      Fr h₀ L h' (fun z => if z = Str.ofString "ways" then some (.ref W) else if z = Str.ofString "stack" then some (.ref st) else m z) → News h₀ L h' ((st, accObj dx [] n) :: (dx, accDict w t1 t2 k) :: (W, o) :: news) → Q .next { s with heap := h', toks := tk' }) :
    wpAny (model prg w) (callerA.deeper (lawEnv L fa gl)) (exec wsAsg.1 (lawEnv L fa gl)) Q E' s := by
  revert X
  refine (fun (f : PySem.Challenge.rw_pg0084_01 = PySem.Challenge.rw_pg0084_01 → _) => f rfl) ?_
  k_fill
  intro _ X
  dsimp only [wsAsg, lawEnv, lawScope]
  (k_with "eval Name" => ((with_reducible show wpAny _ _ (eval (Expr.Name (Str.ofString "told") _) _) _ _ _); (refine' ld ?k1 hm1 ?_; (case k1 => k_asm)); (try dsimp only)))
  (k_with "eval Name" => ((with_reducible show wpAny _ _ (eval (Expr.Name (Str.ofString "gap") _) _) _ _ _); (refine' ld ?k1 hm2 ?_; (case k1 => k_asm)); (try dsimp only)))
  (k_with "subscriptTail" => ((with_reducible show wpAny _ _ (subscriptTail _ _ (Value.ref _) (Value.int 0 _)) _ _ _); k_dflt (refine' firstT ?k1 hD ?_ ?k3; (case k1 => k_asm); (case k3 => with_unfolding_all rfl))))
  (k_with "call ref" => ((with_reducible show wpAny _ _ (PySem.call (Value.ref 147) _ _) _ _ _); k_dflt (refine' (ways_claim _ _ _ _ _ _ ?hx ?hy).use ?k1 ?k2 ?k3 ?k4 ?k5 ?kK ?kd ?ku ?_; (case k1 => k_asm); (case k2 => k_asm); (case k3 => k_asm); (case k4 => k_asm); (case k5 => k_asm); (case hx => assumption); (case hy => assumption); (case kK => first | exact rfl | assumption); (case kd => exact Nat.le_of_ble_eq_true rfl); (case ku => exact Nat.le_of_ble_eq_true rfl); intro W9 o9 kvs9 d9 f9 y9 l9 h9 tk9 F9 N9; (try dsimp only); (try k_fold))))
  (k_with "call ref" => ((with_reducible show wpAny _ _ (PySem.call (Value.ref 101) _ _) _ _ _); k_dflt (refine' (new_claim _ _ _).use ?k1 ?k2 ?k3 ?k4 ?k5 ?kK ?kd ?ku ?_; (case k1 => k_asm); (case k2 => k_asm); (case k3 => k_asm); (case k4 => k_asm); (case k5 => k_asm); (case kK => first | exact rfl | assumption); (case kd => exact Nat.le_of_ble_eq_true rfl); (case ku => exact Nat.le_of_ble_eq_true rfl); intro st8 dx8 n8 k8 t81 t82 ne8 a8 b8 h8 tk8 F8 N8; (try dsimp only); (try k_fold))))
  k_steps
  rename_i hZ _ _ kF kN
  exact hQ _ _ W9 o9 kvs9 st8 dx8 n8 k8 t81 t82 d9 f9 y9 l9 ne8 a8 b8 kF (cb_drop kN fun q hq => .tail _ hq)
end Mine
end
section
open PySem PySem.W PyProof.Rows
namespace Mine
/-- the stack's letters behind one more letter -/
def layW (most : Int) (ds : List Bool) (c : Bool) : List Bool :=
  match ds.getLast? with
  | none => [c]
  | some e => if e = c then ds.dropLast else if most < ((ds.length + 1 : Nat) : Int) then ((ds ++ [c]).drop 1).dropLast else ds ++ [c]
theorem laid_claim (w : World) (st dx : Addr) (es : List Ent) (n k : Nat) (t1 t2 t3 t4 : Tok) (c : Bool) (most : Int) (rest : List (Addr × Obj)) {bs R0 : List (Addr × Obj)} (ok : StkOk bs R0 st dx es rest) (hz : es.length ≤ 800) (hm : 1 ≤ most) :
   Cl w 154 ((st, accObj dx (es.map Ent.val) n) :: (dx, accDict w t1 t2 k) :: rest) [.ref st, .str (ltr c) t3, .int most t4] 7 60 (LaidOut w bs R0 st dx rest (layW most (es.map Ent.c) c)) := by
  rcases List.eq_nil_or_concat es with rfl | ⟨es', e, rfl⟩
  · exact laid0_claim w st dx n k t1 t2 t3 t4 c most rest ok hm
  · have h := Mine.laid1_claim w st dx es' e n k t1 t2 t3 t4 c most rest (by simpa using ok) (by simp at hz; omega)
    have e2 : layW most ((es' ++ [e]).map Ent.c) c = (if e.c = c then es'.map Ent.c else if most < ((es'.length + 2 : Nat) : Int) then (((es'.map Ent.c ++ [e.c]) ++ [c]).drop 1).dropLast else (es'.map Ent.c ++ [e.c]) ++ [c]) := by
      have l2 : (es'.map Ent.c).length = es'.length := List.length_map _
      unfold layW
      simp only [List.map_append, List.map_cons, List.map_nil, List.getLast?_concat, List.dropLast_concat, List.length_append, List.length_cons, List.length_nil, l2]
    have e3 : (es' ++ [e]).map Ent.val = es'.map Ent.val ++ [e.val] := by simp
    rw [← List.concat_eq_append] at e2 e3
    rw [e2, e3]
    exact h
end Mine
end
section
open PySem PySem.W PyProof.Rows
namespace Mine
theorem cleanTail84i : True := by
  k_with_none
  w_top off
  trivial
noncomputable def zipFor : { st : Stmt // lawTail.1[4]? = some st } := by
  refine ⟨?l, ?h⟩
  case h =>
    conv => lhs; whnf
noncomputable def zipBody : { l : List Stmt // bodyOf zipFor.1 = l } := by
  refine ⟨?l, ?h⟩
  case h =>
    conv => lhs; whnf
local macro_rules | `(tactic| k_mem) => `(tactic| first | assumption | ktr_member | exact List.mem_cons_self | (refine List.mem_cons_of_mem _ ?_; k_mem))
local macro_rules | `(tactic| k_inst) => `(tactic| exact acc_inst (by k_asm) (by k_mem) (by k_mem))
local macro_rules | `(tactic| k_all) => `(tactic| assumption)
local macro_rules | `(tactic| walk_at "call ref") => `(tactic| ((with_reducible show wpAny _ _ (PySem.call (Value.ref 98) _ _) _ _ _); k_dflt (refine' (pc_claim _ _ _ _ _ _ _ _ _ ?kh ?kg).use ?k1 ?k2 ?k3 ?k4 ?k5 ?kK ?kd ?ku ?_; (case k4 => k_asm); (case k1 => k_asm); (case k2 => k_asm); (case k3 => k_asm); (case k5 => k_asm); (case kh => first | assumption | k_mem); (case kg => first | assumption | k_mem); (case kK => first | exact rfl | assumption); (case kd => exact Nat.le_of_ble_eq_true rfl); (case ku => exact Nat.le_of_ble_eq_true rfl); intro t9 h9 tk9 F9 N9; (try dsimp only); (try k_fold))))
local macro_rules | `(tactic| walk_at "eval Constant str") => `(tactic| (exfalso; with_reducible contradiction))
set_option maxRecDepth 100000 in
set_option maxHeartbeats 8000000 in
theorem zip_body (w : World) {mean : ExcName → Option Value} {mg mb : Str → Option Value} {base h₀ : Heap} {L fa st dx W : Addr} {gl : Value} {s : Shared} {m : Str → Option Value} {rest bs R0 : List (Addr × Obj)} {E' : Value → Shared → Prop} {Q : Flow → Shared → Prop} {es : List Ent} {n k : Nat} {t1 t2 ta tb tm : Tok} {p g a b most : Int} {o : Obj} {kvs : List (Int × Value)} (c : Bool)
    (B : Below callerA base [] h₀) (X : (heapB w.params).In h₀) (T : Top Hd.hd.view_39 lse mean mg mb h₀)
    (F : Fr h₀ L s.heap m) (N : News h₀ L s.heap ((st, accObj dx (es.map Ent.val) n) :: (dx, accDict w t1 t2 k) :: rest)) (ok : StkOk bs R0 st dx es rest)
    (hst : m (Str.ofString "stack") = some (.ref st)) (hone : m (Str.ofString "one") = some (.int a ta)) (htwo : m (Str.ofString "two") = some (.int b tb)) (hmost : m (Str.ofString "most") = some (.int most tm)) (hways : m (Str.ofString "ways") = some (.ref W))
    (hW : (W, o) ∈ rest) (hdo : o.IsDictOf (PySem.intKind prg w) kvs) (hf : PyProof.V.FlatPairs PyData.int kvs (kdfD (waysOf p g))) (hlo : (W == sysModules) = false)
    (hz : es.length ≤ 800) (hm1 : 1 ≤ most) (hc : ((a + b).fmod 48 = 0) ↔ c = true) (hhas : kdfHas (waysOf p g) b = true) (hlook : kdfLook (waysOf p g) b 0 = ((layW most (es.map Ent.c) c).length : Int))
    (hQ : ∀ h' tk' es' n' k' u1 u2 rest', es'.map Ent.c = layW most (es.map Ent.c) c → StkOk bs R0 st dx es' rest' → (∀ p ∈ rest, p ∈ rest') → Fr h₀ L h' m → News h₀ L h' ((st, accObj dx (es'.map Ent.val) n') :: (dx, accDict w u1 u2 k') :: rest') → Q .next { s with heap := h', toks := tk' }) :
    wpAny (model prg w) (callerA.deeper (lawEnv L fa gl)) (execs zipBody.1 (lawEnv L fa gl)) Q E' s := by
  revert X
  refine (fun (f : PySem.Challenge.rw_pg0084_01 = PySem.Challenge.rw_pg0084_01 → _) => f rfl) ?_
  k_fill
  intro _ X
  dsimp only [zipBody, lawEnv, lawScope]
  (k_with "eval Name" => ((with_reducible show wpAny _ _ (eval (Expr.Name (Str.ofString "stack") _) _) _ _ _); (refine' ld ?k1 hst ?_; (case k1 => k_asm)); (try dsimp only)))
  (k_with "eval Name" => ((with_reducible show wpAny _ _ (eval (Expr.Name (Str.ofString "one") _) _) _ _ _); (refine' ld ?k1 hone ?_; (case k1 => k_asm)); (try dsimp only)))
  (k_with "eval Name" => ((with_reducible show wpAny _ _ (eval (Expr.Name (Str.ofString "two") _) _) _ _ _); (refine' ld ?k1 htwo ?_; (case k1 => k_asm)); (try dsimp only)))
  (k_with "eval Name" => ((with_reducible show wpAny _ _ (eval (Expr.Name (Str.ofString "most") _) _) _ _ _); (refine' ld ?k1 hmost ?_; (case k1 => k_asm)); (try dsimp only)))
  (k_with "eval Name" => ((with_reducible show wpAny _ _ (eval (Expr.Name (Str.ofString "ways") _) _) _ _ _); (refine' ld ?k1 hways ?_; (case k1 => k_asm)); (try dsimp only)))
  (k_with "getMethod ref" => (k_dflt (refine' acc_method ?k1 ?k2 ?k3 ?k4 ?k5 ?k6 ?k7 ?k8 ?_; (case k1 => k_in); (case k2 => k_inst); (case k3 => k_is); (case k4 => k_is); (case k5 => k_is); (case k6 => k_is); (case k7 => decide); (case k8 => rfl))))
  cases c
  · have hc' : ¬ (a + b).fmod 48 = 0 := fun e => Bool.noConfusion (hc.mp e)
    clear hc
    (k_with "call ref" => ((with_reducible show wpAny _ _ (PySem.call (Value.ref 154) _ _) _ _ _); k_dflt (refine' (laid_claim _ _ _ es _ _ _ _ _ _ false _ _ ok hz hm1).use ?k1 ?k2 ?k3 ?k4 ?k5 ?kK ?kd ?ku ?_; (case k4 => k_asm); (case k1 => k_asm); (case k2 => k_asm); (case k3 => k_asm); (case k5 => k_asm); (case kK => first | exact rfl | assumption); (case kd => exact Nat.le_of_ble_eq_true rfl); (case ku => exact Nat.le_of_ble_eq_true rfl); intro es9 n8 k8 u81 u82 rest9 e9 ok9 sub9 h8 tk8 F8 N8; (have hW9 := sub9 _ hW); (try dsimp only); (try k_fold))))
    k_steps
    · have hne2 : ((es9.map Ent.val).length : Int) = kdfLook (waysOf p g) b 0 := by rw [hlook, ← e9, List.length_map, List.length_map]
      exact absurd hne2 (by assumption)
    · exact hQ _ _ es9 n8 k8 u81 u82 rest9 e9 ok9 sub9 (by assumption) (by assumption)
  · have hc' : (a + b).fmod 48 = 0 := hc.mpr rfl
    clear hc
    (k_with "call ref" => ((with_reducible show wpAny _ _ (PySem.call (Value.ref 154) _ _) _ _ _); k_dflt (refine' (laid_claim _ _ _ es _ _ _ _ _ _ true _ _ ok hz hm1).use ?k1 ?k2 ?k3 ?k4 ?k5 ?kK ?kd ?ku ?_; (case k4 => k_asm); (case k1 => k_asm); (case k2 => k_asm); (case k3 => k_asm); (case k5 => k_asm); (case kK => first | exact rfl | assumption); (case kd => exact Nat.le_of_ble_eq_true rfl); (case ku => exact Nat.le_of_ble_eq_true rfl); intro es9 n8 k8 u81 u82 rest9 e9 ok9 sub9 h8 tk8 F8 N8; (have hW9 := sub9 _ hW); (try dsimp only); (try k_fold))))
    k_steps
    · have hne2 : ((es9.map Ent.val).length : Int) = kdfLook (waysOf p g) b 0 := by rw [hlook, ← e9, List.length_map, List.length_map]
      exact absurd hne2 (by assumption)
    · exact hQ _ _ es9 n8 k8 u81 u82 rest9 e9 ok9 sub9 (by assumption) (by assumption)
end Mine
end
section
open PySem PySem.W PyProof.Rows
namespace Mine
theorem cleanTail84j : True := by
  k_with_none
  w_top off
  trivial
noncomputable def strAsg : { st : Stmt // lawTail.1[5]? = some st } := by
  refine ⟨?l, ?h⟩
  case h =>
    conv => lhs; whnf
local macro_rules | `(tactic| k_mem) => `(tactic| first | assumption | ktr_member | exact List.mem_cons_self | (refine List.mem_cons_of_mem _ ?_; k_mem))
local macro_rules | `(tactic| k_all) => `(tactic| assumption)
set_option maxRecDepth 100000 in
set_option maxHeartbeats 8000000 in
theorem straight_stmt (w : World) {mean : ExcName → Option Value} {mg mb : Str → Option Value} {base h₀ : Heap} {L fa C : Addr} {gl : Value} {s : Shared} {m : Str → Option Value} {news : List (Addr × Obj)} {E' : Value → Shared → Prop} {Q : Flow → Shared → Prop} {v : Value} {vs : List Value} {nC : Nat}
    (B : Below callerA base [] h₀) (X : (heapB w.params).In h₀) (T : Top Hd.hd.view_39 lse mean mg mb h₀)
    (F : Fr h₀ L s.heap m) (N : News h₀ L s.heap news) (hm1 : m (Str.ofString "colours") = some (.ref C)) (hC : (C, listOf (v :: vs).toArray nC) ∈ news)
    (hQ : ∀ h' tk', Fr h₀ L h' (fun z => if z = Str.ofString "straight" then some v else m z) → News h₀ L h' news → Q .next { s with heap := h', toks := tk' }) :
    wpAny (model prg w) (callerA.deeper (lawEnv L fa gl)) (exec strAsg.1 (lawEnv L fa gl)) Q E' s := by
  revert X
  refine (fun (f : PySem.Challenge.rw_pg0084_01 = PySem.Challenge.rw_pg0084_01 → _) => f rfl) ?_
  k_fill
  intro _ X
  dsimp only [strAsg, lawEnv, lawScope]
  (k_with "eval Name" => ((with_reducible show wpAny _ _ (eval (Expr.Name (Str.ofString "colours") _) _) _ _ _); (refine' ld ?k1 hm1 ?_; (case k1 => k_asm)); (try dsimp only)))
  (k_with "subscriptTail" => ((with_reducible show wpAny _ _ (subscriptTail _ _ (Value.ref _) (Value.int 0 _)) _ _ _); k_dflt (refine' firstT ?k1 hC ?_ ?k3; (case k1 => k_asm); (case k3 => with_unfolding_all rfl))))
  k_steps
  rename_i kF kN
  exact hQ _ _ kF kN
end Mine
end
section
open PySem PySem.W PyProof.Rows
namespace Mine
theorem cleanTail84l : True := by
  k_with_none
  w_top off
  trivial
def tgtOf : Stmt → Option Expr
  | .For t .. => some t
  | _ => none
noncomputable def zipTgt : { t : Expr // tgtOf zipFor.1 = some t } := by
  refine ⟨?l, ?h⟩
  case h =>
    conv => lhs; whnf
local macro_rules | `(tactic| k_mem) => `(tactic| first | assumption | ktr_member | exact List.mem_cons_self | (refine List.mem_cons_of_mem _ ?_; k_mem))
local macro_rules | `(tactic| k_all) => `(tactic| assumption)
set_option maxRecDepth 100000 in
set_option maxHeartbeats 8000000 in
theorem zip_assign (w : World) {mean : ExcName → Option Value} {mg mb : Str → Option Value} {base h₀ : Heap} {L fa TT : Addr} {gl : Value} {s : Shared} {m : Str → Option Value} {news : List (Addr × Obj)} {Q : Unit → Shared → Prop} {x y : Value}
    (B : Below callerA base [] h₀) (X : (heapB w.params).In h₀) (T : Top Hd.hd.view_39 lse mean mg mb h₀)
    (F : Fr h₀ L s.heap m) (N : News h₀ L s.heap news) (ht : IsTup s.heap TT #[x, y])
    (hQ : ∀ h' tk', Fr h₀ L h' (fun z => if z = Str.ofString "two" then some y else if z = Str.ofString "one" then some x else m z) → News h₀ L h' news → Q () { s with heap := h', toks := tk' }) :
    wpAny (model prg w) (callerA.deeper (lawEnv L fa gl)) (assign zipTgt.1 (lawEnv L fa gl) (.ref TT)) Q (fun _ _ => False) s := by
  revert X
  refine (fun (f : PySem.Challenge.rw_pg0084_01 = PySem.Challenge.rw_pg0084_01 → _) => f rfl) ?_
  k_fill
  intro _ X
  dsimp only [zipTgt, lawEnv, lawScope]
  k_steps
  rename_i kF kN
  exact hQ _ _ kF kN
end Mine
end
section
open PySem PySem.W PyProof.Rows
namespace Mine
def offOf (its rest : List (Addr × Obj)) : List (Addr × Obj) := rest.filter fun p => its.all fun q => Nat.beq p.1 q.1 == false
theorem mem_offOf {its rest : List (Addr × Obj)} {p : Addr × Obj} : p ∈ offOf its rest ↔ p ∈ rest ∧ ∀ q ∈ its, @Ne Nat p.1 q.1 := by
  unfold offOf
  rw [List.mem_filter, List.all_eq_true]
  constructor
  · rintro ⟨a, b⟩
    refine ⟨a, fun q hq e => ?_⟩
    have := b q hq
    rw [e, Nat.beq_refl] at this
    cases this
  · rintro ⟨a, b⟩
    refine ⟨a, fun q hq => ?_⟩
    have := b q hq
    cases h : Nat.beq p.1 q.1
    · rfl
    · exact absurd (Nat.eq_of_beq_eq_true h) this
theorem StkOk.off {its R0 : List (Addr × Obj)} {st dx : Addr} {es : List Ent} {rest : List (Addr × Obj)} (h : StkOk its R0 st dx es rest) (ho : ∀ p ∈ R0, ∀ q ∈ its, @Ne Nat p.1 q.1) : StkOk [] (offOf its rest) st dx es (offOf its rest) where
  ne := h.ne
  s := fun p hp => h.s p (mem_offOf.mp hp).1
  d := fun p hp => h.d p (mem_offOf.mp hp).1
  b := fun p hp => nomatch hp
  m := fun e he => by
    obtain ⟨a, b⟩ := h.m e he
    have k : (e.a, e.obj) ∈ offOf its rest := mem_offOf.mpr ⟨a, fun q hq => by
      rcases b with b | b
      · exact ho _ b q hq
      · exact Nat.ne_of_gt (b q hq)⟩
    exact ⟨k, .inl k⟩
theorem StkOk.on {its R : List (Addr × Obj)} {st dx : Addr} {es : List Ent} {rest : List (Addr × Obj)} (h : StkOk [] R st dx es rest) (h1 : ∀ q ∈ its, q.1 ≠ st) (h2 : ∀ q ∈ its, q.1 ≠ dx) : StkOk its rest st dx es (its ++ rest) where
  ne := h.ne
  s := fun p hp => by
    rcases List.mem_append.mp hp with hp | hp
    · exact h1 p hp
    · exact h.s p hp
  d := fun p hp => by
    rcases List.mem_append.mp hp with hp | hp
    · exact h2 p hp
    · exact h.d p hp
  b := fun p hp => List.mem_append_left _ hp
  m := fun e he => ⟨List.mem_append_right _ (h.m e he).1, .inl (h.m e he).1⟩
end Mine
end
section
open PySem PySem.W PyProof.Rows
namespace Mine
theorem zip_turn (w : World) {mean : ExcName → Option Value} {mg mb : Str → Option Value} {base h₀ : Heap} {L fa st dx W TT : Addr} {gl : Value} {s s0 : Shared} {m : Str → Option Value} {its keep rest : List (Addr × Obj)} {es : List Ent} {n k : Nat} {t1 t2 ta tb tm : Tok} {p g a b most : Int} {o : Obj} {kvs : List (Int × Value)} {J : (Str → Option Value) → List (Addr × Obj) → Prop} (c : Bool)
    (B : Below callerA base [] h₀) (X : (heapB w.params).In h₀) (T : Top Hd.hd.view_39 lse mean mg mb h₀)
    (F : Fr h₀ L s.heap m) (N : News h₀ L s.heap (its ++ (st, accObj dx (es.map Ent.val) n) :: (dx, accDict w t1 t2 k) :: rest)) (ok : StkOk [] rest st dx es rest)
    (hs0 : ∀ h tk, ({ s with heap := h, toks := tk } : Shared) = { s0 with heap := h, toks := tk })
    (hoff : ∀ p ∈ (st, accObj dx (es.map Ent.val) n) :: (dx, accDict w t1 t2 k) :: rest, ∀ q ∈ its, p.1 ≠ q.1) (ht : IsTup s.heap TT #[.int a ta, .int b tb])
    (hst : m (Str.ofString "stack") = some (.ref st)) (hmost : m (Str.ofString "most") = some (.int most tm)) (hways : m (Str.ofString "ways") = some (.ref W))
    (hW : (W, o) ∈ rest) (hdo : o.IsDictOf (PySem.intKind prg w) kvs) (hf : PyProof.V.FlatPairs PyData.int kvs (kdfD (waysOf p g))) (hlo : (W == sysModules) = false)
    (hz : es.length ≤ 800) (hm1 : 1 ≤ most) (hc : ((a + b).fmod 48 = 0) ↔ c = true) (hhas : kdfHas (waysOf p g) b = true) (hlook : kdfLook (waysOf p g) b 0 = ((layW most (es.map Ent.c) c).length : Int))
    (hkeep : ∀ p ∈ keep, p ∈ rest)
    (hJ : ∀ es' n' k' u1 u2 rest' x y, es'.map Ent.c = layW most (es.map Ent.c) c → StkOk [] rest' st dx es' rest' → (∀ p ∈ rest, p ∈ rest') → J (fun z => if z = Str.ofString "two" then some y else if z = Str.ofString "one" then some x else m z) ((st, accObj dx (es'.map Ent.val) n') :: (dx, accDict w u1 u2 k') :: rest')) :
    wpAny (model prg w) (callerA.deeper (lawEnv L fa gl)) (assign zipTgt.1 (lawEnv L fa gl) (.ref TT)) (fun _ s₂ => wpAny (model prg w) (callerA.deeper (lawEnv L fa gl)) (execs zipBody.1 (lawEnv L fa gl)) (TurnEnd h₀ L s0 its keep J) (fun _ _ => False) s₂) (fun _ _ => False) s := by
  refine zip_assign w B X T F N ht fun h1 tk1 F1 N1 => ?_
  have o1 : ∀ q ∈ its, q.1 ≠ st := fun q hq e => hoff _ (.head _) q hq e.symm
  have o2 : ∀ q ∈ its, q.1 ≠ dx := fun q hq e => hoff _ (.tail _ (.head _)) q hq e.symm
  have N2 : News h₀ L h1 ((st, accObj dx (es.map Ent.val) n) :: (dx, accDict w t1 t2 k) :: (its ++ rest)) := cb_drop N1 fun q hq => by
    rcases List.mem_cons.mp hq with rfl | hq
    · exact List.mem_append_right _ (.head _)
    rcases List.mem_cons.mp hq with rfl | hq
    · exact List.mem_append_right _ (.tail _ (.head _))
    rcases List.mem_append.mp hq with hq | hq
    · exact List.mem_append_left _ hq
    · exact List.mem_append_right _ (.tail _ (.tail _ hq))
  refine zip_body w (s := { s with heap := h1, toks := tk1 }) (ta := ta) (tb := tb) (tm := tm) c B X T F1 N2 (ok.on o1 o2) ?_ ?_ ?_ ?_ ?_ (List.mem_append_right _ hW) hdo hf hlo hz hm1 hc hhas hlook ?_
  · simp only [show Str.ofString "stack" ≠ Str.ofString "two" from by decide +kernel, show Str.ofString "stack" ≠ Str.ofString "one" from by decide +kernel, if_false]; exact hst
  · simp only [show Str.ofString "one" ≠ Str.ofString "two" from by decide +kernel, if_false, if_true]
  · simp only [if_true]
  · simp only [show Str.ofString "most" ≠ Str.ofString "two" from by decide +kernel, show Str.ofString "most" ≠ Str.ofString "one" from by decide +kernel, if_false]; exact hmost
  · simp only [show Str.ofString "ways" ≠ Str.ofString "two" from by decide +kernel, show Str.ofString "ways" ≠ Str.ofString "one" from by decide +kernel, if_false]; exact hways
  · intro h' tk' es' n' k' u1 u2 rest' e' ok' sub' F' N'
    have offR : ∀ p ∈ rest, ∀ q ∈ its, @Ne Nat p.1 q.1 := fun p hp q hq => hoff p (.tail _ (.tail _ hp)) q hq
    have hin : ∀ p ∈ rest, p ∈ offOf its rest' := fun p hp => mem_offOf.mpr ⟨sub' p (List.mem_append_right _ hp), offR p hp⟩
    show TurnEnd h₀ L s0 its keep J .next { s with heap := h', toks := tk' }
    rw [hs0]
    refine TurnEnd.mk ((st, accObj dx (es'.map Ent.val) n') :: (dx, accDict w u1 u2 k') :: offOf its rest') F' N' ?_ ?_ (fun p hp => .tail _ (.tail _ (hin p (hkeep p hp)))) (hJ es' n' k' u1 u2 _ _ _ e' (ok'.off offR) hin)
    · intro q hq
      rcases List.mem_append.mp hq with hq | hq
      · exact .tail _ (.tail _ (sub' q (List.mem_append_left _ hq)))
      rcases List.mem_cons.mp hq with rfl | hq
      · exact .head _
      rcases List.mem_cons.mp hq with rfl | hq
      · exact .tail _ (.head _)
      exact .tail _ (.tail _ (mem_offOf.mp hq).1)
    · intro q hq r hr
      rcases List.mem_cons.mp hq with rfl | hq
      · exact fun e => o1 r hr e.symm
      rcases List.mem_cons.mp hq with rfl | hq
      · exact fun e => o2 r hr e.symm
      exact (mem_offOf.mp hq).2 r hr
end Mine
end
section
open PySem PySem.W PyProof.Rows
namespace Mine
theorem cleanTail84k : True := by
  k_with_none
  w_top off
  trivial
noncomputable def zipOk (p g most : Int) : List (Int × Int) → List Bool → Prop
  | [], _ => True
  | (a, b) :: r, ds => kdfHas (waysOf p g) b = true ∧ kdfLook (waysOf p g) b 0 = ((layW most ds (decide ((a + b).fmod 48 = 0))).length : Int) ∧ ds.length ≤ 800 ∧ zipOk p g most r (layW most ds (decide ((a + b).fmod 48 = 0)))
noncomputable def zipRun (most : Int) : List (Int × Int) → List Bool → List Bool
  | [], ds => ds
  | (a, b) :: r, ds => zipRun most r (layW most ds (decide ((a + b).fmod 48 = 0)))
local macro_rules | `(tactic| k_mem) => `(tactic| first | assumption | ktr_member | exact List.mem_cons_self | (refine List.mem_cons_of_mem _ ?_; k_mem))
local macro_rules | `(tactic| k_all) => `(tactic| assumption)
local macro_rules | `(tactic| walk_at "exec For Tuple Call") => `(tactic| ((rename Fr _ _ _ _ => lF'); (with_unfolding_all refine' For_turns lF' ?_; k_whole)))
local macro_rules | `(tactic| walk_at "call type:zip") => `(tactic| refine holdW ?_)
set_option maxRecDepth 100000 in
set_option maxHeartbeats 8000000 in
theorem zip_stmt (w : World) {mean : ExcName → Option Value} {mg mb : Str → Option Value} {base h₀ : Heap} {L fa st dx W D : Addr} {gl : Value} {s : Shared} {m : Str → Option Value} {rest : List (Addr × Obj)} {Q : Flow → Shared → Prop} {n k : Nat} {t1 t2 tm tp : Tok} {p g most : Int} {o : Obj} {kvs : List (Int × Value)} {ys : List Value} {ps : List Int}
    (B : Below callerA base [] h₀) (X : (heapB w.params).In h₀) (T : Top Hd.hd.view_39 lse mean mg mb h₀)
    (F : Fr h₀ L s.heap m) (N : News h₀ L s.heap ((st, accObj dx [] n) :: (dx, accDict w t1 t2 k) :: rest)) (ok : StkOk [] rest st dx [] rest)
    (hst : m (Str.ofString "stack") = some (.ref st)) (htold : m (Str.ofString "told") = some (.ref D)) (hmost : m (Str.ofString "most") = some (.int most tm)) (hways : m (Str.ofString "ways") = some (.ref W))
    (hD : (D, LCg.lst (.int p tp :: ys)) ∈ rest) (hI0 : IntsAre ys ps) (hl : ps.length ≤ 100)
    (hW : (W, o) ∈ rest) (hdo : o.IsDictOf (PySem.intKind prg w) kvs) (hf : PyProof.V.FlatPairs PyData.int kvs (kdfD (waysOf p g))) (hlo : (W == sysModules) = false) (hm1 : 1 ≤ most)
    (hgood : zipOk p g most ((p :: ps).zip ps) [])
    (hQ : ∀ h' tk' m' es' n' k' u1 u2 rest', (∀ z, z ≠ Str.ofString "one" → z ≠ Str.ofString "two" → m' z = m z) → es'.map Ent.c = zipRun most ((p :: ps).zip ps) [] → StkOk [] rest' st dx es' rest' → (∀ q ∈ rest, q ∈ rest') → Fr h₀ L h' m' → News h₀ L h' ((st, accObj dx (es'.map Ent.val) n') :: (dx, accDict w u1 u2 k') :: rest') → Q .next { s with heap := h', toks := tk' }) :
    wpAny (model prg w) (callerA.deeper (lawEnv L fa gl)) (exec zipFor.1 (lawEnv L fa gl)) Q (fun _ _ => False) s := by
  revert X
  refine (fun (f : PySem.Challenge.rw_pg0084_01 = PySem.Challenge.rw_pg0084_01 → _) => f rfl) ?_
  k_fill
  intro _ X
  have hbd : zipBody.1 = zipBody.1 := rfl
  dsimp only [zipFor, lawEnv, lawScope]
  (k_with "eval Name" => ((with_reducible show wpAny _ _ (eval (Expr.Name (Str.ofString "told") _) _) _ _ _); (refine' ld ?k1 htold ?_; (case k1 => k_asm)); (try dsimp only)))
  k_steps
  rename_i D' ws' h1 F1 N1 hI1 _ _ l1
  have N2 : News h₀ L h1 ((st, accObj dx [] n) :: (dx, accDict w t1 t2 k) :: (D', PySem.W.listOf ws'.toArray 0) :: rest) := cb_drop N1 fun q hq => by
    rcases List.mem_cons.mp hq with rfl | hq
    · exact .tail _ (.head _)
    rcases List.mem_cons.mp hq with rfl | hq
    · exact .tail _ (.tail _ (.head _))
    rcases List.mem_cons.mp hq with rfl | hq
    · exact .head _
    exact .tail _ (.tail _ (.tail _ hq))
  refine ktu_zip (lo1 := LCg.lst (.int p tp :: ys)) (lo2 := PySem.W.listOf ws'.toArray 0) (xs := .int p tp :: ys) (ys := ws') rfl F1 N2 (.tail _ (.tail _ (.tail _ hD))) rfl rfl (.tail _ (.tail _ (.head _))) rfl rfl (fun I hI => ?_)
  refine items_inv (fun xs m1 news1 => ∃ us vs as bs es n1 k1 u1 u2 rest1, xs = zipItems us vs ∧ IntsAre us as ∧ IntsAre vs bs ∧ zipOk p g most (as.zip bs) (es.map Ent.c) ∧ zipRun most (as.zip bs) (es.map Ent.c) = zipRun most ((p :: ps).zip ps) [] ∧ (∀ z, z ≠ Str.ofString "one" → z ≠ Str.ofString "two" → m1 z = m z) ∧ StkOk [] rest1 st dx es rest1 ∧ (∀ q ∈ (D', PySem.W.listOf ws'.toArray 0) :: rest, q ∈ rest1) ∧ news1 = (st, accObj dx (es.map Ent.val) n1) :: (dx, accDict w u1 u2 k1) :: rest1) ?_ ?_ _ _ _ ?_ ?_
  · rintro a r m1 news1 its v h tk ⟨us, vs, as, bs, es, n1, k1, u1, u2, rest1, ex, iu, iv, zo, zr, ma, ok1, sub1, rfl⟩ ho ha hoff F3 N3
    cases iu with
    | nil => cases ex
    | cons i ti iu =>
      cases iv with
      | nil => cases ex
      | cons j tj iv =>
        obtain ⟨rfl, rfl⟩ := List.cons.inj ex
        obtain ⟨TT, t, rfl, ht⟩ := ha
        obtain ⟨z1, z2, z3, z4⟩ := zo
        refine zip_turn w (s := { s with heap := h, toks := tk }) (ta := ti) (tb := tj) (tm := tm) (p := p) (g := g) (most := most) (W := W) (decide ((i + j).fmod 48 = 0)) B X T F3 N3 ok1 (fun _ _ => rfl) hoff ht ?_ ?_ ?_ (sub1 _ (.tail _ hW)) hdo hf hlo (by simpa using z3) hm1 (by simp) z1 z2 ?_ ?_
        · exact (ma _ (by decide +kernel) (by decide +kernel)).trans hst
        · exact (ma _ (by decide +kernel) (by decide +kernel)).trans hmost
        · exact (ma _ (by decide +kernel) (by decide +kernel)).trans hways
        · intro q hq
          rcases List.mem_cons.mp hq with rfl | hq
          · exact sub1 _ (.tail _ hD)
          · rw [List.mem_singleton.mp hq]; exact sub1 _ (.head _)
        · intro es' n' k' v1 v2 rest' x y e' ok' sub'
          exact ⟨_, _, _, _, es', n', k', v1, v2, rest', rfl, iu, iv, by rw [e']; exact z4, by rw [e']; exact zr, fun z a b => by simp only [if_neg a, if_neg b]; exact ma z a b, ok', fun q hq => sub' q (sub1 q hq), rfl⟩
  · rintro m1 news1 h tk ⟨us, vs, as, bs, es, n1, k1, u1, u2, rest1, ex, iu, iv, zo, zr, ma, ok1, sub1, rfl⟩ F3 N3
    have hz : as.zip bs = [] := by
      cases iu with
      | nil => rfl
      | cons _ _ iu =>
        cases iv with
        | nil => rfl
        | cons _ _ iv => cases ex
    rw [hz] at zr
    exact hQ h tk m1 es n1 k1 u1 u2 rest1 ma zr ok1 (fun q hq => sub1 q (.tail _ hq)) F3 N3
  · have okD : StkOk [] ((D', PySem.W.listOf ws'.toArray 0) :: rest) st dx [] ((D', PySem.W.listOf ws'.toArray 0) :: rest) := ⟨ok.ne, (fun q hq => by
      rcases List.mem_cons.mp hq with rfl | hq
      · exact Nat.ne_of_gt l1.1
      · exact ok.s q hq), (fun q hq => by
      rcases List.mem_cons.mp hq with rfl | hq
      · exact Nat.ne_of_gt l1.2.1
      · exact ok.d q hq), (fun q hq => by cases hq), (fun q hq => by cases hq)⟩
    exact ⟨_, _, p :: ps, ps, [], n, k, t1, t2, (D', PySem.W.listOf ws'.toArray 0) :: rest, rfl, .cons _ _ hI0, hI1, hgood, rfl, fun _ _ _ => rfl, okD, fun q hq => hq, rfl⟩
  · intro q hq r hr e
    have := hI q hq
    simp only [List.mem_cons, List.not_mem_nil, or_false] at hr
    rcases hr with rfl | rfl | rfl | rfl | rfl <;> (have e2 : @Eq Nat q.1 _ := e; have t2 : @LT.lt Nat _ q.1 I := this; simp only at e2; omega)
end Mine
end
section
open PySem PySem.W PyProof.Rows
set_option maxRecDepth 100000
namespace Mine
theorem split_iter : splitId "list.__iter__" = some ("list", "__iter__") := by decide +kernel
theorem kind_iter : (Manifest.find? "list").bind (·.attrs.lookup "__iter__") = some .slot := by decide +kernel
/-- an object whose data is a row of items, of whatever class -/
def IsRow (h : Heap) (x : Addr) (items : Array Value) : Prop := ∃ o n, h.get? x = some o ∧ o.data = .seq items n
theorem IsRow.at {h h' : Heap} {x : Addr} {items : Array Value} (r : IsRow h x items) (hk : ∀ o, h.get? x = some o → h'.get? x = some o) : IsRow h' x items :=
  let ⟨o, n, a, b⟩ := r; ⟨o, n, hk o a, b⟩
section
variable {prog : Program} {w : World} {A : Around} {E : Value → Shared → Prop} {s : Shared} {K : Frag} {x C it : Addr} {ox : Obj} {od : Option Obj} {items : Array Value} {i : Nat}
theorem acc_special2 {name : Str} {id : String} {refuse : Sem Value} {Q : Option Value → Shared → Prop} {T : String} {nm : Str} (slot : Slot T nm id) (X : K.In s.heap) (I : InstAt s.heap x ox C od) (hf : findIn K (.ref C) name = some (some (.builtin id)))
    (hc : wpAny (model prog w) A (call (.builtin id) [.ref x]) (fun v => Q (some v)) E s) : wpAny (model prog w) A (callSpecialIfBoundUnlessNone? (.ref x) name refuse) Q E s := by
  simp only [callSpecialIfBoundUnlessNone?, bindSpecialIfBound?, specialOf]
  refine wpAny_holding (wpAny_bind (wpAny_bind (wpAny_bind (I.type.here ((looks_findIn X hf).here ?_)))))
  simp only [slot.bind]
  refine wpAny_bind (wpAny_askSetting (wpAny_ite ?_))
  have fin : wpAny (model prog w) A (if (Value.builtin id == Value.none) = true then (refuse >>= fun v => pure (some v)) else (call (.builtin id) [.ref x] >>= fun v => pure (some v))) Q E s := by
    simp only [builtin_beq_none, Bool.false_eq_true, if_false]
    exact wpAny_bind (wpAny_mono hc (fun v s' h' => wpAny_pure h') fun _ _ h' => h')
  split
  · exact wpAny_bind (wpAny_pure (wpAny_pure fin))
  · exact wpAny_tryCatch (wpAny_bind (wpAny_pure (wpAny_pure fin)))
theorem acc_specialOf {name : Str} {f : Value} {Q : Option Value → Shared → Prop} (X : K.In s.heap) (I : InstAt s.heap x ox C od) (hf : findIn K (.ref C) name = some (some f)) (h : Q (some f) s) : wpAny (model prog w) A (specialOf (.ref x) name) Q E s := by
  unfold specialOf
  exact wpAny_bind (I.type.here ((looks_findIn X hf).here h))
theorem acc_iter {Q : Value → Shared → Prop} (X : K.In s.heap) (I : InstAt s.heap x ox C od) (hsub : subIn K (.ref C) (.type "list") = some true) (hf : findIn K (.ref C) "__iter__" = some (some (.builtin "list.__iter__")))
    (hQ : Q (.ref s.heap.objs.size) { s with heap := s.heap.push { cls := .type "list_iterator", data := .fields #[.ref x, .int 0 0] } }) : wpAny (model prog w) A (pyIter (.ref x)) Q E s := by
  unfold pyIter
  refine wpAny_bind (acc_specialOf X I hf ?_)
  show wpAny _ A (callSpecialIfBoundUnlessNone? (.ref x) "__iter__" _ >>= _) Q E s
  refine wpAny_bind (acc_special2 slot_list_iter X I hf ?_)
  refine wpAny_call (codeAny_call_builtin slot_list_iter.plain entry_list_iter (check_sub (id := "list.__iter__") (owner := "list") (n := "__iter__") split_iter (.inl kind_iter) (acc_isList X I hsub) (args_list_iter _) ?_))
  show wpAny _ _ (do ret (← newFields "list_iterator" [.ref x, rawInt 0])) _ _ s
  refine wpAny_bind (wpAny_newObj_type (wpAny_pure ?_))
  have ht : Shared.TypeIs { s with heap := s.heap.push { cls := .type "list_iterator", data := .fields #[.ref x, .int 0 0] } } (.ref s.heap.objs.size) "list_iterator" := ⟨_, Heap.get?_push_size _ rfl, rfl⟩
  exact wpAny_bind (wpAny_specialOf ht slot_listiter_next.lookup (wpAny_pure hQ))
theorem acc_next {v : Value} {Q : Option Value → Shared → Prop} (hit : s.heap.IsListIter it x i) (hl : IsRow s.heap x items) (hx : items[i]? = some v)
    (hQ : ∀ h', h'.IsListIter it x (i + 1) → Heap.SameBut it s.heap h' → Q (some v) { s with heap := h' }) : wpAny (model prog w) A (pyNext (.ref it)) Q E s := by
  obtain ⟨o, ho, hc, hd⟩ := id hit
  obtain ⟨ol, nl, hol, hdl⟩ := hl
  unfold pyNext
  refine wpAny_bind (wpAny_attempt (wpAny_callSpecial?_slot (name := Str.ofString "__next__") hit.typeIs slot_listiter_next
    (wpAny_call_entry slot_listiter_next hit.typeIs entry_listiter_next ?_ (args_listiter_next _))))
  show wpAny _ _ (field (.ref it) 0 >>= _) _ _ s
  refine wpAny_bind (wpAny_field ho hd (x := .ref x) rfl ?_)
  show wpAny _ _ (if (Value.ref x == Value.none) = true then _ else _) _ _ s
  rw [if_neg (show ¬ ((Value.ref x == Value.none) = true) from Bool.false_ne_true)]
  show wpAny _ _ (field (.ref it) 1 >>= _) _ _ s
  refine wpAny_bind (wpAny_field ho hd (x := .int i 0) rfl ?_)
  show wpAny _ _ (seqItems? (.ref x) >>= _) _ _ s
  refine wpAny_bind (wpAny_seqItems hol hdl ?_)
  simp only [Int.toNat_natCast, hx]
  refine wpAny_bind (wpAny_setField ho hd (by simp) (wpAny_pure ⟨v, rfl, wpAny_pure (hQ _ ?_ (Heap.SameBut.update ..))⟩))
  exact ⟨_, Heap.get?_update_self _ ho (Obj.isFreed_of_fields (Obj.data_mapFields hd _)), (Obj.cls_mapFields ..).trans hc, by rw [Obj.data_mapFields hd]; simp [rawInt]⟩
theorem acc_done {Q : Option Value → Shared → Prop} (hh : A.handled = none) (hit : s.heap.IsListIter it x i) (hl : IsRow s.heap x items) (hx : items[i]? = none)
    (hQ : ∀ h', Heap.ExtBut it s.heap h' → Q none { s with heap := h' }) : wpAny (model prog w) A (pyNext (.ref it)) Q E s := by
  obtain ⟨o, ho, hc, hd⟩ := id hit
  obtain ⟨ol, nl, hol, hdl⟩ := hl
  unfold pyNext
  refine wpAny_bind (wpAny_attempt (wpAny_callSpecial?_slot (name := Str.ofString "__next__") hit.typeIs slot_listiter_next
    (wpAny_call_entry slot_listiter_next hit.typeIs entry_listiter_next ?_ (args_listiter_next _))))
  show wpAny _ _ (field (.ref it) 0 >>= _) _ _ s
  refine wpAny_bind (wpAny_field ho hd (x := .ref x) rfl ?_)
  show wpAny _ _ (if (Value.ref x == Value.none) = true then _ else _) _ _ s
  rw [if_neg (show ¬ ((Value.ref x == Value.none) = true) from Bool.false_ne_true)]
  show wpAny _ _ (field (.ref it) 1 >>= _) _ _ s
  refine wpAny_bind (wpAny_field ho hd (x := .int i 0) rfl ?_)
  show wpAny _ _ (seqItems? (.ref x) >>= _) _ _ s
  refine wpAny_bind (wpAny_seqItems hol hdl ?_)
  simp only [Int.toNat_natCast, hx]
  refine wpAny_bind (wpAny_rule (wpAny_bind (wpAny_setField ho hd (by simp) ?_)))
  show wpAny _ _ (newExc (.type "StopIteration") [] >>= _) _ _ _
  refine wpAny_bind ?_
  simp only [newExc, newTuple]
  refine wpAny_bind (wpAny_newObj_type ?_ (by size_fits))
  refine wpAny_bind (m := firstArgMember _ _) (wpAny_of_eq (a := Value.none) (by first | rfl | (simp only [firstArgMember]; rfl)) ?_)
  refine wpAny_newObj_type ?_ (by size_fits)
  simp only [raiseNew]
  refine wpAny_bind (wpAny_handled ?_)
  rw [show A.in1.handled = none from hh]
  refine wpAny_bind (wpAny_pure (wpAny_throw ?_))
  refine wpAny_bind (wpAny_isInstance (T := "StopIteration") (b := true) ⟨_, Heap.get?_push_size _ rfl, rfl⟩ isSubtype_stop ?_)
  exact wpAny_pure (hQ _ (((Heap.SameBut.update ..).extBut.push _).push _))
end
/-- the walk over a row of tuples, the row's object of whatever class -/
theorem walks_row {prog : Program} {w : World} {A : Around} (hh : A.handled = none) (I ax : Addr) (hne : ax ≠ I) (items : Array Value) (Ts : Nat → Addr) (vals : Nat → Array Value)
    (hit : ∀ j, j < items.size → items[j]? = some (.ref (Ts j))) (hTI : ∀ j, j < items.size → Ts j ≠ I) :
    WalksU prog w A I (I :: ax :: (List.range items.size).map Ts) [I] items.size (fun j v => j < items.size ∧ v = vals j)
      (fun j h => h.IsListIter I ax j ∧ IsRow h ax items ∧ ∀ k, k < items.size → h.IsTuple (Ts k) (vals k))
      (fun j T h => (j < items.size ∧ T = Ts j) ∧ h.IsListIter I ax (j + 1) ∧ IsRow h ax items ∧ ∀ k, k < items.size → h.IsTuple (Ts k) (vals k)) where
  sub := fun b hb => by simp at hb; simp [hb]
  frame := fun _ _ _ st hk => ⟨st.1.at fun o e => hk I (by simp) o e, st.2.1.at fun o e => hk ax (by simp) o e,
    fun k hk' => (st.2.2 k hk').at fun o e => hk (Ts k) (List.mem_cons_of_mem _ (List.mem_cons_of_mem _ (List.mem_map.mpr ⟨k, List.mem_range.mpr hk', rfl⟩))) o e⟩
  item := fun i s Q E hi st hQ => by
    refine acc_next st.1 st.2.1 (v := .ref (Ts i)) (hit i hi) fun h' hit' hs' => ?_
    have tup : ∀ k, k < items.size → h'.IsTuple (Ts k) (vals k) := fun k hk' => (st.2.2 k hk').extBut hs'.extBut (hTI k hk')
    exact hQ (Ts i) (vals i) h' s.toks ⟨hi, rfl⟩ (tup i hi) ⟨⟨hi, rfl⟩, hit', st.2.1.at fun o e => hs'.extBut ax o hne e, tup⟩ fun b o hb e => hs'.extBut b o (fun h => hb (by simp [h])) e
  go := fun _ _ _ _ _ s Q _ hm hQ => wpAny_letOwnedTupleGo_listiter hm.2.1 (hQ s.heap hm.2 fun _ _ _ e => e)
  apart := fun j T _ hm hmem => by
    rcases List.mem_cons.mp hmem with e | e
    · exact hTI j hm.1.1 (hm.1.2 ▸ e)
    · cases e
  done := fun s Q E st hQ => acc_done hh st.1 st.2.1 (by simp) fun h' he' => hQ h' s.toks fun b o hb e => he' b o (fun h => hb (by simp [h])) e
  self := fun _ _ _ _ st hQ => wpAny_pyIter_listiter st.1 hQ
end Mine
end
section
open PySem PySem.W PySem.Calls PyProof.Rows
namespace Mine
/-- the table of the nested code objects of __str__, as it stands before the first call -/
abbrev tab0 : Obj := { cls := .none, data := .fields #[] }
set_option maxRecDepth 100000 in
theorem tab70_at {P : Params} {h : Heap} (X : (heapS P).In h) : h.get? 70 = some tab0 := X 70 _ (by kernel_rfl)
def codeOk (o : Option Obj) : Bool := match o with
  | some o => match o.cls, o.data with
    | .type t, .fields vs => t == "code" && (match vs.getD 11 .none, (vs[11]? : Option Value), vs.getD 18 .none, vs.getD 7 .none, vs.getD 9 .none, vs.getD 10 .none with
      | .ref P, some (.ref P'), .str _ _, .int _ _, .bool _, .int _ _ => Nat.beq P 70 && Nat.beq P' 70
      | _, _, _, _, _, _ => false)
    | _, _ => false
  | none => false
set_option maxRecDepth 100000 in
theorem code74 (P : Params) : codeOk ((heapB P).lookup 74) = true := by kernel_rfl
theorem code_at {P : Params} {h : Heap} (X : (heapB P).In h) (ht : h.get? 70 = some tab0) : h.IsCode 74 70 #[] ∧ h.TableAt 74 70 #[] := by
  have c := code74 P
  unfold codeOk at c
  split at c
  · rename_i o e
    have ho := X 74 o e
    split at c
    · rename_i t vs e1 e2
      simp only [Bool.and_eq_true] at c
      obtain ⟨c1, c2⟩ := c
      split at c2
      · rename_i a1 a2 a3 a4 a5 a6
        simp only [Bool.and_eq_true] at c2
        have b1 := Nat.eq_of_beq_eq_true c2.1
        have b2 := Nat.eq_of_beq_eq_true c2.2
        subst b1 b2
        have ct : t = "code" := eq_of_beq c1
        subst ct
        exact ⟨⟨o, vs, _, _, _, _, _, _, _, tab0, ho, e2, a1, a3, a4, a5, a6, ht, rfl, trivial, by decide⟩, ⟨⟨o, vs, ho, e1, e2, a2⟩, ht⟩⟩
      · cases c2
    · cases c
  · cases c
theorem based74 {P : Params} {h : Heap} {mc : Str → Option Value} (X : (heapB P).In h) (ht : h.get? 70 = some tab0) (hs : h.Ns cStatics mc) : Based h h 74 70 #[] := by
  obtain ⟨a, b⟩ := code_at X ht
  refine .start a b fun e => ?_
  obtain ⟨o, es, n, ho, hd, _⟩ := hs
  rw [← e] at ho
  rw [ht] at ho
  cases ho
  cases hd
section
variable {h : Heap} {ps : Array Value}
theorem reg_other {b : Addr} {o : Obj} (hb : b ≠ 70) (e : h.get? b = some o) : (regrown h 70 ps).get? b = some o := regrown_other h 70 ps b o hb e
theorem reg_ns {a : Addr} {m : Str → Option Value} (ht : h.get? 70 = some tab0) (x : h.Ns a m) : (regrown h 70 ps).Ns a m := by
  obtain ⟨o, es, n, ho, hd, r⟩ := x
  refine ⟨o, es, n, reg_other (fun e => ?_) ho, hd, r⟩
  rw [e, ht] at ho
  cases ho
  cases hd
theorem reg_heapB {P : Params} (X : (heapB P).In h) : (heapB P).In (regrown h 70 ps) := fun a o e =>
  reg_other (lookup_notTab ((heapB_eq P).symm ▸ e)).2 (X a o e)
theorem reg_rec {c : Value} {q : Str} (ht : h.get? 70 = some tab0) (x : h.CodeRec c q) : (regrown h 70 ps).CodeRec c q := by
  obtain ⟨c', o, vs, t, e, g, d, r⟩ := x
  refine ⟨c', o, vs, t, e, reg_other (fun z => ?_) g, d, r⟩
  rw [z, ht] at g
  cases g
  cases d
  cases r
end
def tabChk (K : Frag) (n : Str) : Bool := match nsIn K mainGlobals n with
  | some (some (.ref a)) => match K.lookup a with
    | some o => match o.data with
      | .func fd => match fd.code with
        | .ref c => match K.lookup c with
          | some oc => match oc.data with
            | .fields vs => match vs.getD 11 .none, (vs[11]? : Option Value) with
              | .ref P, some (.ref P') => !(Nat.beq P 70) && !(Nat.beq P' 70)
              | _, _ => false
            | _ => false
          | none => false
        | _ => false
      | _ => false
    | none => false
  | _ => false
set_option maxRecDepth 100000 in
theorem tabs_chk (P : Params) : ((recsOf Hd.hd.view_39).all fun d => tabChk (heapB P) d.name) = true := by kernel_rfl
set_option maxRecDepth 100000 in
theorem owns_nil : ownsOf Hd.hd.view_39 = [] := by kernel_rfl
theorem tab_chk {K : Frag} {h : Heap} {mg : Str → Option Value} {n : Str} (X : K.In h) (G : h.Ns mainGlobals mg) (e : tabChk K n = true) {a : Addr} {o : Obj} {fd : FuncData} {c P : Addr} {ps : Array Value} (hm : mg n = some (.ref a)) (ho : h.get? a = some o) (hd : o.data = .func fd) (hc : fd.code = .ref c) (hI : h.IsCode c P ps) : P ≠ 70 := by
  unfold tabChk at e
  split at e
  · rename_i a' ea
    have hm' := mg_of X G ea
    rw [hm] at hm'
    cases hm'
    split at e
    · rename_i o' eo
      have ho' := X _ _ eo
      rw [ho] at ho'
      cases ho'
      rw [hd] at e
      simp only at e
      rw [hc] at e
      simp only at e
      split at e
      · rename_i oc eoc
        have hoc := X _ _ eoc
        obtain ⟨o2, vs, _, _, _, _, _, _, _, _, g1, g2, g3, _⟩ := hI
        rw [hoc] at g1
        cases g1
        rw [g2] at e
        simp only at e
        rw [g3] at e
        split at e
        · rename_i P1 P2 h1 h2
          cases h1
          simp only [Bool.and_eq_true, Bool.not_eq_true'] at e
          intro z
          have := e.1
          rw [z] at this
          cases this
        · cases e
      · cases e
    · cases e
  · cases e
theorem reg_isCode {h : Heap} {ps : Array Value} {c P : Addr} {qs : Array Value} (ht : h.get? 70 = some tab0) (hP : P ≠ 70) (x : h.IsCode c P qs) : (regrown h 70 ps).IsCode c P qs := by
  obtain ⟨o, vs, file, tf, flags, tg, inF, text, tt, op, a, r1, r2, r3, r4, r5, r6, b, r⟩ := x
  refine ⟨o, vs, file, tf, flags, tg, inF, text, tt, op, reg_other (fun z => ?_) a, r1, r2, r3, r4, r5, r6, reg_other hP b, r⟩
  rw [z, ht] at a
  cases a
  cases r1
  cases r2
theorem reg_tabAt {h : Heap} {ps : Array Value} {c P : Addr} {qs : Array Value} (ht : h.get? 70 = some tab0) (hP : P ≠ 70) (x : h.TableAt c P qs) : (regrown h 70 ps).TableAt c P qs := by
  obtain ⟨⟨o, vs, a, b, d, e⟩, t⟩ := x
  refine ⟨⟨o, vs, reg_other (fun z => ?_) a, b, d, e⟩, reg_other hP t⟩
  rw [z, ht] at a
  cases a
  cases b
theorem reg_top {P : Params} {h : Heap} {ps : Array Value} {mean : ExcName → Option Value} {mg mb : Str → Option Value} (X : (heapB P).In h) (ht : h.get? 70 = some tab0) (T : Top Hd.hd.view_39 lse mean mg mb h) : Top Hd.hd.view_39 lse mean mg mb (regrown h 70 ps) where
  g := reg_ns ht T.g
  b := reg_ns ht T.b
  nolimit := let ⟨mc, h1, h2⟩ := T.nolimit; ⟨mc, reg_ns ht h1, h2⟩
  nodigits := let ⟨mc, h1, h2⟩ := T.nodigits; ⟨mc, reg_ns ht h1, h2⟩
  fn := fun d hd => by
    obtain ⟨a, o, pm, code, doc, h1, h2, h3, h4⟩ := T.fn d hd
    refine ⟨a, o, pm, code, doc, h1, reg_other (fun z => ?_) h2, h3, reg_rec ht h4⟩
    rw [z, ht] at h2
    cases h2
    cases h3
  own := fun o ho => by
    rw [owns_nil] at ho
    cases ho
  const := T.const
  free := T.free
  builtins := T.builtins
  tab := fun d hd => by
    obtain ⟨a, o, fd, c, P', h1, h2, h3, h4, h5, h6⟩ := T.tab d hd
    have hP := tab_chk X T.g (List.all_eq_true.mp (tabs_chk P) d hd) h1 h2 h3 h4 h5
    refine ⟨a, o, fd, c, P', h1, reg_other (fun z => ?_) h2, h3, h4, reg_isCode ht hP h5, reg_tabAt ht hP h6⟩
    rw [z, ht] at h2
    cases h2
    cases h3
  bmain := by
    obtain ⟨bm, ob, h1, h2, h3, h4, r⟩ := T.bmain
    refine ⟨bm, ob, h1, h2, reg_other (fun z => ?_) h3, h4, r⟩
    rw [z, ht] at h3
    cases h3
    cases h4
  seer := fun hi => by
    obtain ⟨⟨mc, a1, a2, a3⟩, ⟨mm, b1, b2⟩, ⟨mb', c1, c2⟩, ⟨mg', bm, ob, d1, d2, d3, d4, d5⟩⟩ := T.seer hi
    refine ⟨⟨mc, reg_ns ht a1, a2, a3⟩, ⟨mm, reg_ns ht b1, b2⟩, ⟨mb', reg_ns ht c1, c2⟩, ⟨mg', bm, ob, reg_ns ht d1, d2, reg_other (fun z => ?_) d3, d4, d5⟩⟩
    rw [z, ht] at d3
    cases d3
    cases d4
end Mine
end
section
open PySem PySem.W PySem.Calls PyProof.Rows
namespace Mine
theorem cleanStr84 : True := by
  k_with_none
  w_top off
  trivial
theorem code_in {prog : Program} {w : World} {A : Around} {s : Shared} {K : Frag} {R : Result → Shared → Prop} {name qual : Str} {params : Arguments} {body : List Stmt} {scope : Scope} {dV kV doc pm cdv ct oc : Value} {an od : Option Addr} {osl : Array (Option Value)} {f : Addr} {args : Args} {binds : List (Str × Value)}
    (X : K.In s.heap) (hlim : s.heap.NoLimit) (ho : K.lookup f = some ⟨oc, od, .func (fnOf name qual params body scope dV kV doc pm an cdv ct), osl⟩) (hcd : codeIn K cdv qual = true) (hroom : A.depth < recursionLimit)
    (hbind : BindsTo s (fnOf name qual params body scope dV kV doc pm an cdv ct) args binds) (hloc : ∀ y ∈ binds, scope.names.lookup y.1 = some .local)
    (h : ∀ h₁, Fr s.heap s.heap.objs.size h₁ (fun y => binds.reverse.lookup y) → 
      wpAny (model prog w) (A.deeper (envOf qual scope s.heap.objs.size f cdv)) (execs body (envOf qual scope s.heap.objs.size f cdv))
        (fun fl s' => R (.ok (.ret (match fl with | .ret v => v | _ => .none))) s') (fun _ _ => False)
        { s with heap := h₁, toks := s.toks + binds.length })
    (hco : scope.isCoroutine = false) (hgen : scope.isGenerator = false) (hk : scope.kind = .function)
    (hcell : ∀ x ∈ scope.names, x.2 ≠ .cell) : codeAny (model prog w) A (.call (.ref f) args) R s := by
  refine codeAny_call_def (fd := fnOf name qual params body scope dV kV doc pm an cdv ct) (body := body) (binds := binds) hroom (X _ _ ho) rfl hlim (codeRec_of X hcd) rfl hbind hcell hloc (fun h₁ hns hk₁ => ?_) hco hgen hk
  exact wpAny_mono (h h₁ ⟨hns, hk₁, Nat.le_refl _⟩) (fun _ _ x => x) fun _ _ x => x.elim
def tsOf (es : List Ent) (k : Nat) : Addr := ((es[k]?).map Ent.a).getD 0
def vlOf (es : List Ent) (k : Nat) : Array Value := ((es[k]?).map fun e => [Value.str (Str.ofString "") e.t1, .str (ltr e.c) e.t2].toArray).getD #[]
abbrev itOf (es : List Ent) : Array Value := (es.map Ent.val).toArray
theorem it_size (es : List Ent) : (itOf es).size = es.length := by simp [itOf]
theorem it_get {es : List Ent} {j : Nat} (h : j < (itOf es).size) : (itOf es)[j]? = some (.ref (tsOf es j)) := by
  rw [it_size] at h
  simp [itOf, tsOf, List.getElem?_eq_getElem h]
theorem ts_ne {es : List Ent} {I : Addr} (hI : ∀ e ∈ es, e.a ≠ I) {j : Nat} (h : j < (itOf es).size) : tsOf es j ≠ I := by
  rw [it_size] at h
  unfold tsOf
  rw [List.getElem?_eq_getElem h]
  exact hI _ (List.getElem_mem h)
theorem tup_at {es : List Ent} {h : Heap} (he : ∀ e ∈ es, h.get? e.a = some e.obj) {j : Nat} (hj : j < (itOf es).size) : h.IsTuple (tsOf es j) (vlOf es j) := by
  rw [it_size] at hj
  unfold tsOf vlOf
  rw [List.getElem?_eq_getElem hj]
  exact ⟨_, he _ (List.getElem_mem hj), rfl, _, rfl⟩
theorem vl_get {es : List Ent} {i : Nat} {va vb : Value} (h : i < (itOf es).size) (hv : (#[va, vb] : Array Value) = vlOf es i) : ∃ e, es[i]? = some e ∧ va = .str (Str.ofString "") e.t1 ∧ vb = .str (ltr e.c) e.t2 := by
  rw [it_size] at h
  refine ⟨es[i], List.getElem?_eq_getElem h, ?_⟩
  unfold vlOf at hv
  rw [List.getElem?_eq_getElem h] at hv
  have := congrArg Array.toList hv
  simpa using this
section
variable {prog : Program} {w : World} {A : Around} {E : Value → Shared → Prop} {s : Shared} {h₁ h₀ : Heap} {c P L : Addr} {ps : Array Value} {m mg : Str → Option Value} {bm : Addr} {ob : Obj}
theorem gen_T {env : Env} {elt iter : PySem.Expr} {xa xb : Str} {pa pb pt : Pos} {kt : Nat} {ifs : List PySem.Expr} {scope : Scope} {cl : List (Str × Addr)} {pos : Pos} {Q : Value → Shared → Prop} (_F : Fr h₀ L s.heap m)
    (B : Based h₁ h₀ c P ps) (M : BMod h₀ env.globals mg bm ob) (hcode : env.code = .ref c) (hnf : codeAmong pos ps.toList = none)
    (hh : A.handled = none) (hco : scope.isCoroutine = false) (hclos : closureFor scope env = pure cl) (hcell : ∀ y ∈ scope.names, y.2 ≠ .cell) (h0 : scope.names.lookup (".0" : Str) = some NameKind.local)
    (hxa : scope.names.lookup xa = some .local) (hxb : scope.names.lookup xb = some .local) (hab : xa ≠ xb) (hkind : scope.kind = .function) (hroom : A.depth < recursionLimit)
    (h : wpAny (model prog w) A (eval iter env) (fun xv s₁ => wpAny (model prog w) A (pyIter xv) (GenPostT prog w A h₁ h₀ c P ps L m env scope cl xa xb ifs elt pos Q) E s₁) E s)
    (hs : ∀ x, genFold iter env x = pure x) :
    wpAny (model prog w) A (eval (.GeneratorExp elt [⟨.Tuple [.Name xa pa, .Name xb pb] kt pt, iter, ifs, 0⟩] scope pos) env) Q E s :=
  GeneratorExp_rowsTP (L := L) (m := m) B M hcode hnf hh hco hclos hcell h0 hxa hxb hab hkind hroom h hs
theorem gname {x : Str} {pos : Pos} {v : Value} {scope : Scope} {cl : List (Str × Addr)} {C : Addr} {code : Value} {env : Env} {Q : Value → Shared → Prop} (F : Fr h₀ L s.heap m) (G : h₀.Ns mainGlobals mg) (hv : mg x = some v) (h : Q v s)
    (hg : env.globals = mainGlobals) (hk : scope.kind = .function) (hx : (genEnv scope cl C code builtinsNs env).kindOf x = some .globalImplicit) (hd : (x == ("__debug__" : Str)) = false) :
    wpAny (model prog w) A (eval (.Name x pos) (genEnv scope cl C code builtinsNs env)) Q E s :=
  Name_function_global hk hx (loadGlobal_global (env := genEnv scope cl C code builtinsNs env) (show s.heap.Ns env.globals mg from hg ▸ (G.keeps F.keep)) hv h) hd
end
local macro_rules | `(tactic| k_mem) => `(tactic| first | assumption | ktr_member | exact List.mem_cons_self | (refine List.mem_cons_of_mem _ ?_; k_mem))
local macro_rules | `(tactic| k_all) => `(tactic| assumption)
def wordS (ds : List Bool) : Str := Txt.join (Str.ofString "") (ds.map ltr)
theorem pass_all (n : Nat) : passing (fun _ => true) n 0 = List.range n := by
  unfold passing
  rw [List.drop_zero]
  exact List.filter_eq_self.mpr fun _ _ => rfl
theorem ltr_len (c : Bool) : (ltr c).length = 1 := by cases c <;> decide +kernel
theorem joins_ok {ds : List Bool} (h : ds.length ≤ 100) : JoinOk (Str.ofString "") (ds.map ltr) = true := by
  refine joinOk_of ?_
  have h1 : ((ds.map ltr).map (·.length)).sum = ds.length := by
    clear h
    induction ds with
    | nil => rfl
    | cons c ds ih =>
      simp only [List.map_cons, List.sum_cons, List.length_cons, ih, ltr_len]
      omega
  rw [h1, show (Str.ofString "").length = 0 from by decide +kernel]
  omega
theorem join_pair (c : Bool) : Txt.join (Str.ofString "") [Str.ofString "", ltr c] = ltr c := by cases c <;> decide +kernel
def txOf (es : List Ent) (j : Nat) : Str := ((es[j]?).map fun e => ltr e.c).getD (Str.ofString "")
theorem tx_map (es : List Ent) : (List.range es.length).map (txOf es) = (es.map Ent.c).map ltr := by
  apply List.ext_getElem
  · simp
  · intro i h1 h2
    simp at h1
    simp [txOf, List.getElem?_eq_getElem h1]
set_option maxRecDepth 100000 in
set_option maxHeartbeats 8000000 in
theorem str_code (w : World) {A : Around} {s : Shared} {st dx : Addr} {es : List Ent} {n k : Nat} {t1 t2 : Tok} {R : Result → Shared → Prop} {mean : ExcName → Option Value} {mg mb : Str → Option Value}
    (hh : A.handled = none) (hroom : A.depth + 6 < recursionLimit) (hu : A.units + 40 < cLine) (X : (heapB w.params).In s.heap) (ht : s.heap.get? 70 = some tab0) (T : Top Hd.hd.view_39 lse mean mg mb s.heap) (G : AllBare s.gens)
    (hst : s.heap.get? st = some (accObj dx (es.map Ent.val) n)) (hdx : s.heap.get? dx = some (accDict w t1 t2 k)) (he : ∀ e ∈ es, s.heap.get? e.a = some e.obj) (hz : es.length ≤ 100)
    (hR : ∀ s' t ps, Based s.heap (regrown s.heap 70 ps) 74 70 ps → (∀ b o, (regrown s.heap 70 ps).get? b = some o → s'.heap.get? b = some o) → AllBare s'.gens → s'.os = s.os → R (.ok (.ret (.str (wordS (es.map Ent.c)) t))) s') :
    codeAny (model prg w) A (.call (.ref 75) ⟨[.ref st], []⟩) R s := by
  revert X
  refine (fun (f : PySem.Challenge.rw_pg0084_01 = PySem.Challenge.rw_pg0084_01 → _) => f rfl) ?_
  k_fill
  intro _ X
  refine' code_in X ?k2 ?k6 ?k7 ?k8 ?k9 ?kB ?_ ?c2 ?c3 ?c4 ?c5; (case k2 => exact T.nolimit); (case k6 => k_is); (case k7 => k_is); (case k8 => omega); (case k9 => exact BindsTo.of_eq rfl); (case c5 => decide); (case kB => exact locs rfl); (case c2 => exact rfl); (case c3 => exact rfl); (case c4 => exact rfl)
  intro h₁ F
  have N : News s.heap s.heap.objs.size h₁ [] := News.nil
  have B0 := based74 X ht T.nodigits.choose_spec.1
  obtain ⟨bm, ob, M⟩ := bmod_of_top T
  k_steps
  refine' gen_T F B0 M ?g1 ?g2 ?g3 ?g4 ?g5 ?g6 ?g7 ?g8 ?g9 ?g10 ?g11 ?g12 ?_ ?g13
  case g1 => with_unfolding_all rfl
  case g2 => with_unfolding_all rfl
  case g3 => with_unfolding_all exact hh
  case g4 => with_unfolding_all rfl
  case g5 => with_unfolding_all rfl
  case g6 => decide
  case g7 => with_unfolding_all rfl
  case g8 => with_unfolding_all rfl
  case g9 => with_unfolding_all rfl
  case g10 => decide +kernel
  case g11 => with_unfolding_all rfl
  case g12 => (simp only [depth_deeper]; omega)
  case g13 => intro _; with_unfolding_all rfl
  k_steps
  have X₁ : (heapB w.params).In h₁ := X.keeps F.keep
  have I₁ : InstAt h₁ st (accObj dx (es.map Ent.val) n) 101 (some (accDict w t1 t2 k)) := ⟨F.keep _ _ hst, rfl, rfl, F.keep _ _ hdx⟩
  refine' acc_iter X₁ I₁ ?i1 ?i2 ?_
  case i1 => k_is
  case i2 => k_is
  obtain ⟨tE, hE⟩ : ∃ t, mg (Str.ofString "EMPTYSTRING") = some (.str (Str.ofString "") t) := ⟨_, mg_of X T.g (by k_is)⟩
  have hlt : s.heap.objs.size < h₁.objs.size := F.ns.lt
  have lst : st < s.heap.objs.size := Heap.lt_size hst
  have le : ∀ e ∈ es, e.a < s.heap.objs.size := fun e h => Heap.lt_size (he e h)
  have l70 : (70 : Nat) < s.heap.objs.size := Heap.lt_size ht
  have sI : st ≠ h₁.objs.size := Nat.ne_of_lt (Nat.lt_trans lst hlt)
  have eI : ∀ e ∈ es, e.a ≠ h₁.objs.size := fun e h => Nat.ne_of_lt (Nat.lt_trans (le e h) hlt)
  have s70 : st ≠ 70 := fun z => by rw [z, ht] at hst; cases hst
  have e70 : ∀ e ∈ es, e.a ≠ 70 := fun e h z => by have := he e h; rw [z, ht] at this; cases this
  unfold GenPostT
  refine ⟨F.push _, G, (T.nolimit.keeps F.keep).push _, h₁.objs.size - 1, h₁.objs.size, _, _, _, _, _, _, fun _ => true, fun i y => ∃ e u, es[i]? = some e ∧ y = .str (ltr e.c) u, ?_, ?_, rfl, fun A' hA => walks_row hA h₁.objs.size st sI (itOf es) (tsOf es) (vlOf es) (fun j hj => it_get hj) (fun j hj => ts_ne eI hj), ?_, ?_, ?_, ?_, ?_, ?_, ?_, ?_⟩
  · exact Nat.le_sub_one_of_lt hlt
  · rw [Heap.size_push]; exact Nat.lt_succ_of_le (Nat.sub_le _ _)
  · rintro i vals ⟨hi, rfl⟩
    rw [it_size] at hi
    unfold vlOf
    rw [List.getElem?_eq_getElem hi]
    exact ⟨_, _, rfl⟩
  · refine ⟨⟨_, Heap.get?_push_size _ rfl, rfl, rfl⟩, ⟨_, _, Heap.get?_push_of_some _ (F.keep _ _ hst), rfl⟩, fun k hk => tup_at (fun e h => Heap.get?_push_of_some _ (F.keep _ _ (he e h))) hk⟩
  · intro b hb
    rw [Heap.size_push]
    rcases List.mem_cons.mp hb with rfl | hb
    · exact Nat.lt_succ_self _
    rcases List.mem_cons.mp hb with rfl | hb
    · exact Nat.lt_succ_of_lt (Nat.lt_trans lst hlt)
    obtain ⟨j, hj, rfl⟩ := List.mem_map.mp hb
    have hj := List.mem_range.mp hj
    rw [it_size] at hj
    unfold tsOf
    rw [List.getElem?_eq_getElem hj]
    exact Nat.lt_succ_of_lt (Nat.lt_trans (le _ (List.getElem_mem hj)) hlt)
  · intro hb
    rcases List.mem_cons.mp hb with z | hb
    · have : (70 : Nat) = h₁.objs.size := z
      omega
    rcases List.mem_cons.mp hb with z | hb
    · exact s70 z.symm
    obtain ⟨j, hj, z⟩ := List.mem_map.mp hb
    have hj := List.mem_range.mp hj
    rw [it_size] at hj
    unfold tsOf at z
    rw [List.getElem?_eq_getElem hj] at z
    exact e70 _ (List.getElem_mem hj) z
  · intro b hb
    rw [List.mem_singleton.mp hb]
    exact Nat.sub_lt (Nat.lt_of_le_of_lt (Nat.zero_le _) hlt) Nat.one_pos
  · intro c' C A' E' i va vb t m₂ hA hD hU hP hF hma hmb hLC hk
    exact wpAny_pure ⟨rfl, _, _, rfl, fun _ _ h => h⟩
  · intro c' C A' E' i va vb t m₂ hA hD hU hP hpz hF hma hmb hLC hk
    obtain ⟨hi, hv⟩ := hP
    obtain ⟨e, h1, rfl, rfl⟩ := vl_get hi hv
    have gG := reg_ns (ps := #[] ++ #[rawInt 29, rawInt 32, .ref c']) ht T.g
    clear N F B0 M X₁ I₁ hv hU hD hR T G hpz X
    refine MethodCall_ ?_
    refine gname hF gG hE ?_ rfl rfl rfl rfl
    repeat (first | (refine wpAny_Tuple ?_) | (refine ldVarG hF hma ?_) | (refine ldVarG hF hmb ?_) | walk1)
    refine join_tupleC (items := #[Value.str (Str.ofString "") e.t1, Value.str (ltr e.c) e.t2]) (ys := [Str.ofString "", ltr e.c]) ⟨_, Heap.get?_push_size _ rfl, rfl, _, rfl⟩ (.cons _ _ (.cons _ _ .nil)) (by decide +kernel) ?_ ?_
    · simp only [List.map_cons, List.map_nil, List.sum_cons, List.sum_nil, List.length_cons, List.length_nil, ltr_len, show (Str.ofString "").length = 0 from by decide +kernel]
      omega
    · intro t' k'
      refine ⟨⟨e, t', h1, ?_⟩, _, _, rfl, fun b o hb => Heap.get?_push_of_some _ hb⟩
      rw [join_pair]
  · intro c' a s₅ B' F' G' os' hk' Gn
    rw [pass_all, it_size, List.length_range] at Gn
    clear N F B0 M X₁ I₁ T X
    k_steps
    refine join_rowsK (K := h₁.objs.size - 1) F' G' Gn (Nat.le_sub_one_of_lt hlt) (txOf es) ?_ ?_ ?_ ?_
    · rintro j v ⟨i, hi, e, u, he', rfl⟩
      have : i = j := by
        rw [List.getElem?_range (by
          rcases Nat.lt_or_ge j es.length with h | h
          · exact h
          · rw [List.getElem?_eq_none (by simpa using h)] at hi; cases hi)] at hi
        exact (Option.some.inj hi).symm
      subst this
      exact ⟨u, by unfold txOf; rw [he']; rfl⟩
    · rw [tx_map]
      exact joins_ok (by simpa using hz)
    · intro s' t' F2 G2 o2 k2
      rw [tx_map]
      exact hR s' t' _ B' F2.keep G2 (o2.trans os')
    · rw [sizeLine_eq]; omega
end Mine
end
section
open PySem PySem.W PyProof.Rows
namespace Mine
def nA (x : Nat) : Nat := if Nat.beq (x % 2) 0 then x + 1 else x - 1
def nB (N x : Nat) : Nat := if Nat.beq (x % 2) 0 then (x + N - 1) % N else (x + 1) % N
/-- the places of a cycle of N, and the two mirrors on it -/
structure Mir (f : Nat → Int) (g : Int) (N : Nat) : Prop where
  a : ∀ x, x < N → f (nA x) = (0 - f x).fmod 48
  b : ∀ x, x < N → f (nB N x) = (g - f x).fmod 48
  la : ∀ x, x < N → nA x < N
  lb : ∀ x, x < N → nB N x < N
  inj : ∀ x y, x < N → y < N → f x = f y → x = y
  r : ∀ x, 0 ≤ f x ∧ f x ≤ 48
def hasN (c : List (Nat × Nat)) (x : Nat) : Bool := c.any fun p => Nat.beq p.1 x
def lookN (c : List (Nat × Nat)) (x : Nat) : Nat := ((c.find? fun p => Nat.beq p.1 x).map (·.2)).getD 0
def stN (spot other : Nat) (y : List (Nat × Nat) × List Nat) : List (Nat × Nat) × List Nat := if hasN y.1 other = true then y else (y.1 ++ [(other, lookN y.1 spot + 1)], y.2 ++ [other])
def spN (N : Nat) (y : List (Nat × Nat) × List Nat) (spot : Nat) : List (Nat × Nat) × List Nat := stN spot (nB N spot) (stN spot (nA spot) y)
def rowN (N : Nat) (c : List (Nat × Nat)) (row : List Nat) : List (Nat × Nat) × List Nat := row.foldl (spN N) (c, [])
noncomputable def goodN (N : Nat) : Nat → List (Nat × Nat) → List Nat → Bool
  | 0, _, row => row.isEmpty
  | k + 1, c, row => row.isEmpty || (Nat.ble c.length 100 && Nat.ble row.length 100 && row.all (fun s => hasN c s && Nat.ble (lookN c s) 900) && goodN N k (rowN N c row).1 (rowN N c row).2)
noncomputable def endN (N : Nat) : Nat → List (Nat × Nat) → List Nat → List (Nat × Nat)
  | 0, c, _ => c
  | k + 1, c, row => if row.isEmpty then c else endN N k (rowN N c row).1 (rowN N c row).2
section
variable {f : Nat → Int} {g : Int} {N : Nat}
def mp (f : Nat → Int) (c : List (Nat × Nat)) : List (Int × Int) := c.map fun p => (f p.1, (p.2 : Int))
def Und (N : Nat) (y : List (Nat × Nat) × List Nat) : Prop := (∀ q ∈ y.1, q.1 < N) ∧ ∀ x ∈ y.2, x < N
theorem beq_f (M : Mir f g N) {x y : Nat} (hx : x < N) (hy : y < N) : decide (f x = f y) = Nat.beq x y := by
  cases h : Nat.beq x y
  · refine decide_eq_false fun e => ?_
    have := M.inj x y hx hy e
    subst this
    rw [Nat.beq_refl] at h
    cases h
  · rw [Nat.eq_of_beq_eq_true h]
    exact decide_eq_true rfl
theorem has_mp (M : Mir f g N) {c : List (Nat × Nat)} {x : Nat} (hc : ∀ q ∈ c, q.1 < N) (hx : x < N) : kdfHas (mp f c) (f x) = hasN c x := by
  unfold kdfHas mp hasN
  induction c with
  | nil => rfl
  | cons q c ih =>
    simp only [List.map_cons, List.any_cons]
    rw [beq_f M (hc q (.head _)) hx, ih fun r hr => hc r (.tail _ hr)]
theorem find_mp (M : Mir f g N) {c : List (Nat × Nat)} {x : Nat} (hc : ∀ q ∈ c, q.1 < N) (hx : x < N) : ((mp f c).find? fun p => decide (p.1 = f x)) = (c.find? fun p => Nat.beq p.1 x).map fun p => (f p.1, (p.2 : Int)) := by
  unfold mp
  induction c with
  | nil => rfl
  | cons q c ih =>
    simp only [List.map_cons, List.find?_cons]
    rw [beq_f M (hc q (.head _)) hx]
    cases Nat.beq q.1 x
    · exact ih fun r hr => hc r (.tail _ hr)
    · rfl
theorem look_mp (M : Mir f g N) {c : List (Nat × Nat)} {x : Nat} (hc : ∀ q ∈ c, q.1 < N) (hx : x < N) : kdfLook (mp f c) (f x) 0 = (lookN c x : Int) := by
  unfold kdfLook lookN
  rw [find_mp M hc hx]
  cases c.find? fun p => Nat.beq p.1 x <;> rfl
theorem st_und {spot other : Nat} {y : List (Nat × Nat) × List Nat} (h : Und N y) (ho : other < N) : Und N (stN spot other y) := by
  unfold stN
  split
  · exact h
  · refine ⟨fun q hq => ?_, fun x hx => ?_⟩
    · rcases List.mem_append.mp hq with hq | hq
      · exact h.1 q hq
      · rw [List.mem_singleton.mp hq]; exact ho
    · rcases List.mem_append.mp hx with hx | hx
      · exact h.2 x hx
      · rw [List.mem_singleton.mp hx]; exact ho
theorem st_mp (M : Mir f g N) {spot other : Nat} {y : List (Nat × Nat) × List Nat} (h : Und N y) (hs : spot < N) (ho : other < N) : wStep (f spot) (f other) (mp f y.1, y.2.map f) = (mp f (stN spot other y).1, (stN spot other y).2.map f) := by
  unfold wStep stN
  rw [has_mp M h.1 ho, look_mp M h.1 hs]
  cases e : hasN y.1 other
  · simp only [Bool.false_eq_true, if_false]
    have e2 : kdfHas (mp f y.1) (f other) = false := by rw [has_mp M h.1 ho, e]
    unfold kdfPut
    unfold kdfHas at e2
    rw [e2, if_neg Bool.false_ne_true]
    simp [mp]
  · simp only [if_true]
theorem sp_und (M : Mir f g N) {spot : Nat} {y : List (Nat × Nat) × List Nat} (h : Und N y) (hs : spot < N) : Und N (spN N y spot) := st_und (st_und h (M.la _ hs)) (M.lb _ hs)
theorem sp_mp (M : Mir f g N) {spot : Nat} {y : List (Nat × Nat) × List Nat} (h : Und N y) (hs : spot < N) : wSpot g (mp f y.1, y.2.map f) (f spot) = (mp f (spN N y spot).1, (spN N y spot).2.map f) := by
  unfold wSpot spN
  rw [← M.a _ hs, ← M.b _ hs, st_mp M h hs (M.la _ hs), st_mp M (st_und h (M.la _ hs)) hs (M.lb _ hs)]
theorem fold_mp (M : Mir f g N) {row : List Nat} : ∀ {y : List (Nat × Nat) × List Nat}, Und N y → (∀ x ∈ row, x < N) → Und N (row.foldl (spN N) y) ∧ (row.map f).foldl (wSpot g) (mp f y.1, y.2.map f) = (mp f (row.foldl (spN N) y).1, (row.foldl (spN N) y).2.map f) := by
  induction row with
  | nil => exact fun h _ => ⟨h, rfl⟩
  | cons x row ih =>
    intro y h hr
    simp only [List.map_cons, List.foldl_cons]
    rw [sp_mp M h (hr x (.head _))]
    exact ih (sp_und M h (hr x (.head _))) fun z hz => hr z (.tail _ hz)
theorem row_mp (M : Mir f g N) {c : List (Nat × Nat)} {row : List Nat} (hc : ∀ q ∈ c, q.1 < N) (hr : ∀ x ∈ row, x < N) : Und N (rowN N c row) ∧ wRow g (mp f c) (row.map f) = (mp f (rowN N c row).1, (rowN N c row).2.map f) :=
  fold_mp M (y := (c, [])) ⟨hc, fun _ h => nomatch h⟩ hr
theorem good_mp (M : Mir f g N) : ∀ (k : Nat) {c : List (Nat × Nat)} {row : List Nat}, (∀ q ∈ c, q.1 < N) → (∀ x ∈ row, x < N) → goodN N k c row = true → goodW g k (mp f c) (row.map f) = true := by
  intro k
  induction k with
  | zero =>
    intro c row _ _ h
    unfold goodN at h
    unfold goodW
    cases row with
    | nil => rfl
    | cons _ _ => cases h
  | succ k ih =>
    intro c row hc hr h
    unfold goodN at h
    unfold goodW
    cases row with
    | nil => rfl
    | cons x row =>
      simp only [List.isEmpty_cons, Bool.false_or, Bool.and_eq_true, List.all_eq_true] at h
      obtain ⟨⟨⟨h1, h2⟩, h3⟩, h4⟩ := h
      obtain ⟨u, e⟩ := row_mp M hc hr
      rw [e]
      simp only [Bool.or_eq_true, Bool.and_eq_true, List.all_eq_true]
      refine .inr ⟨⟨⟨?_, ?_⟩, fun s hs => ?_⟩, ih u.1 u.2 h4⟩
      · refine decide_eq_true ?_
        rw [show (mp f c).length = c.length from List.length_map _]
        exact Nat.le_of_ble_eq_true h1
      · refine decide_eq_true ?_
        rw [List.length_map]
        exact Nat.le_of_ble_eq_true h2
      · obtain ⟨z, hz, rfl⟩ := List.mem_map.mp hs
        obtain ⟨a1, a2⟩ := h3 z hz
        have a3 := Nat.le_of_ble_eq_true a2
        rw [has_mp M hc (hr z hz), look_mp M hc (hr z hz)]
        exact ⟨⟨⟨⟨a1, decide_eq_true (by omega)⟩, decide_eq_true (by omega)⟩, decide_eq_true (M.r z).1⟩, decide_eq_true (M.r z).2⟩
theorem end_mp (M : Mir f g N) : ∀ (k : Nat) {c : List (Nat × Nat)} {row : List Nat}, (∀ q ∈ c, q.1 < N) → (∀ x ∈ row, x < N) → (∀ q ∈ endN N k c row, q.1 < N) ∧ endW g k (mp f c) (row.map f) = mp f (endN N k c row) := by
  intro k
  induction k with
  | zero => exact fun hc _ => ⟨hc, rfl⟩
  | succ k ih =>
    intro c row hc hr
    unfold endN endW
    cases row with
    | nil => exact ⟨hc, rfl⟩
    | cons x row =>
      obtain ⟨u, e⟩ := row_mp M hc hr
      rw [e]
      simp only [List.map_cons, List.isEmpty_cons, Bool.false_eq_true, if_false]
      exact ih u.1 u.2
end
/-- the place of a code -/
def phi (p g : Int) (x : Nat) : Int := (if x % 2 = 0 then p + ((x / 2 : Nat) : Int) * g else -(p + ((x / 2 : Nat) : Int) * g)).fmod 48
theorem fm (x : Int) : x.fmod 48 = x % 48 := Int.fmod_eq_emod_of_nonneg _ (by decide)
theorem cong_cancel {j i : Nat} {g : Int} {n : Nat} (hne : ∀ d : Nat, 0 < d → d < n → ((d : Int) * g) % 48 ≠ 0) (hj : j < n) (hji : i < j) (h : ((j : Int) * g - (i : Int) * g) % 48 = 0) : False := by
  refine hne (j - i) (by omega) (by omega) ?_
  have e : (((j - i : Nat)) : Int) * g = (j : Int) * g - (i : Int) * g := by
    rw [Int.ofNat_sub (by omega), Int.sub_mul]
  rw [e]; exact h
theorem mir_of {p g : Int} {n : Nat} (hp : p % 2 = 1) (hg : g % 4 = 0) (hn : 1 ≤ n) (h0 : ((n : Int) * g) % 48 = 0) (hne : ∀ d : Nat, 0 < d → d < n → ((d : Int) * g) % 48 ≠ 0) : Mir (phi p g) g (2 * n) where
  a := fun x hx => by
    unfold phi nA
    rcases Nat.mod_two_eq_zero_or_one x with e | e
    · have e1 : (x + 1) % 2 = 1 := by omega
      have e2 : (x + 1) / 2 = x / 2 := by omega
      rw [e, show Nat.beq 0 0 = true from rfl, if_pos rfl, e1, e2, if_neg (by decide), if_pos rfl]
      simp only [fm]
      omega
    · have e1 : (x - 1) % 2 = 0 := by omega
      have e2 : (x - 1) / 2 = x / 2 := by omega
      rw [e, show Nat.beq 1 0 = false from rfl, if_neg Bool.false_ne_true, e1, e2, if_pos rfl, if_neg (by decide)]
      simp only [fm]
      omega
  b := fun x hx => by
    unfold phi nB
    rcases Nat.mod_two_eq_zero_or_one x with e | e
    · rw [e, show Nat.beq 0 0 = true from rfl, if_pos rfl, if_pos rfl]
      by_cases hz : x = 0
      · subst hz
        have e0 : (0 + 2 * n - 1) % (2 * n) = 2 * n - 1 := by rw [Nat.mod_eq_of_lt (by omega)]; omega
        have e1 : (2 * n - 1) % 2 = 1 := by omega
        have e2 : (2 * n - 1) / 2 = n - 1 := by omega
        rw [e0, e1, e2, if_neg (by decide)]
        have e3 : (((n - 1 : Nat)) : Int) * g = (n : Int) * g - g := by rw [Int.ofNat_sub hn, Int.sub_mul]; simp
        rw [e3]
        simp only [fm, Nat.zero_div]
        generalize (n : Int) * g = ng at *
        simp only [Int.natCast_zero, Int.zero_mul]
        omega
      · have e0 : (x + 2 * n - 1) % (2 * n) = x - 1 := by
          rw [show x + 2 * n - 1 = (x - 1) + 2 * n by omega, Nat.add_mod_right, Nat.mod_eq_of_lt (by omega)]
        have e1 : (x - 1) % 2 = 1 := by omega
        have e2 : (x - 1) / 2 = x / 2 - 1 := by omega
        rw [e0, e1, e2, if_neg (by decide)]
        have e3 : (((x / 2 - 1 : Nat)) : Int) * g = ((x / 2 : Nat) : Int) * g - g := by rw [Int.ofNat_sub (by omega), Int.sub_mul]; simp
        rw [e3]
        generalize ((x / 2 : Nat) : Int) * g = xg at *
        simp only [fm]
        omega
    · rw [e, show Nat.beq 1 0 = false from rfl, if_neg Bool.false_ne_true, if_neg (show ¬ (1 = 0) by decide)]
      by_cases hz : x = 2 * n - 1
      · have e0 : (x + 1) % (2 * n) = 0 := by rw [hz, show 2 * n - 1 + 1 = 2 * n by omega, Nat.mod_self]
        have e2 : x / 2 = n - 1 := by omega
        rw [e0, e2]
        have e3 : (((n - 1 : Nat)) : Int) * g = (n : Int) * g - g := by rw [Int.ofNat_sub hn, Int.sub_mul]; simp
        rw [e3, if_pos (by decide)]
        simp only [fm, Nat.zero_div]
        generalize (n : Int) * g = ng at *
        simp only [Int.natCast_zero, Int.zero_mul]
        omega
      · have e0 : (x + 1) % (2 * n) = x + 1 := Nat.mod_eq_of_lt (by omega)
        have e1 : (x + 1) % 2 = 0 := by omega
        have e2 : (x + 1) / 2 = x / 2 + 1 := by omega
        rw [e0, e1, e2, if_pos rfl]
        have e3 : (((x / 2 + 1 : Nat)) : Int) * g = ((x / 2 : Nat) : Int) * g + g := by rw [Int.natCast_add, Int.add_mul]; simp
        rw [e3]
        generalize ((x / 2 : Nat) : Int) * g = xg at *
        simp only [fm]
        omega
  la := fun x hx => by
    unfold nA
    rcases Nat.mod_two_eq_zero_or_one x with e | e
    · rw [e, show Nat.beq 0 0 = true from rfl, if_pos rfl]; omega
    · rw [e, show Nat.beq 1 0 = false from rfl, if_neg Bool.false_ne_true]; omega
  lb := fun x hx => by
    unfold nB
    split <;> exact Nat.mod_lt _ (by omega)
  inj := fun x y hx hy h => by
    unfold phi at h
    simp only [fm] at h
    have d4 : ∀ j : Nat, ((j : Int) * g) % 4 = 0 := fun j => by
      rw [Int.mul_emod, hg]; simp
    have dx := d4 (x / 2)
    have dy := d4 (y / 2)
    rcases Nat.mod_two_eq_zero_or_one x with e | e <;> rcases Nat.mod_two_eq_zero_or_one y with e' | e' <;> rw [e, e'] at h
    · rw [if_pos rfl, if_pos rfl] at h
      rcases Nat.lt_trichotomy (x / 2) (y / 2) with l | l | l
      · exact (cong_cancel hne (by omega) l (by omega)).elim
      · omega
      · exact (cong_cancel hne (by omega) l (by omega)).elim
    · rw [if_pos rfl, if_neg (by decide)] at h
      omega
    · rw [if_pos rfl, if_neg (by decide)] at h
      omega
    · rw [if_neg (by decide), if_neg (by decide)] at h
      rcases Nat.lt_trichotomy (x / 2) (y / 2) with l | l | l
      · exact (cong_cancel hne (by omega) l (by omega)).elim
      · omega
      · exact (cong_cancel hne (by omega) l (by omega)).elim
  r := fun x => by
    unfold phi
    rw [fm]
    omega
def rndI (k : Nat) : Int := [12, 6, 4, 3, 12, 2, 12, 3, 4, 6, 12].getD k 0
noncomputable def altW : Bool → Nat → List Bool
  | _, 0 => []
  | f, l + 1 => f :: altW (!f) l
noncomputable def stN2 (n : Nat) : List (Nat × List Bool) := (List.range (n + 1)).flatMap fun l => [(l, altW true l), ((2 * n - l) % (2 * n), altW false l)]
def mvN (n x : Nat) (c : Bool) : Nat := cond c (nA x) (nB (2 * n) x)
noncomputable def dictN (n : Nat) : List (Nat × Nat) := endN (2 * n) 13 [(0, 0)] [0]
structure RndN (n : Nat) : Prop where
  good : goodN (2 * n) 13 [(0, 0)] [0] = true
  step : ∀ s ∈ stN2 n, ∀ c : Bool, (mvN n s.1 c, layW (n : Int) s.2 c) ∈ stN2 n
  look : ∀ s ∈ stN2 n, hasN (dictN n) s.1 = true ∧ lookN (dictN n) s.1 = s.2.length ∧ s.2.length ≤ 30 ∧ s.1 < 2 * n ∧ s.2.foldl (mvN n) 0 = s.1
theorem rnd2 : RndN 2 := ⟨by decide +kernel, by decide +kernel, by decide +kernel⟩
theorem rnd3 : RndN 3 := ⟨by decide +kernel, by decide +kernel, by decide +kernel⟩
theorem rnd4 : RndN 4 := ⟨by decide +kernel, by decide +kernel, by decide +kernel⟩
theorem rnd6 : RndN 6 := ⟨by decide +kernel, by decide +kernel, by decide +kernel⟩
theorem rnd12 : RndN 12 := ⟨by decide +kernel, by decide +kernel, by decide +kernel⟩
theorem rnd_cyc : ∀ k : Fin 11, ((rndI k.1) * (4 + 4 * (k.1 : Int))) % 48 = 0 ∧ ∀ d : Fin 12, 0 < d.1 → ((d.1 : Int) < rndI k.1) → ((d.1 : Int) * (4 + 4 * (k.1 : Int))) % 48 ≠ 0 := by decide +kernel
theorem rnd_val : ∀ k : Fin 11, rndI k.1 = 2 ∨ rndI k.1 = 3 ∨ rndI k.1 = 4 ∨ rndI k.1 = 6 ∨ rndI k.1 = 12 := by decide +kernel
theorem rnd_of (k : Fin 11) : ∃ n : Nat, rndI k.1 = (n : Int) ∧ 1 ≤ n ∧ n ≤ 12 ∧ RndN n ∧ ((n : Int) * (4 + 4 * (k.1 : Int))) % 48 = 0 ∧ ∀ d : Nat, 0 < d → d < n → ((d : Int) * (4 + 4 * (k.1 : Int))) % 48 ≠ 0 := by
  obtain ⟨h1, h2⟩ := rnd_cyc k
  have key : ∀ n : Nat, rndI k.1 = (n : Int) → n ≤ 12 → ((n : Int) * (4 + 4 * (k.1 : Int))) % 48 = 0 ∧ ∀ d : Nat, 0 < d → d < n → ((d : Int) * (4 + 4 * (k.1 : Int))) % 48 ≠ 0 := by
    intro n e hn
    refine ⟨by rw [← e]; exact h1, fun d d0 d1 => h2 ⟨d, by omega⟩ d0 ?_⟩
    rw [e]
    show (d : Int) < (n : Int)
    omega
  rcases rnd_val k with e | e | e | e | e
  · exact ⟨2, e, by omega, by omega, rnd2, key 2 e (by omega)⟩
  · exact ⟨3, e, by omega, by omega, rnd3, key 3 e (by omega)⟩
  · exact ⟨4, e, by omega, by omega, rnd4, key 4 e (by omega)⟩
  · exact ⟨6, e, by omega, by omega, rnd6, key 6 e (by omega)⟩
  · exact ⟨12, e, by omega, by omega, rnd12, key 12 e (by omega)⟩
theorem phi0 {p g : Int} (h0 : 0 ≤ p) (h1 : p < 48) : phi p g 0 = p := by
  unfold phi
  rw [if_pos rfl, fm]
  simp only [Nat.zero_div, Int.natCast_zero, Int.zero_mul]
  omega
/-- the whole numbers' part, for one gap and one first place -/
structure Cyc (p g : Int) (n : Nat) : Prop where
  mir : Mir (phi p g) g (2 * n)
  rnd : RndN n
  p0 : 0 ≤ p
  p1 : p < 48
  n0 : 1 ≤ n
  g0 : 0 < g
  g1 : g < 48
theorem cyc_of {p : Int} (k : Fin 11) (hp : p % 2 = 1) (h0 : 0 ≤ p) (h1 : p < 48) : ∃ n : Nat, rndI k.1 = (n : Int) ∧ n ≤ 12 ∧ Cyc p (4 + 4 * (k.1 : Int)) n := by
  obtain ⟨n, e, n0, n1, R, a, b⟩ := rnd_of k
  refine ⟨n, e, n1, mir_of hp (by omega) n0 a b, R, h0, h1, n0, by omega, by omega⟩
theorem Cyc.good {p g : Int} {n : Nat} (C : Cyc p g n) : goodW g 13 [(p, 0)] [p] = true := by
  have h := good_mp C.mir 13 (c := [(0, 0)]) (row := [0]) (fun q hq => by rw [List.mem_singleton.mp hq]; have := C.n0; show 0 < 2 * n; omega) (fun x hx => by rw [List.mem_singleton.mp hx]; have := C.n0; omega) C.rnd.good
  have e : mp (phi p g) [(0, 0)] = [(p, 0)] := by unfold mp; simp [phi0 C.p0 C.p1]
  rw [e, List.map_cons, List.map_nil, phi0 C.p0 C.p1] at h
  exact h
theorem Cyc.ways {p g : Int} {n : Nat} (C : Cyc p g n) : (∀ q ∈ dictN n, q.1 < 2 * n) ∧ waysOf p g = mp (phi p g) (dictN n) := by
  have h := end_mp C.mir 13 (c := [(0, 0)]) (row := [0]) (fun q hq => by rw [List.mem_singleton.mp hq]; have := C.n0; show 0 < 2 * n; omega) (fun x hx => by rw [List.mem_singleton.mp hx]; have := C.n0; omega)
  have e : mp (phi p g) [(0, 0)] = [(p, 0)] := by unfold mp; simp [phi0 C.p0 C.p1]
  rw [e, List.map_cons, List.map_nil, phi0 C.p0 C.p1] at h
  exact h
theorem Cyc.move {p g : Int} {n x : Nat} (C : Cyc p g n) (hx : x < 2 * n) (b : Bool) : stepP g (phi p g x) b = phi p g (mvN n x (!b)) := by
  cases b
  · exact (C.mir.a x hx).symm
  · exact (C.mir.b x hx).symm
theorem Cyc.letter {p g : Int} {n : Nat} (C : Cyc p g n) (a : Int) (b : Bool) : decide ((a + stepP g a b).fmod 48 = 0) = !b := by
  have h0 := C.g0
  have h1 := C.g1
  cases b
  · refine decide_eq_true ?_
    simp only [stepP, arI, cond, fm]
    omega
  · refine decide_eq_false ?_
    simp only [stepP, arI, cond, fm]
    omega
/-- each place is a mirror of the one before -/
inductive Steps (g : Int) : Int → List Int → Prop
  | nil {a : Int} : Steps g a []
  | cons {a : Int} {r : List Int} (b : Bool) : Steps g (stepP g a b) r → Steps g a (stepP g a b :: r)
theorem Steps.snoc {g a : Int} {r : List Int} (h : Steps g a r) (b : Bool) : Steps g a (r ++ [stepP g ((a :: r).getLast (List.cons_ne_nil _ _)) b]) := by
  induction h with
  | nil => exact .cons b .nil
  | @cons a r b' _ ih =>
    refine .cons b' ?_
    rw [List.getLast_cons (List.cons_ne_nil _ _)]
    exact ih
theorem Cyc.zip {p g : Int} {n : Nat} (C : Cyc p g n) {ps : List Int} : ∀ {x : Nat} {ds : List Bool}, (x, ds) ∈ stN2 n → Steps g (phi p g x) ps → zipOk p g (n : Int) ((phi p g x :: ps).zip ps) ds ∧
    ∃ x', (x', zipRun (n : Int) ((phi p g x :: ps).zip ps) ds) ∈ stN2 n ∧ (phi p g x :: ps).getLast (List.cons_ne_nil _ _) = phi p g x' := by
  induction ps with
  | nil => exact fun h _ => ⟨trivial, _, h, rfl⟩
  | cons q r ih =>
    intro x ds h hs
    cases hs with
    | cons b hs =>
      have hx := (C.rnd.look _ h).2.2.2.1
      have hl := (C.rnd.look _ h).2.2.1
      have hl : ds.length ≤ 30 := hl
      have hx : x < 2 * n := hx
      have hm := C.move hx b
      have hst := C.rnd.step _ h (!b)
      have hst : (mvN n x (!b), layW (n : Int) ds (!b)) ∈ stN2 n := hst
      have hk := C.rnd.look _ hst
      obtain ⟨k1, k2, _, k4, _⟩ := hk
      have k4 : mvN n x (!b) < 2 * n := k4
      obtain ⟨wb, we⟩ := C.ways
      rw [hm] at hs
      obtain ⟨z1, x', z2, z3⟩ := ih hst hs
      have hc := C.letter (phi p g x) b
      rw [hm] at hc
      rw [hm]
      refine ⟨?_, x', ?_, ?_⟩
      · show zipOk p g (n : Int) ((phi p g x, phi p g (mvN n x (!b))) :: (phi p g (mvN n x (!b)) :: r).zip r) ds
        unfold zipOk
        rw [hc, we, has_mp C.mir wb k4, look_mp C.mir wb k4]
        refine ⟨k1, ?_, by omega, z1⟩
        have k2 : lookN (dictN n) (mvN n x (!b)) = (layW (n : Int) ds (!b)).length := k2
        rw [k2]
      · show (x', zipRun (n : Int) ((phi p g x, phi p g (mvN n x (!b))) :: (phi p g (mvN n x (!b)) :: r).zip r) ds) ∈ stN2 n
        unfold zipRun
        rw [hc]
        exact z2
      · rw [List.getLast_cons (List.cons_ne_nil _ _)]
        exact z3
theorem Cyc.run {p g : Int} {n : Nat} (C : Cyc p g n) : ∀ {w : List Bool} {x : Nat}, x < 2 * n → w.foldl (fun a c => stepP g a (!c)) (phi p g x) = phi p g (w.foldl (mvN n) x) := by
  intro w
  induction w with
  | nil => exact fun _ => rfl
  | cons c w ih =>
    intro x hx
    simp only [List.foldl_cons]
    rw [C.move hx (!c), Bool.not_not]
    refine ih ?_
    cases c
    · exact C.mir.lb x hx
    · exact C.mir.la x hx
theorem start_in (n : Nat) : (0, []) ∈ stN2 n := by
  unfold stN2
  rw [List.mem_flatMap]
  exact ⟨0, by simp, .head _⟩
/-- the whole of it: the loop's words, and where the straight road leads -/
theorem Cyc.whole {p g : Int} {n : Nat} (C : Cyc p g n) {ps : List Int} (hs : Steps g p ps) : zipOk p g (n : Int) ((p :: ps).zip ps) [] ∧
    (zipRun (n : Int) ((p :: ps).zip ps) []).length ≤ 30 ∧ (zipRun (n : Int) ((p :: ps).zip ps) []).foldl (fun a c => stepP g a (!c)) p = (p :: ps).getLast (List.cons_ne_nil _ _) := by
  have e : phi p g 0 = p := phi0 C.p0 C.p1
  have h := C.zip (ps := ps) (x := 0) (ds := []) (start_in n) (by rw [e]; exact hs)
  simp only [e] at h
  obtain ⟨z1, x', z2, z3⟩ := h
  obtain ⟨_, _, k3, k4, k5⟩ := C.rnd.look _ z2
  refine ⟨z1, k3, ?_⟩
  have hr := C.run (w := zipRun (n : Int) ((p :: ps).zip ps) []) (x := 0) (by have := C.n0; omega)
  rw [e] at hr
  rw [hr, z3]
  exact congrArg _ k5
end Mine
end
section
open PySem PySem.W PyProof.Rows
namespace Mine
theorem cleanTail84n : True := by
  k_with_none
  w_top off
  trivial
noncomputable def strFor : { st : Stmt // lawTail.1[6]? = some st } := by
  refine ⟨?l, ?h⟩
  case h =>
    conv => lhs; whnf
noncomputable def strBody : { l : List Stmt // bodyOf strFor.1 = l } := by
  refine ⟨?l, ?h⟩
  case h =>
    conv => lhs; whnf
noncomputable def strTgt : { t : PySem.Expr // tgtOf strFor.1 = some t } := by
  refine ⟨?l, ?h⟩
  case h =>
    conv => lhs; whnf
noncomputable def retStmt : { st : Stmt // lawTail.1[7]? = some st } := by
  refine ⟨?l, ?h⟩
  case h =>
    conv => lhs; whnf
local macro_rules | `(tactic| k_mem) => `(tactic| first | assumption | ktr_member | exact List.mem_cons_self | (refine List.mem_cons_of_mem _ ?_; k_mem))
local macro_rules | `(tactic| k_all) => `(tactic| assumption)
theorem over_small {g : Int} (g0 : 0 ≤ g) (g1 : g ≤ 100) : ¬ Flt.Over g := by
  have h := around_ok g0 g1 1
  simpa using h
set_option maxRecDepth 100000 in
set_option maxHeartbeats 8000000 in
theorem letter_body (w : World) {mean : ExcName → Option Value} {mg mb : Str → Option Value} {base h₀ : Heap} {L fa : Addr} {gl : Value} {s : Shared} {m : Str → Option Value} {news : List (Addr × Obj)} {E' : Value → Shared → Prop} {Q : Flow → Shared → Prop} {e : CEnt} {g : Int} {tl tg : Tok} (c : Bool)
    (B : Below callerA base [] h₀) (X : (heapB w.params).In h₀) (T : Top Hd.hd.view_39 lse mean mg mb h₀)
    (F : Fr h₀ L s.heap m) (N : News h₀ L s.heap news) (hl : m (Str.ofString "letter") = some (.str (ltr c) tl)) (hs : m (Str.ofString "straight") = some (.ref e.a)) (hg : m (Str.ofString "gap") = some (.int g tg))
    (he : (e.a, e.obj) ∈ news) (hc : ColOk e.c.r e.c.g e.c.b) (g0 : 0 ≤ g) (g1 : g ≤ 100)
    (hQ : ∀ h' tk' (e' : CEnt), e'.c = colS e.c (arI g (!c)) → (∀ p ∈ news, p.1 < e'.a) → Fr h₀ L h' (fun z => if z = Str.ofString "straight" then some (.ref e'.a) else m z) → News h₀ L h' ((e'.a, e'.obj) :: news) → Q .next { s with heap := h', toks := tk' }) :
    wpAny (model prg w) (callerA.deeper (lawEnv L fa gl)) (execs strBody.1 (lawEnv L fa gl)) Q E' s := by
  revert X
  refine (fun (f : PySem.Challenge.rw_pg0084_01 = PySem.Challenge.rw_pg0084_01 → _) => f rfl) ?_
  k_fill
  intro _ X
  dsimp only [strBody, lawEnv, lawScope]
  have he' : (e.a, tup3 (.float e.c.r e.t1) (.float e.c.g e.t2) (.float e.c.b e.t3)) ∈ news := he
  (k_with "eval Name" => ((with_reducible show wpAny _ _ (eval (Expr.Name (Str.ofString "straight") _) _) _ _ _); (refine' ld ?k1 hs ?_; (case k1 => k_asm)); (try dsimp only)))
  (k_with "eval Name" => ((with_reducible show wpAny _ _ (eval (Expr.Name (Str.ofString "letter") _) _) _ _ _); (refine' ld ?k1 hl ?_; (case k1 => k_asm)); (try dsimp only [ltr, cond])))
  (k_with "eval Name" => ((with_reducible show wpAny _ _ (eval (Expr.Name (Str.ofString "gap") _) _) _ _ _); (refine' ld ?k1 hg ?_; (case k1 => k_asm)); (try dsimp only)))
  (k_with "call ref" => ((with_reducible show wpAny _ _ (PySem.call (Value.ref 140) _ _) _ _ _); k_dflt (refine' (mirrored_claim _ _ _ _ _ _ _ _ _ _ _ ?hc ?ok ?ho).use ?k1 ?k2 ?k3 ?k4 ?k5 ?kK ?kd ?ku ?_; (case k1 => k_asm); (case k2 => k_asm); (case k3 => k_asm); (case k4 => k_asm); (case k5 => k_asm); (case hc => k_mem); (case ok => assumption); (case ho => first | exact over_small g0 g1 | exact over_small (Int.le_refl _) (by decide)); (case kK => first | exact rfl | assumption); (case kd => exact Nat.le_of_ble_eq_true rfl); (case ku => exact Nat.le_of_ble_eq_true rfl); intro a9 u1 u2 u3 l9 h9 tk9 F9 N9; (try dsimp only); (try k_fold))))
  cases c <;> dsimp only [ltr, cond] at hl ⊢
  · k_steps
    rename_i kF kN
    exact hQ _ _ ⟨a9, colS e.c g, u1, u2, u3⟩ rfl l9 kF kN
  · k_steps
    rename_i kF kN
    exact hQ _ _ ⟨a9, colS e.c 0, u1, u2, u3⟩ rfl l9 kF kN
/-- the frame and the ledger over the base that str() has regrown -/
theorem after_str {h₀ h h' : Heap} {L : Addr} {m : Str → Option Value} {news : List (Addr × Obj)} {ps : Array Value} (ht : h₀.get? 70 = some tab0) (F : Fr h₀ L h m) (N : News h₀ L h news) (hk : ∀ b o, (regrown h 70 ps).get? b = some o → h'.get? b = some o) :
    Fr (regrown h₀ 70 ps) L h' m ∧ News (regrown h₀ 70 ps) L h' news := by
  have lt : (70 : Nat) < h₀.objs.size := Heap.lt_size ht
  have hL : L ≠ 70 := fun z => Nat.lt_irrefl _ (Nat.lt_of_lt_of_le lt (z ▸ F.above))
  have ht' := F.keep _ _ ht
  have s0 : (regrown h₀ 70 ps).get? 70 = some { cls := .none, data := .fields ps } := Heap.get?_update_self _ ht rfl
  have s1 : (regrown h 70 ps).get? 70 = some { cls := .none, data := .fields ps } := Heap.get?_update_self _ ht' rfl
  have sz : (regrown h₀ 70 ps).objs.size = h₀.objs.size := (Heap.SameBut.update h₀ 70 _).1
  refine ⟨⟨F.ns.at' fun o e => hk _ _ (reg_other hL e), fun b o e => ?_, by rw [sz]; exact F.above⟩, fun p hp => ?_⟩
  · by_cases hb : b = 70
    · subst hb
      rw [s0] at e
      exact hk _ _ (s1.trans e)
    · exact hk _ _ (reg_other hb (F.keep _ _ ((Heap.get?_update_other h₀ _ (Ne.symm hb)).symm.trans e)))
  · obtain ⟨a, b, c⟩ := N p hp
    have hp70 : p.1 ≠ 70 := fun z => by rw [z, ht] at c; cases c
    exact ⟨hk _ _ (reg_other hp70 a), b, (Heap.get?_update_other h₀ _ (Ne.symm hp70)).trans c⟩
theorem old_reg {P : Params} {h₀ : Heap} {ps : Array Value} {mc : Str → Option Value} (X : (heapB P).In h₀) (ht : h₀.get? 70 = some tab0) (hs : h₀.Ns cStatics mc) : OldK h₀ (regrown h₀ 70 ps) := by
  have B := based74 X ht hs
  have s0 : (regrown h₀ 70 ps).get? 70 = some { cls := .none, data := .fields ps } := Heap.get?_update_self _ ht rfl
  obtain ⟨⟨o, vs, a, b, c, d⟩, _⟩ := B.tab
  have t' : (regrown h₀ 70 ps).TableAt 74 70 (#[] ++ ps) := ⟨⟨o, vs, reg_other (by decide) a, b, c, d⟩, by rw [Array.empty_append]; exact s0⟩
  exact (OldK.refl h₀).step_table B.tab B.tab t' (fun b o hb e => reg_other hb e) B.notStatics
section
variable {prog : Program} {w : World} {A : Around} {E : Value → Shared → Prop} {s : Shared} {env : Env} {h₀ : Heap} {target : PySem.Expr} {body : List Stmt} {Q : Flow → Shared → Prop}
/-- a for whose base heap is told when its iterable stands -/
theorem For_late {iter : PySem.Expr} {pos : Pos}
    (h : wpAny (model prog w) A (eval iter env) (fun xv s₁ => wpAny (model prog w) A (pyIter xv) (fun it s₂ => ∃ h₀, TurnsAt prog w A h₀ env target body Q E it s₂) E s₁) E s)
    (hs : ∀ x, foldedSetIterable iter env x = pure x) (hE : PassesOwn (model prog w) A env E) :
    wpAny (model prog w) A (exec (.For target iter body [] pos) env) Q E s := by
  refine wpAny_For (wpAny_mono h (fun xv s₁ h₁ => wpAny_mono h₁ (fun it s₂ h₂ => ?_) fun _ _ e => e) fun _ _ e => e) hs
  obtain ⟨h₀, I, fp, wr, n, P, Md, St, m, news, J, rfl, W, hLf, hwr, hnw, hst, F, N, h0, step, hQ⟩ := h₂
  exact ktu_loop (R := fun r s' => match r with | .ok f => Q f s' | .error e => cameBackBy (model prog w) A env E e s') W hLf hwr hnw hst F N J h0
    (fun i v m₁ news₁ h₁ tk₁ own a b c d e f g st F₁ N₁ => wpAny_mono (step i v m₁ news₁ h₁ tk₁ own a b c d e f g st F₁ N₁) (fun _ _ x => wpAny_passesOwn hE x) hE) hQ
theorem iter_strTurns {x : Str} {t : Tok} {m₀ : Str → Option Value} {news : List (Addr × Obj)} (hh : A.handled = none) (ha : x.cps.all (· < 128) = true) (hgo : ∀ it v, letOwnedTupleGo target it v = pure ()) (F : Fr h₀ env.locals s.heap m₀) (N : News h₀ env.locals s.heap news)
    (rest₀ : ∀ I : Addr, (∀ p ∈ news, p.1 < I) → ItemsRest prog w A E h₀ env target body Q s [(I, "str_ascii_iterator")] [] (x.cps.toList.map fun c => Itm.tok fun u => .str ⟨#[c]⟩ u) m₀ news) :
    wpAny (model prog w) A (pyIter (.str x t)) (fun it s₂ => TurnsAt prog w A h₀ env target body Q E it s₂) E s := by
  refine wpAny_pyIter_ascii ha ?_
  refine ktu_core (tk0 := s.toks) (keep := []) (KTurns.ofWalks (Walks.strAscii hh s.heap.objs.size x t) fun i v s Q E st q => wpAny_of_eq (hgo _ _) q) (by simp) (fun i v h hp => ?_) (fun i h st => ?_) (fun b hb => ?_) (fun b hb => by simpa using hb) (fun b hb => ?_) ?_ (fun p hp hI => ?_) ?_ (F.push _) (fun p hp => ⟨Heap.get?_push_of_some _ (N p hp).1, (N p hp).2⟩) trivial (rest₀ _ fun p hp => Heap.lt_size (N p hp).1)
  · obtain ⟨c, u, hc, rfl⟩ := hp
    exact ⟨Itm.tok fun u => .str ⟨#[c]⟩ u, by rw [List.getElem?_map, Array.getElem?_toList, hc]; rfl, u, rfl⟩
  · obtain ⟨it, hit, hic, _⟩ := st
    exact ⟨[(s.heap.objs.size, it)], ⟨⟨rfl, hic⟩, trivial⟩, fun p hp => by rw [List.mem_singleton.mp hp]; exact hit⟩
  · have hb' : b = s.heap.objs.size := by simpa using hb
    rw [hb']
    exact ⟨List.mem_cons_self .., next_is_new F⟩
  · have hb' : b = s.heap.objs.size := by simpa using hb
    exact .inl (by simp [hb'])
  · intro hI
    exact absurd F.ns.lt ((List.mem_singleton.mp hI) ▸ Nat.lt_irrefl _)
  · exact absurd (Heap.lt_size (N p hp).1) ((List.mem_singleton.mp hI) ▸ Nat.lt_irrefl _)
  · exact ⟨_, Heap.get?_push_size _ rfl, rfl, rfl⟩
end
theorem join_cps : ∀ l : List Str, (Str.join (Str.ofString "") l).cps.toList = (l.map fun x => x.cps.toList).flatten
  | [] => rfl
  | [x] => by simp [Str.join]
  | x :: y :: r => by
    have ih := join_cps (y :: r)
    rw [Str.join, Str.cps_append, Array.toList_append, Str.cps_append, Array.toList_append, ih]
    · simp [show (Str.ofString "").cps.toList = [] from by decide +kernel]
    · simp
theorem word_cps (ds : List Bool) : (wordS ds).cps.toList = ds.map fun c => cond c 97 98 := by
  unfold wordS Txt.join
  rw [StrLaws.glued_eq_join, join_cps]
  induction ds with
  | nil => rfl
  | cons c ds ih =>
    simp only [List.map_cons, List.flatten_cons]
    rw [ih]
    cases c <;> rfl
theorem word_ascii (ds : List Bool) : (wordS ds).cps.all (· < 128) = true := by
  rw [← Array.all_toList, word_cps, List.all_map, List.all_eq_true]
  intro c _
  cases c <;> rfl
theorem sign_ltr (c : Bool) : (⟨#[cond c 97 98]⟩ : Str) = ltr c := by cases c <;> decide +kernel
theorem word_items (ds : List Bool) : ((wordS ds).cps.toList.map fun c => Itm.tok fun u => .str ⟨#[c]⟩ u) = ds.map fun c => Itm.tok fun u => .str (ltr c) u := by
  rw [word_cps, List.map_map]
  refine List.map_congr_left fun c _ => ?_
  show (Itm.tok fun u => .str ⟨#[cond c 97 98]⟩ u) = _
  rw [sign_ltr]
end Mine
end
section
namespace Mine
open PySem PySem.Float64
theorem v_rep : ∀ (k c : Nat), c ≤ 2 ^ 53 → ∃ t, V t = c * 2 ^ k := by
  intro k
  induction k with
  | zero => intro c hc; exact ⟨0 * 2 ^ 52 + c, V_at hc (.inr rfl)⟩
  | succ k ih =>
    intro c hc
    by_cases h : 2 ^ 52 ≤ c
    · exact ⟨(k + 1) * 2 ^ 52 + c, V_at hc (.inl h)⟩
    · obtain ⟨t, ht⟩ := ih (2 * c) (by omega)
      refine ⟨t, ht.trans ?_⟩
      rw [Nat.pow_succ]
      generalize 2 ^ k = z
      rw [Nat.mul_comm 2 c, Nat.mul_assoc, Nat.mul_comm z 2]
def Fin' (x : UInt64) : Prop := ∃ a m e, decode x = .fin a m e
theorem right_near {r : UInt64} {neg : Bool} {W D : Nat} (h : Right r neg W D) (hD : 0 < D) (hW : W ≤ D * 2 ^ 1077) : Fin' r ∧ ∃ v : Nat, val r = sgn neg v ∧ dist W (D * v) ≤ D * 2 ^ 1024 := by
  obtain ⟨t, rfl, h1, h2, h3⟩ := h
  have hlt : t < infMag := by
    rcases Nat.lt_or_ge t infMag with h | h
    · exact h
    · have e : t = infMag := Nat.le_antisymm h1 h
      have h4 := h2.mp e
      have h5 : D * ((2 ^ 54 - 1) * 2 ^ 2045) ≤ D * (2 * 2 ^ 1077) := Nat.le_trans h4 (by rw [Nat.mul_comm 2 W, Nat.mul_comm 2 (2 ^ 1077), ← Nat.mul_assoc]; exact Nat.mul_le_mul_right 2 hW)
      have h6 := Nat.le_of_mul_le_mul_left h5 hD
      exact absurd h6 (by decide +kernel)
  obtain ⟨m, e, hd, hv⟩ := decode_pack neg hlt
  refine ⟨⟨neg, m, e, hd⟩, V t, val_pack neg hlt, ?_⟩
  have hE : 0 < D * 2 ^ 1024 := Nat.mul_pos hD (Nat.two_pow_pos _)
  have hq : W / (D * 2 ^ 1024) ≤ 2 ^ 53 := by
    refine Nat.div_le_of_le_mul ?_
    refine Nat.le_trans hW ?_
    rw [Nat.mul_assoc, ← Nat.pow_add]
    exact Nat.le_refl _
  obtain ⟨t', ht'⟩ := v_rep 1024 _ hq
  refine Nat.le_trans (h3 hlt t').1 ?_
  rw [ht']
  have e1 : D * (W / (D * 2 ^ 1024) * 2 ^ 1024) = (D * 2 ^ 1024) * (W / (D * 2 ^ 1024)) := by
    generalize W / (D * 2 ^ 1024) = z
    generalize 2 ^ 1024 = y
    rw [Nat.mul_comm z y, Nat.mul_assoc]
  rw [e1]
  have h8 := Nat.div_add_mod W (D * 2 ^ 1024)
  have h9 := Nat.mod_lt W hE
  generalize D * 2 ^ 1024 * (W / (D * 2 ^ 1024)) = z at *
  generalize W % (D * 2 ^ 1024) = y at *
  generalize D * 2 ^ 1024 = x at *
  unfold dist
  omega
/-- the float's value, in units of one -/
def q (x : UInt64) : Rat := (val x : Rat) / ((2 ^ 1074 : Nat) : Rat)
def eps : Rat := 1 / 1125899906842624
end Mine
end
section
namespace Mine
open PySem PySem.Float64
def Z : Rat := ((2 ^ 1024 : Nat) : Rat)
theorem Z_pos : (0 : Rat) < Z := by
  unfold Z
  have : (0 : Nat) < 2 ^ 1024 := Nat.two_pow_pos _
  exact_mod_cast this
theorem U_eq : ((2 ^ 1074 : Nat) : Rat) = Z * 1125899906842624 := by
  unfold Z
  have h : (2 ^ 1074 : Nat) = 2 ^ 1024 * 1125899906842624 := by decide +kernel
  rw [h]
  push_cast
  rfl
theorem q_val (x : UInt64) : (val x : Rat) = q x * Z * 1125899906842624 := by
  unfold q
  rw [U_eq]
  have := Z_pos
  have h0 : Z * 1125899906842624 ≠ 0 := by grind
  rw [Rat.mul_assoc, Rat.div_mul_cancel h0]
theorem le_of_Z {a b : Rat} (h : a * Z ≤ b * Z) : a ≤ b := by
  have hz := Z_pos
  exact Rat.le_of_mul_le_mul_right h hz
theorem mul_Z {a b : Rat} (h : a ≤ b) : a * Z ≤ b * Z := Rat.mul_le_mul_of_nonneg_right h (Rat.le_of_lt Z_pos)
/-- a rounded value in units: near s -/
theorem q_near {r : UInt64} {s : Int} {y : Rat} (hs : (s : Rat) = y * Z * 1125899906842624) (h1 : val r - s ≤ 2 ^ 1024) (h2 : s - val r ≤ 2 ^ 1024) : q r - y ≤ eps ∧ y - q r ≤ eps := by
  have hz : ((2 ^ 1024 : Int) : Rat) = Z := by unfold Z; push_cast; rfl
  have a1 : ((val r - s : Int) : Rat) ≤ ((2 ^ 1024 : Int) : Rat) := by exact_mod_cast h1
  have a2 : ((s - val r : Int) : Rat) ≤ ((2 ^ 1024 : Int) : Rat) := by exact_mod_cast h2
  rw [hz, Rat.intCast_sub, q_val, hs] at a1 a2
  unfold eps
  constructor
  · have : ((q r - y) * 1125899906842624) * Z ≤ 1 * Z := by grind
    have := le_of_Z this
    grind
  · have : ((y - q r) * 1125899906842624) * Z ≤ 1 * Z := by grind
    have := le_of_Z this
    grind
theorem bound_of {s : Int} {y : Rat} (hs : (s : Rat) = y * Z * 1125899906842624) (h1 : y ≤ 8) (h2 : -8 ≤ y) : s.natAbs ≤ 2 ^ 1077 := by
  have e : (2 ^ 1077 : Nat) = 8 * (2 ^ 1024 * 1125899906842624) := by decide +kernel
  have hz : ((2 ^ 1024 : Int) : Rat) = Z := by unfold Z; push_cast; rfl
  have b1 : (s : Rat) ≤ ((8 * (2 ^ 1024 * 1125899906842624) : Int) : Rat) := by
    rw [hs, Rat.intCast_mul, Rat.intCast_mul, hz]
    have := mul_Z h1
    grind
  have b2 : ((-(8 * (2 ^ 1024 * 1125899906842624)) : Int) : Rat) ≤ (s : Rat) := by
    rw [hs, Rat.intCast_neg, Rat.intCast_mul, Rat.intCast_mul, hz]
    have := mul_Z h2
    grind
  have c1 := Rat.intCast_le_intCast.mp b1
  have c2 := Rat.intCast_le_intCast.mp b2
  rw [e]
  have e3 : ((2 ^ 1024 : Nat) : Int) = 2 ^ 1024 := by push_cast; rfl
  omega
theorem zero_fin (a : Bool) : Fin' (zero a) ∧ val (zero a) = 0 := by
  have : (0 : Nat) < infMag := by decide
  obtain ⟨m, e, hd, hv⟩ := decode_pack a this
  refine ⟨⟨a, m, e, hd⟩, ?_⟩
  have := val_pack a this
  rw [V_zero] at this
  show val (pack a 0) = 0
  rw [this]
  unfold sgn
  cases a <;> rfl
theorem sgn_near {s : Int} {v : Nat} {E : Nat} (h : dist s.natAbs v ≤ E) : sgn (decide (s < 0)) v - s ≤ E ∧ s - sgn (decide (s < 0)) v ≤ E := by
  unfold dist at h
  unfold sgn
  by_cases hs : s < 0
  · rw [decide_eq_true hs]
    simp only [if_true]
    omega
  · rw [decide_eq_false hs]
    simp only [Bool.false_eq_true, if_false]
    omega
theorem pow_int : ((2 ^ 1024 : Nat) : Int) = 2 ^ 1024 := by push_cast; rfl
theorem add_q {x y : UInt64} (hx : Fin' x) (hy : Fin' y) (h1 : q x + q y ≤ 8) (h2 : -8 ≤ q x + q y) : Fin' (add x y) ∧ q (add x y) - (q x + q y) ≤ eps ∧ (q x + q y) - q (add x y) ≤ eps := by
  obtain ⟨a, m, e, dx⟩ := hx
  obtain ⟨b, k, f, dy⟩ := hy
  have hs : ((val x + val y : Int) : Rat) = (q x + q y) * Z * 1125899906842624 := by
    rw [Rat.intCast_add, q_val, q_val]; grind
  obtain ⟨r1, r2⟩ := add_right dx dy
  by_cases h0 : val x + val y = 0
  · rw [r1 h0]
    obtain ⟨f0, v0⟩ := zero_fin (a && b)
    refine ⟨f0, q_near hs ?_ ?_⟩ <;> rw [v0, h0] <;> decide +kernel
  · have hr := r2 h0
    obtain ⟨f0, v, hv, hd⟩ := right_near hr (by decide) (by rw [Nat.one_mul]; exact bound_of hs h1 h2)
    rw [Nat.one_mul, Nat.one_mul] at hd
    have hn := sgn_near hd
    rw [pow_int] at hn
    exact ⟨f0, q_near hs (by rw [hv]; exact hn.1) (by rw [hv]; exact hn.2)⟩
theorem sub_q {x y : UInt64} (hx : Fin' x) (hy : Fin' y) (h1 : q x - q y ≤ 8) (h2 : -8 ≤ q x - q y) : Fin' (sub x y) ∧ q (sub x y) - (q x - q y) ≤ eps ∧ (q x - q y) - q (sub x y) ≤ eps := by
  obtain ⟨a, m, e, dx⟩ := hx
  obtain ⟨b, k, f, dy⟩ := hy
  have hs : ((val x - val y : Int) : Rat) = (q x - q y) * Z * 1125899906842624 := by
    rw [Rat.intCast_sub, q_val, q_val]; grind
  obtain ⟨r1, r2⟩ := sub_right dx dy
  by_cases h0 : val x - val y = 0
  · rw [r1 h0]
    obtain ⟨f0, v0⟩ := zero_fin (a && !b)
    refine ⟨f0, q_near hs ?_ ?_⟩ <;> rw [v0, h0] <;> decide +kernel
  · have hr := r2 h0
    obtain ⟨f0, v, hv, hd⟩ := right_near hr (by decide) (by rw [Nat.one_mul]; exact bound_of hs h1 h2)
    rw [Nat.one_mul, Nat.one_mul] at hd
    have hn := sgn_near hd
    rw [pow_int] at hn
    exact ⟨f0, q_near hs (by rw [hv]; exact hn.1) (by rw [hv]; exact hn.2)⟩
end Mine
end
section
namespace Mine
open PySem PySem.Float64
theorem sgn_prod (a b : Bool) (m n : Nat) : sgn (a != b) (m * n) = sgn a m * sgn b n := by
  unfold sgn
  cases a <;> cases b <;> simp [Int.mul_neg, Int.neg_mul]
theorem val_sgn {x : UInt64} {a : Bool} {m : Nat} {e : Int} (h : decode x = .fin a m e) : val x = sgn a (val x).natAbs := by rw [val_natAbs h, val_eq h]
def UZ : Int := 2 ^ 1074
theorem UZ_rat : ((UZ : Int) : Rat) = Z * 1125899906842624 := by
  rw [← U_eq]
  unfold UZ
  push_cast
  rfl
theorem UZ_nat : ((2 ^ 1074 : Nat) : Int) = UZ := by unfold UZ; push_cast; rfl
theorem sgn_scale (a : Bool) (m k : Nat) : sgn a (m * k) = sgn a m * k := sgn_mul a m k
/-- near, with a divisor D -/
theorem q_nearD {r : UInt64} {s D : Int} (h1 : D * val r - s ≤ D * 2 ^ 1024) (h2 : s - D * val r ≤ D * 2 ^ 1024) : (D : Rat) * (q r * Z * 1125899906842624) - (s : Rat) ≤ D * Z ∧ (s : Rat) - (D : Rat) * (q r * Z * 1125899906842624) ≤ D * Z := by
  have hz : ((2 ^ 1024 : Int) : Rat) = Z := by unfold Z; push_cast; rfl
  have a1 : ((D * val r - s : Int) : Rat) ≤ ((D * 2 ^ 1024 : Int) : Rat) := by exact_mod_cast h1
  have a2 : ((s - D * val r : Int) : Rat) ≤ ((D * 2 ^ 1024 : Int) : Rat) := by exact_mod_cast h2
  rw [Rat.intCast_sub, Rat.intCast_mul, Rat.intCast_mul, hz, q_val] at a1 a2
  exact ⟨a1, a2⟩
theorem near_sgn {W D v E : Nat} {neg : Bool} (h : dist W (D * v) ≤ D * E) : (D : Int) * sgn neg v - sgn neg W ≤ D * E ∧ sgn neg W - (D : Int) * sgn neg v ≤ D * E := by
  have e : (D : Int) * sgn neg v = sgn neg (D * v) := by
    rw [Nat.mul_comm, sgn_mul, Int.mul_comm]
  rw [e]
  unfold dist at h
  unfold sgn
  have h3 : ((D * E : Nat) : Int) = D * E := by push_cast; rfl
  generalize D * v = z at *
  generalize D * E = u at *
  cases neg
  · simp only [Bool.false_eq_true, if_false]; omega
  · simp only [if_true]; omega
theorem mul_q {x y : UInt64} (hx : Fin' x) (hy : Fin' y) (h1 : q x * q y ≤ 8) (h2 : -8 ≤ q x * q y) : Fin' (mul x y) ∧ q (mul x y) - q x * q y ≤ eps ∧ q x * q y - q (mul x y) ≤ eps := by
  obtain ⟨a, m, e, dx⟩ := hx
  obtain ⟨b, k, f, dy⟩ := hy
  have hr := mul_right dx dy
  have hs : ((val x * val y : Int) : Rat) = (q x * q y) * Z * 1125899906842624 * (Z * 1125899906842624) := by
    rw [Rat.intCast_mul, q_val, q_val]; grind
  have hW : (val x).natAbs * (val y).natAbs ≤ 2 ^ 1074 * 2 ^ 1077 := by
    have e : (2 ^ 1077 : Nat) = 8 * (2 ^ 1074) := by decide +kernel
    have hz := Z_pos
    have t1 : q x * q y * Z ≤ 8 * Z := mul_Z h1
    have t2 : (-8) * Z ≤ q x * q y * Z := mul_Z h2
    have b1 : ((val x * val y : Int) : Rat) ≤ ((8 * (UZ * UZ) : Int) : Rat) := by
      rw [hs, Rat.intCast_mul, Rat.intCast_mul, UZ_rat]
      have := mul_Z t1
      grind
    have b2 : ((-(8 * (UZ * UZ)) : Int) : Rat) ≤ ((val x * val y : Int) : Rat) := by
      rw [hs, Rat.intCast_neg, Rat.intCast_mul, Rat.intCast_mul, UZ_rat]
      have := mul_Z t2
      grind
    have c1 := Rat.intCast_le_intCast.mp b1
    have c2 := Rat.intCast_le_intCast.mp b2
    rw [← Int.natAbs_mul, e]
    have e3 := UZ_nat
    have e4 : ((2 ^ 1074 * (8 * 2 ^ 1074) : Nat) : Int) = 8 * (UZ * UZ) := by
      rw [Int.natCast_mul, Int.natCast_mul, e3]
      generalize UZ = u
      grind
    generalize 2 ^ 1074 * (8 * 2 ^ 1074) = z at *
    generalize UZ * UZ = u at *
    omega
  obtain ⟨f0, v, hv, hd⟩ := right_near hr (Nat.two_pow_pos _) hW
  refine ⟨f0, ?_⟩
  have hn := near_sgn (neg := a != b) hd
  rw [← hv, sgn_prod, ← val_sgn dx, ← val_sgn dy, UZ_nat, pow_int] at hn
  obtain ⟨n1, n2⟩ := q_nearD hn.1 hn.2
  rw [hs, UZ_rat] at n1 n2
  unfold eps
  constructor
  · have h5 : ((q (mul x y) - q x * q y) * 1125899906842624 * 1125899906842624 * Z) * Z ≤ (1125899906842624 * Z) * Z := by grind
    have h6 := le_of_Z h5
    have h7 := le_of_Z h6
    grind
  · have h5 : ((q x * q y - q (mul x y)) * 1125899906842624 * 1125899906842624 * Z) * Z ≤ (1125899906842624 * Z) * Z := by grind
    have h6 := le_of_Z h5
    have h7 := le_of_Z h6
    grind
theorem q_pos_val {y : UInt64} (h : 0 < q y) : 0 < val y := by
  have h2 : (0 : Rat) < (val y : Rat) := by
    rw [q_val]
    have hz := Z_pos
    have := Rat.mul_pos (Rat.mul_pos h hz) (show (0 : Rat) < 1125899906842624 by decide +kernel)
    exact this
  exact_mod_cast h2
/-- a quotient by a positive float: near, times the divisor -/
theorem div_q {x y : UInt64} (hx : Fin' x) (hy : Fin' y) (hp : 0 < q y) (h1 : q x ≤ 8 * q y) (h2 : -(8 * q y) ≤ q x) : Fin' (div x y) ∧ q y * q (div x y) - q x ≤ q y * eps ∧ q x - q y * q (div x y) ≤ q y * eps := by
  obtain ⟨a, m, e, dx⟩ := hx
  obtain ⟨b, k, f, dy⟩ := hy
  have hvp := q_pos_val hp
  have hva : (val y).natAbs = k * 2 ^ (f + 1074).toNat := val_natAbs dy
  have hk : k ≠ 0 := by
    intro h0
    rw [h0, Nat.zero_mul] at hva
    omega
  have hb : b = false := by
    have := val_eq dy
    cases b with
    | false => rfl
    | true =>
      unfold sgn at this
      simp only [if_true] at this
      omega
  subst hb
  have hr := div_right dx dy hk
  have hpos : 0 < (val y).natAbs := by omega
  have hW : (val x).natAbs * 2 ^ 1074 ≤ (val y).natAbs * 2 ^ 1077 := by
    have e : (2 ^ 1077 : Nat) = 8 * (2 ^ 1074) := by decide +kernel
    have b1 : ((val x : Int) : Rat) ≤ ((8 * val y : Int) : Rat) := by
      rw [Rat.intCast_mul, q_val, q_val]
      have := mul_Z h1
      grind
    have b2 : ((-(8 * val y) : Int) : Rat) ≤ ((val x : Int) : Rat) := by
      rw [Rat.intCast_neg, Rat.intCast_mul, q_val, q_val]
      have := mul_Z h2
      grind
    have c1 := Rat.intCast_le_intCast.mp b1
    have c2 := Rat.intCast_le_intCast.mp b2
    rw [e, ← Nat.mul_assoc]
    refine Nat.mul_le_mul_right _ ?_
    omega
  obtain ⟨f0, v, hv, hd⟩ := right_near hr hpos hW
  refine ⟨f0, ?_⟩
  have hn := near_sgn (neg := a != false) hd
  have ea : (a != false) = a := by cases a <;> rfl
  have ey : (((val y).natAbs : Nat) : Int) = val y := by omega
  rw [← hv, ey, ea, sgn_scale, ← val_sgn dx, UZ_nat, pow_int] at hn
  obtain ⟨n1, n2⟩ := q_nearD hn.1 hn.2
  rw [Rat.intCast_mul, UZ_rat, q_val, q_val] at n1 n2
  unfold eps
  constructor
  · have h5 : ((q y * q (div x y) - q x) * 1125899906842624 * 1125899906842624 * Z) * Z ≤ (q y * 1125899906842624 * Z) * Z := by grind
    have h6 := le_of_Z h5
    have h7 := le_of_Z h6
    grind
  · have h5 : ((q x - q y * q (div x y)) * 1125899906842624 * 1125899906842624 * Z) * Z ≤ (q y * 1125899906842624 * Z) * Z := by grind
    have h6 := le_of_Z h5
    have h7 := le_of_Z h6
    grind
theorem q_lt {x y : UInt64} : q x < q y → val x < val y := by
  intro h
  have h2 : (val x : Rat) < (val y : Rat) := by
    rw [q_val, q_val]
    have hz := Z_pos
    have h3 := Rat.mul_lt_mul_of_pos_right h hz
    grind
  exact_mod_cast h2
theorem cmp_lt {x y : UInt64} (hx : Fin' x) (hy : Fin' y) (h : q x < q y) : cmp x y = some .lt := by
  obtain ⟨a, m, e, dx⟩ := hx
  obtain ⟨b, k, f, dy⟩ := hy
  rw [cmp_right dx dy, Int.compare_eq_lt.mpr (q_lt h)]
theorem cmp_gt {x y : UInt64} (hx : Fin' x) (hy : Fin' y) (h : q y < q x) : cmp x y = some .gt := by
  obtain ⟨a, m, e, dx⟩ := hx
  obtain ⟨b, k, f, dy⟩ := hy
  rw [cmp_right dx dy, Int.compare_eq_gt.mpr (q_lt h)]
theorem cmp_self {x : UInt64} (hx : Fin' x) : cmp x x = some .eq := by
  obtain ⟨a, m, e, dx⟩ := hx
  rw [cmp_right dx dx, Int.compare_eq_eq.mpr rfl]
end Mine
end
section
namespace Mine
open PySem PySem.Float64
abbrev oneF : UInt64 := 4607182418800017408
theorem one_dec : decode oneF = .fin false (2 ^ 52) (-52) := by kernel_rfl
theorem one_val : val oneF = UZ := by
  rw [val_eq one_dec]
  unfold sgn UZ
  decide +kernel
theorem one_fin : Fin' oneF := ⟨_, _, _, one_dec⟩
theorem one_q : q oneF = 1 := by
  have h := q_val oneF
  rw [one_val, UZ_rat] at h
  have hz := Z_pos
  have h2 : (1 * Z) * 1125899906842624 = (q oneF * Z) * 1125899906842624 := by grind
  have h3 : 1 * Z ≤ q oneF * Z := by grind
  have h4 : q oneF * Z ≤ 1 * Z := by grind
  have := le_of_Z h3
  have := le_of_Z h4
  grind
theorem fmod_right {x y : UInt64} {a b : Bool} {m k : Nat} {e f : Int} (hx : decode x = .fin a m e) (hy : decode y = .fin b k f) (hk : k ≠ 0) :
    Right (fmod x y) a ((val x).natAbs % (val y).natAbs) 1 := by
  have he := decode_ge hx
  have hf := decode_ge hy
  have hm : fmod x y = ofBin a ((m * 2 ^ (e - min e f).toNat) % (k * 2 ^ (f - min e f).toNat)) (min e f) := by
    unfold fmod
    rw [hx, hy]
    simp only
    rw [if_neg (by simpa using hk)]
    unfold align sgn
    simp only [Bool.false_eq_true, if_false, Int.toNat_natCast]
  have hW : (val x).natAbs % (val y).natAbs = ((m * 2 ^ (e - min e f).toNat) % (k * 2 ^ (f - min e f).toNat)) * 2 ^ (min e f + 1074).toNat := by
    rw [val_natAbs hx, val_natAbs hy]
    have e1 : (e + 1074).toNat = (e - min e f).toNat + (min e f + 1074).toNat := by omega
    have e2 : (f + 1074).toNat = (f - min e f).toNat + (min e f + 1074).toNat := by omega
    rw [e1, e2, Nat.pow_add, Nat.pow_add, ← Nat.mul_assoc, ← Nat.mul_assoc, Nat.mul_mod_mul_right]
  rw [hm, hW]
  unfold ofBin
  refine ofFrac_right (shift_pos _ _ _ (by decide)) ?_ (by decide)
  have := shift_one ((m * 2 ^ (e - min e f).toNat) % (k * 2 ^ (f - min e f).toNat)) (min e f) 1074 (by omega)
  rw [Nat.mul_one]
  exact this
theorem zero_q (a : Bool) : q (zero a) = 0 := by
  unfold q
  rw [(zero_fin a).2]
  exact Rat.zero_mul _
theorem not_zero {x : UInt64} (hx : Fin' x) (h : q x ≠ 0) : isZero x = false := by
  obtain ⟨a, m, e, dx⟩ := hx
  unfold isZero
  rw [dx]
  cases m with
  | zero =>
    exfalso
    apply h
    unfold q
    rw [val_eq dx]
    have e0 : sgn a (0 * 2 ^ (e + 1074).toNat) = 0 := by
      rw [Nat.zero_mul]
      unfold sgn
      cases a <;> rfl
    rw [e0]
    exact Rat.zero_mul _
  | succ n => rfl
/-- the remainder by 1.0 of a float that lies well between two whole numbers -/
theorem mod_q {x : UInt64} (hx : Fin' x) {k : Int} (h1 : (k : Rat) + 1 / 1000 ≤ q x) (h2 : q x ≤ k + 1 - 1 / 1000) (h3 : q x ≤ 7) (h4 : -7 ≤ q x) :
    Fin' (divmod x oneF).2 ∧ q (divmod x oneF).2 - (q x - k) ≤ 2 * eps ∧ (q x - k) - q (divmod x oneF).2 ≤ 2 * eps := by
  have hx' := hx
  obtain ⟨a, m, e, dx⟩ := hx
  have hr := fmod_right dx one_dec (by decide)
  have hU : (val oneF).natAbs = 2 ^ 1074 := by
    have := one_val
    have := UZ_nat
    omega
  rw [hU] at hr
  have hW : (val x).natAbs % 2 ^ 1074 ≤ 1 * 2 ^ 1077 := by
    have := Nat.mod_lt (val x).natAbs (Nat.two_pow_pos 1074)
    have e : (2 ^ 1077 : Nat) = 8 * (2 ^ 1074) := by decide +kernel
    omega
  obtain ⟨fm, v, hv, hd⟩ := right_near hr (by decide) hW
  rw [Nat.one_mul, Nat.one_mul] at hd
  have hz := Z_pos
  -- k is the floor
  have c1 : k * UZ < val x := by
    have h : ((k * UZ : Int) : Rat) < ((val x : Int) : Rat) := by
      rw [Rat.intCast_mul, UZ_rat, q_val]
      have h3 := Rat.mul_lt_mul_of_pos_right (show (k : Rat) < q x by grind) hz
      grind
    exact_mod_cast h
  have c2 : val x < (k + 1) * UZ := by
    have h : ((val x : Int) : Rat) < (((k + 1) * UZ : Int) : Rat) := by
      rw [Rat.intCast_mul, Rat.intCast_add, UZ_rat, q_val]
      have h3 := Rat.mul_lt_mul_of_pos_right (show q x < (k : Rat) + 1 by grind) hz
      have e1 : ((1 : Int) : Rat) = 1 := rfl
      rw [e1]
      grind
    exact_mod_cast h
  have hUZ := UZ_nat
  have hUp : 0 < UZ := by rw [← hUZ]; exact_mod_cast Nat.two_pow_pos 1074
  have heps : eps ≤ 1 / 1000000 := by unfold eps; decide +kernel
  have hzf : lt oneF (zero false) = false := by kernel_rfl
  by_cases hk : 0 ≤ k
  · have hkU : 0 ≤ k * UZ := Int.mul_nonneg hk (Int.le_of_lt hUp)
    have ha : a = false := by
      cases a with
      | false => rfl
      | true =>
        have := val_sgn dx
        unfold sgn at this
        simp only [if_true] at this
        omega
    subst ha
    have hWv : (((val x).natAbs % 2 ^ 1074 : Nat) : Int) = val x - k * UZ := by
      rw [Int.natCast_emod, hUZ]
      have e1 : (((val x).natAbs : Nat) : Int) = (val x - k * UZ) + k * UZ := by omega
      rw [e1, Int.add_mul_emod_self_right]
      refine Int.emod_eq_of_lt (by omega) ?_
      have : (k + 1) * UZ = k * UZ + UZ := by rw [Int.add_mul, Int.one_mul]
      omega
    have hvm : val (fmod x oneF) = v := by rw [hv]; rfl
    have hs : ((val x - k * UZ : Int) : Rat) = (q x - k) * Z * 1125899906842624 := by
      rw [Rat.intCast_sub, Rat.intCast_mul, UZ_rat, q_val]; grind
    unfold dist at hd
    have hpi := pow_int
    obtain ⟨n1, n2⟩ := q_near hs (by rw [hvm, ← hpi]; omega) (by rw [hvm, ← hpi]; omega)
    have hmz : isZero (fmod x oneF) = false := not_zero fm (by grind)
    have hml : lt (fmod x oneF) (zero false) = false := by
      unfold lt
      rw [cmp_gt fm (zero_fin false).1 (by rw [zero_q]; grind)]
      rfl
    have hres : (divmod x oneF).2 = fmod x oneF := by
      unfold divmod
      simp only [hmz, hzf, hml, Bool.false_eq_true, if_false, bne_self_eq_false]
    rw [hres]
    exact ⟨fm, by grind, by grind⟩
  · have hk1 : k + 1 ≤ 0 := by omega
    have hkU : (k + 1) * UZ ≤ 0 := by
      have := Int.mul_nonneg (show 0 ≤ -(k + 1) by omega) (Int.le_of_lt hUp)
      rw [Int.neg_mul] at this
      omega
    have ha : a = true := by
      cases a with
      | true => rfl
      | false =>
        have := val_sgn dx
        unfold sgn at this
        simp only [Bool.false_eq_true, if_false] at this
        omega
    subst ha
    have hWv : (((val x).natAbs % 2 ^ 1074 : Nat) : Int) = (k + 1) * UZ - val x := by
      rw [Int.natCast_emod, hUZ]
      have e1 : (((val x).natAbs : Nat) : Int) = ((k + 1) * UZ - val x) + (-(k + 1)) * UZ := by rw [Int.neg_mul]; omega
      rw [e1, Int.add_mul_emod_self_right]
      refine Int.emod_eq_of_lt (by omega) ?_
      have : (k + 1) * UZ = k * UZ + UZ := by rw [Int.add_mul, Int.one_mul]
      omega
    have hvm : val (fmod x oneF) = -v := by rw [hv]; rfl
    have hs : ((val x - (k + 1) * UZ : Int) : Rat) = (q x - (k + 1)) * Z * 1125899906842624 := by
      rw [Rat.intCast_sub, Rat.intCast_mul, Rat.intCast_add, UZ_rat, q_val]
      have e1 : ((1 : Int) : Rat) = 1 := rfl
      rw [e1]; grind
    unfold dist at hd
    have hpi := pow_int
    obtain ⟨n1, n2⟩ := q_near hs (by rw [hvm, ← hpi]; omega) (by rw [hvm, ← hpi]; omega)
    have hmz : isZero (fmod x oneF) = false := not_zero fm (by grind)
    have hml : lt (fmod x oneF) (zero false) = true := by
      unfold lt
      rw [cmp_lt fm (zero_fin false).1 (by rw [zero_q]; grind)]
      rfl
    have hres : (divmod x oneF).2 = add (fmod x oneF) oneF := by
      unfold divmod
      simp only [hmz, hzf, hml, Bool.false_eq_true, if_false]
      rfl
    rw [hres]
    obtain ⟨f2, a1, a2⟩ := add_q fm one_fin (by rw [one_q]; grind) (by rw [one_q]; grind)
    rw [one_q] at a1 a2
    exact ⟨f2, by grind, by grind⟩
end Mine
end
section
set_option maxRecDepth 10000
namespace Mine
open PySem PySem.Float64
theorem fin_of {x : UInt64} (h : isFinite x = true) : Fin' x := by
  unfold isFinite at h
  split at h
  · rename_i a m e hd; exact ⟨_, _, _, hd⟩
  · cases h
theorem q_of_val {x : UInt64} {n : Int} {d : Nat} (hd : 0 < d) (h : val x * d = n * UZ) : q x * (d : Rat) = n := by
  have hz := Z_pos
  have h2 : ((val x * d : Int) : Rat) = ((n * UZ : Int) : Rat) := by rw [h]
  rw [Rat.intCast_mul, Rat.intCast_mul, UZ_rat, q_val] at h2
  have e : (((d : Nat) : Int) : Rat) = (d : Rat) := rfl
  rw [e] at h2
  have h3 : (q x * (d : Rat)) * Z = (n : Rat) * Z := by grind
  have h4 : (q x * (d : Rat)) * Z ≤ (n : Rat) * Z := by rw [h3]; exact Rat.le_refl
  have h5 : (n : Rat) * Z ≤ (q x * (d : Rat)) * Z := by rw [h3]; exact Rat.le_refl
  exact Rat.le_antisymm (le_of_Z h4) (le_of_Z h5)
theorem ofInt_val : ∀ i : Fin 101, val (ofInt (i.1 : Int)) * ((1 : Nat) : Int) = (i.1 : Int) * UZ ∧ isFinite (ofInt (i.1 : Int)) = true := by decide +kernel
theorem ofInt_q {i : Int} (h1 : 0 ≤ i) (h2 : i ≤ 100) : Fin' (ofInt i) ∧ q (ofInt i) = i := by
  have h := ofInt_val ⟨i.toNat, by omega⟩
  have e : ((i.toNat : Nat) : Int) = i := by omega
  simp only [e] at h
  refine ⟨fin_of h.2, ?_⟩
  have := q_of_val (by decide) h.1
  grind
theorem trunc_q {x : UInt64} (hx : Fin' x) {n : Int} (h0 : 0 ≤ n) (h1 : (n : Rat) < q x) (h2 : q x < n + 1) : PySem.Flt.toInt truncOf x = n := by
  obtain ⟨a, m, e, dx⟩ := hx
  have hz := Z_pos
  have hUZ := UZ_nat
  have hUp : 0 < UZ := by rw [← hUZ]; exact_mod_cast Nat.two_pow_pos 1074
  have c1 : n * UZ < val x := by
    have h : ((n * UZ : Int) : Rat) < ((val x : Int) : Rat) := by
      rw [Rat.intCast_mul, UZ_rat, q_val]
      have h3 := Rat.mul_lt_mul_of_pos_right h1 hz
      grind
    exact_mod_cast h
  have c2 : val x < (n + 1) * UZ := by
    have h : ((val x : Int) : Rat) < (((n + 1) * UZ : Int) : Rat) := by
      rw [Rat.intCast_mul, Rat.intCast_add, UZ_rat, q_val]
      have h3 := Rat.mul_lt_mul_of_pos_right h2 hz
      have e1 : ((1 : Int) : Rat) = 1 := rfl
      rw [e1]
      grind
    exact_mod_cast h
  have hnU : 0 ≤ n * UZ := Int.mul_nonneg h0 (Int.le_of_lt hUp)
  have ha : a = false := by
    cases a with
    | false => rfl
    | true =>
      have := val_sgn dx
      unfold sgn at this
      simp only [if_true] at this
      omega
  subst ha
  have he := decode_ge dx
  have hv : val x = ((m * 2 ^ (e + 1074).toNat : Nat) : Int) := by
    rw [val_eq dx]; rfl
  unfold PySem.Flt.toInt
  rw [dx]
  simp only
  unfold truncOf floorOf
  simp only [Bool.false_eq_true, if_false]
  by_cases h5 : e ≥ 0
  · rw [if_pos h5]
    have e1 : (e + 1074).toNat = e.toNat + 1074 := by omega
    rw [e1, Nat.pow_add, ← Nat.mul_assoc, Int.natCast_mul, hUZ] at hv
    rw [hv] at c1 c2
    have d1 := Int.lt_of_mul_lt_mul_right c1 (Int.le_of_lt hUp)
    have d2 := Int.lt_of_mul_lt_mul_right c2 (Int.le_of_lt hUp)
    have e2 : sgn false m * 2 ^ e.toNat = ((m * 2 ^ e.toNat : Nat) : Int) := by
      rw [Int.natCast_mul, Int.natCast_pow]; rfl
    rw [e2]
    omega
  · rw [if_neg h5]
    have e1 : 1074 = (e + 1074).toNat + (-e).toNat := by omega
    have hU2 : UZ = ((2 ^ (e + 1074).toNat : Nat) : Int) * ((2 ^ (-e).toNat : Nat) : Int) := by
      rw [← hUZ, ← Int.natCast_mul, ← Nat.pow_add, ← e1]
    have hp1 : (0 : Int) < ((2 ^ (e + 1074).toNat : Nat) : Int) := by exact_mod_cast Nat.two_pow_pos _
    have hp2 : (0 : Int) < ((2 ^ (-e).toNat : Nat) : Int) := by exact_mod_cast Nat.two_pow_pos _
    have e3 : sgn false m = (m : Int) := rfl
    have e4 : ((2 : Int) ^ (-e).toNat) = ((2 ^ (-e).toNat : Nat) : Int) := (Int.natCast_pow 2 _).symm
    rw [e3, e4]
    rw [Int.natCast_mul] at hv
    rw [hv, hU2] at c1 c2
    generalize ((2 ^ (e + 1074).toNat : Nat) : Int) = P at *
    generalize ((2 ^ (-e).toNat : Nat) : Int) = R at *
    have d1 : n * R < m := by
      have : (n * R) * P < m * P := by
        have : n * (P * R) = (n * R) * P := by grind
        omega
      exact Int.lt_of_mul_lt_mul_right this (Int.le_of_lt hp1)
    have d2 : (m : Int) < (n + 1) * R := by
      have : (m : Int) * P < ((n + 1) * R) * P := by
        have : (n + 1) * (P * R) = ((n + 1) * R) * P := by grind
        omega
      exact Int.lt_of_mul_lt_mul_right this (Int.le_of_lt hp1)
    rw [Int.fdiv_eq_ediv_of_nonneg _ (Int.le_of_lt hp2)]
    have g1 : n ≤ (m : Int) / R := Int.le_ediv_of_mul_le hp2 (Int.le_of_lt d1)
    have g2 : (m : Int) / R < n + 1 := Int.ediv_lt_of_lt_mul hp2 d2
    omega
end Mine
end
section
set_option maxRecDepth 10000
namespace Mine
open PySem PySem.Float64
/-- lightness and saturation of the first colour -/
def lightF (i : Int) : UInt64 := Float64.div (Float64.ofInt i) 4625196817309499392
def shareF (j : Int) : UInt64 := Float64.div (Float64.ofInt j) 4616189618054758400
def loF (i j : Int) : UInt64 := m1F (lightF i) (shareF j)
def hiF (i j : Int) : UInt64 := m2F (lightF i) (shareF j)
def hiN (i j : Int) : Int := if i ≤ 8 then i * (4 + j) else 4 * i + 16 * j - i * j
def loN (i j : Int) : Int := 8 * i - hiN i j
/-- the table of the sixty pairs -/
def tabOk (i j : Int) : Bool :=
  decide (val (loF i j) * ((64 : Nat) : Int) = loN i j * UZ) && decide (val (hiF i j) * ((64 : Nat) : Int) = hiN i j * UZ) && isFinite (loF i j) && isFinite (hiF i j) &&
  decide (val (sub (hiF i j) (loF i j)) * ((64 : Nat) : Int) = (hiN i j - loN i j) * UZ) && isFinite (sub (hiF i j) (loF i j)) &&
  (lF (hiF i j) (loF i j) == lightF i) && (sF (hiF i j) (loF i j) == shareF j) && !isZero (add (hiF i j) (loF i j)) && !isZero (sub (hiF i j) (loF i j)) && !isZero (sub (sub 4611686018427387904 (hiF i j)) (loF i j)) &&
  !(Float64.cmp (loF i j) (hiF i j) == some Ordering.eq) && !(Float64.cmp (shareF j) 0 == some Ordering.eq) && decide (0 ≤ loN i j) && decide (hiN i j ≤ 64) && decide (loN i j + 2 ≤ hiN i j)
theorem tab_all : ∀ (a : Fin 15) (b : Fin 4), tabOk ((a.1 : Int) + 1) ((b.1 : Int) + 1) = true := by decide +kernel
structure TabAt (i j : Int) : Prop where
  lof : Fin' (loF i j)
  hif : Fin' (hiF i j)
  df : Fin' (sub (hiF i j) (loF i j))
  dq : q (sub (hiF i j) (loF i j)) = q (hiF i j) - q (loF i j)
  lo0 : 0 ≤ q (loF i j)
  hi1 : q (hiF i j) ≤ 1
  gap : q (loF i j) + 1 / 32 ≤ q (hiF i j)
  l : lF (hiF i j) (loF i j) = lightF i
  s : sF (hiF i j) (loF i j) = shareF j
  rgb : RgbOk (hiF i j) (loF i j)
  sat : (Float64.cmp (shareF j) 0 == some Ordering.eq) = false
theorem tab_at {i j : Int} (h1 : 1 ≤ i) (h2 : i ≤ 15) (h3 : 1 ≤ j) (h4 : j ≤ 4) : TabAt i j := by
  have h := tab_all ⟨(i - 1).toNat, by omega⟩ ⟨(j - 1).toNat, by omega⟩
  have e1 : (((i - 1).toNat : Nat) : Int) + 1 = i := by omega
  have e2 : (((j - 1).toNat : Nat) : Int) + 1 = j := by omega
  simp only [e1, e2] at h
  unfold tabOk at h
  simp only [Bool.and_eq_true, decide_eq_true_eq, Bool.not_eq_true', beq_iff_eq] at h
  obtain ⟨⟨⟨⟨⟨⟨⟨⟨⟨⟨⟨⟨⟨⟨⟨a1, a2⟩, a3⟩, a4⟩, a5⟩, a6⟩, a7⟩, a8⟩, a9⟩, a10⟩, a11⟩, a12⟩, a13⟩, a14⟩, a15⟩, a16⟩ := h
  have b1 := q_of_val (by decide) a1
  have b2 := q_of_val (by decide) a2
  have b3 := q_of_val (by decide) a5
  have c1 : (0 : Rat) ≤ ((loN i j : Int) : Rat) := by exact_mod_cast a14
  have c2 : ((hiN i j : Int) : Rat) ≤ 64 := by exact_mod_cast a15
  have c3 : ((loN i j : Int) : Rat) + 2 ≤ ((hiN i j : Int) : Rat) := by exact_mod_cast a16
  rw [Rat.intCast_sub] at b3
  have e64 : ((64 : Nat) : Rat) = 64 := rfl
  rw [e64] at b1 b2 b3
  exact ⟨fin_of a3, fin_of a4, fin_of a6, by grind, by grind, by grind, by grind, a7, a8, ⟨a12, a9, a10, a11⟩, a13⟩
end Mine
end
section
set_option maxRecDepth 10000
namespace Mine
open PySem PySem.Float64
theorem const_q {x : UInt64} {d n : Int} (h1 : (d * val x - n * UZ) * 1125899906842624 ≤ UZ) (h2 : (n * UZ - d * val x) * 1125899906842624 ≤ UZ) : (d : Rat) * q x - n ≤ eps ∧ (n : Rat) - d * q x ≤ eps := by
  have hz := Z_pos
  have a1 : (((d * val x - n * UZ) * 1125899906842624 : Int) : Rat) ≤ ((UZ : Int) : Rat) := Rat.intCast_le_intCast.mpr h1
  have a2 : (((n * UZ - d * val x) * 1125899906842624 : Int) : Rat) ≤ ((UZ : Int) : Rat) := Rat.intCast_le_intCast.mpr h2
  rw [Rat.intCast_mul, Rat.intCast_sub, Rat.intCast_mul, Rat.intCast_mul, UZ_rat, q_val] at a1 a2
  have e : ((1125899906842624 : Int) : Rat) = 1125899906842624 := rfl
  rw [e] at a1 a2
  unfold eps
  constructor
  · have : (((d : Rat) * q x - n) * 1125899906842624) * Z ≤ 1 * Z := by grind
    have := le_of_Z this
    grind
  · have : (((n : Rat) - d * q x) * 1125899906842624) * Z ≤ 1 * Z := by grind
    have := le_of_Z this
    grind
theorem c16_fin : Fin' 4595172819793696085 := fin_of (by decide +kernel)
theorem c16_q : 6 * q 4595172819793696085 - 1 ≤ eps ∧ 1 - 6 * q 4595172819793696085 ≤ eps := const_q (d := 6) (n := 1) (by decide +kernel) (by decide +kernel)
theorem c12_fin : Fin' 4602678819172646912 := fin_of (by decide +kernel)
theorem c12_q : 2 * q 4602678819172646912 - 1 ≤ eps ∧ 1 - 2 * q 4602678819172646912 ≤ eps := const_q (d := 2) (n := 1) (by decide +kernel) (by decide +kernel)
theorem c23_fin : Fin' 4604180019048437077 := fin_of (by decide +kernel)
theorem c23_q : 3 * q 4604180019048437077 - 2 ≤ eps ∧ 2 - 3 * q 4604180019048437077 ≤ eps := const_q (d := 3) (n := 2) (by decide +kernel) (by decide +kernel)
theorem c13_fin : Fin' 4599676419421066581 := fin_of (by decide +kernel)
theorem c13_q : 3 * q 4599676419421066581 - 1 ≤ eps ∧ 1 - 3 * q 4599676419421066581 ≤ eps := const_q (d := 3) (n := 1) (by decide +kernel) (by decide +kernel)
theorem six_fin : Fin' 4618441417868443648 := fin_of (by decide +kernel)
theorem six_q : 1 * q 4618441417868443648 - 6 ≤ eps ∧ 6 - 1 * q 4618441417868443648 ≤ eps := const_q (d := 1) (n := 6) (by decide +kernel) (by decide +kernel)
theorem two_fin : Fin' 4611686018427387904 := fin_of (by decide +kernel)
theorem two_q : 1 * q 4611686018427387904 - 2 ≤ eps ∧ 2 - 1 * q 4611686018427387904 ≤ eps := const_q (d := 1) (n := 2) (by decide +kernel) (by decide +kernel)
theorem four_fin : Fin' 4616189618054758400 := fin_of (by decide +kernel)
theorem four_q : 1 * q 4616189618054758400 - 4 ≤ eps ∧ 4 - 1 * q 4616189618054758400 ≤ eps := const_q (d := 1) (n := 4) (by decide +kernel) (by decide +kernel)
theorem f48_fin : Fin' 4631952216750555136 := fin_of (by decide +kernel)
theorem f48_q : q 4631952216750555136 = 48 := by
  have := q_of_val (x := 4631952216750555136) (n := 48) (d := 1) (by decide) (by decide +kernel)
  have e : ((1 : Nat) : Rat) = 1 := rfl
  have e2 : ((48 : Int) : Rat) = 48 := rfl
  rw [e, e2] at this
  grind
theorem six_eq : q 4618441417868443648 = 6 := by
  have := q_of_val (x := 4618441417868443648) (n := 6) (d := 1) (by decide) (by decide +kernel)
  have e : ((1 : Nat) : Rat) = 1 := rfl
  have e2 : ((6 : Int) : Rat) = 6 := rfl
  rw [e, e2] at this
  grind
theorem eps_pos : 0 < eps := by unfold eps; decide +kernel
theorem eps_small : eps * 1000000000 ≤ 1 := by unfold eps; decide +kernel
/-- a component of a colour, u forty-eighths round -/
structure Wn (lo hi x : UInt64) (u : Int) (η : Rat) : Prop where
  f : Fin' x
  up : 0 ≤ u → u < 8 → q x - (q lo + (q hi - q lo) * ((u : Rat) / 8)) ≤ (q hi - q lo) * η ∧ (q lo + (q hi - q lo) * ((u : Rat) / 8)) - q x ≤ (q hi - q lo) * η
  top : 8 ≤ u → u < 24 → x = hi
  down : 24 ≤ u → u < 32 → q x - (q lo + (q hi - q lo) * ((32 - (u : Rat)) / 8)) ≤ (q hi - q lo) * η ∧ (q lo + (q hi - q lo) * ((32 - (u : Rat)) / 8)) - q x ≤ (q hi - q lo) * η
  bot : 32 ≤ u → u < 48 → x = lo
theorem mid_val {lo hi hue : UInt64} {t ζ : Rat} (hlo : Fin' lo) (hhi : Fin' hi) (hD : Fin' (sub hi lo)) (dq : q (sub hi lo) = q hi - q lo) (lo0 : 0 ≤ q lo) (hi1 : q hi ≤ 1) (gap : q lo + 1 / 32 ≤ q hi)
    (hf : Fin' hue) (t0 : 1 / 48 ≤ t) (t1 : t ≤ 7 / 48) (hz0 : 0 ≤ ζ) (hz : ζ ≤ 1 / 500) (h1 : q hue - t ≤ ζ) (h2 : t - q hue ≤ ζ) :
    Fin' (add lo (mul (mul (sub hi lo) hue) 4618441417868443648)) ∧
    q (add lo (mul (mul (sub hi lo) hue) 4618441417868443648)) - (q lo + (q hi - q lo) * (6 * t)) ≤ (q hi - q lo) * (6 * ζ + 300 * eps) ∧ (q lo + (q hi - q lo) * (6 * t)) - q (add lo (mul (mul (sub hi lo) hue) 4618441417868443648)) ≤ (q hi - q lo) * (6 * ζ + 300 * eps) := by
  have e1 := eps_pos
  have e2 := eps_small
  generalize hdd : q hi - q lo = d at *
  have d0 : 1 / 32 ≤ d := by grind
  have d1 : d ≤ 1 := by grind
  have hu0 : 0 ≤ q hue := by grind
  have hu1 : q hue ≤ 1 / 6 := by grind
  have m0 : 0 ≤ d * q hue := Rat.mul_nonneg (by grind) hu0
  have m1 : d * q hue ≤ 1 * q hue := Rat.mul_le_mul_of_nonneg_right d1 hu0
  obtain ⟨f1, a1, a2⟩ := mul_q hD hf (by rw [dq]; grind) (by rw [dq]; grind)
  rw [dq] at a1 a2
  obtain ⟨f2, b1, b2⟩ := mul_q f1 six_fin (by rw [six_eq]; grind) (by rw [six_eq]; grind)
  rw [six_eq] at b1 b2
  obtain ⟨f3, c1, c2⟩ := add_q hlo f2 (by grind) (by grind)
  refine ⟨f3, ?_, ?_⟩
  · have k1 : d * (q hue - t) ≤ d * ζ := Rat.mul_le_mul_of_nonneg_left h1 (by grind)
    have k2 : eps * (1 / 32) ≤ eps * d := Rat.mul_le_mul_of_nonneg_left d0 (by grind)
    grind
  · have k1 : d * (t - q hue) ≤ d * ζ := Rat.mul_le_mul_of_nonneg_left h2 (by grind)
    have k2 : eps * (1 / 32) ≤ eps * d := Rat.mul_le_mul_of_nonneg_left d0 (by grind)
    grind
theorem mid_val2 {lo hi hue : UInt64} {t ζ : Rat} (hlo : Fin' lo) (hhi : Fin' hi) (hD : Fin' (sub hi lo)) (dq : q (sub hi lo) = q hi - q lo) (lo0 : 0 ≤ q lo) (hi1 : q hi ≤ 1) (gap : q lo + 1 / 32 ≤ q hi)
    (hf : Fin' hue) (t0 : 1 / 48 ≤ t) (t1 : t ≤ 7 / 48) (hz0 : 0 ≤ ζ) (hz : ζ ≤ 1 / 1000) (h1 : q hue - (2 / 3 - t) ≤ ζ) (h2 : (2 / 3 - t) - q hue ≤ ζ) :
    Fin' (add lo (mul (mul (sub hi lo) (sub 4604180019048437077 hue)) 4618441417868443648)) ∧
    q (add lo (mul (mul (sub hi lo) (sub 4604180019048437077 hue)) 4618441417868443648)) - (q lo + (q hi - q lo) * (6 * t)) ≤ (q hi - q lo) * (6 * ζ + 320 * eps) ∧ (q lo + (q hi - q lo) * (6 * t)) - q (add lo (mul (mul (sub hi lo) (sub 4604180019048437077 hue)) 4618441417868443648)) ≤ (q hi - q lo) * (6 * ζ + 320 * eps) := by
  have e1 := eps_pos
  have e2 := eps_small
  have hc := c23_q
  obtain ⟨f0, s1, s2⟩ := sub_q c23_fin hf (by grind) (by grind)
  have key := mid_val (ζ := ζ + 3 * eps) (t := t) hlo hhi hD dq lo0 hi1 gap f0 t0 t1 (by grind) ?_ (by grind) (by grind)
  · obtain ⟨k0, k1, k2⟩ := key
    refine ⟨k0, ?_, ?_⟩
    · have : (q hi - q lo) * (6 * (ζ + 3 * eps) + 300 * eps) ≤ (q hi - q lo) * (6 * ζ + 320 * eps) := Rat.mul_le_mul_of_nonneg_left (by grind) (by grind)
      grind
    · have : (q hi - q lo) * (6 * (ζ + 3 * eps) + 300 * eps) ≤ (q hi - q lo) * (6 * ζ + 320 * eps) := Rat.mul_le_mul_of_nonneg_left (by grind) (by grind)
      grind
  · grind
end Mine
end
section
set_option maxRecDepth 10000
namespace Mine
open PySem PySem.Float64
structure Pair (lo hi : UInt64) : Prop where
  lof : Fin' lo
  hif : Fin' hi
  df : Fin' (sub hi lo)
  dq : q (sub hi lo) = q hi - q lo
  lo0 : 0 ≤ q lo
  hi1 : q hi ≤ 1
  gap : q lo + 1 / 32 ≤ q hi
theorem TabAt.pair {i j : Int} (h : TabAt i j) : Pair (loF i j) (hiF i j) := ⟨h.lof, h.hif, h.df, h.dq, h.lo0, h.hi1, h.gap⟩
theorem v_wn {lo hi x : UInt64} (P : Pair lo hi) (hx : Fin' x) {u z : Int} {ζ : Rat} (hodd : u % 2 = 1) (hu0 : 0 ≤ u) (hu : u < 48) (hz0 : -3 ≤ z) (hz1 : z ≤ 2) (z0 : 0 ≤ ζ) (z1 : ζ ≤ 1 / 2000)
    (h1 : q x - ((u : Rat) / 48 + z) ≤ ζ) (h2 : ((u : Rat) / 48 + z) - q x ≤ ζ) : Wn lo hi (vF lo hi x) u (6 * ζ + 340 * eps) := by
  have e1 := eps_pos
  have e2 := eps_small
  have r0 : (1 : Rat) ≤ ((u : Int) : Rat) := by exact_mod_cast (show (1 : Int) ≤ u by omega)
  have r1 : ((u : Int) : Rat) ≤ 47 := by exact_mod_cast (show u ≤ 47 by omega)
  have rz0 : (-3 : Rat) ≤ ((z : Int) : Rat) := by
    have h9 := Rat.intCast_le_intCast.mpr hz0
    have e9 : ((-3 : Int) : Rat) = -3 := rfl
    rw [e9] at h9
    exact h9
  have rz1 : ((z : Int) : Rat) ≤ 2 := by exact_mod_cast hz1
  obtain ⟨fm, m1, m2⟩ := mod_q hx (k := z) (by grind) (by grind) (by grind) (by grind)
  have hc16 := c16_q
  have hc12 := c12_q
  have n1 : q (divmod x oneF).2 - (u : Rat) / 48 ≤ ζ + 2 * eps := by grind
  have n2 : (u : Rat) / 48 - q (divmod x oneF).2 ≤ ζ + 2 * eps := by grind
  have hc23 := c23_q
  unfold vF
  generalize (divmod x oneF).2 = y at *
  by_cases c1 : u < 8
  · have t1 : ((u : Int) : Rat) ≤ 7 := by exact_mod_cast (show u ≤ 7 by omega)
    have hcmp : cmp y 4595172819793696085 = some .lt := cmp_lt fm c16_fin (by grind)
    rw [if_pos (by rw [hcmp]; rfl)]
    obtain ⟨k0, k1, k2⟩ := mid_val (t := (u : Rat) / 48) (ζ := ζ + 2 * eps) P.lof P.hif P.df P.dq P.lo0 P.hi1 P.gap fm (by grind) (by grind) (by grind) (by grind) n1 n2
    have hd := P.gap
    have k3 : (q hi - q lo) * (6 * (ζ + 2 * eps) + 300 * eps) ≤ (q hi - q lo) * (6 * ζ + 340 * eps) := Rat.mul_le_mul_of_nonneg_left (by grind) (by grind)
    have e6 : (6 : Rat) * ((u : Rat) / 48) = (u : Rat) / 8 := by grind
    rw [e6] at k1 k2
    refine ⟨k0, fun _ _ => ⟨Rat.le_trans k1 k3, Rat.le_trans k2 k3⟩, fun h => absurd h (by omega), fun h => absurd h (by omega), fun h => absurd h (by omega)⟩
  · have t1 : (9 : Rat) ≤ ((u : Int) : Rat) := by exact_mod_cast (show (9 : Int) ≤ u by omega)
    have hcmp : cmp y 4595172819793696085 = some .gt := cmp_gt fm c16_fin (by grind)
    rw [if_neg (by rw [hcmp]; decide)]
    by_cases c2 : u < 24
    · have t2 : ((u : Int) : Rat) ≤ 23 := by exact_mod_cast (show u ≤ 23 by omega)
      have hcmp2 : cmp y 4602678819172646912 = some .lt := cmp_lt fm c12_fin (by grind)
      rw [if_pos (by rw [hcmp2]; rfl)]
      exact ⟨P.hif, fun _ h => absurd h (by omega), fun _ _ => rfl, fun h => absurd h (by omega), fun h => absurd h (by omega)⟩
    · have t2 : (25 : Rat) ≤ ((u : Int) : Rat) := by exact_mod_cast (show (25 : Int) ≤ u by omega)
      have hcmp2 : cmp y 4602678819172646912 = some .gt := cmp_gt fm c12_fin (by grind)
      rw [if_neg (by rw [hcmp2]; decide)]
      by_cases c3 : u < 32
      · have t3 : ((u : Int) : Rat) ≤ 31 := by exact_mod_cast (show u ≤ 31 by omega)
        have hcmp3 : cmp y 4604180019048437077 = some .lt := cmp_lt fm c23_fin (by grind)
        rw [if_pos (by rw [hcmp3]; rfl)]
        obtain ⟨k0, k1, k2⟩ := mid_val2 (t := 2 / 3 - (u : Rat) / 48) (ζ := ζ + 2 * eps) P.lof P.hif P.df P.dq P.lo0 P.hi1 P.gap fm (by grind) (by grind) (by grind) (by grind) (by grind) (by grind)
        have hd := P.gap
        have k3 : (q hi - q lo) * (6 * (ζ + 2 * eps) + 320 * eps) ≤ (q hi - q lo) * (6 * ζ + 340 * eps) := Rat.mul_le_mul_of_nonneg_left (by grind) (by grind)
        have e6 : (6 : Rat) * (2 / 3 - (u : Rat) / 48) = (32 - (u : Rat)) / 8 := by grind
        rw [e6] at k1 k2
        exact ⟨k0, fun _ h => absurd h (by omega), fun _ h => absurd h (by omega), fun _ _ => ⟨Rat.le_trans k1 k3, Rat.le_trans k2 k3⟩, fun h => absurd h (by omega)⟩
      · have t3 : (33 : Rat) ≤ ((u : Int) : Rat) := by exact_mod_cast (show (33 : Int) ≤ u by omega)
        have hcmp3 : cmp y 4604180019048437077 = some .gt := cmp_gt fm c23_fin (by grind)
        rw [if_neg (by rw [hcmp3]; decide)]
        exact ⟨P.lof, fun _ h => absurd h (by omega), fun _ h => absurd h (by omega), fun _ h => absurd h (by omega), fun _ _ => rfl⟩
end Mine
end
section
set_option maxRecDepth 10000
namespace Mine
open PySem PySem.Float64
theorem mx_lt {x y : UInt64} (h : cmp x y = some .lt) : mxF x y = y := by unfold mxF; rw [if_pos (by rw [h]; rfl)]
theorem mx_gt {x y : UInt64} (h : cmp x y = some .gt) : mxF x y = x := by unfold mxF; rw [if_neg (by rw [h]; decide)]
theorem mn_lt {x y : UInt64} (h : cmp y x = some .lt) : mnF x y = y := by unfold mnF; rw [if_pos (by rw [h]; rfl)]
theorem mn_gt {x y : UInt64} (h : cmp y x = some .gt) : mnF x y = x := by unfold mnF; rw [if_neg (by rw [h]; decide)]
theorem div_le {d a b : Rat} (h : 0 < d) (h2 : d * a ≤ d * b) : a ≤ b := by
  rw [Rat.mul_comm d a, Rat.mul_comm d b] at h2
  exact Rat.le_of_mul_le_mul_right h2 h
/-- a float x that lies D * s below the top -/
theorem c_near {lo hi x : UInt64} (P : Pair lo hi) (hx : Fin' x) {s η : Rat} (hη0 : 0 ≤ η) (hη : η ≤ 1 / 1000) (s0 : 0 ≤ s) (s1 : s ≤ 1) (h1 : (q hi - q x) - (q hi - q lo) * s ≤ (q hi - q lo) * η) (h2 : (q hi - q lo) * s - (q hi - q x) ≤ (q hi - q lo) * η) :
    Fin' (cF hi lo x) ∧ q (cF hi lo x) - s ≤ η + 40 * eps ∧ s - q (cF hi lo x) ≤ η + 40 * eps := by
  have e1 := eps_pos
  have e2 := eps_small
  have hg := P.gap
  have hl := P.lo0
  have hh := P.hi1
  have hdq := P.dq
  have hD := P.df
  unfold cF
  generalize sub hi lo = dd at *
  generalize hd : q hi - q lo = d at *
  have d0 : 1 / 32 ≤ d := by grind
  have d1 : d ≤ 1 := by grind
  have k1 : d * s ≤ d * 1 := Rat.mul_le_mul_of_nonneg_left s1 (by grind)
  have k2 : d * 0 ≤ d * s := Rat.mul_le_mul_of_nonneg_left s0 (by grind)
  have k3 : d * η ≤ d * (1 / 1000) := Rat.mul_le_mul_of_nonneg_left hη (by grind)
  have k4 : eps * (1 / 32) ≤ eps * d := Rat.mul_le_mul_of_nonneg_left d0 (by grind)
  obtain ⟨f1, a1, a2⟩ := sub_q P.hif hx (by grind) (by grind)
  obtain ⟨f2, b1, b2⟩ := div_q f1 hD (by grind) (by rw [hdq]; grind) (by rw [hdq]; grind)
  rw [hdq] at b1 b2
  refine ⟨f2, ?_, ?_⟩
  · have : d * (q (div (sub hi x) dd) - s) ≤ d * (η + 40 * eps) := by grind
    exact div_le (by grind) this
  · have : d * (s - q (div (sub hi x) dd)) ≤ d * (η + 40 * eps) := by grind
    exact div_le (by grind) this
theorem h_near {h0 : UInt64} (hf : Fin' h0) {p k : Int} {κ : Rat} (hp0 : 1 ≤ p) (hp1 : p ≤ 47) (hk0 : -1 ≤ k) (hk1 : k ≤ 0) (κ0 : 0 ≤ κ) (κ1 : κ ≤ 1 / 1000) (h1 : q h0 - ((p : Rat) / 8 + 6 * k) ≤ κ) (h2 : ((p : Rat) / 8 + 6 * k) - q h0 ≤ κ) :
    Fin' (divmod (div h0 4618441417868443648) oneF).2 ∧ q (divmod (div h0 4618441417868443648) oneF).2 - (p : Rat) / 48 ≤ κ / 6 + 3 * eps ∧ (p : Rat) / 48 - q (divmod (div h0 4618441417868443648) oneF).2 ≤ κ / 6 + 3 * eps := by
  have e1 := eps_pos
  have e2 := eps_small
  have r0 : (1 : Rat) ≤ ((p : Int) : Rat) := Rat.intCast_le_intCast.mpr hp0
  have r1 : ((p : Int) : Rat) ≤ 47 := Rat.intCast_le_intCast.mpr hp1
  have rk0 : (-1 : Rat) ≤ ((k : Int) : Rat) := Rat.intCast_le_intCast.mpr hk0
  have rk1 : ((k : Int) : Rat) ≤ 0 := Rat.intCast_le_intCast.mpr hk1
  obtain ⟨f1, a1, a2⟩ := div_q hf six_fin (by rw [six_eq]; decide +kernel) (by rw [six_eq]; grind) (by rw [six_eq]; grind)
  rw [six_eq] at a1 a2
  obtain ⟨f2, b1, b2⟩ := mod_q f1 (k := k) (by grind) (by grind) (by grind) (by grind)
  exact ⟨f2, by grind, by grind⟩
end Mine
end
section
set_option maxRecDepth 10000
namespace Mine
open PySem PySem.Float64
structure HueAt (lo hi r g b : UInt64) (p : Int) (ξ : Rat) : Prop where
  mx : mxF (mxF r g) b = hi
  mn : mnF (mnF r g) b = lo
  f : Fin' (hueF r g b)
  up : q (hueF r g b) - (p : Rat) / 48 ≤ ξ
  dn : (p : Rat) / 48 - q (hueF r g b) ≤ ξ
/-- the middle component, t of the way up -/
structure Mid (lo hi x : UInt64) (t η : Rat) : Prop where
  f : Fin' x
  up : q x - (q lo + (q hi - q lo) * t) ≤ (q hi - q lo) * η
  dn : (q lo + (q hi - q lo) * t) - q x ≤ (q hi - q lo) * η
theorem Mid.lt {lo hi x : UInt64} {t η : Rat} (P : Pair lo hi) (M : Mid lo hi x t η) (t0 : 1 / 8 ≤ t) (t1 : t ≤ 7 / 8) (h0 : 0 ≤ η) (h1 : η ≤ 1 / 100) : q lo < q x ∧ q x < q hi := by
  have hg := P.gap
  have a := M.up
  have b := M.dn
  generalize hd : q hi - q lo = d at *
  have k1 : d * (1 / 8) ≤ d * t := Rat.mul_le_mul_of_nonneg_left t0 (by grind)
  have k2 : d * t ≤ d * (7 / 8) := Rat.mul_le_mul_of_nonneg_left t1 (by grind)
  have k3 : d * η ≤ d * (1 / 100) := Rat.mul_le_mul_of_nonneg_left h1 (by grind)
  constructor <;> grind
theorem Mid.c {lo hi x : UInt64} {t η : Rat} (P : Pair lo hi) (M : Mid lo hi x t η) (t0 : 1 / 8 ≤ t) (t1 : t ≤ 7 / 8) (h0 : 0 ≤ η) (h1 : η ≤ 1 / 1000) : Fin' (cF hi lo x) ∧ q (cF hi lo x) - (1 - t) ≤ η + 40 * eps ∧ (1 - t) - q (cF hi lo x) ≤ η + 40 * eps := by
  have a := M.up
  have b := M.dn
  exact c_near P M.f h0 h1 (by grind) (by grind) (by grind) (by grind)
theorem c_lo {lo hi : UInt64} (P : Pair lo hi) : Fin' (cF hi lo lo) ∧ q (cF hi lo lo) - 1 ≤ 40 * eps ∧ 1 - q (cF hi lo lo) ≤ 40 * eps := by
  have h := c_near P P.lof (s := 1) (η := 0) (by grind) (by grind) (by grind) (by grind) (by grind) (by grind)
  obtain ⟨a, b, c⟩ := h
  exact ⟨a, by grind, by grind⟩
theorem wn_up {lo hi x : UInt64} {u : Int} {η : Rat} (W : Wn lo hi x u η) (h0 : 0 ≤ u) (h1 : u < 8) : Mid lo hi x ((u : Rat) / 8) η := ⟨W.f, (W.up h0 h1).1, (W.up h0 h1).2⟩
theorem wn_dn {lo hi x : UInt64} {u : Int} {η : Rat} (W : Wn lo hi x u η) (h0 : 24 ≤ u) (h1 : u < 32) : Mid lo hi x ((32 - (u : Rat)) / 8) η := ⟨W.f, (W.down h0 h1).1, (W.down h0 h1).2⟩
theorem hue_near {lo hi r g b : UInt64} (P : Pair lo hi) {p : Int} {η : Rat} (hodd : p % 2 = 1) (hp0 : 0 ≤ p) (hp1 : p < 48) (h0 : 0 ≤ η) (h1 : η ≤ 1 / 2000) (wr : Wn lo hi r ((p + 16) % 48) η) (wg : Wn lo hi g p η) (wb : Wn lo hi b ((p + 32) % 48) η) : HueAt lo hi r g b p (η / 6 + 60 * eps) := by
  have e1 := eps_pos
  have e2 := eps_small
  have hlt : q lo < q hi := by have := P.gap; grind
  obtain ⟨fl, l1, l2⟩ := c_lo P
  have t2 := two_q
  have t4 := four_q
  by_cases s0 : p < 8
  · have er : (p + 16) % 48 = p + 16 := by omega
    have eb : (p + 32) % 48 = p + 32 := by omega
    rw [er] at wr
    rw [eb] at wb
    have hr := wr.top (by omega) (by omega)
    have hb := wb.bot (by omega) (by omega)
    subst hr hb
    have M := wn_up wg hp0 s0
    have i0 : (1 : Rat) ≤ ((p : Int) : Rat) := Rat.intCast_le_intCast.mpr (show (1 : Int) ≤ p by omega)
    have i1 : ((p : Int) : Rat) ≤ 7 := Rat.intCast_le_intCast.mpr (show p ≤ (7 : Int) by omega)
    obtain ⟨o1, o2⟩ := M.lt P (by grind) (by grind) h0 (by grind)
    obtain ⟨fc, c1, c2⟩ := M.c P (by grind) (by grind) h0 (by grind)
    have emx : mxF (mxF r g) b = r := by rw [mx_gt (cmp_gt P.hif M.f o2), mx_gt (cmp_gt P.hif P.lof hlt)]
    have emn : mnF (mnF r g) b = b := by rw [mn_lt (cmp_lt M.f P.hif o2), mn_lt (cmp_lt P.lof M.f o1)]
    obtain ⟨fs, a1, a2⟩ := sub_q fl fc (by grind) (by grind)
    obtain ⟨fh, b1, b2⟩ := h_near fs (p := p) (k := 0) (κ := η + 100 * eps) (by omega) (by omega) (by omega) (by omega) (by grind) (by grind) (by have : ((0 : Int) : Rat) = 0 := rfl; rw [this]; grind) (by have : ((0 : Int) : Rat) = 0 := rfl; rw [this]; grind)
    have eh : hueF r g b = (divmod (div (sub (cF r b b) (cF r b g)) 4618441417868443648) oneF).2 := by
      unfold hueF hF h0F
      rw [emx, emn, if_pos (by rw [cmp_self P.hif]; rfl)]
    exact ⟨emx, emn, by rw [eh]; exact fh, by rw [eh]; grind, by rw [eh]; grind⟩
  by_cases s1 : p < 16
  · have er : (p + 16) % 48 = p + 16 := by omega
    have eb : (p + 32) % 48 = p + 32 := by omega
    rw [er] at wr
    rw [eb] at wb
    have hg := wg.top (by omega) (by omega)
    have hb := wb.bot (by omega) (by omega)
    subst hg hb
    have ec : ((p + 16 : Int) : Rat) = (p : Rat) + 16 := Rat.intCast_add ..
    have M := wn_dn wr (by omega) (by omega)
    rw [ec] at M
    have i0 : (9 : Rat) ≤ ((p : Int) : Rat) := Rat.intCast_le_intCast.mpr (show (9 : Int) ≤ p by omega)
    have i1 : ((p : Int) : Rat) ≤ 15 := Rat.intCast_le_intCast.mpr (show p ≤ (15 : Int) by omega)
    obtain ⟨o1, o2⟩ := M.lt P (by grind) (by grind) h0 (by grind)
    obtain ⟨fc, c1, c2⟩ := M.c P (by grind) (by grind) h0 (by grind)
    have emx : mxF (mxF r g) b = g := by rw [mx_lt (cmp_lt M.f P.hif o2), mx_gt (cmp_gt P.hif P.lof hlt)]
    have emn : mnF (mnF r g) b = b := by rw [mn_gt (cmp_gt P.hif M.f o2), mn_lt (cmp_lt P.lof M.f o1)]
    obtain ⟨f0, d1, d2⟩ := add_q two_fin fc (by grind) (by grind)
    obtain ⟨fs, a1, a2⟩ := sub_q f0 fl (by grind) (by grind)
    obtain ⟨fh, b1, b2⟩ := h_near fs (p := p) (k := 0) (κ := η + 100 * eps) (by omega) (by omega) (by omega) (by omega) (by grind) (by grind) (by have : ((0 : Int) : Rat) = 0 := rfl; rw [this]; grind) (by have : ((0 : Int) : Rat) = 0 := rfl; rw [this]; grind)
    have eh : hueF r g b = (divmod (div (sub (add 4611686018427387904 (cF g b r)) (cF g b b)) 4618441417868443648) oneF).2 := by
      unfold hueF hF h0F
      rw [emx, emn, if_neg (by rw [cmp_lt M.f P.hif o2]; decide), if_pos (by rw [cmp_self P.hif]; rfl)]
    exact ⟨emx, emn, by rw [eh]; exact fh, by rw [eh]; grind, by rw [eh]; grind⟩
  by_cases s2 : p < 24
  · have er : (p + 16) % 48 = p + 16 := by omega
    have eb : (p + 32) % 48 = p - 16 := by omega
    rw [er] at wr
    rw [eb] at wb
    have hr := wr.bot (by omega) (by omega)
    have hg := wg.top (by omega) (by omega)
    subst hr hg
    have ec : ((p - 16 : Int) : Rat) = (p : Rat) - 16 := Rat.intCast_sub ..
    have M := wn_up wb (by omega) (by omega)
    rw [ec] at M
    have i0 : (17 : Rat) ≤ ((p : Int) : Rat) := Rat.intCast_le_intCast.mpr (show (17 : Int) ≤ p by omega)
    have i1 : ((p : Int) : Rat) ≤ 23 := Rat.intCast_le_intCast.mpr (show p ≤ (23 : Int) by omega)
    obtain ⟨o1, o2⟩ := M.lt P (by grind) (by grind) h0 (by grind)
    obtain ⟨fc, c1, c2⟩ := M.c P (by grind) (by grind) h0 (by grind)
    have emx : mxF (mxF r g) b = g := by rw [mx_lt (cmp_lt P.lof P.hif hlt), mx_gt (cmp_gt P.hif M.f o2)]
    have emn : mnF (mnF r g) b = r := by rw [mn_gt (cmp_gt P.hif P.lof hlt), mn_gt (cmp_gt M.f P.lof o1)]
    obtain ⟨f0, d1, d2⟩ := add_q two_fin fl (by grind) (by grind)
    obtain ⟨fs, a1, a2⟩ := sub_q f0 fc (by grind) (by grind)
    obtain ⟨fh, b1, b2⟩ := h_near fs (p := p) (k := 0) (κ := η + 100 * eps) (by omega) (by omega) (by omega) (by omega) (by grind) (by grind) (by have : ((0 : Int) : Rat) = 0 := rfl; rw [this]; grind) (by have : ((0 : Int) : Rat) = 0 := rfl; rw [this]; grind)
    have eh : hueF r g b = (divmod (div (sub (add 4611686018427387904 (cF g r r)) (cF g r b)) 4618441417868443648) oneF).2 := by
      unfold hueF hF h0F
      rw [emx, emn, if_neg (by rw [cmp_lt P.lof P.hif hlt]; decide), if_pos (by rw [cmp_self P.hif]; rfl)]
    exact ⟨emx, emn, by rw [eh]; exact fh, by rw [eh]; grind, by rw [eh]; grind⟩
  by_cases s3 : p < 32
  · have er : (p + 16) % 48 = p + 16 := by omega
    have eb : (p + 32) % 48 = p - 16 := by omega
    rw [er] at wr
    rw [eb] at wb
    have hr := wr.bot (by omega) (by omega)
    have hb := wb.top (by omega) (by omega)
    subst hr hb
    have M := wn_dn wg (by omega) (by omega)
    have i0 : (25 : Rat) ≤ ((p : Int) : Rat) := Rat.intCast_le_intCast.mpr (show (25 : Int) ≤ p by omega)
    have i1 : ((p : Int) : Rat) ≤ 31 := Rat.intCast_le_intCast.mpr (show p ≤ (31 : Int) by omega)
    obtain ⟨o1, o2⟩ := M.lt P (by grind) (by grind) h0 (by grind)
    obtain ⟨fc, c1, c2⟩ := M.c P (by grind) (by grind) h0 (by grind)
    have emx : mxF (mxF r g) b = b := by rw [mx_lt (cmp_lt P.lof M.f o1), mx_lt (cmp_lt M.f P.hif o2)]
    have emn : mnF (mnF r g) b = r := by rw [mn_gt (cmp_gt M.f P.lof o1), mn_gt (cmp_gt P.hif P.lof hlt)]
    obtain ⟨f0, d1, d2⟩ := add_q four_fin fc (by grind) (by grind)
    obtain ⟨fs, a1, a2⟩ := sub_q f0 fl (by grind) (by grind)
    obtain ⟨fh, b1, b2⟩ := h_near fs (p := p) (k := 0) (κ := η + 100 * eps) (by omega) (by omega) (by omega) (by omega) (by grind) (by grind) (by have : ((0 : Int) : Rat) = 0 := rfl; rw [this]; grind) (by have : ((0 : Int) : Rat) = 0 := rfl; rw [this]; grind)
    have eh : hueF r g b = (divmod (div (sub (add 4616189618054758400 (cF b r g)) (cF b r r)) 4618441417868443648) oneF).2 := by
      unfold hueF hF h0F
      rw [emx, emn, if_neg (by rw [cmp_lt P.lof P.hif hlt]; decide), if_neg (by rw [cmp_lt M.f P.hif o2]; decide)]
    exact ⟨emx, emn, by rw [eh]; exact fh, by rw [eh]; grind, by rw [eh]; grind⟩
  by_cases s4 : p < 40
  · have er : (p + 16) % 48 = p - 32 := by omega
    have eb : (p + 32) % 48 = p - 16 := by omega
    rw [er] at wr
    rw [eb] at wb
    have hg := wg.bot (by omega) (by omega)
    have hb := wb.top (by omega) (by omega)
    subst hg hb
    have ec : ((p - 32 : Int) : Rat) = (p : Rat) - 32 := Rat.intCast_sub ..
    have M := wn_up wr (by omega) (by omega)
    rw [ec] at M
    have i0 : (33 : Rat) ≤ ((p : Int) : Rat) := Rat.intCast_le_intCast.mpr (show (33 : Int) ≤ p by omega)
    have i1 : ((p : Int) : Rat) ≤ 39 := Rat.intCast_le_intCast.mpr (show p ≤ (39 : Int) by omega)
    obtain ⟨o1, o2⟩ := M.lt P (by grind) (by grind) h0 (by grind)
    obtain ⟨fc, c1, c2⟩ := M.c P (by grind) (by grind) h0 (by grind)
    have emx : mxF (mxF r g) b = b := by rw [mx_gt (cmp_gt M.f P.lof o1), mx_lt (cmp_lt M.f P.hif o2)]
    have emn : mnF (mnF r g) b = g := by rw [mn_lt (cmp_lt P.lof M.f o1), mn_gt (cmp_gt P.hif P.lof hlt)]
    obtain ⟨f0, d1, d2⟩ := add_q four_fin fl (by grind) (by grind)
    obtain ⟨fs, a1, a2⟩ := sub_q f0 fc (by grind) (by grind)
    obtain ⟨fh, b1, b2⟩ := h_near fs (p := p) (k := 0) (κ := η + 100 * eps) (by omega) (by omega) (by omega) (by omega) (by grind) (by grind) (by have : ((0 : Int) : Rat) = 0 := rfl; rw [this]; grind) (by have : ((0 : Int) : Rat) = 0 := rfl; rw [this]; grind)
    have eh : hueF r g b = (divmod (div (sub (add 4616189618054758400 (cF b g g)) (cF b g r)) 4618441417868443648) oneF).2 := by
      unfold hueF hF h0F
      rw [emx, emn, if_neg (by rw [cmp_lt M.f P.hif o2]; decide), if_neg (by rw [cmp_lt P.lof P.hif hlt]; decide)]
    exact ⟨emx, emn, by rw [eh]; exact fh, by rw [eh]; grind, by rw [eh]; grind⟩
  by_cases s5 : p < 48
  · have er : (p + 16) % 48 = p - 32 := by omega
    have eb : (p + 32) % 48 = p - 16 := by omega
    rw [er] at wr
    rw [eb] at wb
    have hr := wr.top (by omega) (by omega)
    have hg := wg.bot (by omega) (by omega)
    subst hr hg
    have ec : ((p - 16 : Int) : Rat) = (p : Rat) - 16 := Rat.intCast_sub ..
    have M := wn_dn wb (by omega) (by omega)
    rw [ec] at M
    have i0 : (41 : Rat) ≤ ((p : Int) : Rat) := Rat.intCast_le_intCast.mpr (show (41 : Int) ≤ p by omega)
    have i1 : ((p : Int) : Rat) ≤ 47 := Rat.intCast_le_intCast.mpr (show p ≤ (47 : Int) by omega)
    obtain ⟨o1, o2⟩ := M.lt P (by grind) (by grind) h0 (by grind)
    obtain ⟨fc, c1, c2⟩ := M.c P (by grind) (by grind) h0 (by grind)
    have emx : mxF (mxF r g) b = r := by rw [mx_gt (cmp_gt P.hif P.lof hlt), mx_gt (cmp_gt P.hif M.f o2)]
    have emn : mnF (mnF r g) b = g := by rw [mn_lt (cmp_lt P.lof P.hif hlt), mn_gt (cmp_gt M.f P.lof o1)]
    obtain ⟨fs, a1, a2⟩ := sub_q fc fl (by grind) (by grind)
    obtain ⟨fh, b1, b2⟩ := h_near fs (p := p) (k := (-1 : Int)) (κ := η + 100 * eps) (by omega) (by omega) (by omega) (by omega) (by grind) (by grind) (by have : ((-1 : Int) : Rat) = -1 := rfl; rw [this]; grind) (by have : ((-1 : Int) : Rat) = -1 := rfl; rw [this]; grind)
    have eh : hueF r g b = (divmod (div (sub (cF r g b) (cF r g g)) 4618441417868443648) oneF).2 := by
      unfold hueF hF h0F
      rw [emx, emn, if_pos (by rw [cmp_self P.hif]; rfl)]
    exact ⟨emx, emn, by rw [eh]; exact fh, by rw [eh]; grind, by rw [eh]; grind⟩
  exact absurd hp1 s5
end Mine
end
section
set_option maxRecDepth 10000
namespace Mine
open PySem PySem.Float64
theorem right_near64 {r : UInt64} {neg : Bool} {W D : Nat} (h : Right r neg W D) (hD : 0 < D) (hW : W ≤ D * 2 ^ 1080) : Fin' r ∧ ∃ v : Nat, val r = sgn neg v ∧ dist W (D * v) ≤ D * 2 ^ 1027 := by
  obtain ⟨t, rfl, h1, h2, h3⟩ := h
  have hlt : t < infMag := by
    rcases Nat.lt_or_ge t infMag with h | h
    · exact h
    · have e : t = infMag := Nat.le_antisymm h1 h
      have h4 := h2.mp e
      have h5 : D * ((2 ^ 54 - 1) * 2 ^ 2045) ≤ D * (2 * 2 ^ 1080) := Nat.le_trans h4 (by rw [Nat.mul_comm 2 W, Nat.mul_comm 2 (2 ^ 1080), ← Nat.mul_assoc]; exact Nat.mul_le_mul_right 2 hW)
      have h6 := Nat.le_of_mul_le_mul_left h5 hD
      exact absurd h6 (by decide +kernel)
  obtain ⟨m, e, hd, hv⟩ := decode_pack neg hlt
  refine ⟨⟨neg, m, e, hd⟩, V t, val_pack neg hlt, ?_⟩
  have hE : 0 < D * 2 ^ 1027 := Nat.mul_pos hD (Nat.two_pow_pos _)
  have hq : W / (D * 2 ^ 1027) ≤ 2 ^ 53 := by
    refine Nat.div_le_of_le_mul ?_
    refine Nat.le_trans hW ?_
    rw [Nat.mul_assoc, ← Nat.pow_add]
    exact Nat.le_refl _
  obtain ⟨t', ht'⟩ := v_rep 1027 _ hq
  refine Nat.le_trans (h3 hlt t').1 ?_
  rw [ht']
  have e1 : D * (W / (D * 2 ^ 1027) * 2 ^ 1027) = (D * 2 ^ 1027) * (W / (D * 2 ^ 1027)) := by
    generalize W / (D * 2 ^ 1027) = z
    generalize 2 ^ 1027 = y
    rw [Nat.mul_comm z y, Nat.mul_assoc]
  rw [e1]
  have h8 := Nat.div_add_mod W (D * 2 ^ 1027)
  have h9 := Nat.mod_lt W hE
  generalize D * 2 ^ 1027 * (W / (D * 2 ^ 1027)) = z at *
  generalize W % (D * 2 ^ 1027) = y at *
  generalize D * 2 ^ 1027 = x at *
  unfold dist
  omega
theorem pow_int64 : ((2 ^ 1027 : Nat) : Int) = 2 ^ 1027 := by push_cast; rfl
theorem q_near64 {r : UInt64} {s : Int} {y : Rat} (hs : (s : Rat) = y * Z * 1125899906842624) (h1 : val r - s ≤ 2 ^ 1027) (h2 : s - val r ≤ 2 ^ 1027) : q r - y ≤ 8 * eps ∧ y - q r ≤ 8 * eps := by
  have hz : ((2 ^ 1027 : Int) : Rat) = 8 * Z := by
    have e : (2 ^ 1027 : Int) = 8 * 2 ^ 1024 := by decide +kernel
    have hz0 : ((2 ^ 1024 : Int) : Rat) = Z := by unfold Z; push_cast; rfl
    rw [e, Rat.intCast_mul, hz0]
    rfl
  have a1 : ((val r - s : Int) : Rat) ≤ ((2 ^ 1027 : Int) : Rat) := by exact_mod_cast h1
  have a2 : ((s - val r : Int) : Rat) ≤ ((2 ^ 1027 : Int) : Rat) := by exact_mod_cast h2
  rw [hz, Rat.intCast_sub, q_val, hs] at a1 a2
  unfold eps
  constructor
  · have : ((q r - y) * 1125899906842624) * Z ≤ 8 * Z := by grind
    have := le_of_Z this
    grind
  · have : ((y - q r) * 1125899906842624) * Z ≤ 8 * Z := by grind
    have := le_of_Z this
    grind
theorem bound_of64 {s : Int} {y : Rat} (hs : (s : Rat) = y * Z * 1125899906842624) (h1 : y ≤ 64) (h2 : -64 ≤ y) : s.natAbs ≤ 2 ^ 1080 := by
  have e : (2 ^ 1080 : Nat) = 64 * (2 ^ 1024 * 1125899906842624) := by decide +kernel
  have hz : ((2 ^ 1024 : Int) : Rat) = Z := by unfold Z; push_cast; rfl
  have b1 : (s : Rat) ≤ ((64 * (2 ^ 1024 * 1125899906842624) : Int) : Rat) := by
    rw [hs, Rat.intCast_mul, Rat.intCast_mul, hz]
    have := mul_Z h1
    grind
  have b2 : ((-(64 * (2 ^ 1024 * 1125899906842624)) : Int) : Rat) ≤ (s : Rat) := by
    rw [hs, Rat.intCast_neg, Rat.intCast_mul, Rat.intCast_mul, hz]
    have := mul_Z h2
    grind
  have c1 := Rat.intCast_le_intCast.mp b1
  have c2 := Rat.intCast_le_intCast.mp b2
  rw [e]
  have e3 : ((2 ^ 1024 : Nat) : Int) = 2 ^ 1024 := by push_cast; rfl
  omega
theorem add_q64 {x y : UInt64} (hx : Fin' x) (hy : Fin' y) (h1 : q x + q y ≤ 64) (h2 : -64 ≤ q x + q y) : Fin' (add x y) ∧ q (add x y) - (q x + q y) ≤ 8 * eps ∧ (q x + q y) - q (add x y) ≤ 8 * eps := by
  obtain ⟨a, m, e, dx⟩ := hx
  obtain ⟨b, k, f, dy⟩ := hy
  have hs : ((val x + val y : Int) : Rat) = (q x + q y) * Z * 1125899906842624 := by
    rw [Rat.intCast_add, q_val, q_val]; grind
  obtain ⟨r1, r2⟩ := add_right dx dy
  by_cases h0 : val x + val y = 0
  · rw [r1 h0]
    obtain ⟨f0, v0⟩ := zero_fin (a && b)
    refine ⟨f0, q_near64 hs ?_ ?_⟩ <;> rw [v0, h0] <;> decide +kernel
  · have hr := r2 h0
    obtain ⟨f0, v, hv, hd⟩ := right_near64 hr (by decide) (by rw [Nat.one_mul]; exact bound_of64 hs h1 h2)
    rw [Nat.one_mul, Nat.one_mul] at hd
    have hn := sgn_near hd
    rw [pow_int64] at hn
    exact ⟨f0, q_near64 hs (by rw [hv]; exact hn.1) (by rw [hv]; exact hn.2)⟩
/-- near, with a divisor D -/
theorem q_nearD64 {r : UInt64} {s D : Int} (h1 : D * val r - s ≤ D * 2 ^ 1027) (h2 : s - D * val r ≤ D * 2 ^ 1027) : (D : Rat) * (q r * Z * 1125899906842624) - (s : Rat) ≤ D * (8 * Z) ∧ (s : Rat) - (D : Rat) * (q r * Z * 1125899906842624) ≤ D * (8 * Z) := by
  have hz : ((2 ^ 1027 : Int) : Rat) = 8 * Z := by
    have e : (2 ^ 1027 : Int) = 8 * 2 ^ 1024 := by decide +kernel
    have hz0 : ((2 ^ 1024 : Int) : Rat) = Z := by unfold Z; push_cast; rfl
    rw [e, Rat.intCast_mul, hz0]
    rfl
  have a1 : ((D * val r - s : Int) : Rat) ≤ ((D * 2 ^ 1027 : Int) : Rat) := by exact_mod_cast h1
  have a2 : ((s - D * val r : Int) : Rat) ≤ ((D * 2 ^ 1027 : Int) : Rat) := by exact_mod_cast h2
  rw [Rat.intCast_sub, Rat.intCast_mul, Rat.intCast_mul, hz, q_val] at a1 a2
  exact ⟨a1, a2⟩
theorem mul_q64 {x y : UInt64} (hx : Fin' x) (hy : Fin' y) (h1 : q x * q y ≤ 64) (h2 : -64 ≤ q x * q y) : Fin' (mul x y) ∧ q (mul x y) - q x * q y ≤ 8 * eps ∧ q x * q y - q (mul x y) ≤ 8 * eps := by
  obtain ⟨a, m, e, dx⟩ := hx
  obtain ⟨b, k, f, dy⟩ := hy
  have hr := mul_right dx dy
  have hs : ((val x * val y : Int) : Rat) = (q x * q y) * Z * 1125899906842624 * (Z * 1125899906842624) := by
    rw [Rat.intCast_mul, q_val, q_val]; grind
  have hW : (val x).natAbs * (val y).natAbs ≤ 2 ^ 1074 * 2 ^ 1080 := by
    have e : (2 ^ 1080 : Nat) = 64 * (2 ^ 1074) := by decide +kernel
    have hz := Z_pos
    have t1 : q x * q y * Z ≤ 64 * Z := mul_Z h1
    have t2 : (-64) * Z ≤ q x * q y * Z := mul_Z h2
    have b1 : ((val x * val y : Int) : Rat) ≤ ((64 * (UZ * UZ) : Int) : Rat) := by
      rw [hs, Rat.intCast_mul, Rat.intCast_mul, UZ_rat]
      have := mul_Z t1
      grind
    have b2 : ((-(64 * (UZ * UZ)) : Int) : Rat) ≤ ((val x * val y : Int) : Rat) := by
      rw [hs, Rat.intCast_neg, Rat.intCast_mul, Rat.intCast_mul, UZ_rat]
      have := mul_Z t2
      grind
    have c1 := Rat.intCast_le_intCast.mp b1
    have c2 := Rat.intCast_le_intCast.mp b2
    rw [← Int.natAbs_mul, e]
    have e3 := UZ_nat
    have e4 : ((2 ^ 1074 * (64 * 2 ^ 1074) : Nat) : Int) = 64 * (UZ * UZ) := by
      rw [Int.natCast_mul, Int.natCast_mul, e3]
      generalize UZ = u
      grind
    generalize 2 ^ 1074 * (64 * 2 ^ 1074) = z at *
    generalize UZ * UZ = u at *
    omega
  obtain ⟨f0, v, hv, hd⟩ := right_near64 hr (Nat.two_pow_pos _) hW
  refine ⟨f0, ?_⟩
  have hn := near_sgn (neg := a != b) hd
  rw [← hv, sgn_prod, ← val_sgn dx, ← val_sgn dy, UZ_nat, pow_int64] at hn
  obtain ⟨n1, n2⟩ := q_nearD64 hn.1 hn.2
  rw [hs, UZ_rat] at n1 n2
  unfold eps
  constructor
  · have h5 : ((q (mul x y) - q x * q y) * 1125899906842624 * 1125899906842624 * Z) * Z ≤ (8 * 1125899906842624 * Z) * Z := by grind
    have h6 := le_of_Z h5
    have h7 := le_of_Z h6
    grind
  · have h5 : ((q x * q y - q (mul x y)) * 1125899906842624 * 1125899906842624 * Z) * Z ≤ (8 * 1125899906842624 * Z) * Z := by grind
    have h6 := le_of_Z h5
    have h7 := le_of_Z h6
    grind
end Mine
end
section
set_option maxRecDepth 10000
namespace Mine
open PySem PySem.Float64
def etaK (k : Nat) : Rat := ((k : Rat) + 1) * (2000 * eps)
theorem etaK_le {k : Nat} (h : k ≤ 70) : 0 ≤ etaK k ∧ etaK k ≤ 1 / 10000 := by
  have e1 := eps_pos
  have e2 := eps_small
  have h0 : (0 : Rat) ≤ (k : Rat) := by exact_mod_cast Nat.zero_le k
  have h1 : (k : Rat) ≤ 70 := by exact_mod_cast h
  unfold etaK
  have k1 : (0 : Rat) ≤ ((k : Rat) + 1) * (2000 * eps) := Rat.mul_nonneg (by grind) (by grind)
  have k2 : ((k : Rat) + 1) * (2000 * eps) ≤ 71 * (2000 * eps) := Rat.mul_le_mul_of_nonneg_right (by grind) (by grind)
  have e3 : eps * 1000000000000 ≤ 1 := by unfold eps; decide +kernel
  exact ⟨k1, by grind⟩
theorem etaK_succ (k : Nat) : etaK (k + 1) = etaK k + 2000 * eps := by
  unfold etaK
  push_cast
  grind
structure NearAt (i j : Int) (η : Rat) (p : Int) (c : Col) : Prop where
  i0 : 1 ≤ i
  i1 : i ≤ 15
  j0 : 1 ≤ j
  j1 : j ≤ 4
  odd : p % 2 = 1
  p0 : 0 ≤ p
  p1 : p < 48
  r : Wn (loF i j) (hiF i j) c.r ((p + 16) % 48) η
  g : Wn (loF i j) (hiF i j) c.g p η
  b : Wn (loF i j) (hiF i j) c.b ((p + 32) % 48) η
def Near (k : Nat) (p : Int) (c : Col) : Prop := ∃ i j, NearAt i j (etaK k) p c
theorem Wn.mono {lo hi x : UInt64} {u : Int} {η η' : Rat} (hg : q lo ≤ q hi) (h : Wn lo hi x u η) (hle : η ≤ η') : Wn lo hi x u η' := by
  have k : (q hi - q lo) * η ≤ (q hi - q lo) * η' := Rat.mul_le_mul_of_nonneg_left hle (by grind)
  exact ⟨h.f, fun a b => ⟨Rat.le_trans (h.up a b).1 k, Rat.le_trans (h.up a b).2 k⟩, h.top, fun a b => ⟨Rat.le_trans (h.down a b).1 k, Rat.le_trans (h.down a b).2 k⟩, h.bot⟩
/-- the three components that hls_to_rgb makes of a hue near n forty-eighths -/
theorem comps {i j : Int} (T : TabAt i j) {H : UInt64} (hH : Fin' H) {n : Int} {ζ : Rat} (hodd : n % 2 = 1) (hn0 : -48 ≤ n) (hn1 : n ≤ 48) (z0 : 0 ≤ ζ) (z1 : ζ ≤ 1 / 4000) (h1 : q H - (n : Rat) / 48 ≤ ζ) (h2 : (n : Rat) / 48 - q H ≤ ζ) :
    Wn (loF i j) (hiF i j) (vF (loF i j) (hiF i j) (add H 4599676419421066581)) ((n % 48 + 16) % 48) (6 * ζ + 360 * eps) ∧
    Wn (loF i j) (hiF i j) (vF (loF i j) (hiF i j) H) (n % 48) (6 * ζ + 360 * eps) ∧
    Wn (loF i j) (hiF i j) (vF (loF i j) (hiF i j) (sub H 4599676419421066581)) ((n % 48 + 32) % 48) (6 * ζ + 360 * eps) := by
  have e1 := eps_pos
  have e2 := eps_small
  have hc := c13_q
  have P := T.pair
  have hg : q (loF i j) ≤ q (hiF i j) := by have := P.gap; grind
  have r0 : (-48 : Rat) ≤ ((n : Int) : Rat) := Rat.intCast_le_intCast.mpr hn0
  have r1 : ((n : Int) : Rat) ≤ 48 := Rat.intCast_le_intCast.mpr hn1
  have split : ∀ m : Int, ((m : Int) : Rat) = 48 * ((m / 48 : Int) : Rat) + ((m % 48 : Int) : Rat) := by
    intro m
    have := Int.mul_ediv_add_emod m 48
    have h : (((48 * (m / 48) + m % 48 : Int)) : Rat) = ((m : Int) : Rat) := by rw [this]
    rw [Rat.intCast_add, Rat.intCast_mul] at h
    exact h.symm
  obtain ⟨fa, a1, a2⟩ := add_q hH c13_fin (by grind) (by grind)
  obtain ⟨fs, s1, s2⟩ := sub_q hH c13_fin (by grind) (by grind)
  refine ⟨?_, ?_, ?_⟩
  · have hs := split (n + 16)
    have e16 : ((n + 16 : Int) : Rat) = (n : Rat) + 16 := Rat.intCast_add ..
    have w := v_wn (u := (n + 16) % 48) (z := (n + 16) / 48) (ζ := ζ + 2 * eps) P fa (by omega) (by omega) (by omega) (by omega) (by omega) (by grind) (by grind) (by grind) (by grind)
    have eu : (n % 48 + 16) % 48 = (n + 16) % 48 := by omega
    rw [eu]
    exact w.mono hg (by grind)
  · have hs := split n
    have w := v_wn (u := n % 48) (z := n / 48) (ζ := ζ) P hH (by omega) (by omega) (by omega) (by omega) (by omega) (by grind) (by grind) (by grind) (by grind)
    exact w.mono hg (by grind)
  · have hs := split (n - 16)
    have e16 : ((n - 16 : Int) : Rat) = (n : Rat) - 16 := Rat.intCast_sub ..
    have w := v_wn (u := (n - 16) % 48) (z := (n - 16) / 48) (ζ := ζ + 2 * eps) P fs (by omega) (by omega) (by omega) (by omega) (by omega) (by grind) (by grind) (by grind) (by grind)
    have eu : (n % 48 + 32) % 48 = (n - 16) % 48 := by omega
    rw [eu]
    exact w.mono hg (by grind)
theorem NearAt.hue {i j : Int} {η : Rat} {p : Int} {c : Col} (h : NearAt i j η p c) (h0 : 0 ≤ η) (h1 : η ≤ 1 / 2000) : HueAt (loF i j) (hiF i j) c.r c.g c.b p (η / 6 + 60 * eps) :=
  hue_near (tab_at h.i0 h.i1 h.j0 h.j1).pair h.odd h.p0 h.p1 h0 h1 h.r h.g h.b
theorem near_ok {k : Nat} {p : Int} {c : Col} (hk : k ≤ 60) (h : Near k p c) : ColOk c.r c.g c.b ∧ placeF c.r c.g c.b = p := by
  obtain ⟨i, j, h⟩ := h
  obtain ⟨k0, k1⟩ := etaK_le (k := k) (by omega)
  have T := tab_at h.i0 h.i1 h.j0 h.j1
  have U := h.hue k0 (by grind)
  have e1 := eps_pos
  have e2 := eps_small
  have p0 : (1 : Rat) ≤ ((p : Int) : Rat) := Rat.intCast_le_intCast.mpr (show (1 : Int) ≤ p by have := h.odd; have := h.p0; omega)
  have p1 : ((p : Int) : Rat) ≤ 47 := Rat.intCast_le_intCast.mpr (show p ≤ (47 : Int) by have := h.p1; omega)
  have u1 := U.up
  have u2 := U.dn
  obtain ⟨fm, m1, m2⟩ := mul_q64 U.f f48_fin (by rw [f48_q]; grind) (by rw [f48_q]; grind)
  rw [f48_q] at m1 m2
  have hc := c12_q
  obtain ⟨fp, n1, n2⟩ := add_q64 fm c12_fin (by grind) (by grind)
  have hpl : Fin' (plcF c.r c.g c.b) := fp
  refine ⟨⟨by rw [U.mx, U.mn]; exact T.rgb, by unfold satF; rw [U.mx, U.mn, T.s]; exact T.sat, ?_, ?_⟩, ?_⟩
  · obtain ⟨a, m, e, d⟩ := hpl
    unfold isNaN; rw [d]
  · obtain ⟨a, m, e, d⟩ := hpl
    unfold isInf; rw [d]
  · unfold placeF
    refine trunc_q hpl h.p0 ?_ ?_
    · show (p : Rat) < q (plcF c.r c.g c.b)
      unfold plcF
      grind
    · show q (plcF c.r c.g c.b) < p + 1
      unfold plcF
      grind
theorem near_go {k : Nat} {p g : Int} {c : Col} {x : Bool} (hg0 : 0 ≤ g) (hg1 : g ≤ 44) (hge : g % 2 = 0) (hk : k ≤ 60) (h : Near k p c) : Near (k + 1) (stepP g p x) (colS c (arI g x)) := by
  obtain ⟨i, j, h⟩ := h
  obtain ⟨k0, k1⟩ := etaK_le (k := k) (by omega)
  have T := tab_at h.i0 h.i1 h.j0 h.j1
  have U := h.hue k0 (by grind)
  have e1 := eps_pos
  have e2 := eps_small
  have ha0 : 0 ≤ arI g x := by cases x <;> simp [arI, hg0]
  have ha1 : arI g x ≤ 44 := by cases x <;> simp [arI, hg1]
  have hae : arI g x % 2 = 0 := by cases x <;> simp [arI, hge]
  have hp := h.p0
  have hp1 := h.p1
  have hodd := h.odd
  unfold stepP colS
  generalize arI g x = ar at *
  obtain ⟨fo, qo⟩ := ofInt_q ha0 (by omega)
  have a0 : (0 : Rat) ≤ ((ar : Int) : Rat) := Rat.intCast_le_intCast.mpr ha0
  have a1 : ((ar : Int) : Rat) ≤ 44 := Rat.intCast_le_intCast.mpr ha1
  have p0 : (0 : Rat) ≤ ((p : Int) : Rat) := Rat.intCast_le_intCast.mpr hp
  have p1 : ((p : Int) : Rat) ≤ 48 := Rat.intCast_le_intCast.mpr (show p ≤ (48 : Int) by omega)
  obtain ⟨fd, d1, d2⟩ := div_q fo f48_fin (by rw [f48_q]; decide +kernel) (by rw [f48_q, qo]; grind) (by rw [f48_q, qo]; grind)
  rw [f48_q, qo] at d1 d2
  have u1 := U.up
  have u2 := U.dn
  obtain ⟨ft, t1, t2⟩ := sub_q fd U.f (by grind) (by grind)
  have hn : ((ar - p : Int) : Rat) = (ar : Rat) - p := Rat.intCast_sub ..
  have key := comps T ft (n := ar - p) (ζ := etaK k / 6 + 62 * eps) (by omega) (by omega) (by omega) (by grind) (by grind) (by rw [hn]; grind) (by rw [hn]; grind)
  have hgap : q (loF i j) ≤ q (hiF i j) := by have := T.gap; grind
  have hle : 6 * (etaK k / 6 + 62 * eps) + 360 * eps ≤ etaK (k + 1) := by rw [etaK_succ]; grind
  have hf : (ar - p).fmod 48 = (ar - p) % 48 := Int.fmod_eq_emod_of_nonneg _ (by decide)
  have hl : m1F (litF c.r c.g c.b) (satF c.r c.g c.b) = loF i j ∧ m2F (litF c.r c.g c.b) (satF c.r c.g c.b) = hiF i j := by
    unfold litF satF
    rw [U.mx, U.mn, T.l, T.s]
    exact ⟨rfl, rfl⟩
  refine ⟨i, j, h.i0, h.i1, h.j0, h.j1, by rw [hf]; omega, by rw [hf]; omega, by rw [hf]; omega, ?_, ?_, ?_⟩
  · rw [hf]
    show Wn _ _ (mirR c.r c.g c.b ar) _ _
    unfold mirR
    rw [hl.1, hl.2]
    exact key.1.mono hgap hle
  · rw [hf]
    show Wn _ _ (mirG c.r c.g c.b ar) _ _
    unfold mirG
    rw [hl.1, hl.2]
    exact key.2.1.mono hgap hle
  · rw [hf]
    show Wn _ _ (mirB c.r c.g c.b ar) _ _
    unfold mirB
    rw [hl.1, hl.2]
    exact key.2.2.mono hgap hle
/-- the first colour -/
theorem near_start {i j p : Int} (i0 : 1 ≤ i) (i1 : i ≤ 15) (j0 : 1 ≤ j) (j1 : j ≤ 4) (hodd : p % 2 = 1) (hp0 : 0 ≤ p) (hp1 : p < 48) :
    Near 0 p ⟨vF (loF i j) (hiF i j) (add (div (ofInt p) 4631952216750555136) 4599676419421066581), vF (loF i j) (hiF i j) (div (ofInt p) 4631952216750555136), vF (loF i j) (hiF i j) (sub (div (ofInt p) 4631952216750555136) 4599676419421066581)⟩ := by
  have T := tab_at i0 i1 j0 j1
  have e1 := eps_pos
  have e2 := eps_small
  obtain ⟨fo, qo⟩ := ofInt_q hp0 (by omega)
  have p0 : (0 : Rat) ≤ ((p : Int) : Rat) := Rat.intCast_le_intCast.mpr hp0
  have p1 : ((p : Int) : Rat) ≤ 48 := Rat.intCast_le_intCast.mpr (show p ≤ (48 : Int) by omega)
  obtain ⟨fd, d1, d2⟩ := div_q fo f48_fin (by rw [f48_q]; decide +kernel) (by rw [f48_q, qo]; grind) (by rw [f48_q, qo]; grind)
  rw [f48_q, qo] at d1 d2
  have key := comps T fd (n := p) (ζ := eps) hodd (by omega) (by omega) (by grind) (by grind) (by grind) (by grind)
  have hgap : q (loF i j) ≤ q (hiF i j) := by have := T.gap; grind
  have hle : 6 * eps + 360 * eps ≤ etaK 0 := by
    unfold etaK
    have : ((0 : Nat) : Rat) = 0 := rfl
    rw [this]; grind
  have hm : p % 48 = p := by omega
  rw [hm] at key
  exact ⟨i, j, i0, i1, j0, j1, hodd, hp0, hp1, key.1.mono hgap hle, key.2.1.mono hgap hle, key.2.2.mono hgap hle⟩
end Mine
end
section
open PySem PySem.W PySem.Calls PyProof.Rows
namespace Mine
theorem cleanTail84o : True := by
  k_with_none
  w_top off
  trivial
local macro_rules | `(tactic| k_mem) => `(tactic| first | assumption | ktr_member | exact List.mem_cons_self | (refine List.mem_cons_of_mem _ ?_; k_mem))
local macro_rules | `(tactic| k_all) => `(tactic| assumption)
set_option maxRecDepth 100000 in
set_option maxHeartbeats 8000000 in
theorem letter_assign (w : World) {mean : ExcName → Option Value} {mg mb : Str → Option Value} {base h₀ : Heap} {L fa : Addr} {gl : Value} {s : Shared} {m : Str → Option Value} {news : List (Addr × Obj)} {Q : Unit → Shared → Prop} {x : Value}
    (B : Below callerA base [] h₀) (X : (heapB w.params).In h₀) (T : Top Hd.hd.view_39 lse mean mg mb h₀)
    (F : Fr h₀ L s.heap m) (N : News h₀ L s.heap news)
    (hQ : ∀ h' tk', Fr h₀ L h' (fun z => if z = Str.ofString "letter" then some x else m z) → News h₀ L h' news → Q () { s with heap := h', toks := tk' }) :
    wpAny (model prg w) (callerA.deeper (lawEnv L fa gl)) (assign strTgt.1 (lawEnv L fa gl) x) Q (fun _ _ => False) s := by
  revert X
  refine (fun (f : PySem.Challenge.rw_pg0084_01 = PySem.Challenge.rw_pg0084_01 → _) => f rfl) ?_
  k_fill
  intro _ X
  dsimp only [strTgt, lawEnv, lawScope]
  k_steps
  rename_i kF kN
  exact hQ _ _ kF kN
abbrev walkS (g : Int) (p : Int) (ds : List Bool) : Int := ds.foldl (fun a c => stepP g a (!c)) p
theorem letters_iter (w : World) {mean : ExcName → Option Value} {mg mb : Str → Option Value} {base h₀ : Heap} {L fa : Addr} {gl : Value} {s : Shared} {m : Str → Option Value} {news : List (Addr × Obj)} {Q : Flow → Shared → Prop} {Near : Nat → Int → Col → Prop} {e : CEnt} {g p : Int} {tg t : Tok} {ds : List Bool}
    (B : Below callerA base [] h₀) (X : (heapB w.params).In h₀) (T : Top Hd.hd.view_39 lse mean mg mb h₀)
    (F : Fr h₀ L s.heap m) (N : News h₀ L s.heap news) (hs : m (Str.ofString "straight") = some (.ref e.a)) (hg : m (Str.ofString "gap") = some (.int g tg))
    (he : (e.a, e.obj) ∈ news) (hN : NearOk Near g) (h0 : Near 0 p e.c) (hl : ds.length ≤ 30)
    (hQ : ∀ h' tk' m' news' (e' : CEnt), (∀ z, z ≠ Str.ofString "letter" → z ≠ Str.ofString "straight" → m' z = m z) → m' (Str.ofString "straight") = some (.ref e'.a) → Near ds.length (walkS g p ds) e'.c → (e'.a, e'.obj) ∈ news' → (∀ q ∈ news, q ∈ news') → Fr h₀ L h' m' → News h₀ L h' news' → Q .next { s with heap := h', toks := tk' }) :
    wpAny (model prg w) (callerA.deeper (lawEnv L fa gl)) (pyIter (.str (wordS ds) t)) (fun it s₂ => TurnsAt prg w (callerA.deeper (lawEnv L fa gl)) h₀ (lawEnv L fa gl) strTgt.1 strBody.1 Q (fun _ _ => False) it s₂) (fun _ _ => False) s := by
  refine iter_strTurns rfl (word_ascii ds) (fun _ _ => by with_unfolding_all rfl) F N fun I hI => ?_
  rw [word_items]
  refine items_inv (fun xs m1 news1 => ∃ k p1 ds1 e1, xs = ds1.map (fun c => Itm.tok fun u => .str (ltr c) u) ∧ k + ds1.length = ds.length ∧ Near k p1 e1.c ∧ walkS g p1 ds1 = walkS g p ds ∧ (∀ z, z ≠ Str.ofString "letter" → z ≠ Str.ofString "straight" → m1 z = m z) ∧ m1 (Str.ofString "straight") = some (.ref (e1 : CEnt).a) ∧ (e1.a, e1.obj) ∈ news1 ∧ (∀ q ∈ news, q ∈ news1)) ?_ ?_ _ _ _ ⟨0, p, ds, e, rfl, Nat.zero_add _, h0, rfl, fun _ _ _ => rfl, hs, he, fun _ h => h⟩ ?_
  · rintro a r m1 news1 its v h tk ⟨k, p1, ds1, e1, ex, hk, hn, hw, hm, hst, hin, hsub⟩ ho ha hoff F1 N1
    cases ds1 with
    | nil => cases ex
    | cons c ds1 =>
      obtain ⟨rfl, rfl⟩ := List.cons.inj ex
      obtain ⟨tl, rfl⟩ := ha
      simp only [List.length_cons] at hk
      refine letter_assign w (s := { s with heap := h, toks := tk }) B X T F1 N1 fun h2 tk2 F2 N2 => ?_
      have hok := hN.ok k p1 e1.c (by omega) hn
      refine letter_body w (s := { s with heap := h2, toks := tk2 }) (e := e1) (g := g) (tl := tl) (tg := tg) c B X T F2 N2 ?_ ?_ ?_ (List.mem_append_right _ hin) hok.1 hN.g0 hN.g1 ?_
      · simp only [if_true]
      · simp only [show Str.ofString "straight" ≠ Str.ofString "letter" from by decide +kernel, if_false]; exact hst
      · simp only [show Str.ofString "gap" ≠ Str.ofString "letter" from by decide +kernel, if_false]
        exact (hm _ (by decide +kernel) (by decide +kernel)).trans hg
      · intro h3 tk3 e3 hc3 hlt3 F3 N3
        refine TurnEnd.mk (s := { s with heap := h, toks := tk }) ((e3.a, e3.obj) :: news1) F3 N3 ?_ ?_ (fun _ h => nomatch h) ⟨k + 1, stepP g p1 (!c), ds1, e3, rfl, by omega, ?_, hw, ?_, ?_, .head _, fun q hq => .tail _ (hsub q hq)⟩
        · intro q hq
          rcases List.mem_append.mp hq with hq | hq
          · exact .tail _ (List.mem_append_left _ hq)
          rcases List.mem_cons.mp hq with rfl | hq
          · exact .head _
          · exact .tail _ (List.mem_append_right _ hq)
        · intro q hq r hr
          rcases List.mem_cons.mp hq with rfl | hq
          · exact Nat.ne_of_gt (hlt3 r (List.mem_append_left _ hr))
          · exact hoff q hq r hr
        · rw [hc3]; exact hN.go k p1 e1.c (!c) (by omega) hn
        · intro z a b
          simp only [if_neg a, if_neg b]
          exact hm z a b
        · simp only [if_true]
  · rintro m1 news1 h tk ⟨k, p1, ds1, e1, ex, hk, hn, hw, hm, hst, hin, hsub⟩ F1 N1
    cases ds1 with
    | cons c ds1 => cases ex
    | nil =>
      simp only [List.length_nil, Nat.add_zero] at hk
      subst hk
      have hw : p1 = walkS g p ds := hw
      rw [← hw] at hQ
      exact hQ h tk m1 news1 e1 hm hst hn hin hsub F1 N1
  · intro q hq r hr z
    rw [List.mem_singleton.mp hr] at z
    exact absurd (hI q hq) (z ▸ Nat.lt_irrefl _)
end Mine
end
section
open PySem PySem.W PySem.Calls PyProof.Rows
namespace Mine
theorem cleanTail84p : True := by
  k_with_none
  w_top off
  trivial
local macro_rules | `(tactic| k_mem) => `(tactic| first | assumption | ktr_member | exact List.mem_cons_self | (refine List.mem_cons_of_mem _ ?_; k_mem))
local macro_rules | `(tactic| k_all) => `(tactic| assumption)
local macro_rules | `(tactic| walk_at "call type:str") => `(tactic| refine holdW ?_)
set_option maxRecDepth 100000 in
set_option maxHeartbeats 8000000 in
theorem str_for (w : World) {mean : ExcName → Option Value} {mg mb : Str → Option Value} {base h₀ : Heap} {L fa st dx : Addr} {gl : Value} {s : Shared} {m : Str → Option Value} {news : List (Addr × Obj)} {Q : Flow → Shared → Prop} {Near : Nat → Int → Col → Prop} {e : CEnt} {es : List Ent} {g p : Int} {tg t1 t2 : Tok} {n k : Nat}
    (B : Below callerA base [] h₀) (X : (heapB w.params).In h₀) (T : Top Hd.hd.view_39 lse mean mg mb h₀) (ht : h₀.get? 70 = some tab0) (G : AllBare s.gens)
    (F : Fr h₀ L s.heap m) (N : News h₀ L s.heap news) (hst : m (Str.ofString "stack") = some (.ref st)) (hs : m (Str.ofString "straight") = some (.ref e.a)) (hg : m (Str.ofString "gap") = some (.int g tg))
    (h1 : (st, accObj dx (es.map Ent.val) n) ∈ news) (h2 : (dx, accDict w t1 t2 k) ∈ news) (h3 : ∀ x ∈ es, (x.a, x.obj) ∈ news)
    (he : (e.a, e.obj) ∈ news) (hN : NearOk Near g) (h0 : Near 0 p e.c) (hl : es.length ≤ 30)
    (hQ : ∀ base' h₁ s' m' news' (e' : CEnt), Below callerA base' [] h₁ → (heapB w.params).In h₁ → Top Hd.hd.view_39 lse mean mg mb h₁ → OldK h₀ h₁ → (∀ z, z ≠ Str.ofString "letter" → z ≠ Str.ofString "straight" → m' z = m z) → m' (Str.ofString "straight") = some (.ref e'.a) → Near es.length (walkS g p (es.map Ent.c)) e'.c → (e'.a, e'.obj) ∈ news' → (∀ q ∈ news, q ∈ news') → Fr h₁ L s'.heap m' → News h₁ L s'.heap news' → AllBare s'.gens → s'.os = s.os → Q .next s') :
    wpAny (model prg w) (callerA.deeper (lawEnv L fa gl)) (exec strFor.1 (lawEnv L fa gl)) Q (fun _ _ => False) s := by
  revert X
  refine (fun (f : PySem.Challenge.rw_pg0084_01 = PySem.Challenge.rw_pg0084_01 → _) => f rfl) ?_
  k_fill
  intro _ X
  dsimp only [strFor, lawEnv, lawScope]
  refine For_late ?_ (fun _ => by with_unfolding_all rfl) PassesOwn.never
  (k_with "eval Name" => ((with_reducible show wpAny _ _ (eval (Expr.Name (Str.ofString "stack") _) _) _ _ _); (refine' ld ?k1 hst ?_; (case k1 => k_asm)); (try dsimp only)))
  k_steps
  have X₁ : (heapB w.params).In s.heap := X.keeps F.keep
  have T₁ := T.keeps F.keep
  have I₁ := acc_inst N h1 h2
  refine kso_call (K := heapB w.params) (C := 101) (f := 75) (Nat.le_of_ble_eq_true rfl) X₁ I₁ (by k_is) (by k_is) (wpAny_call ?_)
  refine str_code w (es := es) rfl (Nat.le_of_ble_eq_true rfl) (Nat.le_of_ble_eq_true rfl) X₁ (F.keep _ _ ht) T₁ G (N _ h1).1 (N _ h2).1 (fun x hx => (N _ (h3 x hx)).1) (by omega) ?_
  intro s' t ps _ hk G' os'
  obtain ⟨F', N'⟩ := after_str ht F N hk
  have X' : (heapB w.params).In (regrown h₀ 70 ps) := reg_heapB X
  have T' := reg_top (ps := ps) X ht T
  obtain ⟨mc, hmc, _⟩ := T.nodigits
  have O' := old_reg (ps := ps) X ht hmc
  have B' : Below callerA (regrown h₀ 70 ps) [] (regrown h₀ 70 ps) := below_caller _
  refine wpAny_mono (letters_iter w (s := s') (ds := es.map Ent.c) B' X' T' F' N' hs hg he hN h0 (by simpa using hl) (Q := Q) ?_) (fun it s₂ x => ⟨_, x⟩) fun _ _ x => x
  intro h' tk' m' news' e' a1 a2 a3 a4 a5 a6 a7
  rw [List.length_map] at a3
  exact hQ _ _ _ m' news' e' B' X' T' O' a1 a2 a3 a4 a5 a6 a7 G' os'
structure PlaceAt (c : Col) (q : Int) : Prop where
  ok : ColOk c.r c.g c.b
  pl : placeF c.r c.g c.b = q
theorem place_at (w : World) {e : CEnt} {q : Int} (hp : PlaceAt e.c q) (news : List (Addr × Obj)) (he : (e.a, e.obj) ∈ news) : Cl w 133 news [.ref e.a] 2 16 (fun K => ∀ t, K news (.int q t)) := by
  have h := place_claim w e.c.r e.c.g e.c.b e.t1 e.t2 e.t3 e.a news he hp.ok
  rw [hp.pl] at h
  exact h
set_option maxRecDepth 100000 in
set_option maxHeartbeats 8000000 in
theorem ret_stmt (w : World) {mean : ExcName → Option Value} {mg mb : Str → Option Value} {base h₀ : Heap} {L fa D : Addr} {gl : Value} {s : Shared} {m : Str → Option Value} {news : List (Addr × Obj)} {Q : Flow → Shared → Prop} {E' : Value → Shared → Prop} {e : CEnt} {vs : List Value} {q : Int} {tq : Tok}
    (B : Below callerA base [] h₀) (X : (heapB w.params).In h₀) (T : Top Hd.hd.view_39 lse mean mg mb h₀)
    (F : Fr h₀ L s.heap m) (N : News h₀ L s.heap news) (hs : m (Str.ofString "straight") = some (.ref e.a)) (htold : m (Str.ofString "told") = some (.ref D))
    (hD : (D, LCg.lst (vs ++ [.int q tq])) ∈ news) (he : (e.a, e.obj) ∈ news) (hp : PlaceAt e.c q)
    (hQ : ∀ h' tk', Fr h₀ L h' m → Q (.ret (.bool true)) { s with heap := h', toks := tk' }) :
    wpAny (model prg w) (callerA.deeper (lawEnv L fa gl)) (exec retStmt.1 (lawEnv L fa gl)) Q E' s := by
  revert X
  refine (fun (f : PySem.Challenge.rw_pg0084_01 = PySem.Challenge.rw_pg0084_01 → _) => f rfl) ?_
  k_fill
  intro _ X
  dsimp only [retStmt, lawEnv, lawScope]
  (k_with "eval Name" => ((with_reducible show wpAny _ _ (eval (Expr.Name (Str.ofString "straight") _) _) _ _ _); (refine' ld ?k1 hs ?_; (case k1 => k_asm)); (try dsimp only)))
  (k_with "eval Name" => ((with_reducible show wpAny _ _ (eval (Expr.Name (Str.ofString "told") _) _) _ _ _); (refine' ld ?k1 htold ?_; (case k1 => k_asm)); (try dsimp only)))
  (k_with "subscriptTail" => ((with_reducible show wpAny _ _ (subscriptTail _ _ (Value.ref _) (Value.int (-1) _)) _ _ _); k_dflt (refine' lastT (vs := vs) (v := .int q tq) ?k1 hD ?_ ?k3; (case k1 => k_asm); (case k3 => with_unfolding_all rfl))))
  (k_with "call ref" => ((with_reducible show wpAny _ _ (PySem.call (Value.ref 133) _ _) _ _ _); k_dflt (refine' (place_at _ hp _ ?hc).use ?k1 ?k2 ?k3 ?k4 ?k5 ?kK ?kd ?ku ?_; (case k1 => k_asm); (case k2 => k_asm); (case k3 => k_asm); (case k4 => k_asm); (case k5 => k_asm); (case hc => k_mem); (case kK => first | exact rfl | assumption); (case kd => exact Nat.le_of_ble_eq_true rfl); (case ku => exact Nat.le_of_ble_eq_true rfl); intro t9 h9 tk9 F9 N9; (try dsimp only); (try k_fold))))
  k_steps
  rw [show (q == q) = true from beq_self_eq_true q]
  exact hQ _ _ F9
end Mine
end
section
open PySem PySem.W PySem.Calls PyProof.Rows
namespace Mine
theorem lawTail_eq : lawTail.1 = [numsFor.1, toldAsg.1, neqIf.1, wsAsg.1, zipFor.1, strAsg.1, strFor.1, retStmt.1] := rfl
theorem walked_head {Near : Nat → Int → Col → Prop} {g : Int} {ps : List Int} {cs : List Col} {n : Nat} (h : Walked Near g ps cs n) : ∃ p c ps' cs', ps = p :: ps' ∧ cs = c :: cs' ∧ Near 0 p c ∧ Steps g p ps' := by
  induction h with
  | start h => exact ⟨_, _, [], [], rfl, rfl, h, .nil⟩
  | @step ps cs p c n x hw hn ih =>
    obtain ⟨p0, c0, ps', cs', e1, e2, h0, hs⟩ := ih
    refine ⟨p0, c0, ps' ++ [stepP g p x], cs' ++ [colS c (arI g x)], by rw [e1]; rfl, by rw [e2]; rfl, h0, ?_⟩
    have e3 : (p0 :: ps').getLast (List.cons_ne_nil _ _) = p := by
      simp only [← e1]
      simp
    have := hs.snoc x
    rw [e3] at this
    exact this
theorem near_all {k : Fin 11} : NearOk Near (4 + 4 * (k.1 : Int)) where
  g0 := by omega
  g1 := by have := k.2; omega
  ok := fun n p c hn h => near_ok hn h
  go := fun n p c x hn h => near_go (by omega) (by have := k.2; omega) (by omega) hn h
theorem ints_last {vs : List Value} {ns : List Int} (h : IntsAre vs ns) (hn : ns ≠ []) : ∃ vs' t, vs = vs' ++ [.int (ns.getLast hn) t] := by
  induction h with
  | nil => exact absurd rfl hn
  | @cons i t vs ns h ih =>
    cases h with
    | nil => exact ⟨[], t, rfl⟩
    | @cons i2 t2 vs2 ns2 h2 =>
      obtain ⟨vs', t', e⟩ := ih (List.cons_ne_nil _ _)
      rw [e]
      exact ⟨_ :: vs', t', by rw [List.getLast_cons (List.cons_ne_nil _ _)]; rfl⟩
theorem ints_ents : ∀ (qs : List PEnt) (q : PEnt), IntsAre (qs.map PEnt.val ++ [.int q.i q.t]) (qs.map PEnt.i ++ [q.i])
  | [], q => .cons _ _ .nil
  | a :: qs, q => .cons _ _ (ints_ents qs q)
theorem tail_all (w : World) {mean : ExcName → Option Value} {mg mb : Str → Option Value} {base h₀ : Heap} {L fa P C D : Addr} {gl : Value} {s : Shared} {Q : Flow → Shared → Prop} {m : Str → Option Value}
    {tg tm : Tok} {q : PEnt} {e : CEnt} {nP nC j : Nat} {vs : List Value} {ns : List Int} {rest : List (Addr × Obj)} {mt ma mn : Option Value} (k : Fin 11)
    (B : Below callerA base [] h₀) (X : (heapB w.params).In h₀) (T : Top Hd.hd.view_39 lse mean mg mb h₀) (ht : h₀.get? 70 = some tab0) (G : AllBare s.gens)
    (F : Fr h₀ L s.heap (m6 m mt ma mn P C (4 + 4 * (k.1 : Int)) tg)) (hmD : m (Str.ofString "numbers") = some (.ref D)) (hmost : m (Str.ofString "most") = some (.int (rndI k.1) tm)) (hD : (D, listOf vs.toArray j) ∈ rest) (hI : IntsAre vs ns) (hb : ∀ n ∈ ns, 0 ≤ n ∧ n ≤ 1000000) (hl : ns.length ≤ 5)
    (N : News h₀ L s.heap (L6 P C [.int q.i q.t] [.ref e.a] nP nC rest)) (ok : LOk P C [e] rest) (hn : Near 0 q.i e.c)
    (hQ : ∀ h₁ s' m', OldK h₀ h₁ → Fr h₁ L s'.heap m' → AllBare s'.gens → s'.os = s.os → Q (.ret (.bool true)) s') :
    wpAny (model prg w) (callerA.deeper (lawEnv L fa gl)) (execs lawTail.1 (lawEnv L fa gl)) Q (fun _ _ => False) s := by
  have hk := k.2
  rw [lawTail_eq]
  refine wpAny_execs_cons (nums_loop w (Near := Near) (qs := []) (es := []) (q := q) (e := e) (D := D) B X T F hmD hD hI hb hl N ok near_all ⟨.start hn, hn, rfl, rfl⟩ ?_)
  intro h1 tk1 mt1 ma1 mn1 qs q' es e' nP' nC' cnt new hcnt st ok1 F1 N1
  have hw := st.w
  have wl := hw.len
  obtain ⟨p0, c0, ps', cs', e1, e2, hn0, hsteps⟩ := walked_head hw
  obtain ⟨i0, j0, na⟩ := id hn0
  obtain ⟨nn, en, hn12, Cy⟩ := cyc_of k na.odd na.p0 na.p1
  obtain ⟨z1, z2, z3⟩ := Cy.whole hsteps
  have evC : es.map CEnt.val ++ [.ref e'.a] = (es ++ [e']).map CEnt.val := by simp
  have ecC : es.map CEnt.c ++ [e'.c] = (es ++ [e']).map CEnt.c := by simp
  have lq := st.lq
  have le := st.le
  have lps : ps'.length = cnt := by
    have := congrArg List.length e1
    simp only [List.length_append, List.length_map, List.length_cons, List.length_nil] at this
    omega
  rw [evC] at N1
  (try dsimp only)
  refine wpAny_execs_cons (told_stmt w (s := { s with heap := h1, toks := tk1 }) (C := C) (es := es ++ [e']) (ps := p0 :: ps') (nC := nC') B X T F1 N1 ?_ (.tail _ (.head _)) (fun x hx => .tail _ (.tail _ (ok1.m x hx))) ?_ ?_ ?_ ?_)
  · (try dsimp only [m6])
    repeat (first | rw [if_pos rfl] | rw [if_neg (by decide +kernel)])
  · simp only [List.length_cons, List.length_append, List.length_nil]; omega
  · simp only [List.length_append, List.length_cons, List.length_nil]; omega
  · intro i p c hp hc
    rw [← ecC] at hc
    rw [← e1] at hp
    exact hw.all near_all (by omega) i p c hp hc
  intro D2 h2 tk2 ys hys F2 N2 off2
  cases hys with
  | cons _ tp hys =>
  rename_i ys'
  (try dsimp only)
  refine wpAny_execs_cons (neq_stmt w (s := { s with heap := h2, toks := tk2 }) (P := P) (D := D2) (ps := p0 :: ps') (nP := nP') B X T F2 N2 ?_ ?_ (.head _) (.tail _ (.head _)) (.cons _ _ hys) (e1 ▸ ints_ents qs q') ?_ ?_)
  · (try dsimp only)
    rw [if_pos rfl]
  · (try dsimp only [m6])
    repeat (first | rw [if_pos rfl] | rw [if_neg (by decide +kernel)])
  · simp only [List.length_cons]; omega
  intro h3 tk3 F3 N3
  (try dsimp only)
  refine wpAny_execs_cons (ws_stmt w (s := { s with heap := h3, toks := tk3 }) (D := D2) (tg := tg) (g := 4 + 4 * (k.1 : Int)) (p := p0) B X T F3 N3 ?_ ?_ (.head _) Cy.good ⟨by omega, by omega⟩ ?_)
  · (try dsimp only)
    rw [if_pos rfl]
  · (try dsimp only [m6])
    repeat (first | rw [if_pos rfl] | rw [if_neg (by decide +kernel)])
  intro h4 tk4 W o kvs st4 dx4 n4 k4 t41 t42 hdo hf hlo hltW hne hs4 hd4 F4 N4
  (try dsimp only)
  rw [← en] at z1 z2 z3
  refine wpAny_execs_cons (zip_stmt w (s := { s with heap := h4, toks := tk4 }) (st := st4) (dx := dx4) (W := W) (D := D2) (p := p0) (g := 4 + 4 * (k.1 : Int)) (most := rndI k.1) (tm := tm) (ps := ps') (B := B) (X := X) (T := T) F4 N4 ⟨hne, hs4, hd4, (fun _ h => nomatch h), (fun _ h => nomatch h)⟩ ?_ ?_ ?_ ?_ (.tail _ (.head _)) hys ?_ (.head _) hdo hf hlo ?_ z1 ?_)
  · (try dsimp only)
    repeat (first | rw [if_pos rfl] | rw [if_neg (by decide +kernel)])
  · (try dsimp only)
    repeat (first | rw [if_pos rfl] | rw [if_neg (by decide +kernel)])
  · (try dsimp only [m6])
    repeat (first | rw [if_pos rfl] | rw [if_neg (by decide +kernel)])
    exact hmost
  · (try dsimp only)
    repeat (first | rw [if_pos rfl] | rw [if_neg (by decide +kernel)])
  · omega
  · have := Cy.n0
    omega
  intro h5 tk5 m5 es5 n5 k5 u1 u2 rest5 hm5 hrun ok5 sub5 F5 N5
  obtain ⟨f, fs, hfs⟩ : ∃ f fs, es ++ [e'] = f :: fs := by
    cases es with
    | nil => exact ⟨e', [], rfl⟩
    | cons a r => exact ⟨a, r ++ [e'], rfl⟩
  have hfc : f.c = c0 := by
    rw [ecC, hfs] at e2
    exact (List.cons.inj e2).1
  have hfin := ok1.m f (by rw [hfs]; exact .head _)
  have hl5 : es5.length ≤ 30 := by
    rw [← hrun, List.length_map] at z2
    exact z2
  (try dsimp only)
  refine wpAny_execs_cons (straight_stmt w (s := { s with heap := h5, toks := tk5 }) (C := C) (v := .ref f.a) (vs := fs.map CEnt.val) (nC := nC') B X T F5 N5 ?_ ?_ ?_)
  · rw [hm5 _ (by decide +kernel) (by decide +kernel)]
    (try dsimp only [m6])
    repeat (first | rw [if_pos rfl] | rw [if_neg (by decide +kernel)])
  · refine .tail _ (.tail _ (sub5 _ (.tail _ (.tail _ (.tail _ ?_)))))
    rw [hfs]
    exact .head _
  intro h6 tk6 F6 N6
  (try dsimp only)
  refine wpAny_execs_cons (str_for w (s := { s with heap := h6, toks := tk6 }) (st := st4) (dx := dx4) (e := f) (es := es5) (g := 4 + 4 * (k.1 : Int)) (p := p0) (tg := tg) (Near := Near) B X T ht G F6 N6 ?_ ?_ ?_ (.head _) (.tail _ (.head _)) (fun x hx => .tail _ (.tail _ (ok5.m x hx).1)) (.tail _ (.tail _ (sub5 _ (.tail _ (.tail _ (.tail _ (.tail _ hfin))))))) near_all (hfc ▸ hn0) hl5 ?_)
  · (try dsimp only)
    rw [if_neg (by decide +kernel), hm5 _ (by decide +kernel) (by decide +kernel)]
    (try dsimp only)
    repeat (first | rw [if_pos rfl] | rw [if_neg (by decide +kernel)])
  · (try dsimp only)
    rw [if_pos rfl]
  · (try dsimp only)
    rw [if_neg (by decide +kernel), hm5 _ (by decide +kernel) (by decide +kernel)]
    (try dsimp only [m6])
    repeat (first | rw [if_pos rfl] | rw [if_neg (by decide +kernel)])
  intro base7 hb7 s7 m7 news7 e7 B7 X7 T7 O7 hm7 hs7 hn7 he7 sub7 F7 N7 G7 os7
  obtain ⟨vl, tl, hvl⟩ := ints_last (IntsAre.cons p0 tp hys) (List.cons_ne_nil _ _)
  rw [hrun] at hn7
  have hn7' : Near es5.length ((p0 :: ps').getLast (List.cons_ne_nil _ _)) e7.c := by
    rw [← z3]; exact hn7
  have hpl := (near_all (k := k)).ok _ _ _ (by omega) hn7'
  (try dsimp only)
  refine wpAny_execs_cons (ret_stmt w (s := s7) (D := D2) (e := e7) (vs := vl) (q := (p0 :: ps').getLast (List.cons_ne_nil _ _)) (tq := tl) B7 X7 T7 F7 N7 hs7 ?_ ?_ he7 ⟨hpl.1, hpl.2⟩ ?_)
  · rw [hm7 _ (by decide +kernel) (by decide +kernel)]
    (try dsimp only)
    rw [if_neg (by decide +kernel), hm5 _ (by decide +kernel) (by decide +kernel)]
    (try dsimp only)
    repeat (first | rw [if_pos rfl] | rw [if_neg (by decide +kernel)])
  · rw [← hvl]
    exact sub7 _ (.tail _ (.tail _ (sub5 _ (.tail _ (.head _)))))
  intro h8 tk8 F8
  exact hQ _ _ _ O7 F8 G7 os7
end Mine
end
section
open PySem PySem.W PySem.Calls PyProof.Rows
namespace Mine
theorem tot11 (n : Int) : ∃ k : Fin 11, n.fmod 11 = (k.1 : Int) := by
  have h0 := Int.fmod_nonneg_of_pos n (show (0 : Int) < 11 by decide)
  have h1 := Int.fmod_lt_of_pos n (show (0 : Int) < 11 by decide)
  exact ⟨⟨(n.fmod 11).toNat, by omega⟩, by simp only; omega⟩
abbrev mJ (M : Str → Option Value) (P C : Addr) (g : Int) (tg : Tok) : Str → Option Value := fun y => if y = Str.ofString "colours" then some (.ref C) else if y = Str.ofString "places" then some (.ref P) else if y = Str.ofString "gap" then some (.int g tg) else M y
theorem mJ_m6 (M : Str → Option Value) (P C : Addr) (g : Int) (tg : Tok) : mJ M P C g tg = m6 M (M (Str.ofString "turn")) (M (Str.ofString "around")) (M (Str.ofString "number")) P C g tg := by
  funext y
  unfold mJ m6
  by_cases h1 : y = Str.ofString "turn"
  · subst h1
    simp only [if_pos, show Str.ofString "turn" ≠ Str.ofString "colours" from by decide +kernel, show Str.ofString "turn" ≠ Str.ofString "places" from by decide +kernel, show Str.ofString "turn" ≠ Str.ofString "gap" from by decide +kernel, if_false]
  by_cases h2 : y = Str.ofString "around"
  · subst h2
    simp only [if_pos, if_neg h1, show Str.ofString "around" ≠ Str.ofString "colours" from by decide +kernel, show Str.ofString "around" ≠ Str.ofString "places" from by decide +kernel, show Str.ofString "around" ≠ Str.ofString "gap" from by decide +kernel, if_false]
  by_cases h3 : y = Str.ofString "number"
  · subst h3
    simp only [if_pos, if_neg h1, if_neg h2, show Str.ofString "number" ≠ Str.ofString "colours" from by decide +kernel, show Str.ofString "number" ≠ Str.ofString "places" from by decide +kernel, show Str.ofString "number" ≠ Str.ofString "gap" from by decide +kernel, if_false]
  simp only [if_neg h1, if_neg h2, if_neg h3]
theorem tail_join (w : World) {mean : ExcName → Option Value} {mg mb : Str → Option Value} {base h₀ : Heap} {L fa P C D a : Addr} {gl : Value} {s : Shared} {Q : Flow → Shared → Prop} {M : Str → Option Value}
    {tg tm tp u1 u2 u3 : Tok} {nP nC j : Nat} {vs : List Value} {ns : List Int} {rest : List (Addr × Obj)} {total p i sh : Int}
    (hp : p = (total.fdiv 11).fmod 24 * 2 + 1) (hi : i = (total.fdiv 264).fmod 15 + 1) (hsh : sh = (total.fdiv 3960).fmod 4 + 1)
    (B : Below callerA base [] h₀) (X : (heapB w.params).In h₀) (T : Top Hd.hd.view_39 lse mean mg mb h₀) (ht : h₀.get? 70 = some tab0) (G : AllBare s.gens)
    (F : Fr h₀ L s.heap (mJ M P C (4 + 4 * total.fmod 11) tg)) (hmD : M (Str.ofString "numbers") = some (.ref D)) (hmost : M (Str.ofString "most") = some (.int (rndI (total.fmod 11).toNat) tm)) (hI : IntsAre vs ns) (hb : ∀ n ∈ ns, 0 ≤ n ∧ n ≤ 1000000) (hl : ns.length ≤ 5)
    (N : News h₀ L s.heap ((C, listOf [.ref a].toArray nC) :: (a, tup3 (.float (vF (loF i sh) (hiF i sh) (Float64.add (Float64.div (Float64.ofInt p) 4631952216750555136) 4599676419421066581)) u1) (.float (vF (loF i sh) (hiF i sh) (Float64.div (Float64.ofInt p) 4631952216750555136)) u2) (.float (vF (loF i sh) (hiF i sh) (Float64.sub (Float64.div (Float64.ofInt p) 4631952216750555136) 4599676419421066581)) u3)) :: (P, listOf [.int p tp].toArray nP) :: rest))
    (hD : (D, listOf vs.toArray j) ∈ rest) (hCa : a < C) (hCP : P < C) (hCr : ∀ q ∈ rest, q.1 < C) (haP : P < a) (hPr : ∀ q ∈ rest, q.1 < P)
    (hQ : ∀ h₁ s' m', OldK h₀ h₁ → Fr h₁ L s'.heap m' → AllBare s'.gens → s'.os = s.os → Q (.ret (.bool true)) s') :
    wpAny (model prg w) (callerA.deeper (lawEnv L fa gl)) (execs lawTail.1 (lawEnv L fa gl)) Q (fun _ _ => False) s := by
  obtain ⟨k, hk⟩ := tot11 total
  have hk2 : (total.fmod 11).toNat = k.1 := by omega
  rw [hk2] at hmost
  rw [hk, mJ_m6] at F
  have p0 := Int.fmod_nonneg_of_pos (total.fdiv 11) (show (0 : Int) < 24 by decide)
  have p1 := Int.fmod_lt_of_pos (total.fdiv 11) (show (0 : Int) < 24 by decide)
  have i0 := Int.fmod_nonneg_of_pos (total.fdiv 264) (show (0 : Int) < 15 by decide)
  have i1 := Int.fmod_lt_of_pos (total.fdiv 264) (show (0 : Int) < 15 by decide)
  have s0 := Int.fmod_nonneg_of_pos (total.fdiv 3960) (show (0 : Int) < 4 by decide)
  have s1 := Int.fmod_lt_of_pos (total.fdiv 3960) (show (0 : Int) < 4 by decide)
  have hn := near_start (i := i) (j := sh) (p := p) (by omega) (by omega) (by omega) (by omega) (by omega) (by omega) (by omega)
  refine tail_all w (P := P) (C := C) (D := D) (q := ⟨p, tp⟩) (e := ⟨a, ⟨vF (loF i sh) (hiF i sh) (Float64.add (Float64.div (Float64.ofInt p) 4631952216750555136) 4599676419421066581), vF (loF i sh) (hiF i sh) (Float64.div (Float64.ofInt p) 4631952216750555136), vF (loF i sh) (hiF i sh) (Float64.sub (Float64.div (Float64.ofInt p) 4631952216750555136) 4599676419421066581)⟩, u1, u2, u3⟩) (nP := nP) (nC := nC) (rest := (a, tup3 (.float (vF (loF i sh) (hiF i sh) (Float64.add (Float64.div (Float64.ofInt p) 4631952216750555136) 4599676419421066581)) u1) (.float (vF (loF i sh) (hiF i sh) (Float64.div (Float64.ofInt p) 4631952216750555136)) u2) (.float (vF (loF i sh) (hiF i sh) (Float64.sub (Float64.div (Float64.ofInt p) 4631952216750555136) 4599676419421066581)) u3)) :: rest) k B X T ht G F hmD hmost (.tail _ hD) hI hb hl ?_ ⟨Nat.ne_of_lt hCP, ?_, ?_, ?_⟩ hn hQ
  · refine cb_drop N fun x hx => ?_
    rcases List.mem_cons.mp hx with rfl | hx
    · exact .tail _ (.tail _ (.head _))
    rcases List.mem_cons.mp hx with rfl | hx
    · exact .head _
    rcases List.mem_cons.mp hx with rfl | hx
    · exact .tail _ (.head _)
    · exact .tail _ (.tail _ (.tail _ hx))
  · intro x hx
    rcases List.mem_cons.mp hx with rfl | hx
    · exact Nat.ne_of_gt haP
    · exact Nat.ne_of_lt (hPr x hx)
  · intro x hx
    rcases List.mem_cons.mp hx with rfl | hx
    · exact Nat.ne_of_lt hCa
    · exact Nat.ne_of_lt (hCr x hx)
  · intro x hx
    rw [List.mem_singleton.mp hx]
    exact .head _
theorem good_old {c : ClaimW} {cl : Str → Option Addr} {mean : ExcName → Option Value} {args : List WData} {s₁ s' : Shared} {v : Value} {d : WData} {as : List Addr} (O : OldK s₁.heap s'.heap) (hg : AllBare s'.gens) (hn : ∀ cls, c.raises args cls = false) (hr : ReadsW c.records cl s'.heap v d as)
    (hu : c.unshared = true → as.Nodup ∧ ∀ a ∈ as, s₁.heap.get? a = none) (hp : c.post args d args = true) (hos : s'.os = s₁.os) : GoodWG c cl mean args s₁ (.ok (.ret v)) s' :=
  ⟨.inl ⟨v, d, as, rfl, hn, hr, hp, hu⟩, O, hos, hg⟩
theorem over_no {n : Int} (h : Flt.Over n) (h0 : 0 ≤ n) (h1 : n ≤ 100) : False := over_small h0 h1 h
theorem take_ok (l : List Int) : ∀ n ∈ (l.take 3).map (fun k' : Int => k'.fmod (10 ^ Int.toNat 6)) ++ [4212, 5114], 0 ≤ n ∧ n ≤ 1000000 := by
  intro n hn
  rcases List.mem_append.mp hn with hn | hn
  · obtain ⟨x, _, rfl⟩ := List.mem_map.mp hn
    have e : (10 : Int) ^ Int.toNat 6 = 1000000 := by decide +kernel
    rw [e]
    have h0 := Int.fmod_nonneg_of_pos x (show (0 : Int) < 1000000 by decide)
    have h1 := Int.fmod_lt_of_pos x (show (0 : Int) < 1000000 by decide)
    omega
  · simp only [List.mem_cons, List.not_mem_nil, or_false] at hn
    rcases hn with rfl | rfl <;> omega
theorem take_len (l : List Int) : ((l.take 3).map (fun k' : Int => k'.fmod (10 ^ Int.toNat 6)) ++ [4212, 5114]).length ≤ 5 := by
  simp only [List.length_append, List.length_map, List.length_take, List.length_cons, List.length_nil]
  omega
theorem over_p (t : Int) : ¬ Flt.Over ([(t.fdiv 11).fmod 24 * 2 + 1].getD (Int.toNat 0) 0) := by
  have h0 := Int.fmod_nonneg_of_pos (t.fdiv 11) (show (0 : Int) < 24 by decide)
  have h1 := Int.fmod_lt_of_pos (t.fdiv 11) (show (0 : Int) < 24 by decide)
  exact over_small (show (0 : Int) ≤ (t.fdiv 11).fmod 24 * 2 + 1 by omega) (show (t.fdiv 11).fmod 24 * 2 + 1 ≤ 100 by omega)
theorem over_l (t : Int) : ¬ Flt.Over ((t.fdiv 264).fmod 15 + 1) := by
  have h0 := Int.fmod_nonneg_of_pos (t.fdiv 264) (show (0 : Int) < 15 by decide)
  have h1 := Int.fmod_lt_of_pos (t.fdiv 264) (show (0 : Int) < 15 by decide)
  exact over_small (by omega) (by omega)
theorem over_s (t : Int) : ¬ Flt.Over ((t.fdiv 3960).fmod 4 + 1) := by
  have h0 := Int.fmod_nonneg_of_pos (t.fdiv 3960) (show (0 : Int) < 4 by decide)
  have h1 := Int.fmod_lt_of_pos (t.fdiv 3960) (show (0 : Int) < 4 by decide)
  exact over_small (by omega) (by omega)
end Mine
end
section
open PySem PySem.W PyProof.Rows
namespace Mine
theorem cleanLaw84 : True := by
  k_with_none
  w_top off
  trivial
def rndL (g : Int) : List Int := List.foldl (fun l' k' => if (g * k').fmod 48 = 0 then l' ++ [k'] else l') [] (rangeKs 1 (13 - 1 : Int).toNat)
theorem rnd_ok : ∀ k : Fin 11, 0 < (rndL (4 + 4 * (k.1 : Int))).length ∧ ∀ M, M ∈ rndL (4 + 4 * (k.1 : Int)) → (∀ a, a ∈ rndL (4 + 4 * (k.1 : Int)) → M ≤ a) → M = rndI k.1 := by
  have h : ∀ k : Fin 11, 0 < (rndL (4 + 4 * (k.1 : Int))).length ∧ rndI k.1 ∈ rndL (4 + 4 * (k.1 : Int)) ∧ ∀ a, a ∈ rndL (4 + 4 * (k.1 : Int)) → rndI k.1 ≤ a := by decide +kernel
  intro k
  obtain ⟨h1, h2, h3⟩ := h k
  refine ⟨h1, fun M hM hA => ?_⟩
  have a := hA _ h2
  have b := h3 _ hM
  omega
theorem rnd_tot (n : Int) : ∃ k : Fin 11, n.fmod 11 = (k.1 : Int) := by
  have h0 := Int.fmod_nonneg_of_pos n (show (0 : Int) < 11 by decide)
  have h1 := Int.fmod_lt_of_pos n (show (0 : Int) < 11 by decide)
  exact ⟨⟨(n.fmod 11).toNat, by omega⟩, by simp only; omega⟩
theorem law_min {prog : Program} {w : World} {A : Around} {E : Value → Shared → Prop} {s : Shared} {h₀ : Heap} {L D : Addr} {m : Str → Option Value} {news : List (Addr × Obj)} {ys : List Value} {n : Int} {Q : Value → Shared → Prop} (hh : A.handled = none) (F : Fr h₀ L s.heap m) (N : News h₀ L s.heap news) (hd : s.heap.IsList D ys.toArray)
    (hi : IntsAre ys (rndL (4 + 4 * n.fmod 11))) (h : ∀ h' (t : Tok) tk, Fr h₀ L h' m → News h₀ L h' news → Q (.int (rndI (n.fmod 11).toNat) t) { s with heap := h', toks := tk }) : wpAny (model prog w) A (call (.builtin "min") [.ref D]) Q E s := by
  obtain ⟨k, hk⟩ := rnd_tot n
  obtain ⟨h1, h2⟩ := rnd_ok k
  rw [← hk] at h1 h2
  refine min_list_N hh F N hd hi h1 fun h' M t tk F' N' hM hA => ?_
  have e := h2 M hM hA
  rw [e]
  have : k.1 = (n.fmod 11).toNat := by omega
  rw [this]
  exact h h' t tk F' N'
theorem sat_ok : ∀ j : Fin 4, (Float64.cmp (Float64.div (Float64.ofInt ((j.1 : Int) + 1)) 4616189618054758400) 0 == some Ordering.eq) = false := by decide +kernel
theorem sat_tot (n : Int) : (Float64.cmp (Float64.div (Float64.ofInt (n.fmod 4 + 1)) 4616189618054758400) 0 == some Ordering.eq) = false := by
  have h0 := Int.fmod_nonneg_of_pos n (show (0 : Int) < 4 by decide)
  have h1 := Int.fmod_lt_of_pos n (show (0 : Int) < 4 by decide)
  have h := sat_ok ⟨(n.fmod 4).toNat, by omega⟩
  have e : (((n.fmod 4).toNat : Nat) : Int) = n.fmod 4 := by omega
  simp only [e] at h
  exact h
set_option maxRecDepth 100000 in
set_option maxHeartbeats 8000000 in
theorem t1 : PySem.Challenge.rw_pg0084_01.Holds := by
  refine Hd.hd ?_
  lge_go0
  (with_reducible rename LGe.Mark => lgeM9; clear lgeM9)
  (with_reducible rename Frag.In _ _ => KX9)
  have KB := heapB_in KX9
  have ht9 := tab70_at KX9
  clear KX9
  revert KB
  refine (fun (f : PySem.Challenge.rw_pg0084_01 = PySem.Challenge.rw_pg0084_01 → _) => f rfl) ?_
  k_fill
  intro _ KB
  (all_goals try k_fold)
  (k_with "call builtin:min" => (refine' law_min ?k0 ?k1 ?k2 ?k3 ?k4 ?_; (case k0 => exact rfl); (case k1 => k_asm); (case k2 => k_asm); (case k3 => exact News.isList (by k_asm) (.head _)); (case k4 => assumption); intro h9 t9 tk9 F9 N9; (try dsimp only)))
  (k_with "call ref" => ((with_reducible show wpAny _ _ (PySem.call (Value.ref 119) _ _) _ _ _); k_dflt (refine' (hls_claim _ _ _ _ _ _ _ _ ?sat).use ?k1 ?k2 ?k3 ?k4 ?k5 ?kK ?kd ?ku ?_; (case k1 => k_asm); (case k2 => k_asm); (case k3 => k_asm); (case k4 => k_asm); (case k5 => k_asm); (case sat => exact sat_tot _); (case kK => first | exact rfl | assumption); (case kd => exact Nat.le_of_ble_eq_true rfl); (case ku => exact Nat.le_of_ble_eq_true rfl); intro a9 u1 u2 u3 l9 h9 tk9 F9 N9; (try dsimp only); (try k_fold))))
  (k_with "execs cons" => ((with_reducible show wpAny _ _ (execs (Stmt.For _ _ _ _ _ :: _) _) _ _ _); refine hold ?_))
  k_steps
  · (with_reducible rename Flt.Over _ => hO)
    exact absurd hO (over_p _)
  · (with_reducible rename Flt.Over _ => hO)
    exact absurd hO (over_l _)
  · (with_reducible rename Flt.Over _ => hO)
    exact absurd hO (over_s _)
  (with_reducible rename (_ ∧ _ ∧ _ ∧ _ ∧ _ ∧ _ ∧ _ ∧ _ ∧ _) => lC)
  obtain ⟨c1, c2, c3, c4, c5, c6, c7, c8, c9⟩ := lC
  (with_reducible rename (_ ∧ _ ∧ _ ∧ _ ∧ _ ∧ _ ∧ _) => lP)
  obtain ⟨p1, p2, p3, p4, p5, p6, p7⟩ := lP
  (with_reducible rename Fr _ _ _ _ => F0)
  (with_reducible rename News _ _ _ _ => N0)
  have e0 : ∀ x : Int, [x].getD (Int.toNat 0) 0 = x := fun _ => rfl
  simp only [e0] at N0
  unfold Hold
  refine' wpAny_mono (tail_join _ (hp := rfl) (hi := rfl) (hsh := rfl) (B := ?kB) (X := KB) (T := ?kT) (ht := ht9) (G := ?kG) (F := F0) (hmD := ?kn) (hmost := ?km) (hI := ?kI) (hb := ?kb) (hl := ?kl) (N := N0) (hD := ?kD) (hCa := ?k1) (hCP := ?k2) (hCr := ?k3) (haP := ?k4) (hPr := ?k5) (hQ := ?kQ)) (fun _ _ x => x) (fun _ _ x => x.elim)
  case kT => assumption
  case kB => assumption
  case kn =>
    (try dsimp only)
    repeat (first | rw [if_pos rfl] | rw [if_neg (by decide +kernel)])
  case km =>
    (try dsimp only)
    repeat (first | rw [if_pos rfl] | rw [if_neg (by decide +kernel)])
  case kD => first | exact .head _ | exact .tail _ (.head _) | exact .tail _ (.tail _ (.head _)) | exact .tail _ (.tail _ (.tail _ (.head _))) | exact .tail _ (.tail _ (.tail _ (.tail _ (.head _))))
  case kI => assumption
  case kb => exact take_ok _
  case kl => exact take_len _
  case k1 => exact c1
  case k2 => exact c2
  case k3 =>
    intro q hq
    rcases List.mem_cons.mp hq with rfl | hq
    · exact c3
    rcases List.mem_cons.mp hq with rfl | hq
    · exact c4
    rcases List.mem_cons.mp hq with rfl | hq
    · exact c5
    rcases List.mem_cons.mp hq with rfl | hq
    · exact c6
    rcases List.mem_cons.mp hq with rfl | hq
    · exact c7
    rcases List.mem_cons.mp hq with rfl | hq
    · exact c8
    rcases List.mem_cons.mp hq with rfl | hq
    · exact c9
    cases hq
  case k4 => exact l9 _ (.head _)
  case k5 =>
    intro q hq
    rcases List.mem_cons.mp hq with rfl | hq
    · exact p1
    rcases List.mem_cons.mp hq with rfl | hq
    · exact p2
    rcases List.mem_cons.mp hq with rfl | hq
    · exact p3
    rcases List.mem_cons.mp hq with rfl | hq
    · exact p4
    rcases List.mem_cons.mp hq with rfl | hq
    · exact p5
    rcases List.mem_cons.mp hq with rfl | hq
    · exact p6
    rcases List.mem_cons.mp hq with rfl | hq
    · exact p7
    cases hq
  case kG => exact AllBare.of_eq (by assumption)
  case kQ =>
    intro h₁ s' m' O F' G' os'
    exact good_old (O.step_keeps F'.keep) G' (raisesW_false (by wrow_none_raised)) (readsW_of_reads (.bool true)) unshared_nil (postW_of (by wrow_shape) (by wtm_val) (by str_meet; first | done | w_fin)) os'
end Mine
end
set_option maxRecDepth 100000 in
set_option maxHeartbeats 8000000 in
theorem PySem.Challenge.cw_pg0084_01_holds : PySem.Challenge.rw_pg0084_01.Holds := by
  exact Mine.t1
