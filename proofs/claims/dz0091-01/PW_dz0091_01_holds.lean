import PyProof.Rows.All
import Wide.All
import OpenK.AllK
import Wide.FinOn
import PySem.Challenge.RW_dz0091_01
open PySem PySem.W PyProof.Rows
set_option Elab.async false
namespace Mine
def one (c : Nat) : Str := ⟨#[c]⟩
def code (k : Int) : Nat := if Int.fmod k 4 = 0 then 97 else if Int.fmod k 4 = 1 then 46 else if Int.fmod k 4 = 2 then 10 else (Int.fmod (Int.fdiv k 4) 1114112).toNat
def sg (k : Int) : Str := one (code k)
theorem sg0 {k : Int} (h : k.fmod 4 = 0) : sg k = Str.ofString "a" := by
  unfold sg code; rw [if_pos h]; decide +kernel
theorem sg1 {k : Int} (h0 : k.fmod 4 ≠ 0) (h : k.fmod 4 = 1) : sg k = Str.ofString "." := by
  unfold sg code; rw [if_neg h0, if_pos h]; decide +kernel
theorem sg2 {k : Int} (h0 : k.fmod 4 ≠ 0) (h1 : k.fmod 4 ≠ 1) (h : k.fmod 4 = 2) : sg k = Str.ofString "\n" := by
  unfold sg code; rw [if_neg h0, if_neg h1, if_pos h]; decide +kernel
theorem sg3 {k : Int} (h0 : k.fmod 4 ≠ 0) (h1 : k.fmod 4 ≠ 1) (h2 : k.fmod 4 ≠ 2) : sg k = ⟨#[(Int.fmod (Int.fdiv k 4) 1114112).toNat]⟩ := by
  unfold sg code; rw [if_neg h0, if_neg h1, if_neg h2]; rfl
theorem join_one : ∀ cs : List Nat, Str.join (Str.ofString "") (cs.map one) = ⟨cs.toArray⟩
  | [] => rfl
  | [c] => rfl
  | c :: d :: r => by
    have ih := join_one (d :: r)
    show one c ++ Str.ofString "" ++ Str.join (Str.ofString "") ((d :: r).map one) = _
    rw [ih]
    apply Str.ext'
    rw [Str.cps_append, Str.cps_append]
    have e : (Str.ofString "").cps = #[] := by decide +kernel
    rw [e]
    simp [one]
section
variable {prog : Program} {w : World} {A : Around} {E : Value → Shared → Prop} {s : Shared} {t : Tok} {Q : Value → Shared → Prop} {D : Addr} {ys : List Value} {cs : List Nat}
theorem join_codes (hl : s.heap.IsList D ys.toArray) (hc : StrsAre ys (cs.map one)) (hn : cs.length ≤ 1048576) (h : ∀ t' k, Q (.str ⟨cs.toArray⟩ t') { s with toks := k }) :
    wpAny (model prog w) A (call (.builtin "str.join") [.str (Str.ofString "") t, .ref D]) Q E s := by
  have hc' := hc.carried
  rw [List.map_map] at hc'
  refine KT.join_1 (g := one) hl hc' (fun _ _ => rfl) hn ?_
  intro t' k _
  show Q (.str (Builtin.Str.glued (Str.ofString "") (cs.map one)) t') _
  rw [StrLaws.glued_eq_join, join_one]
  exact h t' k
end
theorem strs_codes {ys : List Value} {ns : List Int} (h : CarriedAll ys (ns.map fun k => PyData.str (sg k))) : StrsAre ys ((ns.map code).map one) := by
  have := CarriedAll.strsOf h
  rw [List.map_map]
  exact this
theorem len_codes {ns : List Int} : ((List.take 30 ns).map code).length ≤ 30 := by
  rw [List.length_map, List.length_take]; omega
section
variable {prog : Program} {w : World} {A : Around} {E : Value → Shared → Prop} {s : Shared} {h₀ : Heap} {L l : Addr}
theorem len_list {news : List (Addr × Obj)} {us : List Value} {cs : List Nat} {c : Nat} {Q : Value → Shared → Prop} (N : News h₀ L s.heap news) (hm : (l, W.listOf us.toArray c) ∈ news) (e : StrsAre us (cs.map one)) (hfit : cs.length ≤ 1000)
    (h : Q (.int (cs.length : Int) (s.toks + 1)) { s with toks := s.toks + 1 + 1 }) : wpAny (model prog w) A (call (.builtin "len") [.ref l]) Q E s :=
  kst_len N hm (by rw [e.length, List.length_map]) (by omega) h
end
section
variable {prog : Program} {w : World} {A : Around} {E : Value → Shared → Prop} {s : Shared} {env : Env} {h₀ : Heap} {x : Str} {body : List Stmt} {Q : Flow → Shared → Prop}
theorem for_all {l : Addr} {vs : List Value} {ns : List Int} {nn : Nat} {m₀ : Str → Option Value} (led : List (Addr × Obj)) (stored : List Str)
    (hh : A.handled = none) (hl : (l, W.listOf vs.toArray nn) ∈ led) (hi : IntsAre vs ns) (F : Fr h₀ env.locals s.heap m₀) (N : News h₀ env.locals s.heap led)
    (turn : ∀ n t (u : Str → Option Value) h tk own, OwnOff own (led.map (·.1)) → Fr h₀ env.locals h (fun y => if y = x then some (.int n t) else if stored.contains y then u y else m₀ y) → News h₀ env.locals h (led ++ own) → KstMark →
      wpAny (model prog w) A (execs body env) (InvPostN h₀ env.locals (fun m' nx => nx = led ∧ ∀ z, z ≠ x → stored.contains z = false → m' z = m₀ z) own (led.map (·.1)) { s with heap := h, toks := tk } Q) E { s with heap := h, toks := tk })
    (done : ∀ (u : Str → Option Value) h tk, Fr h₀ env.locals h (fun y => if y = x then u y else if stored.contains y then u y else m₀ y) → News h₀ env.locals h led → Q .next { s with heap := h, toks := tk }) :
    wpAny (model prog w) A (pyIter (.ref l)) (fun it s₂ => LoopAtV prog w A h₀ env x body Q E it s₂) E s := by
  refine iter_invNL (fun _ m nx => nx = led ∧ ∀ z, z ≠ x → stored.contains z = false → m z = m₀ z) hh hl hi F N ⟨rfl, fun _ _ _ => rfl⟩ ?_ ?_
  · rintro i n t m₁ nx h tk own hn _ hoff _ ⟨rfl, hm⟩ F₁ N₁
    have em : (fun y => if y = x then some (Value.int n t) else if stored.contains y then m₁ y else m₀ y) = fun y => if y = x then some (Value.int n t) else m₁ y := by
      funext y
      by_cases hy : y = x
      · rw [if_pos hy, if_pos hy]
      · rw [if_neg hy, if_neg hy]
        cases h3 : stored.contains y with
        | true => simp
        | false => simp only [Bool.false_eq_true, if_false]; exact (hm y hy h3).symm
    refine wpAny_mono (turn n t m₁ h tk own hoff (by rw [em]; exact F₁) N₁ kstMark) (fun f s₂ p => ?_) fun _ _ x => x
    have up : InvEndN h₀ env.locals (fun m' nx' => nx' = nx ∧ ∀ z, z ≠ x → stored.contains z = false → m' z = m₀ z) own (nx.map (·.1)) { s with heap := h, toks := tk } s₂ →
        InvEndN h₀ env.locals (fun m' nx' => (l, W.listOf vs.toArray nn) ∈ nx' ∧ nx' = nx ∧ ∀ z, z ≠ x → stored.contains z = false → m' z = m₀ z) own (nx.map (·.1)) { s with heap := h, toks := tk } s₂ := by
      rintro ⟨h', tk', m', news', nx', e', F', N', hn', ho', ha, hS⟩
      refine ⟨h', tk', m', news', nx', e', F', N', hn', ho', ha, ?_, hS⟩
      rw [hS.1]; exact hl
    cases f with
    | ret v => exact p
    | brk => exact p
    | next => exact up p
    | cont => exact up p
  · rintro m₁ nx h tk _ ⟨rfl, hm⟩ F₁ N₁
    refine done m₁ h tk ?_ N₁
    have em : (fun y => if y = x then m₁ y else if stored.contains y then m₁ y else m₀ y) = m₁ := by
      funext y
      by_cases hy : y = x
      · rw [if_pos hy]
      · rw [if_neg hy]
        cases h3 : stored.contains y with
        | true => simp
        | false => simp only [Bool.false_eq_true, if_false]; exact (hm y hy h3).symm
    rw [em]; exact F₁
end
theorem strs1 {d : Nat} {t : Tok} : StrsAre [.str (one d) t] ([d].map one) := .cons _ _ .nil
theorem strs0 : StrsAre [] (([] : List Nat).map one) := .nil
section
variable {prog : Program} {w : World} {A : Around} {E : Value → Shared → Prop} {s : Shared} {h₀ : Heap} {L l a b : Addr} {m : Str → Option Value} {news : List (Addr × Obj)} {vs ws : List Value} {cs p q : List Nat} {c c2 : Nat}
theorem item_code {value slice : PySem.Expr} {k : Int} {u : Tok} {Q : Value → Shared → Prop} (N : News h₀ L s.heap news) (hm : (l, PySem.W.listOf vs.toArray c) ∈ news) (hS : StrsAre vs (cs.map one)) (h0 : 0 ≤ k) (hk : k < (cs.length : Int)) (hl : cs.length ≤ 1000)
    (h : ∀ d t, cs[k.toNat]? = some d → Q (.str (one d) t) s)
    (hs : subscripted slice false (.ref l) (.int k u) = operate [.ref l, .int k u] (getItem (.ref l) (.int k u)) := by with_unfolding_all rfl) :
    wpAny (model prog w) A (subscriptTail value slice (.ref l) (.int k u)) Q E s := by
  have hlt : k.toNat < cs.length := by omega
  have e : (cs.map one)[k.toNat]? = some (one cs[k.toNat]) := by simp [hlt]
  obtain ⟨t, ht⟩ := StrsAre.get hS _ _ e
  exact item_litK ⟨_, (N _ hm).1, rfl, c, rfl⟩ h0 (by omega) ht (h _ t (by simp [hlt])) hs
theorem add_codes {Q : Value → Shared → Prop} (F : Fr h₀ L s.heap m) (N : News h₀ L s.heap news) (ha : (a, PySem.W.listOf vs.toArray c) ∈ news) (hb : (b, PySem.W.listOf ws.toArray c2) ∈ news) (hi : StrsAre vs (p.map one)) (hj : StrsAre ws (q.map one)) (hz : p.length + q.length ≤ 2000)
    (h : ∀ D us h', Fr h₀ L h' m → News h₀ L h' ((D, PySem.W.listOf (List.toArray us) 0) :: news) → (∀ p ∈ news, p.1 < D) → StrsAre us ((p ++ q).map one) → Q (.ref D) { s with heap := h' }) :
    wpAny (model prog w) A (binaryOp .Add (.ref a) (.ref b)) Q E s := by
  refine kmk_add_lit F N ⟨_, (N _ ha).1, rfl, c, rfl⟩ ⟨_, (N _ hb).1, rfl, c2, rfl⟩ rfl (fun D h' F' N' hl => ?_) ?_
  · refine h D _ h' F' N' hl ?_
    rw [List.map_append]
    exact StrsAre.append' hi hj
  · have e1 := hi.length
    have e2 := hj.length
    rw [List.length_map] at e1 e2
    rw [PySem.sizeLine_eq]
    show vs.length + ws.length ≤ _
    omega
end
/-- the while's state: the two lists' addresses, their values, their stamps, their signs -/
abbrev St := Addr × Addr × List Value × List Value × Nat × Nat × List Nat × List Nat
def led (rest : List (Addr × Obj)) : St → List (Addr × Obj)
  | (fa, ba, vf, vb, nf, nb, _, _) => (ba, PySem.W.listOf vb.toArray nb) :: (fa, PySem.W.listOf vf.toArray nf) :: rest
def names : St → List (Str × Value)
  | (fa, ba, _, _, _, _, _, _) => [(Str.ofString "back", .ref ba), (Str.ofString "front", .ref fa)]
def facts : St → Prop
  | (_, _, vf, vb, _, _, p, q) => StrsAre vf (p.map one) ∧ StrsAre vb (q.map one)
def Inv (cs : List Nat) (W : Int) (p q : List Nat) : Prop :=
  p = cs.take p.length ∧ q = cs.drop (cs.length - q.length) ∧ p.length ≤ q.length ∧ q.length ≤ p.length + 1 ∧ p.length + q.length ≤ cs.length ∧ (p.length + q.length = 0 ∨ ((p.length + q.length + 3 : Nat) : Int) ≤ W)
def inv (cs : List Nat) (W : Int) : St → Prop
  | (_, _, _, _, _, _, p, q) => Inv cs W p q
def mu (W : Int) : St → Nat
  | (_, _, _, _, _, _, p, q) => (W - (p.length + q.length : Nat)).toNat
def TurnEnd (h₀ : Heap) (L : Addr) (s : Shared) (rest : List (Addr × Obj)) (m₀ : Str → Option Value) (cs : List Nat) (W : Int) (c : St) (s₂ : Shared) : Prop :=
  KswEnd h₀ L s (led rest) names facts [] m₀ (inv cs W) (mu W) c s₂
def TurnPost (h₀ : Heap) (L : Addr) (s : Shared) (rest : List (Addr × Obj)) (m₀ : Str → Option Value) (cs : List Nat) (W : Int) (Q : Flow → Shared → Prop) (c : St) (f : Flow) (s₂ : Shared) : Prop :=
  match f with
  | .ret v => Q (.ret v) s₂
  | .brk => Q .next s₂
  | _ => TurnEnd h₀ L s rest m₀ cs W c s₂
theorem turn_end {h₀ : Heap} {L : Addr} {s : Shared} {rest news' : List (Addr × Obj)} {m₀ m' : Str → Option Value} {cs : List Nat} {W : Int} {fa₀ ba₀ : Addr} {vf₀ vb₀ : List Value} {nf₀ nb₀ : Nat} {p₀ q₀ : List Nat} {fa ba : Addr} {vf vb : List Value} {nf nb : Nat} {p q : List Nat} {h' : Heap} {tk : Nat}
    (F : Fr h₀ L h' m') (N : News h₀ L h' news') (hb : (ba, PySem.W.listOf vb.toArray nb) ∈ news') (hf : (fa, PySem.W.listOf vf.toArray nf) ∈ news') (hr : ∀ p ∈ rest, p ∈ news')
    (sf : StrsAre vf (p.map one)) (sb : StrsAre vb (q.map one)) (kb : m' (Str.ofString "back") = some (.ref ba)) (kf : m' (Str.ofString "front") = some (.ref fa))
    (ko : ∀ z, z ≠ Str.ofString "back" → z ≠ Str.ofString "front" → m' z = m₀ z) (hi : Inv cs W p q) (hm : p₀.length + q₀.length < p.length + q.length) (hW : ((p₀.length + q₀.length : Nat) : Int) < W) :
    TurnEnd h₀ L s rest m₀ cs W (fa₀, ba₀, vf₀, vb₀, nf₀, nb₀, p₀, q₀) { s with heap := h', toks := tk } := by
  refine ksw_end (c' := (fa, ba, vf, vb, nf, nb, p, q)) F N ?_ ⟨sf, sb⟩ ?_ ?_ hi ?_
  · intro x hx
    rcases List.mem_cons.mp hx with rfl | hx
    · exact hb
    · rcases List.mem_cons.mp hx with rfl | hx
      · exact hf
      · exact hr x hx
  · intro x hx
    rcases List.mem_cons.mp hx with rfl | hx
    · exact kb
    · rcases List.mem_cons.mp hx with rfl | hx
      · exact kf
      · exact nomatch hx
  · intro z hz _
    exact ko z (hz _ (.head _)) (hz _ (.tail _ (.head _)))
  · show (W - ((p.length + q.length : Nat) : Int)).toNat < (W - ((p₀.length + q₀.length : Nat) : Int)).toNat
    omega
section
variable {prog : Program} {w : World} {A : Around} {E : Value → Shared → Prop} {Q : Flow → Shared → Prop} {s : Shared} {env : Env} {h₀ : Heap} {L : Addr}
theorem while_cram {test : Expr} {body : List Stmt} {pos : Pos} {m₀ : Str → Option Value} {rest : List (Addr × Obj)} {f0 b0 : Addr} (cs : List Nat) (W : Int)
    (F : Fr h₀ L s.heap m₀) (N : News h₀ L s.heap ((b0, PySem.W.listOf #[] 0) :: (f0, PySem.W.listOf #[] 0) :: rest)) (kb : m₀ (Str.ofString "back") = some (.ref b0)) (kf : m₀ (Str.ofString "front") = some (.ref f0))
    (turn : ∀ fa ba vf vb nf nb p q h tk, StrsAre vf (p.map one) → StrsAre vb (q.map one) → Inv cs W p q →
      Fr h₀ L h (fun z => if z = Str.ofString "back" then some (.ref ba) else if z = Str.ofString "front" then some (.ref fa) else m₀ z) →
      News h₀ L h ((ba, PySem.W.listOf vb.toArray nb) :: (fa, PySem.W.listOf vf.toArray nf) :: rest) →
      wpAny (model prog w) A (isTrue test env (eval test env)) (fun b s₂ =>
        if b = true then wpAny (model prog w) A (execs body env) (TurnPost h₀ L s rest m₀ cs W Q (fa, ba, vf, vb, nf, nb, p, q)) E s₂ else Q .next s₂) E { s with heap := h, toks := tk })
    (hE : PassesOwn (model prog w) A env E := by passes_own) :
    wpAny (model prog w) A (exec (.While test body [] pos) env) Q E s := by
  refine ksw_while (led rest) names facts [] (inv cs W) (mu W) (f0, b0, [], [], 0, 0, [], []) F N ⟨strs0, strs0⟩ ?_ ?_ ?_ hE
  · intro x hx
    rcases List.mem_cons.mp hx with rfl | hx
    · exact kb
    · rcases List.mem_cons.mp hx with rfl | hx
      · exact kf
      · exact nomatch hx
  · refine ⟨?_, ?_, ?_, ?_, ?_, .inl rfl⟩ <;> simp
  · rintro ⟨fa, ba, vf, vb, nf, nb, p, q⟩ u h tk ⟨sf, sb⟩ hi F₁ N₁
    have em : kstB (fun z => if List.contains [] z then u z else m₀ z) (names (fa, ba, vf, vb, nf, nb, p, q)) = fun z => if z = Str.ofString "back" then some (.ref ba) else if z = Str.ofString "front" then some (.ref fa) else m₀ z := by
      funext z
      simp [kstB, names]
    rw [em] at F₁
    refine wpAny_mono (turn fa ba vf vb nf nb p q h tk sf sb hi F₁ N₁) (fun b s₂ pp => ?_) fun _ _ x => x
    cases b with
    | false => simpa using pp
    | true =>
      simp only [if_true] at pp ⊢
      refine wpAny_mono pp (fun f s₃ qq => ?_) fun _ _ x => x
      cases f <;> exact qq
end
theorem Inv.lin {cs p q : List Nat} {W : Int} (h : Inv cs W p q) : p.length ≤ q.length ∧ q.length ≤ p.length + 1 ∧ p.length + q.length ≤ cs.length ∧ (p.length + q.length = 0 ∨ ((p.length + q.length + 3 : Nat) : Int) ≤ W) := h.2.2
theorem inv_back {cs p q : List Nat} {W : Int} {d : Nat} (h : Inv cs W p q) (hd : cs[((cs.length : Int) - 1 - (q.length : Int)).toNat]? = some d) (he : (q.length : Int) = (p.length : Int)) (hlt : (p.length : Int) + (q.length : Int) + 3 < W) (hW : W < (cs.length : Int)) : Inv cs W p ([d] ++ q) := by
  obtain ⟨e1, e2, h1, h2, h3, h4⟩ := h
  have e3 : ((cs.length : Int) - 1 - (q.length : Int)).toNat = cs.length - (q.length + 1) := by omega
  rw [e3] at hd
  refine ⟨e1, ?_, ?_, ?_, ?_, .inr ?_⟩
  · have e4 : ([d] ++ q).length = q.length + 1 := by simp
    rw [e4]
    have hlt2 : cs.length - (q.length + 1) < cs.length := by omega
    rw [List.drop_eq_getElem_cons hlt2]
    rw [List.getElem?_eq_getElem hlt2] at hd
    have e5 : cs.length - (q.length + 1) + 1 = cs.length - q.length := by omega
    rw [e5, ← e2, Option.some.inj hd]
    rfl
  all_goals (simp only [List.length_append, List.length_cons, List.length_nil]; omega)
theorem inv_front {cs p q : List Nat} {W : Int} {d : Nat} (h : Inv cs W p q) (hd : cs[((p.length : Int)).toNat]? = some d) (he : (q.length : Int) ≠ (p.length : Int)) (hlt : (p.length : Int) + (q.length : Int) + 3 < W) (hW : W < (cs.length : Int)) : Inv cs W (p ++ [d]) q := by
  obtain ⟨e1, e2, h1, h2, h3, h4⟩ := h
  rw [Int.toNat_natCast] at hd
  refine ⟨?_, e2, ?_, ?_, ?_, .inr ?_⟩
  · have e4 : (p ++ [d]).length = p.length + 1 := by simp
    rw [e4, List.take_add_one, hd, ← e1]
    rfl
  all_goals (simp only [List.length_append, List.length_cons, List.length_nil]; omega)
section
variable {prog : Program} {w : World} {A : Around} {E : Value → Shared → Prop} {s : Shared} {t : Tok} {Q : Value → Shared → Prop} {cs : List Nat}
theorem len_text (h : cs.length ≤ 1000) (hq : Q (.int (cs.length : Int) (s.toks + 1)) { s with toks := s.toks + 1 + 1 }) : wpAny (model prog w) A (call (.builtin "len") [.str ⟨cs.toArray⟩ t]) Q E s := by
  have e : (⟨cs.toArray⟩ : Str).length = cs.length := by simp [Str.length]
  refine PyProof.Rows.len_str ?_ ?_
  · rw [e]; omega
  · rw [e]; exact hq
end
theorem slice_to {cs : List Nat} {j : Int} {n : Nat} (h0 : j = (n : Int)) (h1 : n ≤ cs.length) : Txt.slice ⟨cs.toArray⟩ none (some j) = ⟨(cs.take n).toArray⟩ := by
  subst h0
  have h := eq_of_beq (slice_closes_to (x := ⟨cs.toArray⟩) (j := (n : Int)) ⟨by omega, by simpa using h1⟩)
  rw [h]
  simp
theorem slice_from {cs : List Nat} {i : Int} {n : Nat} (h0 : i = (cs.length : Int) - (n : Int)) (h1 : n ≤ cs.length) : Txt.slice ⟨cs.toArray⟩ (some i) none = ⟨(cs.drop (cs.length - n)).toArray⟩ := by
  have e : (⟨cs.toArray⟩ : Str).length = cs.length := by simp [Str.length]
  rw [slice_from_eq (b := (cs.length : Int)) (by omega) (by rw [e]; omega) (by rw [e])]
  have e2 : i.toNat = cs.length - n := by omega
  have e3 : ((cs.length : Int) - i).toNat = n := by omega
  rw [e2, e3]
  congr 2
  apply List.take_of_length_le
  simp only [List.length_drop]
  omega
theorem cram_eq {cs p q : List Nat} {W : Int} (h : Inv cs W p q) (hx : ¬ (p.length : Int) + (q.length : Int) + 3 < W) :
    Txt.slice ⟨cs.toArray⟩ none (some (if (W - 3).fdiv 2 > 0 then (W - 3).fdiv 2 else 0)) ++ Str.ofString "..." ++
      Txt.slice ⟨cs.toArray⟩ (some ((cs.length : Int) - if (W - 3 - if (W - 3).fdiv 2 > 0 then (W - 3).fdiv 2 else 0) > 0 then W - 3 - if (W - 3).fdiv 2 > 0 then (W - 3).fdiv 2 else 0 else 0)) none
    = (⟨p.toArray⟩ : Str) ++ Str.ofString "..." ++ ⟨q.toArray⟩ := by
  obtain ⟨e1, e2, h1, h2, h3, h4⟩ := h
  have ed : (W - 3).fdiv 2 = (W - 3) / 2 := Int.fdiv_eq_ediv_of_nonneg _ (by decide)
  rw [ed]
  have a1 : (if (W - 3) / 2 > 0 then (W - 3) / 2 else 0) = (p.length : Int) := by split <;> omega
  rw [a1]
  have a2 : (if W - 3 - (p.length : Int) > 0 then W - 3 - (p.length : Int) else 0) = (q.length : Int) := by split <;> omega
  rw [a2, slice_to rfl (by omega), slice_from rfl (by omega), ← e1, ← e2]
section
variable {prog : Program} {w : World} {A : Around} {E : Value → Shared → Prop} {s : Shared} {t u : Tok} {Q : Value → Shared → Prop} {x y : Str}
theorem ne_same (e : x = y) (h : Q (.bool false) s) : wpAny (model prog w) A (compareOp .NotEq (.str x t) (.str y u)) Q E s := by
  subst e
  refine PyProof.Rows.ne_str ?_
  have e : (x != x) = false := by simp
  rw [e]; exact h
end
end Mine
local macro_rules | `(tactic| walk_at "CompSrc") => `(tactic| (k_here; (try k_fmods); (try kcf_lens); k_dflt (refine LCg.CompSrc.ledger (by rfl) (by k_asm) (by k_asm) (by k_mem) (by kcf_size) ?_; intro g'; (refine' kct_list Mine.sg (by first | assumption | l_ints) (fun k' t' I' oI' C' oC' D' m' ys' h' tk' E' hk' hC' hx' F' N' off' ne' hMark' => ?_) ?_); (all_goals (try (simp only [LCg.Off3, and_true] at off'))); kcf_last)))
local macro_rules | `(tactic| walk_at "KCtEl") => `(tactic| (refine kct_el ?_ (by with_unfolding_all rfl) (by with_unfolding_all rfl); first | exact Mine.sg0 (by assumption) | exact Mine.sg1 (by assumption) (by assumption) | exact Mine.sg2 (by assumption) (by assumption) (by assumption) | exact Mine.sg3 (by assumption) (by assumption) (by assumption)))
local macro_rules | `(tactic| walk_at "call builtin:str.join") => `(tactic| (k_here; (with_reducible show wpAny _ _ (call (Value.builtin "str.join") [Value.str _ _, Value.ref _]) _ _ _); (with_reducible rename CarriedAll _ (List.map _ _) => ktC); (have hS' := Mine.strs_codes ktC); (have hLen' := Mine.len_codes (ns := by assumption)); clear ktC; (generalize List.map Mine.code _ = cs' at hS' hLen'); (refine Mine.join_codes (by first | assumption | is_list | exact News.isList (by k_asm) (by k_mem)) hS' (by omega) ?_; intro _ _)))
local macro_rules | `(tactic| walk_at "call builtin:len") => `(tactic| (k_here; (with_reducible show wpAny _ _ (call (Value.builtin "len") [Value.ref _]) _ _ _); k_dflt (refine' Mine.len_list ?k1 ?k2 ?k3 ?k4 ?_; (case k1 => k_asm); (case k2 => k_mem); (case k3 => assumption); (case k4 => omega)); k_whole))
local macro_rules | `(tactic| walk_at "exec For Name BinOp cons nil") => `(tactic| (k_here; (rename Fr _ _ _ _ => lF'); (with_unfolding_all refine' For_invVF lF' ?k1 ?k2 ?_; (case k1 => exact rfl); (case k2 => exact rfl); k_whole)))
local macro_rules | `(tactic| walk_at "pyIter ref") => `(tactic| ((with_reducible show wpAny _ _ (pyIter (Value.ref _)) (fun it s₂ => LoopAtV _ _ _ _ _ _ _ _ _ it s₂) _ _); k_here; (rename Fr _ _ _ _ => lF'); (rename News _ _ _ _ => lN'); (with_unfolding_all refine' Mine.for_all _ [Str.ofString "due", Str.ofString "front", Str.ofString "back"] (by rfl) ?kl ?ki lF' lN' (fun n' t' u' h' tk' own' hoff' F' N' hMk' => ?_) (fun u' h' tk' F' N' => ?_)); (case kl => k_mem); (case ki => assumption); (all_goals (try clear lF' lN')); (all_goals (try simp only [List.nil_append, List.cons_append, List.append_nil] at N')); (all_goals (try k_fold))))
local macro_rules | `(tactic| walk_at "exec While Compare cons nil") => `(tactic| (k_here; (rename Fr _ _ _ _ => lF'); (rename News _ _ _ _ => lN'); (with_unfolding_all refine' Mine.while_cram (by assumption) (by assumption) lF' lN' ?kb ?kf (fun fa' ba' vf' vb' nf' nb' p' q' h' tk' sf' sb' hi' F' N' => ?_)); (case kb => with_unfolding_all rfl); (case kf => with_unfolding_all rfl); (try clear lF' lN'); (have hlin' := Mine.Inv.lin hi'); (try k_fold)))
local macro_rules | `(tactic| walk_at "TurnPost") => `(tactic| (dsimp only [Mine.TurnPost]))
local macro_rules | `(tactic| walk_at "subscriptTail") => `(tactic| (k_here; (with_reducible show wpAny _ _ (subscriptTail _ _ (Value.ref _) (Value.int _ _)) _ _ _); (with_unfolding_all refine' Mine.item_code ?k1 ?k2 ?k3 ?k4 ?k5 ?k6 (fun d' t' hd' => ?_) ?k7; (case k1 => k_asm); (case k2 => k_mem); (case k3 => assumption); (case k4 => omega); (case k5 => omega); (case k6 => omega); (case k7 => with_unfolding_all rfl); k_whole)))
local macro_rules | `(tactic| walk_at "binaryOp Add ref ref") => `(tactic| (k_here; (with_reducible show wpAny _ _ (binaryOp _ (Value.ref _) (Value.ref _)) _ _ _); k_dflt (refine' Mine.add_codes ?F ?N ?a ?b ?i ?j ?z ?_; (case F => k_asm); (case N => k_asm); (case a => k_mem); (case b => k_mem); (case i => first | exact Mine.strs1 | assumption); (case j => first | exact Mine.strs1 | assumption); (case z => ((try simp only [List.length_cons, List.length_nil]); omega))); intro D' us' h' F' N' l1 hS'; (try k_lt l1); (try k_sweep)))
local macro_rules | `(tactic| walk_at "TurnEnd") => `(tactic| ((rename News _ _ _ _ => nE'); (refine' Mine.turn_end (by assumption) nE' ?hb ?hf ?hr ?sf ?sb ?kb ?kf ?ko ?hi ?hm ?hW); (case kb => with_unfolding_all rfl); (case kf => with_unfolding_all rfl); (case hb => k_mem); (case hf => k_mem); (case hr => (intro x9 hx9; kst_mem)); (case sf => assumption); (case sb => assumption); (case ko => (intro z h1 h2; simp [h1, h2])); (case hi => first | exact Mine.inv_back (by assumption) (by assumption) (by assumption) (by assumption) (by assumption) | exact Mine.inv_front (by assumption) (by assumption) (by assumption) (by assumption) (by assumption)); (case hm => (simp only [List.length_append, List.length_cons, List.length_nil]; omega)); (case hW => omega)))
local macro_rules | `(tactic| walk_at "call builtin:str.join") => `(tactic| (k_here; (with_reducible show wpAny _ _ (call (Value.builtin "str.join") [Value.str _ _, Value.ref _]) _ _ _); (refine Mine.join_codes (by exact News.isList (by k_asm) (by k_mem)) (by assumption) (by omega) ?_; intro _ _)))
local macro_rules | `(tactic| walk_at "call builtin:len") => `(tactic| (k_here; (with_reducible show wpAny _ _ (call (Value.builtin "len") [Value.str _ _]) _ _ _); (refine Mine.len_text (by omega) ?_)))
local macro_rules | `(tactic| walk_at "compareOp NotEq str str") => `(tactic| (k_here; (refine Mine.ne_same ?e ?_); (case e => first | with_reducible rfl | exact Mine.cram_eq (by assumption) (by assumption))))
local macro_rules | `(tactic| walk_at "InvEndN") => `(tactic| ((rename Fr _ _ _ _ => fE'); (rename News _ _ _ _ => nE'); (refine InvEndN.intro fE' nE' ⟨rfl, ?ko⟩ (by rfl) ?ka ?kb); (case ka => kst_in); (case kb => (intro p9 h9; kst_mem)); (case ko => (intro z h1 h3; (have h4 := h3); (simp only [List.contains_cons, List.contains_nil, Bool.or_false, Bool.or_eq_false_iff, beq_eq_false_iff_ne, ne_eq] at h4); (simp only [h1, h3, h4, if_false, Bool.false_eq_true])))))
set_option maxRecDepth 100000 in
set_option maxHeartbeats 8000000 in
theorem PySem.Challenge.cw_dz0091_01_holds : PySem.Challenge.rw_dz0091_01.Holds := by
  open_k
