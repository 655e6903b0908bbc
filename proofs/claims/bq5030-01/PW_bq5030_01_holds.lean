import PyProof.Rows.All
import Wide.All
import OpenK.AllK
import Wide.FinOn
import Lean
import PySem.Challenge.RW_bq5030_01
set_option Elab.async false
set_option maxRecDepth 100000
set_option maxHeartbeats 8000000
namespace Mine
open PySem PySem.W PyProof.Rows
open_top hd for PySem.Challenge.rw_bq5030_01
end Mine
section
open PySem PySem.W PyProof.Rows
namespace Mine
/-- the code of the sign at place k -/
def cd (x : Str) (k : Nat) : Nat := x.cps.getD k 0
/-- one sign -/
def chr1 (c : Nat) : Str := ⟨#[c]⟩
/-- the parser from place k on, quote state st, the name begun so far -/
def pz (c : Nat → Nat) (n : Nat) (st : Bool) (k : Nat) (cur : List Nat) : List (List Nat) :=
  if k < n then
    if c k = 34 then
      if st = true ∧ k + 1 < n ∧ c (k + 1) = 34 then pz c n st (k + 2) (cur ++ [34])
      else pz c n (!st) (k + 1) cur
    else if c k = 46 ∧ st = false then cur :: pz c n st (k + 1) []
    else pz c n st (k + 1) (cur ++ [c k])
  else [cur]
termination_by n - k
/-- a list of one-sign texts -/
def CharsAre (vs : List Value) (ws : List Nat) : Prop := StrsAre vs (ws.map chr1)
structure TR where
  a : Addr
  vs : List Value
  n : Nat
  ws : List Nat
structure PS where
  k : Nat
  st : Bool
  dn : List TR
  ca : Addr
  cv : List Value
  cn : Nat
  cw : List Nat
  rn : Nat
  tk : Tok
  ts : Tok
def PS.led (rs : Addr) (news : List (Addr × Obj)) (c : PS) : List (Addr × Obj) :=
  (rs, listOf (c.dn.map (fun p => Value.ref p.a) ++ [Value.ref c.ca]).toArray c.rn) :: (c.ca, listOf c.cv.toArray c.cn) :: (c.dn.map (fun p => (p.a, listOf p.vs.toArray p.n)) ++ news)
def PS.facts (rs : Addr) (news : List (Addr × Obj)) (x : Str) (c : PS) : Prop :=
  CharsAre c.cv c.cw ∧ (∀ p ∈ c.dn, CharsAre p.vs p.ws ∧ p.ws.length ≤ x.length) ∧ (@Ne Nat rs c.ca) ∧ (∀ p ∈ c.dn, (@Ne Nat p.a rs) ∧ (@Ne Nat p.a c.ca)) ∧ (∀ p ∈ news, (@Ne Nat p.1 rs) ∧ (@Ne Nat p.1 c.ca)) ∧ c.k ≤ x.length ∧ c.dn.length ≤ c.k ∧ c.cw.length ≤ c.k
def PS.word (x : Str) (c : PS) : Prop := c.dn.map (·.ws) ++ pz (cd x) x.length c.st c.k c.cw = pz (cd x) x.length false 0 []
theorem item_cd {x : Str} {k : Nat} (h : (k : Int) < (x.length : Int)) : Txt.item x (k : Int) = chr1 (cd x k) := by
  have hk : k < x.cps.size := by have : x.length = x.cps.size := rfl; omega
  unfold Txt.item chr1 cd
  have e : Txt.charAt x (k : Int) = some x.cps[k] := by
    unfold Txt.charAt
    have e1 : seqIndex? (k : Int) x.length = some k := by
      unfold seqIndex?
      have h0 : ¬ (k : Int) < 0 := by omega
      simp only [h0, if_false]
      rw [if_pos (by simp only [Bool.and_eq_true, decide_eq_true_eq]; omega)]
      simp
    rw [e1, Option.bind_some]
    exact Array.getElem?_eq_getElem hk
  rw [e]
  simp [hk]
theorem chr1_eq {c d : Nat} {t : Str} (ht : t = chr1 d) : (chr1 c == t) = decide (c = d) := by
  subst ht
  by_cases h : c = d
  · subst h; simp
  · rw [decide_eq_false h]
    apply beq_eq_false_iff_ne.mpr
    intro e
    apply h
    simpa [chr1] using e
theorem quote_is : Str.ofString "\"" = chr1 34 := by decide +kernel
theorem dot_is : Str.ofString "." = chr1 46 := by decide +kernel
section
variable {prog : Program} {w : World} {A : Around} {E : Value → Shared → Prop} {s : Shared} {h₀ : Heap} {L : Addr} {m : Str → Option Value} {news : List (Addr × Obj)}
/-- the last item of a made list -/
theorem last_item {value slice : PySem.Expr} {l : Addr} {xs : List Value} {v : Value} {n : Nat} {u : Tok} {Q : Value → Shared → Prop} (N : News h₀ L s.heap news) (hm : (l, listOf (xs ++ [v]).toArray n) ∈ news) (h : Q v s)
    (hs : subscripted slice false (.ref l) (.int (-1) u) = operate [.ref l, .int (-1) u] (getItem (.ref l) (.int (-1) u)) := by with_unfolding_all rfl) :
    wpAny (model prog w) A (subscriptTail value slice (.ref l) (.int (-1) u)) Q E s :=
  tail_any (News.isList N hm).typeIs slot_list_getitem.lookup (wpAny_getItem_list_neg (News.isList N hm) (by decide) (by simp; omega) (by decide) (by
    have e : (-1 + (((xs ++ [v]).toArray.size : Nat) : Int)).toNat = xs.length := by simp; omega
    rw [e]; simp) h) hs
end
theorem off_ca {rs ca : Addr} {dn : List TR} {news : List (Addr × Obj)} (f4 : ∀ p ∈ dn, (@Ne Nat p.a rs) ∧ (@Ne Nat p.a ca)) (f5 : ∀ p ∈ news, (@Ne Nat p.1 rs) ∧ (@Ne Nat p.1 ca)) : ∀ p ∈ dn.map (fun p => (p.a, listOf p.vs.toArray p.n)) ++ news, p.1 ≠ ca := by
  intro p hp
  rcases List.mem_append.mp hp with hp | hp
  · obtain ⟨q, hq, rfl⟩ := List.mem_map.mp hp
    exact (f4 q hq).2
  · exact (f5 p hp).2
theorem off_rs {rs ca : Addr} {dn : List TR} {news : List (Addr × Obj)} (f4 : ∀ p ∈ dn, (@Ne Nat p.a rs) ∧ (@Ne Nat p.a ca)) (f5 : ∀ p ∈ news, (@Ne Nat p.1 rs) ∧ (@Ne Nat p.1 ca)) : ∀ p ∈ dn.map (fun p => (p.a, listOf p.vs.toArray p.n)) ++ news, p.1 ≠ rs := by
  intro p hp
  rcases List.mem_append.mp hp with hp | hp
  · obtain ⟨q, hq, rfl⟩ := List.mem_map.mp hp
    exact (f4 q hq).1
  · exact (f5 p hp).1
theorem allLt_mem {d : Addr} : ∀ {l : List (Addr × Obj)}, AllLt d l → ∀ p ∈ l, @LT.lt Nat _ p.1 d := by
  intro l
  induction l with
  | nil => intro _ p hp; cases hp
  | cons q r ih =>
    intro h p hp
    rcases List.mem_cons.mp hp with e | hp
    · rw [e]; exact h.1
    · exact ih h.2 p hp
theorem chars_snoc {vs : List Value} {ws : List Nat} {c : Nat} {t : Tok} (h : CharsAre vs ws) : CharsAre (vs ++ [.str (chr1 c) t]) (ws ++ [c]) := by
  unfold CharsAre at *
  rw [List.map_append]
  exact h.append' (.cons _ _ .nil)
theorem item_cd1 {x : Str} {k : Nat} (h : (k : Int) + 1 < (x.length : Int)) : Txt.item x ((k : Int) + 1) = chr1 (cd x (k + 1)) := by
  have e := item_cd (x := x) (k := k + 1) (by omega)
  rw [← e]
  congr 1
theorem is_q {x : Str} {k : Nat} {b : Bool} (h : (k : Int) < (x.length : Int)) (e : (Txt.item x (k : Int) == Str.ofString "\"") = b) : decide (cd x k = 34) = b := by
  rw [item_cd h, chr1_eq quote_is] at e; exact e
theorem is_q1 {x : Str} {k : Nat} {b : Bool} (h : (k : Int) + 1 < (x.length : Int)) (e : (Txt.item x ((k : Int) + 1) == Str.ofString "\"") = b) : decide (cd x (k + 1) = 34) = b := by
  rw [item_cd1 h, chr1_eq quote_is] at e; exact e
theorem is_d {x : Str} {k : Nat} {b : Bool} (h : (k : Int) < (x.length : Int)) (e : (Txt.item x (k : Int) == Str.ofString ".") = b) : decide (cd x k = 46) = b := by
  rw [item_cd h, chr1_eq dot_is] at e; exact e
section
variable {c : Nat → Nat} {n k : Nat} {st : Bool} {cur : List Nat}
theorem pz_end (h : ¬ k < n) : pz c n st k cur = [cur] := by rw [pz, if_neg h]
theorem pz_dbl (h : k + 1 < n) (h1 : c k = 34) (h2 : c (k + 1) = 34) : pz c n true k cur = pz c n true (k + 2) (cur ++ [34]) := by
  rw [pz, if_pos (by omega), if_pos h1, if_pos ⟨rfl, h, h2⟩]
theorem pz_tog (h : k < n) (h1 : c k = 34) (h2 : ¬ (st = true ∧ k + 1 < n ∧ c (k + 1) = 34)) : pz c n st k cur = pz c n (!st) (k + 1) cur := by
  rw [pz, if_pos h, if_pos h1, if_neg h2]
theorem pz_dot (h : k < n) (h1 : c k = 46) : pz c n false k cur = cur :: pz c n false (k + 1) [] := by
  rw [pz, if_pos h, if_neg (by omega), if_pos ⟨h1, rfl⟩]
theorem pz_chr (h : k < n) (h1 : c k ≠ 34) (h2 : ¬ (c k = 46 ∧ st = false)) : pz c n st k cur = pz c n st (k + 1) (cur ++ [c k]) := by
  rw [pz, if_pos h, if_neg h1, if_neg h2]
end
theorem led_dot {l rs ca : Addr} {news : List (Addr × Obj)} {k k' : Nat} {st : Bool} {dn : List TR} {cv : List Value} {cn rn : Nat} {cw : List Nat} {ti ts : Tok} : ∀ p ∈ PS.led rs news ⟨k', st, dn ++ [⟨ca, cv, cn, cw⟩], l, [], 0, [], rn + 1, ti, ts⟩,
    p ∈ ((l, listOf #[] 0) :: (rs, listOf ((List.map (fun p => Value.ref p.a) dn ++ [Value.ref ca]).toArray.push (Value.ref l)) (rn + 1)) :: (ca, listOf cv.toArray cn) :: (List.map (fun (p : TR) => (p.a, listOf p.vs.toArray p.n)) dn ++ news) : List (Addr × Obj)) := by
  intro p hp
  simp only [PS.led, List.map_append, List.map_cons, List.map_nil, List.push_toArray, List.mem_cons, List.mem_append, List.not_mem_nil, or_false, List.append_assoc, List.cons_append, List.nil_append] at hp ⊢
  rcases hp with h | h | h | h | h
  · exact .inr (.inl h)
  · exact .inl h
  · exact .inr (.inr (.inr (.inl h)))
  · exact .inr (.inr (.inl h))
  · exact .inr (.inr (.inr (.inr h)))
theorem led_chr {rs ca : Addr} {news : List (Addr × Obj)} {k : Nat} {st : Bool} {dn : List TR} {cv : List Value} {v : Value} {cn rn : Nat} {cw : List Nat} {ti ts : Tok} : ∀ p ∈ PS.led rs news ⟨k, st, dn, ca, cv ++ [v], cn + 1, cw, rn, ti, ts⟩,
    p ∈ ((rs, listOf (List.map (fun p => Value.ref p.a) dn ++ [Value.ref ca]).toArray rn) :: (ca, listOf (cv.toArray.push v) (cn + 1)) :: (List.map (fun (p : TR) => (p.a, listOf p.vs.toArray p.n)) dn ++ news) : List (Addr × Obj)) := by
  intro p hp
  simpa only [PS.led, List.push_toArray] using hp
/-- a text by its codes -/
def txt (w : List Nat) : Str := ⟨w.toArray⟩
theorem join_chars : ∀ ws : List Nat, Str.join (Str.ofString "") (ws.map chr1) = txt ws
  | [] => by rfl
  | [c] => by rfl
  | c :: d :: r => by
    have ih := join_chars (d :: r)
    rw [List.map_cons, List.map_cons]
    rw [List.map_cons] at ih
    show chr1 c ++ Str.ofString "" ++ Str.join (Str.ofString "") (chr1 d :: r.map chr1) = _
    rw [ih]
    refine PySem.Str.ext' (Array.toList_inj.mp ?_)
    rw [PySem.Str.cps_append, PySem.Str.cps_append]
    have e : (Str.ofString "").cps = #[] := by decide +kernel
    rw [e]
    simp [chr1, txt]
theorem glue_chars (ws : List Nat) : Txt.join (Str.ofString "") (ws.map chr1) = txt ws := by
  unfold Txt.join
  rw [StrLaws.glued_eq_join, join_chars]
theorem weight_chars (ws : List Nat) : ((ws.map chr1).map (·.length)).sum + (ws.map chr1).length = 2 * ws.length := by
  induction ws with
  | nil => rfl
  | cons c r ih =>
    simp only [List.map_cons, List.sum_cons, List.length_cons] at ih ⊢
    have : (chr1 c).length = 1 := rfl
    omega
section
variable {prog : Program} {w : World} {A : Around} {h₀ : Heap} {L : Addr} {m : Str → Option Value} {env : Env} {elt : PySem.Expr} {x : Str} {scope : Scope} {cl : List (Str × Addr)} {s : Shared} {S : List (Addr × Obj) → Prop} {P : Nat → Value → Prop} {Fin : List Value → List (Addr × Obj) → Prop} {news : List (Addr × Obj)} {n : Nat}
/-- a comprehension's turns by an invariant over the made list and the ledger -/
theorem comp_rest (J : Nat → List Value → List (Addr × Obj) → Prop) (j0 : J 0 [] news)
    (turn : ∀ i ys nw v I oI C oC D m₂ h tk (E' : Value → Shared → Prop), i < n → J i ys nw → P i v → LCg.NsObj oC m₂ → m₂ x = some v → Fr h₀ L h m → News h₀ L h ((I, oI) :: (C, oC) :: (D, LCg.lst ys) :: nw) → LCg.Off3 I C D nw → ((@Ne Nat I C) ∧ (@Ne Nat I D) ∧ (@Ne Nat C D)) →
      wpAny (model prog w) A (eval elt (compEnvC scope cl C env)) (LCg.CompEnd h₀ L m { s with heap := h, toks := tk } I oI C oC D (LCg.lst ys) S (fun y nw' => J (i + 1) (ys ++ [y]) nw')) E' { s with heap := h, toks := tk })
    (fin : ∀ ys nw, J n ys nw → Fin ys nw) : LCg.CompRest prog w A h₀ L m env elt x scope cl s S P Fin n 0 [] news := by
  have key : ∀ (j i : Nat) (ys : List Value) nw, i + j = n → J i ys nw → LCg.CompRest prog w A h₀ L m env elt x scope cl s S P Fin j i ys nw := by
    intro j
    induction j with
    | zero =>
      intro i ys nw hi hj
      have e : i = n := by omega
      rw [e] at hj
      exact LCg.CompRest.zero (fin ys nw hj)
    | succ j ih =>
      intro i ys nw hi hj
      refine LCg.CompRest.succ ?_
      intro v I oI C oC D m₂ h tk E' hv hC hx F N off ne
      refine wpAny_mono (turn i ys nw v I oI C oC D m₂ h tk E' (by omega) hj hv hC hx F N off ne) (fun y s₂ hq => ?_) fun _ _ e => e
      obtain ⟨h', tk', nw', e, F', N', off', hS, hn⟩ := hq
      exact ⟨h', tk', nw', e, F', N', off', hS, ih (i + 1) _ nw' (by omega) hn⟩
  exact key n 0 [] news (by omega) j0
end
/-- what a call of the def at f gives back, in any frame: the value and the ledger by Out -/
def Says (w : World) (f : Addr) (vs : List Value) (dk uk : Nat) (led : List (Addr × Obj)) (Out : Value → List (Addr × Obj) → Prop) : Prop :=
  ∀ (loose : List Str) (mean : ExcName → Option Value) (mg mb : Str → Option Value) (dp un : Nat) (gd : Option (List Code)) (cn : Str) (cs : Scope) (a : Addr) (ccd : Value) (cl : List (Str × Addr)) (outer : List Env) (A₀ : Around) (base h₀ : Heap) (L : Addr) (m : Str → Option Value) (s : Shared) (Q E : Value → Shared → Prop),
    Below A₀ base outer h₀ → Fr h₀ L s.heap m → (Mine.hd.heap_39 w.params).In h₀ → News h₀ L s.heap led → Top Mine.hd.view_39 loose mean mg mb h₀ → cs.kind = .function → dp + dk < recursionLimit → un + uk < cLine →
    (∀ r led' h' tk', Fr h₀ L h' m → News h₀ L h' led' → Out r led' → Q r { s with heap := h', toks := tk' }) →
    wpAny (model PySem.Challenge.rw_bq5030_01.row.prog w) (ktrTop dp un gd cn cs L a ccd cl outer) (call (.ref f) vs) Q E s
theorem says_use {w : World} {f : Addr} {vs : List Value} {dk uk : Nat} {led : List (Addr × Obj)} {Out : Value → List (Addr × Obj) → Prop} {loose : List Str} {mean : ExcName → Option Value} {mg mb : Str → Option Value} {dp un : Nat} {gd : Option (List Code)} {cn : Str} {cs : Scope} {a : Addr} {ccd : Value} {cl : List (Str × Addr)} {outer : List Env} {A₀ : Around} {base h₀ : Heap} {L : Addr} {m : Str → Option Value} {s : Shared} {Q E : Value → Shared → Prop}
    (C : Says w f vs dk uk led Out) (B : Below A₀ base outer h₀) (F : Fr h₀ L s.heap m) (X : (Mine.hd.heap_39 w.params).In h₀) (N : News h₀ L s.heap led) (T : Top Mine.hd.view_39 loose mean mg mb h₀) (hk : cs.kind = .function) (hd : dp + dk < recursionLimit) (hu : un + uk < cLine)
    (ret : ∀ r led' h' tk', Fr h₀ L h' m → News h₀ L h' led' → Out r led' → Q r { s with heap := h', toks := tk' }) :
    wpAny (model PySem.Challenge.rw_bq5030_01.row.prog w) (ktrTop dp un gd cn cs L a ccd cl outer) (call (.ref f) vs) Q E s := C _ _ _ _ _ _ _ _ _ _ _ _ _ _ _ _ _ _ _ _ _ B F X N T hk hd hu ret
/-- a fresh list of texts -/
def OutStrs (led : List (Addr × Obj)) (ws : List Str) (r : Value) (led' : List (Addr × Obj)) : Prop :=
  ∃ a ys n, r = .ref a ∧ led' = (a, listOf ys.toArray n) :: led ∧ StrsAre ys ws ∧ ∀ p ∈ led, (@Ne Nat p.1 a)
/-- a fresh list of ints -/
def OutInts (led : List (Addr × Obj)) (ws : List Int) (r : Value) (led' : List (Addr × Obj)) : Prop :=
  ∃ a ys n, r = .ref a ∧ led' = (a, listOf ys.toArray n) :: led ∧ IntsAre ys ws ∧ ∀ p ∈ led, (@Ne Nat p.1 a)
theorem off_news {h₀ h : Heap} {L : Addr} {news : List (Addr × Obj)} (N : News h₀ L h news) : ∀ p ∈ news, (@Ne Nat p.1 h.objs.size) := fun p hp => Nat.ne_of_lt (Heap.lt_size (N p hp).1)
theorem off1_mem {D : Addr} {l : List (Addr × Obj)} (h : LCg.Off1 D l) : ∀ p ∈ l, (@Ne Nat p.1 D) := by
  induction l with
  | nil => intro p hp; cases hp
  | cons q r ih =>
    intro p hp
    rcases List.mem_cons.mp hp with e | hp
    · rw [e]; exact h.1
    · exact ih h.2 p hp
/-- what the parser tells -/
def told (x : Str) : List Str := (pz (cd x) x.length false 0 []).map txt
end Mine
end
section
open PySem PySem.W PyProof.Rows
namespace Mine
/-- parted at each dot -/
def sp : List Nat → List Nat → List (List Nat)
  | [], cur => [cur]
  | c :: r, cur => if c = 46 then cur :: sp r [] else sp r (cur ++ [c])
theorem sp_free : ∀ (p rest cur : List Nat), 46 ∉ p → sp (p ++ rest) cur = sp rest (cur ++ p)
  | [], rest, cur, _ => by simp
  | c :: r, rest, cur, h => by
    have h1 : c ≠ 46 := fun e => h (by rw [e]; exact List.mem_cons_self ..)
    rw [List.cons_append, sp, if_neg h1, sp_free r rest (cur ++ [c]) (fun q => h (List.mem_cons_of_mem _ q))]
    simp
theorem sp_join : ∀ (p : Str) (r : List Str) (cur : List Nat), (∀ q ∈ p :: r, 46 ∉ q.cps.toList) → sp (Str.join (chr1 46) (p :: r)).cps.toList cur = (cur ++ p.cps.toList) :: r.map fun q => q.cps.toList
  | p, [], cur, h => by
    show sp p.cps.toList cur = _
    have := sp_free p.cps.toList [] cur (h p (List.mem_cons_self ..))
    rw [List.append_nil] at this
    rw [this]; rfl
  | p, q :: r, cur, h => by
    show sp (p ++ chr1 46 ++ Str.join (chr1 46) (q :: r)).cps.toList cur = _
    rw [PySem.Str.cps_append, PySem.Str.cps_append, Array.toList_append, Array.toList_append, List.append_assoc, sp_free _ _ _ (h p (List.mem_cons_self ..))]
    show sp (46 :: (Str.join (chr1 46) (q :: r)).cps.toList) (cur ++ p.cps.toList) = _
    rw [sp, if_pos rfl, sp_join q r [] (fun x hx => h x (List.mem_cons_of_mem _ hx))]
    simp
theorem pz_sp {c : Nat → Nat} {l : List Nat} (hc : ∀ k, k < l.length → l[k]? = some (c k)) (h34 : 34 ∉ l) : ∀ (j k : Nat) (cur : List Nat), l.length - k ≤ j → pz c l.length false k cur = sp (l.drop k) cur := by
  intro j
  induction j with
  | zero =>
    intro k cur hk
    rw [pz_end (by omega), List.drop_eq_nil_of_le (by omega)]; rfl
  | succ j ih =>
    intro k cur hk
    by_cases hlt : k < l.length
    · have e : l.drop k = c k :: l.drop (k + 1) := by
        rw [List.drop_eq_getElem_cons hlt]
        have := hc k hlt
        rw [List.getElem?_eq_getElem hlt] at this
        rw [Option.some.inj this]
      have hne : c k ≠ 34 := fun q => h34 (by rw [← q]; exact List.mem_of_getElem? (hc k hlt))
      rw [e, sp]
      by_cases hd : c k = 46
      · rw [if_pos hd, pz_dot hlt hd, ih (k + 1) [] (by omega)]
      · rw [if_neg hd, pz_chr hlt hne (fun q => hd q.1), ih (k + 1) _ (by omega)]
    · rw [pz_end hlt, List.drop_eq_nil_of_le (by omega)]; rfl
theorem txt_codes (x : Str) : txt x.cps.toList = x := by
  show (⟨x.cps.toList.toArray⟩ : Str) = x
  rw [Array.toArray_toList]
theorem split_told' {x : Str} (h34 : 34 ∉ x.cps.toList) : Txt.split x (Str.ofString ".") = told x := by
  rw [dot_is]
  have hj := StrLaws.join_split x (chr1 46)
  have hf := StrLaws.split_free x 46
  have hp := split_pos x (chr1 46)
  change ∀ p ∈ Txt.split x (chr1 46), 46 ∉ p.cps.toList at hf
  cases e : Txt.split x (chr1 46) with
  | nil => rw [e] at hp; simp at hp
  | cons p r =>
    rw [e] at hj hf
    have hs := sp_join p r [] hf
    rw [hj] at hs
    have hl : x.length = x.cps.toList.length := by simp [PySem.Str.length]
    unfold told
    rw [hl, pz_sp (c := cd x) (l := x.cps.toList) (fun k hk => ?_) h34 x.cps.toList.length 0 [] (by omega), List.drop_zero, hs]
    · simp [txt_codes, Function.comp_def]
    · unfold cd
      have hk' : k < x.cps.size := by simpa using hk
      rw [Array.getD_eq_getD_getElem?, Array.getElem?_eq_getElem hk']
      rw [Array.getElem?_toList, Array.getElem?_eq_getElem hk']; rfl
theorem no_quote {x : Str} (h : (Builtin.Str.occurrences x (Str.ofString "\"") 0 x.length 1).isEmpty = true) : 34 ∉ x.cps.toList := by
  intro hm
  have e := StrLaws.found_one x 34
  rw [decide_eq_true hm] at e
  change (!(Builtin.Str.occurrences x (chr1 34) 0 x.length 1).isEmpty) = true at e
  rw [← quote_is, h] at e
  cases e
theorem split_told {x : Str} (h : (Builtin.Str.occurrences x (Str.ofString "\"") 0 x.length 1).isEmpty = true) : Txt.split x (Str.ofString ".") = told x := split_told' (no_quote h)
end Mine
end
section
open PySem PySem.W PyProof.Rows
namespace Mine
section
variable {x : Str} {k : Nat} {st : Bool} {dn : List TR} {ca ca' : Addr} {cv cv' : List Value} {cn rn cn' rn' : Nat} {cw : List Nat} {ti ts ti' ts' : Tok}
theorem word_tog (hp : PS.word x ⟨k, st, dn, ca, cv, cn, cw, rn, ti, ts⟩) (h : k < x.length) (h1 : cd x k = 34) (h2 : ¬ (st = true ∧ k + 1 < x.length ∧ cd x (k + 1) = 34)) : PS.word x ⟨k + 1, !st, dn, ca', cv', cn', cw, rn', ti', ts'⟩ := by
  unfold PS.word at *
  dsimp only at *
  rw [pz_tog h h1 h2] at hp; exact hp
theorem word_dbl (hp : PS.word x ⟨k, true, dn, ca, cv, cn, cw, rn, ti, ts⟩) (h : k + 1 < x.length) (h1 : cd x k = 34) (h2 : cd x (k + 1) = 34) : PS.word x ⟨k + 2, true, dn, ca', cv', cn', cw ++ [34], rn', ti', ts'⟩ := by
  unfold PS.word at *
  dsimp only at *
  rw [pz_dbl h h1 h2] at hp; exact hp
theorem word_dot (hp : PS.word x ⟨k, false, dn, ca, cv, cn, cw, rn, ti, ts⟩) (h : k < x.length) (h1 : cd x k = 46) : PS.word x ⟨k + 1, false, dn ++ [⟨ca, cv, cn, cw⟩], ca', cv', cn', [], rn', ti', ts'⟩ := by
  unfold PS.word at *
  dsimp only at *
  rw [pz_dot h h1] at hp
  rw [List.map_append, List.append_assoc]; exact hp
theorem word_chr (hp : PS.word x ⟨k, st, dn, ca, cv, cn, cw, rn, ti, ts⟩) (h : k < x.length) (h1 : cd x k ≠ 34) (h2 : ¬ (cd x k = 46 ∧ st = false)) : PS.word x ⟨k + 1, st, dn, ca', cv', cn', cw ++ [cd x k], rn', ti', ts'⟩ := by
  unfold PS.word at *
  dsimp only at *
  rw [pz_chr h h1 h2] at hp; exact hp
theorem word_end (hp : PS.word x ⟨k, st, dn, ca, cv, cn, cw, rn, ti, ts⟩) (h : ¬ k < x.length) : (dn.map (·.ws) ++ [cw]).map txt = told x := by
  unfold PS.word at hp
  dsimp only at hp
  rw [pz_end h] at hp
  unfold told
  rw [hp]
end
theorem facts_dot {l rs ca : Addr} {news : List (Addr × Obj)} {x : Str} {k : Nat} {dn : List TR} {cv : List Value} {cn rn : Nat} {cw : List Nat} {ti ts : Tok} {st : Bool} (f1 : CharsAre cv cw) (f2 : ∀ p ∈ dn, CharsAre p.vs p.ws ∧ p.ws.length ≤ x.length) (f8 : cw.length ≤ k) (f3 : @Ne Nat rs ca)
    (f4 : ∀ p ∈ dn, (@Ne Nat p.a rs) ∧ (@Ne Nat p.a ca)) (f5 : ∀ p ∈ news, (@Ne Nat p.1 rs) ∧ (@Ne Nat p.1 ca)) (f7 : dn.length ≤ k)
    (lt : @LT.lt Nat _ rs l ∧ @LT.lt Nat _ ca l ∧ AllLt l (dn.map (fun (p : TR) => (p.a, listOf p.vs.toArray p.n)) ++ news)) (hk : k + 1 ≤ x.length) :
    PS.facts rs news x ⟨k + 1, st, dn ++ [⟨ca, cv, cn, cw⟩], l, [], 0, [], rn + 1, ti, ts⟩ := by
  have hm := allLt_mem lt.2.2
  refine ⟨.nil, ?_, by have := lt.1; show @Ne Nat rs l; omega, ?_, ?_, hk, ?_, Nat.zero_le _⟩
  · intro p hp
    rcases List.mem_append.mp hp with hp | hp
    · exact f2 p hp
    · rw [List.mem_singleton.mp hp]; exact ⟨f1, by show cw.length ≤ _; omega⟩
  · intro p hp
    rcases List.mem_append.mp hp with hp | hp
    · have h1 : @LT.lt Nat _ p.a l := hm (p.a, listOf p.vs.toArray p.n) (List.mem_append.mpr (.inl (List.mem_map.mpr ⟨p, hp, rfl⟩)))
      exact ⟨(f4 p hp).1, by show @Ne Nat p.a l; omega⟩
    · rw [List.mem_singleton.mp hp]
      exact ⟨Ne.symm f3, by have := lt.2.1; show @Ne Nat ca l; omega⟩
  · intro p hp
    have h1 : @LT.lt Nat _ p.1 l := hm p (List.mem_append.mpr (.inr hp))
    exact ⟨(f5 p hp).1, by show @Ne Nat p.1 l; omega⟩
  · show (dn ++ [_]).length ≤ k + 1
    rw [List.length_append]; simp; omega
theorem led_all (dn : List TR) (c : TR) : dn.map (fun p => Value.ref p.a) ++ [Value.ref c.a] = (dn ++ [c]).map (fun p => Value.ref p.a) := by simp
theorem led_at {all : List TR} {i : Nat} {v : Value} (h : (all.map (fun p => Value.ref p.a)).toArray[i]? = some v) : ∃ p, all[i]? = some p ∧ v = .ref p.a := by
  rw [List.getElem?_toArray, List.getElem?_map] at h
  cases e : all[i]? with
  | none => rw [e] at h; cases h
  | some p => rw [e] at h; exact ⟨p, rfl, (Option.some.inj h).symm⟩
theorem strs_take {all : List TR} {i : Nat} {p : TR} {ys : List Value} {t : Tok} (hp : all[i]? = some p) (h : StrsAre ys ((all.take i).map fun p => txt p.ws)) : StrsAre (ys ++ [.str (Txt.join (Str.ofString "") (p.ws.map chr1)) t]) ((all.take (i + 1)).map fun p => txt p.ws) := by
  rw [List.take_add_one, hp, List.map_append, glue_chars]
  exact h.append' (.cons _ _ .nil)
theorem led_at' {dn : List TR} {c : TR} {i : Nat} {v : Value} (h : (dn.map (fun p => Value.ref p.a) ++ [Value.ref c.a]).toArray[i]? = some v) : ∃ p, (dn ++ [c])[i]? = some p ∧ v = .ref p.a := by
  rw [led_all] at h; exact led_at h
/-- the quotes among the first k signs -/
def qn (c : Nat → Nat) : Nat → Nat
  | 0 => 0
  | k + 1 => qn c k + if c k = 34 then 1 else 0
theorem qn_le (c : Nat → Nat) : ∀ k, qn c k ≤ k
  | 0 => Nat.le_refl _
  | k + 1 => by have := qn_le c k; unfold qn; split <;> omega
/-- the counts told -/
def marks (x : Str) (n : Nat) : List Int := (List.range n).map fun k => (qn (cd x) k : Int)
theorem marks_succ (x : Str) (n : Nat) : marks x (n + 1) = marks x n ++ [(qn (cd x) n : Int)] := by
  unfold marks; rw [List.range_succ, List.map_append]; rfl
theorem code_here {x : Str} {pre post : List Int} {n : Nat} (h : KStt.codes x = pre ++ (n : Int) :: post) : cd x pre.length = n := by
  have e : (KStt.codes x)[pre.length]? = some (n : Int) := by rw [h]; simp
  unfold KStt.codes at e
  rw [List.getElem?_map] at e
  unfold cd
  cases e2 : x.cps.toList[pre.length]? with
  | none => rw [e2] at e; cases e
  | some v =>
    rw [e2] at e
    have e3 : v = n := by have e4 : (v : Int) = (n : Int) := Option.some.inj e; exact Int.ofNat.inj e4
    rw [Array.getElem?_toList] at e2
    rw [Array.getD_eq_getD_getElem?, e2, e3]; rfl
structure MS where
  vs : List Value
  n : Nat
  c : Nat
  tk : Tok
theorem own_off {own : List (Addr × Obj)} {tl : Addr} {o : Obj} {news : List (Addr × Obj)} (h1 : ∀ p ∈ news, (@Ne Nat p.1 tl)) (h2 : OwnOff own (((tl, o) :: news).map (·.1))) : ∀ p ∈ news ++ own, p.1 ≠ tl := by
  intro p hp
  rcases List.mem_append.mp hp with hp | hp
  · exact h1 p hp
  · exact h2 p hp tl (by simp)
/-- a name of the law's: from place k to the place high -/
def bare (c : Nat → Nat) (n high : Nat) (k : Nat) : List Nat :=
  if k < high then
    if c k = 34 then
      if qn c k % 2 = 1 ∧ k + 1 < n ∧ c (k + 1) = 34 then 34 :: bare c n high (k + 2)
      else bare c n high (k + 1)
    else c k :: bare c n high (k + 1)
  else []
termination_by high - k
section
variable {c : Nat → Nat} {n high k : Nat}
theorem bare_end (h : ¬ k < high) : bare c n high k = [] := by rw [bare, if_neg h]
theorem bare_dbl (h : k < high) (h1 : c k = 34) (h2 : qn c k % 2 = 1 ∧ k + 1 < n ∧ c (k + 1) = 34) : bare c n high k = 34 :: bare c n high (k + 2) := by
  rw [bare, if_pos h, if_pos h1, if_pos h2]
theorem bare_skip (h : k < high) (h1 : c k = 34) (h2 : ¬ (qn c k % 2 = 1 ∧ k + 1 < n ∧ c (k + 1) = 34)) : bare c n high k = bare c n high (k + 1) := by
  rw [bare, if_pos h, if_pos h1, if_neg h2]
theorem bare_chr (h : k < high) (h1 : c k ≠ 34) : bare c n high k = c k :: bare c n high (k + 1) := by
  rw [bare, if_pos h, if_neg h1]
end
theorem txt_snoc (t : List Nat) (c : Nat) : txt t ++ chr1 c = txt (t ++ [c]) := by
  refine PySem.Str.ext' (Array.toList_inj.mp ?_)
  rw [PySem.Str.cps_append]
  simp [chr1, txt]
theorem txt_length (t : List Nat) : (txt t).length = t.length := by simp [txt, PySem.Str.length]
theorem txt_nil : Str.ofString "" = txt [] := by decide +kernel
structure BS where
  k : Nat
  t : List Nat
  tt : Tok
  tk : Tok
section
variable {prog : Program} {w : World} {A : Around} {E : Value → Shared → Prop} {s : Shared} {h₀ : Heap} {L : Addr} {m : Str → Option Value} {news : List (Addr × Obj)}
/-- an item of a made list of ints -/
theorem int_item {value slice : PySem.Expr} {l : Addr} {vs : List Value} {ns : List Int} {v : Int} {n : Nat} {k : Nat} {u : Tok} {Q : Value → Shared → Prop} (N : News h₀ L s.heap news) (hm : (l, listOf vs.toArray n) ∈ news) (hi : IntsAre vs ns) (hk : ns[k]? = some v) (hf : k < 2 ^ 62) (h : ∀ t, Q (.int v t) s)
    (hs : subscripted slice false (.ref l) (.int (k : Int) u) = operate [.ref l, .int (k : Int) u] (getItem (.ref l) (.int (k : Int) u)) := by with_unfolding_all rfl) :
    wpAny (model prog w) A (subscriptTail value slice (.ref l) (.int (k : Int) u)) Q E s := by
  obtain ⟨t, e⟩ := hi.get k v hk
  exact tail_any (News.isList N hm).typeIs slot_list_getitem.lookup (wpAny_getItem_list (News.isList N hm) (by omega) (by omega) (by simpa using e) (h t)) hs
end
theorem marks_at {x : Str} {n k : Nat} (h : k < n) : (marks x n)[k]? = some (qn (cd x) k : Int) := by
  unfold marks; simp [h]
theorem is_nq {x : Str} {k : Nat} {b : Bool} (h : (k : Int) < (x.length : Int)) (e : (Txt.item x (k : Int) != Str.ofString "\"") = b) : decide (cd x k = 34) = !b := by
  have e' : (!(Txt.item x (k : Int) == Str.ofString "\"")) = b := e
  rw [item_cd h, chr1_eq quote_is] at e'
  rw [← e']; simp
theorem fmod2 (n : Nat) : (n : Int).fmod 2 = ((n % 2 : Nat) : Int) := by
  rw [Int.fmod_eq_emod_of_nonneg _ (by decide)]; omega
theorem off_cell {L : Addr} {news : List (Addr × Obj)} (l1 : ∀ p ∈ news, p.1 < L) : ∀ p ∈ news, p.1 ≠ L + 1 := fun p hp => Nat.ne_of_lt (Nat.lt_succ_of_lt (l1 p hp))
section
variable {prog : Program} {w : World} {A : Around} {E : Value → Shared → Prop} {s : Shared} {h₀ : Heap} {L : Addr} {m : Str → Option Value} {news : List (Addr × Obj)}
/-- an item of a made list of ints, at an int -/
theorem int_itemI {value slice : PySem.Expr} {l : Addr} {vs : List Value} {ns : List Int} {v k : Int} {n : Nat} {u : Tok} {Q : Value → Shared → Prop} (N : News h₀ L s.heap news) (hm : (l, listOf vs.toArray n) ∈ news) (hi : IntsAre vs ns) (h0 : 0 ≤ k) (hk : ns[k.toNat]? = some v) (hf : k < 2 ^ 62) (h : ∀ t, Q (.int v t) s)
    (hs : subscripted slice false (.ref l) (.int k u) = operate [.ref l, .int k u] (getItem (.ref l) (.int k u)) := by with_unfolding_all rfl) :
    wpAny (model prog w) A (subscriptTail value slice (.ref l) (.int k u)) Q E s := by
  obtain ⟨t, e⟩ := hi.get k.toNat v hk
  exact tail_any (News.isList N hm).typeIs slot_list_getitem.lookup (wpAny_getItem_list (News.isList N hm) (by omega) (by omega) (by simpa using e) (h t)) hs
end
theorem off_cell2 {L : Addr} {news : List (Addr × Obj)} (l1 : ∀ p ∈ news, p.1 < L) : ∀ p ∈ news, p.1 ≠ L + 1 + 1 := fun p hp => Nat.ne_of_lt (Nat.lt_succ_of_lt (Nat.lt_succ_of_lt (l1 p hp)))
end Mine
end
section
open PySem PySem.W PyProof.Rows
namespace Mine
local macro_rules | `(tactic| k_all) => `(tactic| exact own_off (by assumption) (by assumption))
local macro_rules | `(tactic| k_steps) => `(tactic| repeat' ((fail_if_success (with_reducible show wpAny _ _ (pyIter (Value.str _ _)) _ _ _)); first | (k_unfold; (try dsimp only)) | (k_end; wrow_close) | walk1 | (dsimp only; walk1) | fail "no step"))
theorem c_marks (w : World) (x : Str) (tx : Tok) (hx : x.length ≤ 1000) (news : List (Addr × Obj)) : Says w 34 [.str x tx] 1 8 news (OutInts news (marks x x.length)) := by
  unfold Says
  k_with_none
  w_top off
  k_fill
  intro loose mean mg mb dp un gd cn cs a ccd cl outer A₀ base h₀ L m s Q E B F X N T hk hd hu hret
  refine wpAny_call ?_
  k_dflt cell_enter
  k_with "pyIter str" => skip
  k_steps
  rename_i tl _ l1 _ _ l2 _ _ _ F1 N1
  have hne : ∀ p ∈ news, (@Ne Nat p.1 tl) := fun p hp => Nat.ne_of_lt (l1 p hp)
  refine' KStt.kst_text (fun c : MS => (tl, listOf c.vs.toArray c.n) :: news) (fun c => [(Str.ofString "count", .int c.c c.tk)]) (fun _ => True) [] (fun pre c => IntsAre c.vs (marks x pre.length) ∧ c.c = qn (cd x) pre.length) ⟨[], 0, 0, ?wt1⟩ (by rfl) F1 ?wn ?wf ?wk ?wp ?_ ?_
  case wk => kst_all
  case wn => exact cb_drop N1 fun p hp => List.mem_cons_of_mem _ hp
  case wf => trivial
  case wp => exact ⟨.nil, rfl⟩
  · clear F1 N1 l1 l2
    rintro ⟨vs, vn, vc, vt⟩ pre post n t u h tk own hcode hown - ⟨hvs, hvc⟩ F N
    dsimp only [kstB] at hown hvs hvc F N
    rw [List.cons_append] at N
    have hcd := code_here hcode
    have hlen : pre.length + post.length + 1 = x.length := by
      have := congrArg List.length hcode
      rw [KStt.codes_length] at this
      simp at this; omega
    have hq := qn_le (cd x) pre.length
    subst hvc
    have hsz : vs.toArray.size ≤ sizeLine := by
      have := hvs.length
      rw [sizeLine_eq, List.size_toArray]
      simp [marks] at this
      omega
    k_with "call builtin:list.append" => (refine append_K (by assumption) (by assumption) (Upd.head (own_off hne hown)) ?_ hsz; intro h' F' N')
    k_unmd
    k_fold
    k_steps
    · rename News _ _ _ _ => nE'
      rename ((_ == _) = _) => hq1
      rw [List.push_toArray] at nE'
      have hqs : qn (cd x) (pre.length + 1) = qn (cd x) pre.length + 1 := by
        have e : ((chr1 n) == Str.ofString "\"") = _ := hq1
        rw [chr1_eq quote_is] at e
        show qn (cd x) pre.length + (if cd x pre.length = 34 then 1 else 0) = _
        rw [hcd]
        simp [of_decide_eq_true e]
      refine' InvEndN.intro (by assumption) nE' ⟨⟨vs ++ [.int (qn (cd x) pre.length) vt], vn + 1, qn (cd x) pre.length + 1, ?w1ta⟩, rfl, trivial, ?wka, by kst_same, ?wpa⟩ rfl ?wha ?woa
      case wka => kst_all
      case wpa =>
        dsimp only
        rw [List.length_append, List.length_singleton]
        refine ⟨?_, hqs.symm⟩
        rw [marks_succ]
        exact hvs.append (.cons _ _ .nil)
      case wha =>
        intro p hp
        rcases List.mem_cons.mp hp with e | hp
        · rw [e]; exact List.mem_cons_self ..
        · exact List.mem_cons_of_mem _ (List.mem_append.mpr (.inl hp))
      case woa => exact fun p hp => List.mem_cons_of_mem _ (List.mem_append.mpr (.inr hp))
    · rename News _ _ _ _ => nE'
      rename ((_ == _) = _) => hq1
      rw [List.push_toArray] at nE'
      have hqs : qn (cd x) (pre.length + 1) = qn (cd x) pre.length := by
        have e : ((chr1 n) == Str.ofString "\"") = _ := hq1
        rw [chr1_eq quote_is] at e
        show qn (cd x) pre.length + (if cd x pre.length = 34 then 1 else 0) = _
        rw [hcd]
        simp [of_decide_eq_false e]
      refine' InvEndN.intro (by assumption) nE' ⟨⟨vs ++ [.int (qn (cd x) pre.length) vt], vn + 1, qn (cd x) pre.length, ?w1tb⟩, rfl, trivial, ?wkb, by kst_same, ?wpb⟩ rfl ?whb ?wob
      case wkb => kst_all
      case wpb =>
        dsimp only
        rw [List.length_append, List.length_singleton]
        refine ⟨?_, hqs.symm⟩
        rw [marks_succ]
        exact hvs.append (.cons _ _ .nil)
      case whb =>
        intro p hp
        rcases List.mem_cons.mp hp with e | hp
        · rw [e]; exact List.mem_cons_self ..
        · exact List.mem_cons_of_mem _ (List.mem_append.mpr (.inl hp))
      case wob => exact fun p hp => List.mem_cons_of_mem _ (List.mem_append.mpr (.inr hp))
  · clear F1 N1 l1 l2
    rintro ⟨vs, vn, vc, vt⟩ u h tk - ⟨hvs, hvc⟩ F N
    dsimp only [kstB] at hvs hvc F N
    rw [KStt.codes_length] at hvs
    k_steps
    exact hret _ _ _ _ (by k_asm) (by k_asm) ⟨tl, vs, vn, rfl, rfl, hvs, hne⟩
end Mine
end
section
open PySem PySem.W PyProof.Rows
namespace Mine
local macro_rules | `(tactic| k_steps) => `(tactic| repeat' ((fail_if_success (with_reducible show wpAny _ _ (exec (Stmt.While _ _ _ _) _) _ _ _)); first | (k_unfold; (try dsimp only)) | (k_end; wrow_close) | walk1 | (dsimp only; walk1) | fail "no step"))
theorem c_bare (w : World) (x : Str) (tx : Tok) (hx : x.length ≤ 1000) (lo hi : Nat) (tlo thi : Tok) (hlo : lo ≤ x.length) (hhi : hi ≤ x.length) (news : List (Addr × Obj)) :
    Says w 51 [.str x tx, .int (lo : Int) tlo, .int (hi : Int) thi] 2 30 news (fun r led' => led' = news ∧ ∃ t, r = .str (txt (bare (cd x) x.length hi lo)) t) := by
  unfold Says
  k_with_none
  w_top off
  k_fill
  intro loose mean mg mb dp un gd cn cs a ccd cl outer A₀ base h₀ L m s Q E B F X N T hk hd hu hret
  refine wpAny_call ?_
  k_dflt cell_enter
  k_with "call ref" => (refine' says_use (c_marks w x _ hx _) ?k1 ?k2 ?k3 ?k4 ?k5 ?kK ?kd ?ku ?_; (case k1 => k_asm); (case k2 => k_asm); (case k3 => k_asm); (case k4 => k_asm); (case k5 => k_asm); (case kK => exact rfl); (case kd => ktr_room); (case ku => ktr_units); rintro r9 led9 h9 tk9 F9 N9 ⟨ma, mv, mn, rfl, rfl, hms, hmo⟩; (try dsimp only); (try k_fold))
  k_steps
  rename News _ _ _ _ => N1
  rename Fr _ _ _ _ => F1
  refine' ksw_while (fun _ : BS => (ma, listOf mv.toArray mn) :: news) (fun c => [(Str.ofString "told", .str (txt c.t) c.tt), (Str.ofString "k", .int c.k c.tk)]) (fun c => c.k ≤ x.length ∧ c.t.length ≤ c.k) [] (fun c => c.t ++ bare (cd x) x.length hi c.k = bare (cd x) x.length hi lo) (fun c => hi - c.k) ⟨lo, [], ?wt1, ?wt2⟩ F1 ?wn ?wf ?wk ?wp ?_
  case wk => rw [← txt_nil]; kst_all
  case wn => exact cb_drop N1 fun p hp => List.mem_cons_of_mem _ hp
  case wf => exact ⟨hlo, Nat.zero_le _⟩
  case wp => exact rfl
  clear F1 N1
  rintro ⟨k, t, tt, ti⟩ u h tk ⟨f1, f2⟩ hp F N
  dsimp only [kstB] at F N f1 f2 hp
  dsimp only
  have hsz : (txt t).length ≤ 1000 := by rw [txt_length]; omega
  k_with "subscriptTail" => (refine int_item (by assumption) (by k_mem) hms (marks_at (by omega)) (by omega) ?_; intro t9)
  k_unmd
  k_fold
  k_steps
  · rename News _ _ _ _ => nE'
    rename Fr _ _ _ _ => nF'
    rw [item_cd (by omega), txt_snoc] at nF'
    refine' ksw_end ⟨k + 1, t ++ [cd x k], ?w1ta, ?w2ta⟩ nF' (cb_drop nE' fun p hp => List.mem_cons_of_mem _ hp) (fun p hp => hp) ?wfa ?wka (by ksw_same) ?wpa ?wma
    case wka => kst_all
    case wma => (dsimp only; omega)
    case wfa => exact ⟨by dsimp only; omega, by simp only [List.length_append, List.length_cons, List.length_nil]; omega⟩
    case wpa =>
      dsimp only
      rw [← hp, bare_chr (c := cd x) (n := x.length) (high := hi) (k := k) (by omega) (of_decide_eq_false (is_nq (b := true) (by omega) (by assumption)))]
      simp
  · rename News _ _ _ _ => nE'
    rename Fr _ _ _ _ => nF'
    rw [quote_is, txt_snoc] at nF'
    refine' ksw_end ⟨k + 2, t ++ [34], ?w1tb, ?w2tb⟩ nF' (cb_drop nE' fun p hp => List.mem_cons_of_mem _ hp) (fun p hp => hp) ?wfb ?wkb (by ksw_same) ?wpb ?wmb
    case wkb => kst_all
    case wmb => (dsimp only; omega)
    case wfb => exact ⟨by dsimp only; omega, by simp only [List.length_append, List.length_cons, List.length_nil]; omega⟩
    case wpb =>
      dsimp only
      rw [← hp, bare_dbl (c := cd x) (n := x.length) (high := hi) (k := k) (by omega) (of_decide_eq_true (is_nq (b := false) (by omega) (by assumption))) ⟨by have h9 := fmod2 (qn (cd x) k); omega, by omega, of_decide_eq_true (is_q1 (b := true) (by omega) (by assumption))⟩]
      simp
  · rename News _ _ _ _ => nE'
    rename Fr _ _ _ _ => nF'
    refine' ksw_end ⟨k + 1, t, ?w1tc, ?w2tc⟩ nF' (cb_drop nE' fun p hp => hp) (fun p hp => hp) ?wfc ?wkc (by ksw_same) ?wpc ?wmc
    case wkc => kst_all
    case wmc => (dsimp only; omega)
    case wfc => exact ⟨by dsimp only; omega, by dsimp only; omega⟩
    case wpc =>
      dsimp only
      rw [← hp, bare_skip (c := cd x) (n := x.length) (high := hi) (k := k) (by omega) (of_decide_eq_true (is_nq (b := false) (by omega) (by assumption))) (fun h => absurd h.2.2 (of_decide_eq_false (is_q1 (b := false) (by omega) (by assumption))))]

  · rename News _ _ _ _ => nE'
    rename Fr _ _ _ _ => nF'
    refine' ksw_end ⟨k + 1, t, ?w1td, ?w2td⟩ nF' (cb_drop nE' fun p hp => hp) (fun p hp => hp) ?wfd ?wkd (by ksw_same) ?wpd ?wmd
    case wkd => kst_all
    case wmd => (dsimp only; omega)
    case wfd => exact ⟨by dsimp only; omega, by dsimp only; omega⟩
    case wpd =>
      dsimp only
      rw [← hp, bare_skip (c := cd x) (n := x.length) (high := hi) (k := k) (by omega) (of_decide_eq_true (is_nq (b := false) (by omega) (by assumption))) (fun h => absurd h.2.1 (by omega))]

  · rename News _ _ _ _ => nE'
    rename Fr _ _ _ _ => nF'
    refine' ksw_end ⟨k + 1, t, ?w1te, ?w2te⟩ nF' (cb_drop nE' fun p hp => hp) (fun p hp => hp) ?wfe ?wke (by ksw_same) ?wpe ?wme
    case wke => kst_all
    case wme => (dsimp only; omega)
    case wfe => exact ⟨by dsimp only; omega, by dsimp only; omega⟩
    case wpe =>
      dsimp only
      rw [← hp, bare_skip (c := cd x) (n := x.length) (high := hi) (k := k) (by omega) (of_decide_eq_true (is_nq (b := false) (by omega) (by assumption))) (fun h => absurd h.1 (by have h9 := fmod2 (qn (cd x) k); omega))]

  · rw [bare_end (k := k) (high := hi) (by omega), List.append_nil] at hp
    rw [hp]
    exact hret _ _ _ _ (by k_asm) (cb_drop (by assumption) fun p hp => List.mem_cons_of_mem _ hp) ⟨rfl, _, rfl⟩
theorem c_bareI (w : World) (x : Str) (tx : Tok) (hx : x.length ≤ 1000) (lo hi : Int) (tlo thi : Tok) (l0 : 0 ≤ lo) (hlo : lo ≤ x.length) (h0 : 0 ≤ hi) (hhi : hi ≤ x.length) (news : List (Addr × Obj)) :
    Says w 51 [.str x tx, .int lo tlo, .int hi thi] 2 30 news (fun r led' => led' = news ∧ ∃ t, r = .str (txt (bare (cd x) x.length hi.toNat lo.toNat)) t) := by
  obtain ⟨a, rfl⟩ := Int.eq_ofNat_of_zero_le l0
  obtain ⟨b, rfl⟩ := Int.eq_ofNat_of_zero_le h0
  exact c_bare w x tx hx a b tlo thi (by omega) (by omega) news
end Mine
end
section
open PySem PySem.W PyProof.Rows PySem.Calls
namespace Mine
open PyProof.Rows.LCg
/-- the places below n that pass -/
def sel (p : Nat → Bool) (n : Nat) : List Int := ((List.range n).filter p).map fun (k : Nat) => (k : Int)
theorem sel_yes {p : Nat → Bool} {n : Nat} (h : p n = true) : sel p (n + 1) = sel p n ++ [(n : Int)] := by
  unfold sel; rw [List.range_succ, List.filter_append]; simp [h]
theorem sel_no {p : Nat → Bool} {n : Nat} (h : p n = false) : sel p (n + 1) = sel p n := by
  unfold sel; rw [List.range_succ, List.filter_append]; simp [h]
theorem sel_length (p : Nat → Bool) (n : Nat) : (sel p n).length ≤ n := by
  unfold sel
  rw [List.length_map]
  exact Nat.le_trans (List.length_filter_le _ _) (by simp)
section
variable {prog : Program} {w : World} {A : Around} {E : Value → Shared → Prop} {s : Shared} {h₀ : Heap} {L : Addr} {m : Str → Option Value} {env : Env}
theorem enum_block {elt iter ct : PySem.Expr} {a b : Str} {pa pb tp : Pos} {kk : Nat} {scope : Scope} {cl : List (Str × Addr)} {pos : Pos} {x : Str} {s₂ : Shared} {e it : Addr} {news : List (Addr × Obj)} {St : Nat → Heap → Prop} {Mid : Nat → Addr → Heap → Prop}
    {RR : Value → Addr → Result → Shared → Prop} (p : Nat → Bool) (hh : A.handled = none) (hsz : x.cps.size ≤ sizeLine)
    (W : WalksT prog w A e (e :: [it]) [e, it] x.cps.size (fun i vals => ∃ t v, (∃ c u, x.cps[i]? = some c ∧ v = Value.str ⟨#[c]⟩ u) ∧ vals = #[.int (i : Int) t, v]) St Mid) (st0 : St 0 s₂.heap)
    (hcell : ∀ y ∈ scope.names, y.2 ≠ .cell) (hkind : scope.kind = .function) (hxa : scope.names.lookup a = some .local) (hxb : scope.names.lookup b = some .local) (hab : ¬ a = b)
    (F : Fr h₀ L s₂.heap m) (N : News h₀ L s₂.heap news) (he : e < s₂.heap.objs.size) (hi : it < s₂.heap.objs.size) (hLe : L ≠ e) (hLi : L ≠ it) (he₀ : h₀.get? e = none) (hi₀ : h₀.get? it = none) (off : ∀ q ∈ news, q.1 ≠ e ∧ q.1 ≠ it)
    (test : ∀ (i c : Nat) (t u : Tok) (C : Addr) (oC : Obj) (m₂ : Str → Option Value) (h : Heap) (tk : Nat) (E' : Value → Shared → Prop), x.cps[i]? = some c → NsObj oC m₂ → m₂ a = some (.int (i : Int) t) → m₂ b = some (.str ⟨#[c]⟩ u) → Fr h₀ L h m → News h₀ L h ((C, oC) :: news) →
      wpAny (model prog w) A (isTrue ct (compEnvC scope cl C env) (eval ct (compEnvC scope cl C env))) (fun ok s' => (∃ tk' : Nat, s' = { s₂ with heap := h, toks := tk' }) ∧ ok = p i) E' { s₂ with heap := h, toks := tk })
    (el : ∀ (i c : Nat) (t u : Tok) (C : Addr) (oC : Obj) (m₂ : Str → Option Value) (h : Heap) (tk : Nat) (E' : Value → Shared → Prop), x.cps[i]? = some c → NsObj oC m₂ → m₂ a = some (.int (i : Int) t) → m₂ b = some (.str ⟨#[c]⟩ u) → Fr h₀ L h m → News h₀ L h ((C, oC) :: news) →
      wpAny (model prog w) A (eval elt (compEnvC scope cl C env)) (fun y s' => (∃ tk' : Nat, s' = { s₂ with heap := h, toks := tk' }) ∧ ∃ t' : Tok, y = .int (i : Int) t') E' { s₂ with heap := h, toks := tk })
    (hRR : ∀ (D C : Addr) (h : Heap) (tk : Nat) (m' : Str → Option Value) (ys : List Value), Fr h₀ L h m → News h₀ L h ((D, lst ys) :: news) → (∀ q ∈ news, q.1 ≠ D) → h.Ns C m' → h₀.get? C = none → C ≠ L → D ≠ C → (∀ q ∈ news, q.1 ≠ C) → IntsAre ys (sel p x.cps.size) → RR (.ref D) C (.ok .next) { s₂ with heap := h, toks := tk }) :
    wpAny (model prog w) A (newList []) (fun acc s₃ => wpAny (model prog w) A (newFunctionEnv scope env.globals cl [] env.qual none .none (some env)) (fun cenv s₄ =>
      codeAny (model prog w) A (.compStart (.ListComp elt [⟨.Tuple [.Name a pa, .Name b pb] kk tp, iter, [ct], 0⟩] scope pos) 0 (.ref e) acc { cenv with scope := relabel scope env }) (RR acc cenv.locals) s₄) E s₃) E s₂ := by
  refine wpAny_newObj_type (wpAny_newFunctionEnv hcell (by intro y hy; simp at hy) (fun h₁ hns₁ hsb₁ => ?_) hkind)
  dsimp only at hns₁ hsb₁ ⊢
  generalize hD : s₂.heap.objs.size = D at *
  generalize hH2 : s₂.heap.push { cls := .type "list", dict := none, data := .seq ([] : List Value).toArray } = H2 at hns₁ hsb₁ ⊢
  generalize hC : H2.objs.size = C at *
  have hCD : C = D + 1 := by rw [← hC, ← hH2, Heap.size_push, hD]
  have lt : ∀ {c : Nat} {o : Obj}, s₂.heap.get? c = some o → c < D := fun q => hD ▸ Heap.lt_size q
  have up1 : ∀ (c : Nat) o, s₂.heap.get? c = some o → h₁.get? c = some o := fun c o q => hsb₁.extBut c o (by have := lt q; show @Ne Nat c C; omega) (Heap.get?_push_of_some _ (hH2 ▸ Heap.get?_push_of_some _ q))
  have hacc : h₁.get? D = some (lst []) := hsb₁.extBut _ _ (by show @Ne Nat D C; omega) (Heap.get?_push_of_some _ (by rw [← hH2, ← hD]; exact Heap.get?_push_size _ rfl))
  have fresh₀ : ∀ c : Nat, D ≤ c → h₀.get? c = none := fun c hc => by
    cases q : h₀.get? c with
    | none => rfl
    | some o => have := lt (F.keep c o q); omega
  have hD₀ := fresh₀ D (Nat.le_refl _)
  have hC₀ := fresh₀ C (by omega)
  have hLlt : @LT.lt Nat _ L D := hD ▸ F.ns.lt
  have he' : @LT.lt Nat _ e D := hD ▸ he
  have hi' : @LT.lt Nat _ it D := hD ▸ hi
  have ne : ∀ {c d : Nat}, c < d → c ≠ d := fun h => Nat.ne_of_lt h
  have ne' : ∀ {c d : Nat}, d < c → c ≠ d := fun h => Nat.ne_of_gt h
  have offn : ∀ q ∈ news, @LT.lt Nat _ q.1 D := fun q hq => lt (N q hq).1
  have st1 : St 0 h₁ := W.frame _ _ _ st0 fun c _ o q => up1 c o q
  have loop : ∀ s₃ : Shared, s₃ = { s₂ with heap := h₁, toks := s₂.toks + ([] : List (Str × Value)).length } →
      codeAny (model prog w) A (.compLoop (.ListComp elt [⟨.Tuple [.Name a pa, .Name b pb] kk tp, iter, [ct], 0⟩] scope pos) 0 (.ref e) (.ref D) (compEnvC scope cl C env)) (RR (.ref D) C) s₃ := by
    rintro s₃ rfl
    refine kct_loop (fun k s' => ∃ h' tk i ys m', s' = { s₂ with heap := h', toks := tk } ∧ i ≤ x.cps.size ∧ k = x.cps.size + 1 - i ∧ St i h' ∧ Fr h₀ L h' m ∧ h'.Ns C m' ∧ News h₀ L h' ((D, lst ys) :: news) ∧ IntsAre ys (sel p i)) ?_ (x.cps.size + 1)
      ⟨h₁, _, 0, [], _, rfl, Nat.zero_le _, rfl, st1, F.keeps up1, hns₁, fun q hq => ?_, .nil⟩
    · rintro k s' ⟨h', tk, i, ys, m', rfl, hin, rfl, st', F', hn', N', hys⟩
      by_cases hlt : i < x.cps.size
      · refine W.item i _ _ _ hlt st' fun T vals h₂ tk₂ hP hTle hT hM hk₂ => ?_
        refine W.go _ _ _ i T _ _ _ hM fun h₃ st₃ hk₃ => ?_
        have hTw := W.apart _ _ _ hM
        have hT₃ : Heap.IsTuple h₃ T vals := by obtain ⟨o, q, r⟩ := hT; exact ⟨o, hk₃ T o hTw q, r⟩
        obtain ⟨t, v, ⟨c, u, hc, rfl⟩, rfl⟩ := hP
        have up3 : ∀ c o, c ≠ e → c ≠ it → h'.get? c = some o → h₃.get? c = some o := fun c o n1 n2 q => hk₃ c o (by simp [n1, n2]) (hk₂ c o (by simp [n1, n2]) q)
        refine kcp_assign (env := compEnvC scope cl C env) hh hT₃ (lookup_relabel_local hxa) (lookup_relabel_local hxb) (by simp [compEnvC, relabel, hkind]) (hn'.at' fun o q => up3 _ o (by show @Ne Nat C e; omega) (by show @Ne Nat C it; omega) q) fun h₄ tk₄ hn₄ hs₄ => ?_
        have up4 : ∀ c o, c ≠ e → c ≠ it → c ≠ C → h'.get? c = some o → h₄.get? c = some o := fun c o n1 n2 n3 q => hs₄ c o n3 (up3 c o n1 n2 q)
        obtain ⟨oC, heC, hoC⟩ := ns_obj hn₄
        have F₄ : Fr h₀ L h₄ m := ⟨F'.ns.at' fun o q => up4 L o hLe hLi (by show @Ne Nat L C; omega) q, fun c o q => up4 c o (fun z => by rw [z, he₀] at q; cases q) (fun z => by rw [z, hi₀] at q; cases q) (fun z => by rw [z, hC₀] at q; cases q) (F'.keep c o q), F'.above⟩
        have N₄ : News h₀ L h₄ ((D, lst ys) :: news) := fun q hq => by
          have z := N' q hq
          have z1 : q.1 ≠ e ∧ q.1 ≠ it ∧ q.1 ≠ C := by
            rcases List.mem_cons.mp hq with rfl | hq
            · exact ⟨by show @Ne Nat D e; omega, by show @Ne Nat D it; omega, by show @Ne Nat D C; omega⟩
            · have := offn q hq
              exact ⟨(off q hq).1, (off q hq).2, by show @Ne Nat q.1 C; omega⟩
          exact ⟨up4 _ _ z1.1 z1.2.1 z1.2.2 z.1, z.2⟩
        have N₄C : News h₀ L h₄ ((C, oC) :: news) := fun q hq => by
          rcases List.mem_cons.mp hq with rfl | hq
          · exact ⟨heC, by show @Ne Nat C L; omega, hC₀⟩
          · exact N₄ q (List.mem_cons_of_mem _ hq)
        have st₄ : St (i + 1) h₄ := W.frame _ _ _ st₃ fun c hc' o q => hs₄ c o (fun z => by
          have z' : @Eq Nat c C := z
          rcases List.mem_cons.mp hc' with q1 | q1
          · have q2 : @Eq Nat c e := q1; omega
          · have q2 : @Eq Nat c it := List.mem_singleton.mp q1; omega) q
        refine wpAny_mono (test i c t u C oC _ h₄ _ _ hc hoC (by simp [hab]) (by simp) F₄ N₄C) (fun ok s₅ h₅ => ?_) fun _ _ q => q
        obtain ⟨⟨tk₅, rfl⟩, hok⟩ := h₅
        cases ok with
        | false =>
          simp only [Bool.false_eq_true, if_false]
          exact ⟨x.cps.size + 1 - (i + 1), by omega, h₄, tk₅, i + 1, ys, _, rfl, hlt, rfl, st₄, F₄, hn₄, N₄, by rw [sel_no hok.symm]; exact hys⟩
        | true =>
          simp only [if_true]
          refine wpAny_mono (el i c t u C oC _ h₄ _ _ hc hoC (by simp [hab]) (by simp) F₄ N₄C) (fun y s₆ h₆ => ?_) fun _ _ q => q
          obtain ⟨⟨tk₆, rfl⟩, t', rfl⟩ := h₆
          have zD := (N₄ (D, lst ys) List.mem_cons_self)
          refine append_at (hsz := by show ys.toArray.size ≤ sizeLine; rw [List.size_toArray, hys.length]; exact Nat.le_trans (sel_length p i) (Nat.le_trans hin hsz)) zD.1 fun h₆ hs₆ hD₆ => ?_
          refine ⟨x.cps.size + 1 - (i + 1), by omega, h₆, tk₆, i + 1, ys ++ [.int (i : Int) t'], _, rfl, hlt, rfl, W.frame _ _ _ st₄ fun c hc' o q => hs₆.extBut c o (fun z => by
            have z' : @Eq Nat c D := z
            rcases List.mem_cons.mp hc' with q1 | q1
            · have q2 : @Eq Nat c e := q1; omega
            · have q2 : @Eq Nat c it := List.mem_singleton.mp q1; omega) q, F₄.change hs₆ zD.2.1 hD₀, hn₄.sameBut hs₆ (by show @Ne Nat C D; omega), fun q hq => ?_, ?_⟩
          · rcases List.mem_cons.mp hq with rfl | hq
            · exact ⟨hD₆.trans (congrArg some (lst_snoc ys _)), zD.2.1, hD₀⟩
            · have z := N₄ q (List.mem_cons_of_mem _ hq)
              exact ⟨hs₆.extBut _ _ (by have := offn q hq; show @Ne Nat q.1 D; omega) z.1, z.2⟩
          · rw [sel_yes hok.symm]
            exact hys.append (.cons _ _ .nil)
      · have hi9 : i = x.cps.size := Nat.le_antisymm hin (Nat.not_lt.mp hlt)
        subst hi9
        refine W.done _ _ _ st' fun h₂ tk₂ hk₂ => ?_
        have up2 : ∀ c o, c ≠ e → c ≠ it → h'.get? c = some o → h₂.get? c = some o := fun c o n1 n2 q => hk₂ c o (by simp [n1, n2]) q
        refine hRR D C h₂ tk₂ m' ys ⟨F'.ns.at' fun o q => up2 L o hLe hLi q, fun c o q => up2 c o (fun z => by rw [z, he₀] at q; cases q) (fun z => by rw [z, hi₀] at q; cases q) (F'.keep c o q), F'.above⟩ (fun q hq => ?_) (fun q hq => by have := offn q hq; show @Ne Nat q.1 D; omega) (hn'.at' fun o q => up2 C o (by show @Ne Nat C e; omega) (by show @Ne Nat C it; omega) q) hC₀ (by show @Ne Nat C L; omega) (by show @Ne Nat D C; omega) (fun q hq => by have := offn q hq; show @Ne Nat q.1 C; omega) hys
        have z := N' q hq
        have z1 : q.1 ≠ e ∧ q.1 ≠ it := by
          rcases List.mem_cons.mp hq with rfl | hq
          · exact ⟨by show @Ne Nat D e; omega, by show @Ne Nat D it; omega⟩
          · exact off q hq
        exact ⟨up2 _ _ z1.1 z1.2 z.1, z.2⟩
    · rcases List.mem_cons.mp hq with rfl | hq
      · exact ⟨hacc, by show @Ne Nat D L; omega, hD₀⟩
      · exact ⟨up1 _ _ (N q hq).1, (N q hq).2⟩
  exact codeAny_compStart_list (loop _ rfl) (W.self 0 _ _ _ st1 (loop _ rfl))
def EnSrc (prog : Program) (w : World) (A : Around) (h₀ : Heap) (L : Addr) (m : Str → Option Value) (env : Env) (ct elt : PySem.Expr) (a b : Str) (scope : Scope) (cl : List (Str × Addr)) (x : Str) (p : Nat → Bool) (Q : Value → Shared → Prop) (xv : Value) (s₁ : Shared) : Prop :=
  ∃ e it news St Mid, xv = .ref e ∧ A.handled = none ∧ x.cps.size ≤ sizeLine ∧
    WalksT prog w A e (e :: [it]) [e, it] x.cps.size (fun i vals => ∃ t v, (∃ c u, x.cps[i]? = some c ∧ v = Value.str ⟨#[c]⟩ u) ∧ vals = #[.int (i : Int) t, v]) St Mid ∧ St 0 s₁.heap ∧
    Fr h₀ L s₁.heap m ∧ News h₀ L s₁.heap news ∧ e < s₁.heap.objs.size ∧ it < s₁.heap.objs.size ∧ L ≠ e ∧ L ≠ it ∧ h₀.get? e = none ∧ h₀.get? it = none ∧ (∀ q ∈ news, q.1 ≠ e ∧ q.1 ≠ it) ∧
    (∀ (i c : Nat) (t u : Tok) (C : Addr) (oC : Obj) (m₂ : Str → Option Value) (h : Heap) (tk : Nat) (E' : Value → Shared → Prop), x.cps[i]? = some c → NsObj oC m₂ → m₂ a = some (.int (i : Int) t) → m₂ b = some (.str ⟨#[c]⟩ u) → Fr h₀ L h m → News h₀ L h ((C, oC) :: news) →
      wpAny (model prog w) A (isTrue ct (compEnvC scope cl C env) (eval ct (compEnvC scope cl C env))) (fun ok s' => (∃ tk' : Nat, s' = { s₁ with heap := h, toks := tk' }) ∧ ok = p i) E' { s₁ with heap := h, toks := tk }) ∧
    (∀ (i c : Nat) (t u : Tok) (C : Addr) (oC : Obj) (m₂ : Str → Option Value) (h : Heap) (tk : Nat) (E' : Value → Shared → Prop), x.cps[i]? = some c → NsObj oC m₂ → m₂ a = some (.int (i : Int) t) → m₂ b = some (.str ⟨#[c]⟩ u) → Fr h₀ L h m → News h₀ L h ((C, oC) :: news) →
      wpAny (model prog w) A (eval elt (compEnvC scope cl C env)) (fun y s' => (∃ tk' : Nat, s' = { s₁ with heap := h, toks := tk' }) ∧ ∃ t' : Tok, y = .int (i : Int) t') E' { s₁ with heap := h, toks := tk }) ∧
    (∀ (D : Addr) (h : Heap) (tk : Nat) (ys : List Value), Fr h₀ L h m → News h₀ L h ((D, lst ys) :: news) → (∀ q ∈ news, (@Ne Nat q.1 D)) → IntsAre ys (sel p x.cps.size) → Q (.ref D) { s₁ with heap := h, toks := tk })
theorem enum_ListComp {elt iter ct : PySem.Expr} {a b : Str} {pa pb tp : Pos} {kk : Nat} {scope : Scope} {cl : List (Str × Addr)} {pos : Pos} {x : Str} {Q : Value → Shared → Prop} (p : Nat → Bool) (_F : Fr h₀ L s.heap m)
    (hclos : closureFor scope env = pure cl) (hcell : ∀ y ∈ scope.names, y.2 ≠ .cell) (hkind : scope.kind = .function)
    (hnames : ∀ y ∈ scope.names, y.2 = .local → scope.names.lookup y.1 = some .local) (hxa : scope.names.lookup a = some .local) (hxb : scope.names.lookup b = some .local) (hab : ¬ a = b)
    (h : wpAny (model prog w) A (eval iter env) (EnSrc prog w A h₀ L m env ct elt a b scope cl x p Q) E s)
    (hs : ∀ x, foldedSetIterable iter env x = pure x := by intro _; rfl) :
    wpAny (model prog w) A (eval (.ListComp elt [⟨.Tuple [.Name a pa, .Name b pb] kk tp, iter, [ct], 0⟩] scope pos) env) Q E s := by
  rw [eval_ListComp]
  refine wpAny_comprehension_free (use := none) rfl hs hclos hkind hnames (wpAny_mono h (fun xv s₁ h₁ => ?_) fun _ _ e => e)
  obtain ⟨e, it, news, St, Mid, rfl, hh, hsz, W, st0, F, N, he, hi, hLe, hLi, he₀, hi₀, off, test, el, fin⟩ := h₁
  refine W.self 0 _ _ _ st0 ?_
  refine enum_block p hh hsz W st0 hcell hkind hxa hxb hab F N he hi hLe hLi he₀ hi₀ off test el ?_
  intro D C h tk m' ys F' N' offD hn hC₀ hCL hDC offC hys
  refine ⟨m', hn, fun h'' hs'' => fin D h'' tk ys (F'.change hs'' hCL hC₀) (fun q hq => ?_) offD hys⟩
  refine ⟨hs''.extBut _ _ ?_ (N' q hq).1, (N' q hq).2⟩
  rcases List.mem_cons.mp hq with rfl | hq
  · exact hDC
  · exact offC q hq
theorem enum_src {elt ct : PySem.Expr} {a b : Str} {scope : Scope} {cl : List (Str × Addr)} {x : Str} {tx : Tok} {Q : Value → Shared → Prop} {news : List (Addr × Obj)} (p : Nat → Bool) (hh : A.handled = none) (hsz : x.cps.size ≤ sizeLine)
    (F : Fr h₀ L s.heap m) (N : News h₀ L s.heap news)
    (test : ∀ (i c : Nat) (t u : Tok) (C : Addr) (oC : Obj) (m₂ : Str → Option Value) (h : Heap) (tk : Nat) (E' : Value → Shared → Prop), x.cps[i]? = some c → NsObj oC m₂ → m₂ a = some (.int (i : Int) t) → m₂ b = some (.str ⟨#[c]⟩ u) → Fr h₀ L h m → News h₀ L h ((C, oC) :: news) →
      wpAny (model prog w) A (isTrue ct (compEnvC scope cl C env) (eval ct (compEnvC scope cl C env))) (fun ok s' => (∃ tk' : Nat, s' = { s with heap := h, toks := tk' }) ∧ ok = p i) E' { s with heap := h, toks := tk })
    (el : ∀ (i c : Nat) (t u : Tok) (C : Addr) (oC : Obj) (m₂ : Str → Option Value) (h : Heap) (tk : Nat) (E' : Value → Shared → Prop), x.cps[i]? = some c → NsObj oC m₂ → m₂ a = some (.int (i : Int) t) → m₂ b = some (.str ⟨#[c]⟩ u) → Fr h₀ L h m → News h₀ L h ((C, oC) :: news) →
      wpAny (model prog w) A (eval elt (compEnvC scope cl C env)) (fun y s' => (∃ tk' : Nat, s' = { s with heap := h, toks := tk' }) ∧ ∃ t' : Tok, y = .int (i : Int) t') E' { s with heap := h, toks := tk })
    (fin : ∀ (D : Addr) (h : Heap) (tk : Nat) (ys : List Value), Fr h₀ L h m → News h₀ L h ((D, lst ys) :: news) → (∀ q ∈ news, (@Ne Nat q.1 D)) → IntsAre ys (sel p x.cps.size) → Q (.ref D) { s with heap := h, toks := tk }) :
    wpAny (model prog w) A (call (.type "enumerate") [.str x tx]) (EnSrc prog w A h₀ L m env ct elt a b scope cl x p Q) E s := by
  have hLs : @LT.lt Nat _ L s.heap.objs.size := F.ns.lt
  have hab : @LE.le Nat _ h₀.objs.size L := F.above
  have offn : ∀ q ∈ news, @LT.lt Nat _ q.1 s.heap.objs.size := fun q hq => Heap.lt_size (N q hq).1
  refine call_enumerate_str fun h' he hit hz hk => ?_
  have F' : Fr h₀ L h' m := ⟨F.ns.keeps hk, fun b o e => hk b o (F.keep b o e), F.above⟩
  have N' : News h₀ L h' news := fun q hq => ⟨hk _ _ (N q hq).1, (N q hq).2⟩
  have side : s.heap.objs.size + 1 ∉ [s.heap.objs.size] := fun hm => Nat.succ_ne_self _ (List.mem_singleton.mp hm)
  have gone : ∀ k : Nat, s.heap.objs.size ≤ k → h₀.get? k = none := fun k hk => Heap.get?_none_of_le (Nat.le_trans hab (Nat.le_trans (Nat.le_of_lt hLs) hk))
  have rest : ∀ q ∈ news, q.1 ≠ s.heap.objs.size + 1 ∧ q.1 ≠ s.heap.objs.size := fun q hq => by
    have := offn q hq
    exact ⟨by show @Ne Nat q.1 _; omega, by show @Ne Nat q.1 _; omega⟩
  have l1 : @LT.lt Nat _ (s.heap.objs.size + 1) h'.objs.size := by rw [hz]; omega
  have l2 : @LT.lt Nat _ s.heap.objs.size h'.objs.size := by rw [hz]; omega
  cases ha : x.cps.all (· < 128)
  · have hit' : h'.IsStrIter s.heap.objs.size "str_iterator" x tx 0 := by simpa [strIterType, ha] using hit
    exact ⟨s.heap.objs.size + 1, s.heap.objs.size, news, _, _, rfl, hh, hsz, WalksT.enumerateD (Draws.strWide (A := A.in1) hh s.heap.objs.size x tx) (s.heap.objs.size + 1) (Nat.succ_ne_self _) side (by simp), ⟨⟨_, he⟩, hit'⟩, F', N', l1, l2,
      by show @Ne Nat L _; omega, by show @Ne Nat L _; omega, gone _ (by omega), gone _ (by omega), rest, test, el, fin⟩
  · have hit' : h'.IsStrIter s.heap.objs.size "str_ascii_iterator" x tx 0 := by simpa [strIterType, ha] using hit
    exact ⟨s.heap.objs.size + 1, s.heap.objs.size, news, _, _, rfl, hh, hsz, WalksT.enumerateD (Draws.strAscii (A := A.in1) hh s.heap.objs.size x tx) (s.heap.objs.size + 1) (Nat.succ_ne_self _) side (by simp), ⟨⟨_, he⟩, hit'⟩, F', N', l1, l2,
      by show @Ne Nat L _; omega, by show @Ne Nat L _; omega, gone _ (by omega), gone _ (by omega), rest, test, el, fin⟩
end
end Mine
end
section
open PySem PySem.W PyProof.Rows
namespace Mine
/-- a dot that parts -/
def parts (x : Str) (i : Nat) : Bool := decide (cd x i = 46) && decide (qn (cd x) i % 2 = 0)
local macro_rules | `(tactic| k_all) => `(tactic| exact off_cell (by assumption))
local macro_rules | `(tactic| k_steps) => `(tactic| repeat' ((fail_if_success (with_reducible show wpAny _ _ (eval (PySem.Expr.ListComp _ _ _ _) _) _ _ _)); first | (k_unfold; (try dsimp only)) | (k_end; wrow_close) | walk1 | (dsimp only; walk1) | fail "no step"))
local macro_rules | `(tactic| k_steps) => `(tactic| repeat' ((fail_if_success (with_reducible show wpAny _ _ (eval (PySem.Expr.ListComp _ _ _ _) _) _ _ _)); (fail_if_success (with_reducible show wpAny _ _ (call (Value.type "enumerate") _) _ _ _)); first | (k_unfold; (try dsimp only)) | (k_end; wrow_close) | walk1 | (dsimp only; walk1) | fail "no step"))
theorem c_cut (w : World) (x : Str) (tx : Tok) (hx : x.length ≤ 1000) (news : List (Addr × Obj)) : Says w 39 [.str x tx] 2 30 news (OutInts news (sel (parts x) x.length)) := by
  unfold Says
  k_with_none
  w_top off
  k_fill
  intro loose mean mg mb dp un gd cn cs a ccd cl outer A₀ base h₀ L m s Q E B F X N T hk hd hu hret
  refine wpAny_call ?_
  k_dflt (refine' code_defC ?k1 ?k2 ?k3 ?k4 ?k5 ?kA ?kF ?kK ?k6 ?k7 ?k8 ?k9 ?kB ?kD ?_ ?c2 ?c3 ?c4; (case kA => exact rfl); (case kF => exact rfl); (case kK => assumption); (case k1 => k_asm); (case k2 => k_asm); (case k3 => k_asm); (case k4 => k_asm); (case k5 => k_asm); (case k6 => k_is); (case k7 => k_is); (case k8 => ktr_room); (case k9 => exact BindsTo.of_eq rfl); (case kB => exact rfl); (case kD => decide +kernel); (case c2 => exact rfl); (case c3 => exact rfl); (case c4 => exact rfl); k_whole; intro g' L' h' tk' cells' FG' F' N' Y' B' X' T' l1; (try k_lt l1); k_cells Y'; (try simp only [List.cons_append, List.nil_append] at N'); (try dsimp only); (try k_fold))
  k_with "call ref" => (refine' says_use (c_marks w x _ hx _) ?k1 ?k2 ?k3 ?k4 ?k5 ?kK ?kd ?ku ?_; (case k1 => k_asm); (case k2 => k_asm); (case k3 => k_asm); (case k4 => k_asm); (case k5 => k_asm); (case kK => exact rfl); (case kd => ktr_room); (case ku => ktr_units); rintro r9 led9 h9 tk9 F9 N9 ⟨ma, mv, mn, rfl, rfl, hms, hmo⟩; have hm1 := hmo _ (List.Mem.head _); dsimp only at hm1; (try dsimp only); (try k_fold))
  k_steps
  (refine enum_ListComp (x := x) (parts x) (by k_asm) (by with_unfolding_all rfl) (by decide) (by rfl) (by decide) (by rfl) (by rfl) (by decide) ?_)
  k_steps
  refine enum_src (parts x) (by rfl) (by rw [sizeLine_eq]; have : x.length = x.cps.size := rfl; omega) (by k_asm) (by k_asm) ?_ ?_ ?_
  · intro i c t u C oC m₂ h tk9 E' hc hC hk' hs' F8 N8
    have hcd : cd x i = c := by unfold cd; rw [Array.getD_eq_getD_getElem?, hc]; rfl
    have hlt : i < x.length := by
      have : i < x.cps.size := by
        rcases Nat.lt_or_ge i x.cps.size with h | h
        · exact h
        · rw [Array.getElem?_eq_none h] at hc; cases hc
      exact this
    k_with "subscriptTail" => (refine int_item (by assumption) (by k_mem) hms (marks_at hlt) (by omega) ?_; intro t9)
    k_unmd
    k_fold
    k_steps
    all_goals
      rename ((_ == _) = _) => hq1
      have e : ((chr1 c) == Str.ofString ".") = _ := hq1
      rw [chr1_eq dot_is] at e
      have h9 := fmod2 (qn (cd x) i)
      unfold parts
      rw [hcd]
    · have h10 : qn (cd x) i % 2 = 0 := by omega
      rw [e, decide_eq_true h10]; rfl
    · have h10 : ¬ qn (cd x) i % 2 = 0 := by omega
      rw [e, decide_eq_false h10]; rfl
    · rw [e]; rfl
  · intro i c t u C oC m₂ h tk9 E' hc hC hk' hs' F8 N8
    k_unmd
    k_fold
    k_steps
  · intro D h tk9 ys F8 N8 hne hys
    k_steps
    refine hret _ ((D, LCg.lst ys) :: news) _ _ (by k_asm) (cb_drop (by assumption) fun p hp => ?_) ⟨D, ys, ys.length, rfl, rfl, hys, fun p hp => hne p (List.mem_cons_of_mem _ (List.mem_cons_of_mem _ hp))⟩
    rcases List.mem_cons.mp hp with e | hp
    · rw [e]; exact List.mem_cons_self ..
    · exact List.mem_cons_of_mem _ (List.mem_cons_of_mem _ (List.mem_cons_of_mem _ hp))
end Mine
end
section
open PySem PySem.W PyProof.Rows
namespace Mine
/-- where the names part -/
def places (x : Str) : List Int := -1 :: (sel (parts x) x.length ++ [(x.length : Int)])
theorem sel_mem {p : Nat → Bool} {n : Nat} {v : Int} (h : v ∈ sel p n) : 0 ≤ v ∧ v < n := by
  unfold sel at h
  obtain ⟨k, hk, rfl⟩ := List.mem_map.mp h
  have := List.mem_range.mp (List.mem_filter.mp hk).1
  omega
theorem places_len (x : Str) : (places x).length = (sel (parts x) x.length).length + 2 := by unfold places; simp
theorem places_hi {x : Str} {k : Nat} (h : k < (sel (parts x) x.length).length + 1) : 0 ≤ (places x).getD (k + 1) 0 ∧ (places x).getD (k + 1) 0 ≤ x.length := by
  unfold places
  rw [List.getD_cons_succ, List.getD_eq_getElem?_getD]
  by_cases hk : k < (sel (parts x) x.length).length
  · rw [List.getElem?_append_left hk, List.getElem?_eq_getElem hk]
    have := sel_mem (List.getElem_mem hk)
    simp only [Option.getD_some]; omega
  · have e : k = (sel (parts x) x.length).length := by omega
    rw [e, List.getElem?_append_right (Nat.le_refl _), Nat.sub_self]
    simp
theorem places_lo {x : Str} {k : Nat} (h : k < (sel (parts x) x.length).length + 1) : 0 ≤ (places x).getD k 0 + 1 ∧ (places x).getD k 0 + 1 ≤ x.length := by
  cases k with
  | zero => unfold places; rw [List.getD_cons_zero]; omega
  | succ k =>
    have hk : k < (sel (parts x) x.length).length := by omega
    unfold places
    rw [List.getD_cons_succ, List.getD_eq_getElem?_getD, List.getElem?_append_left hk, List.getElem?_eq_getElem hk]
    have := sel_mem (List.getElem_mem hk)
    simp only [Option.getD_some]; omega
/-- the names that the law finds -/
def found (x : Str) : List Str := (List.range ((places x).length - 1)).map fun k => txt (bare (cd x) x.length ((places x).getD (k + 1) 0).toNat ((places x).getD k 0 + 1).toNat)
local macro_rules | `(tactic| k_all) => `(tactic| first | exact off_cell (by assumption) | exact off_cell2 (by assumption))
local macro_rules | `(tactic| k_steps) => `(tactic| repeat' ((fail_if_success (with_reducible show wpAny _ _ (eval (PySem.Expr.ListComp _ _ _ _) _) _ _ _)); (fail_if_success (with_reducible show LCg.CompSrc _ _ _ _ _ _ _ _ _ _ _ _ _ _)); (fail_if_success (with_reducible show wpAny _ _ (binaryOp Operator.Add (Value.ref _) (Value.ref _)) _ _ _)); first | (k_unfold; (try dsimp only)) | (k_end; wrow_close) | walk1 | (dsimp only; walk1) | fail "no step"))
theorem c_names (w : World) (x : Str) (tx : Tok) (hx : x.length ≤ 1000) (news : List (Addr × Obj)) : Says w 44 [.str x tx] 3 60 news (OutStrs news (found x)) := by
  unfold Says
  k_with_none
  w_top off
  k_fill
  intro loose mean mg mb dp un gd cn cs a ccd cl outer A₀ base h₀ L m s Q E B F X N T hk hd hu hret
  refine wpAny_call ?_
  k_dflt (refine' code_defC ?k1 ?k2 ?k3 ?k4 ?k5 ?kA ?kF ?kK ?k6 ?k7 ?k8 ?k9 ?kB ?kD ?_ ?c2 ?c3 ?c4; (case kA => exact rfl); (case kF => exact rfl); (case kK => assumption); (case k1 => k_asm); (case k2 => k_asm); (case k3 => k_asm); (case k4 => k_asm); (case k5 => k_asm); (case k6 => k_is); (case k7 => k_is); (case k8 => ktr_room); (case k9 => exact BindsTo.of_eq rfl); (case kB => exact rfl); (case kD => decide +kernel); (case c2 => exact rfl); (case c3 => exact rfl); (case c4 => exact rfl); k_whole; intro g' L' h' tk' cells' FG' F' N' Y' B' X' T' l1; (try k_lt l1); k_cells Y'; (try simp only [List.cons_append, List.nil_append] at N'); (try dsimp only); (try k_fold))
  k_with "call ref" => (refine' says_use (c_cut w x _ hx _) ?k1 ?k2 ?k3 ?k4 ?k5 ?kK ?kd ?ku ?_; (case k1 => k_asm); (case k2 => k_asm); (case k3 => k_asm); (case k4 => k_asm); (case k5 => k_asm); (case kK => exact rfl); (case kd => ktr_room); (case ku => ktr_units); rintro r9 led9 h9 tk9 F9 N9 ⟨ma, mv, mn, rfl, rfl, hms, hmo⟩; have hm1 := hmo _ (List.Mem.head _); dsimp only at hm1; (try dsimp only); (try k_fold))
  k_steps
  have hsl := sel_length (parts x) x.length
  refine kmk_add_ints (by k_asm) (by k_asm) (News.isList (by assumption) (List.Mem.tail _ (List.Mem.head _))) (News.isList (by assumption) (List.Mem.head _)) (.cons _ _ .nil) hms ?_ (by rw [sizeLine_eq]; simp; omega)
  intro D1 us1 h1 F1 N1 lt1 hus1
  replace N1 := cb_drop (news := (D1, _) :: (L' + 1 + 1, _) :: (L' + 1, _) :: news) N1 (by intro p hp; rcases List.mem_cons.mp hp with e | hp; exact e ▸ List.mem_cons_self ..; exact List.mem_cons_of_mem _ (List.mem_cons_of_mem _ (List.mem_cons_of_mem _ hp)))
  k_steps
  refine kmk_add_ints (by k_asm) (by k_asm) (News.isList (by assumption) (List.Mem.tail _ (List.Mem.head _))) (News.isList (by assumption) (List.Mem.head _)) hus1 (.cons _ _ .nil) ?_ (by rw [sizeLine_eq]; simp; omega)
  intro D2 us2 h2 F2 N2 lt2 hus2
  replace N2 := cb_drop (news := (D2, _) :: (L' + 1 + 1, _) :: (L' + 1, _) :: news) N2 (by intro p hp; rcases List.mem_cons.mp hp with e | hp; exact e ▸ List.mem_cons_self ..; exact List.mem_cons_of_mem _ (List.mem_cons_of_mem _ (List.mem_cons_of_mem _ hp)))
  have lt3 : @LT.lt Nat _ (L' + 1 + 1) D2 ∧ @LT.lt Nat _ (L' + 1) D2 := ⟨lt2 _ (List.mem_cons_of_mem _ (List.mem_cons_of_mem _ (List.mem_cons_self ..))), lt2 _ (List.mem_cons_of_mem _ (List.mem_cons_of_mem _ (List.mem_cons_of_mem _ (List.mem_cons_self ..))))⟩
  have hn2 : ∀ p ∈ news, (@Ne Nat p.1 D2) := fun p hp => Nat.ne_of_lt (lt2 p (List.mem_cons_of_mem _ (List.mem_cons_of_mem _ (List.mem_cons_of_mem _ (List.mem_cons_of_mem _ hp)))))
  clear lt1 lt2
  k_steps
  have hpl := places_len x
  refine LCg.ListComp_U (F₀ := by k_asm) (by with_unfolding_all rfl) (by decide) (by rfl) (by decide) (by rfl) ?_
  k_steps
  refine LCg.CompSrc.range (by rfl) (by k_asm) (by k_asm) (by assumption) (small_one (by omega) (by omega) (by omega) (by omega)) (rangeSize_nat _ _) (by rw [sizeLine_eq]; omega) ?_
  intro gh
  rename News _ _ _ _ => nX
  rename Fr _ _ _ _ => fX
  refine comp_rest (fun i ys nw => nw = (D2, listOf us2.toArray 0) :: _ ∧ StrsAre ys ((List.range i).map fun k => txt (bare (cd x) x.length ((places x).getD (k + 1) 0).toNat ((places x).getD k 0 + 1).toNat))) ⟨rfl, .nil⟩ ?_ ?_
  · clear nX fX
    rintro i ys nw v I oI C oC D m₂ h tk9 E' hi ⟨rfl, hS⟩ ⟨t9, rfl⟩ hC hx' F N off ne
    rw [Int.zero_add] at hx'
    have hik : ((i : Int)).toNat < (sel (parts x) x.length).length + 1 := by omega
    have hik1 : ((i : Int) + 1).toNat = ((i : Int)).toNat + 1 := by omega
    have hb1 := places_lo hik
    have hb2 : 0 ≤ (places x).getD ((i : Int) + 1).toNat 0 ∧ (places x).getD ((i : Int) + 1).toNat 0 ≤ x.length := by rw [hik1]; exact places_hi hik
    k_with "call ref" => (refine' says_use (c_bareI w x _ hx _ _ _ _ hb1.1 hb1.2 hb2.1 hb2.2 _) ?k1 ?k2 ?k3 ?k4 ?k5 ?kK ?kd ?ku ?_; (case k1 => k_asm); (case k2 => k_asm); (case k3 => k_asm); (case k4 => k_asm); (case k5 => k_asm); (case kK => exact rfl); (case kd => ktr_room); (case ku => ktr_units); rintro r9 led9 h9 tk9 F9 N9 ⟨rfl, t9, rfl⟩; (try dsimp only); (try k_fold))
    k_unmd
    k_fold
    k_steps
    refine LCg.CompEnd.intro (by assumption) (by assumption) _ (fun p hp => hp) off trivial ⟨rfl, ?_⟩
    have e2 : ((i : Int)).toNat = i := by omega
    rw [hik1, e2, List.range_succ, List.map_append]
    exact hS.append' (.cons _ _ .nil)
  · clear nX fX
    rintro ys nw ⟨rfl, hS⟩
    unfold LCg.FinE
    intro D h' tk' F' N' o1'
    have ho := off1_mem o1'
    k_steps
    refine hret _ ((D, LCg.lst ys) :: news) _ _ (by k_asm) (cb_drop (by assumption) fun p hp => ?_) ⟨D, ys, ys.length, rfl, rfl, ?_, fun p hp => ho p (List.mem_cons_of_mem _ (List.mem_cons_of_mem _ (List.mem_cons_of_mem _ hp)))⟩
    · rcases List.mem_cons.mp hp with e | hp
      · rw [e]; exact List.mem_cons_self ..
      · exact List.mem_cons_of_mem _ (List.mem_cons_of_mem _ (List.mem_cons_of_mem _ (List.mem_cons_of_mem _ hp)))
    · unfold found
      rw [hpl]
      have e3 : (((1 + (sel (parts x) x.length).length + 1 : Nat) : Int) - 1 - 0).toNat = (sel (parts x) x.length).length + 2 - 1 := by omega
      rw [e3] at hS
      exact hS
end Mine
end
section
open PySem PySem.W PyProof.Rows
namespace Mine
/-- the drawing list -/
abbrev draws (sc : Addr) (i v : Int) (ti tv : Tok) (n : Nat) : Obj := listOf #[.ref sc, .int i ti, .int v tv] n
def OutNext (st sc : Addr) (many : Int) (rest : List (Addr × Obj)) (r : Value) (led' : List (Addr × Obj)) : Prop :=
  ∃ (i v : Int) (ti tv : Tok) (n : Nat) (x : Int) (t : Tok), r = .int x t ∧ 0 ≤ x ∧ x < many ∧ 0 ≤ i ∧ 0 ≤ v ∧ v < 2147483647 ∧ led' = (st, draws sc i v ti tv n) :: rest
theorem fmod_in (a : Int) {m : Int} (h : 0 < m) : 0 ≤ a.fmod m ∧ a.fmod m < m := ⟨Int.fmod_nonneg_of_pos a h, Int.fmod_lt_of_pos a h⟩
local macro_rules | `(tactic| k_all) => `(tactic| assumption)
theorem c_next (w : World) (st sc : Addr) (i v many : Int) (ti tv tm : Tok) (n n2 : Nat) (us : List Value) (ns : List Int) (rest : List (Addr × Obj)) (hi : 0 ≤ i) (hv : 0 ≤ v) (hv2 : v < 2147483647) (hm : 0 < many) (hm2 : many ≤ 100) (hu : IntsAre us ns) (hl : ns.length ≤ 60)
    (hs : (@Ne Nat st sc)) (hr : ∀ p ∈ rest, p.1 ≠ st) :
    Says w 26 [.ref st, .int many tm] 1 30 ((st, draws sc i v ti tv n) :: (sc, listOf us.toArray n2) :: rest) (OutNext st sc many ((sc, listOf us.toArray n2) :: rest)) := by
  unfold Says
  k_with_none
  w_top off
  k_fill
  intro loose mean mg mb dp un gd cn cs a ccd cl outer A₀ base h₀ L m s Q E B F X N T hk hd hun hret
  refine wpAny_call ?_
  k_dflt cell_enter
  k_steps
  · exact hret _ _ _ _ (by k_asm) (by k_asm) ⟨_, _, _, _, _, _, _, rfl, (fmod_in _ hm).1, (fmod_in _ hm).2, by omega, (fmod_in _ (by decide)).1, (fmod_in _ (by decide)).2, rfl⟩
  · exact hret _ _ _ _ (by k_asm) (by k_asm) ⟨_, _, _, _, _, _, _, rfl, (fmod_in _ hm).1, (fmod_in _ hm).2, hi, (fmod_in _ (by decide)).1, (fmod_in _ (by decide)).2, rfl⟩
end Mine
end
section
open PySem PySem.W PyProof.Rows
namespace Mine
local macro_rules | `(tactic| k_all) => `(tactic| first | exact off_ca (by assumption) (by assumption) | exact off_rs (by assumption) (by assumption))
local macro_rules | `(tactic| k_steps) => `(tactic| repeat' ((fail_if_success (with_reducible show wpAny _ _ (exec (Stmt.While _ _ _ _) _) _ _ _)); first | (k_unfold; (try dsimp only)) | (k_end; wrow_close) | walk1 | (dsimp only; walk1) | fail "no step"))
theorem c_parser (w : World) (x : Str) (tx : Tok) (hx : x.length ≤ 1000) (news : List (Addr × Obj)) : Says w 19 [.str x tx] 1 8 news (OutStrs news (told x)) := by
  unfold Says
  k_with_none
  w_top off
  k_fill
  intro loose mean mg mb dp un gd cn cs a ccd cl outer A₀ base h₀ L m s Q E B F X N T hk hd hu hret
  refine wpAny_call ?_
  k_dflt cell_enter
  k_with "subscriptTail" => (refine last_item (by assumption) (by k_mem) ?_)
  k_steps
  · rename (List.map _ _ = Txt.split _ _) => hsp
    rename (StrsAre _ _) => hst
    rw [hsp, split_told (by assumption)] at hst
    exact hret _ _ _ _ (by k_asm) (by k_asm) ⟨_, _, _, rfl, rfl, hst, off_news (by assumption)⟩
  · rename_i ca _ lc rs _ lr _ _ _ _ F1 N1
    refine' ksw_while (PS.led rs news) (fun c => [(Str.ofString "idx", .int c.k c.tk), (Str.ofString "state", .int (if c.st then 1 else 0) c.ts)]) (PS.facts rs news x) [Str.ofString "char"] (PS.word x) (fun c => x.length - c.k) ⟨0, false, [], ca, [], 0, [], 0, ?wt1, ?wt2⟩ F1 ?wn ?wf ?wk ?wp ?_
    case wk => kst_all
    case wn => exact N1
    case wf => exact ⟨.nil, (fun _ h => nomatch h), by have := lr.1; show (@Ne Nat rs ca); omega, (fun _ h => nomatch h), (fun p hp => by have h1 := lc p hp; have h2 := allLt_mem lr.2 p hp; have h1' : @LT.lt Nat _ p.1 ca := h1; dsimp only; exact ⟨by omega, by omega⟩), Nat.zero_le _, Nat.le_refl _, Nat.le_refl _⟩
    case wp => exact rfl
    clear F1 N1 lc lr
    intro c u h tk hf hp F N
    obtain ⟨k, st, dn, ca, cv, cn, cw, rn, ti, ts⟩ := c
    obtain ⟨f1, f2, f3, f4, f5, f6, f7, f8⟩ := hf
    dsimp only [PS.led, kstB] at F N f1 f2 f3 f4 f5 f6 f7 f8
    cases st
    all_goals (try simp only [Bool.false_eq_true, if_false, if_true] at F)
    all_goals dsimp only
    all_goals k_fold
    · k_with "eval ListComp" => (k_dflt (refine LCg.ListComp_U (F₀ := by k_asm) (by with_unfolding_all rfl) (by decide) (by rfl) (by decide) (by rfl) ?_))
      k_steps
      · rename News _ _ _ _ => nE'
        refine' ksw_end ⟨k + 1, true, dn, ca, cv, cn, cw, rn, ?wt1x1, ?wt2x1⟩ (by assumption) nE' (fun p hp => hp) ?wfx1 ?wkx1 (by ksw_same) ?wpx1 ?wmx1
        case wkx1 => kst_all
        case wmx1 => (dsimp only; omega)
        case wpx1 => exact (word_tog hp (by omega) (of_decide_eq_true (is_q (b := true) (by assumption) (by assumption))) (by simp))
        case wfx1 => exact ⟨f1, f2, f3, f4, f5, by dsimp only; omega, by dsimp only; omega, by dsimp only; omega⟩
      · rename News _ _ _ _ => nE'
        rename (_ ∧ _ ∧ AllLt _ _) => lt'
        refine' ksw_end ⟨k + 1, false, dn ++ [⟨ca, cv, cn, cw⟩], _, [], 0, [], rn + 1, ?wt1x2, ?wt2x2⟩ (by assumption) nE' (led_dot (k := k) (cw := cw)) ?wfx2 ?wkx2 (by ksw_same) ?wpx2 ?wmx2
        case wkx2 => kst_all
        case wmx2 => (dsimp only; omega)
        case wpx2 => exact (word_dot hp (by omega) (of_decide_eq_true (is_d (b := true) (by assumption) (by assumption))))
        case wfx2 => exact (facts_dot f1 f2 f8 f3 f4 f5 f7 lt' (by omega))
      · rename News _ _ _ _ => nE'
        rw [item_cd (by assumption)] at nE'
        refine' ksw_end ⟨k + 1, false, dn, ca, cv ++ [_], cn + 1, cw ++ [cd x k], rn, ?wt1x3, ?wt2x3⟩ (by assumption) nE' (led_chr) ?wfx3 ?wkx3 (by ksw_same) ?wpx3 ?wmx3
        case wkx3 => kst_all
        case wmx3 => (dsimp only; omega)
        case wpx3 => exact (word_chr hp (by omega) (of_decide_eq_false (is_q (b := false) (by assumption) (by assumption))) (fun h => (of_decide_eq_false (is_d (b := false) (by assumption) (by assumption))) h.1))
        case wfx3 => exact ⟨chars_snoc f1, f2, f3, f4, f5, by dsimp only; omega, by dsimp only; omega, by simp only [List.length_append, List.length_cons, List.length_nil]; omega⟩
      · k_with "call builtin:str.join" => (refine join_listW hJl hJc (by decide) hJw ?_; intro t' k')
        have hall : ∀ p ∈ dn ++ [(⟨ca, cv, cn, cw⟩ : TR)], (CharsAre p.vs p.ws ∧ p.ws.length ≤ x.length) ∧ (p.a, listOf p.vs.toArray p.n) ∈ PS.led rs news ⟨k, false, dn, ca, cv, cn, cw, rn, ti, ts⟩ := by
          intro p hp
          rcases List.mem_append.mp hp with hp | hp
          · exact ⟨f2 p hp, List.mem_cons_of_mem _ (List.mem_cons_of_mem _ (List.mem_append.mpr (.inl (List.mem_map.mpr ⟨p, hp, rfl⟩))))⟩
          · rw [List.mem_singleton.mp hp]; exact ⟨⟨f1, by dsimp only; omega⟩, List.mem_cons_of_mem _ (List.mem_cons_self ..)⟩
        refine LCg.CompSrc.ledger (by rfl) (by k_asm) (by k_asm) (List.Mem.head _) (by simp; rw [sizeLine_eq]; omega) ?_
        intro g
        clear F N
        refine comp_rest (fun i ys nw => nw = PS.led rs news ⟨k, false, dn, ca, cv, cn, cw, rn, ti, ts⟩ ∧ StrsAre ys (((dn ++ [(⟨ca, cv, cn, cw⟩ : TR)]).take i).map fun p => txt p.ws)) ?_ ?_ ?_
        · exact ⟨rfl, by simpa using StrsAre.nil⟩
        · rintro i ys nw v I oI C oC D m₂ h tk E' hi ⟨rfl, hS⟩ hv hC hx' F N off ne
          obtain ⟨p, hp, rfl⟩ := led_at' (c := ⟨ca, cv, cn, cw⟩) hv
          obtain ⟨⟨hJc, hlen⟩, hmem⟩ := hall p (List.mem_of_getElem? hp)
          have hJl := News.isList N (List.mem_cons_of_mem _ (List.mem_cons_of_mem _ (List.mem_cons_of_mem _ hmem)))
          have hJw : ((p.ws.map chr1).map (·.length)).sum + (p.ws.map chr1).length ≤ 1048576 := by rw [weight_chars]; omega
          k_unmd
          k_fold
          k_steps
          exact LCg.CompEnd.intro (by assumption) (by assumption) _ (fun p hp => hp) off (.inr ⟨_, List.mem_cons_self .., rfl, _, rfl⟩) ⟨rfl, strs_take hp hS⟩
        · rintro ys nw ⟨rfl, hS⟩
          unfold LCg.FinE
          intro D h' tk' F' N' o1'
          have ho := off1_mem o1'
          k_steps
          rw [List.size_toArray, show (dn.map (fun p => Value.ref p.a) ++ [Value.ref ca]).length = (dn ++ [(⟨ca, cv, cn, cw⟩ : TR)]).length from by simp, List.take_length] at hS
          refine hret _ ((D, LCg.lst ys) :: news) _ _ (by k_asm) (cb_drop (by assumption) fun p hp => ?_) ⟨D, ys, ys.length, rfl, rfl, ?_, fun p hp => ho p (List.mem_cons_of_mem _ (List.mem_cons_of_mem _ (List.mem_append.mpr (.inr hp))))⟩
          · rcases List.mem_cons.mp hp with e | hp
            · rw [e]; exact List.mem_cons_self ..
            · exact List.mem_cons_of_mem _ (List.mem_cons_of_mem _ (List.mem_cons_of_mem _ (List.mem_append.mpr (.inr hp))))
          · rw [← word_end hp (by omega)]
            simpa [List.map_map, Function.comp_def] using hS
    · k_steps
      · rename News _ _ _ _ => nE'
        rw [quote_is] at nE'
        refine' ksw_end ⟨k + 2, true, dn, ca, cv ++ [_], cn + 1, cw ++ [34], rn, ?wt1x5, ?wt2x5⟩ (by assumption) nE' (led_chr) ?wfx5 ?wkx5 (by ksw_same) ?wpx5 ?wmx5
        case wkx5 => kst_all
        case wmx5 => (dsimp only; omega)
        case wpx5 => exact (word_dbl hp (by omega) (of_decide_eq_true (is_q (b := true) (by assumption) (by assumption))) (of_decide_eq_true (is_q1 (b := true) (by omega) (by assumption))))
        case wfx5 => exact ⟨chars_snoc f1, f2, f3, f4, f5, by dsimp only; omega, by dsimp only; omega, by simp only [List.length_append, List.length_cons, List.length_nil]; omega⟩
      · rename News _ _ _ _ => nE'
        refine' ksw_end ⟨k + 1, false, dn, ca, cv, cn, cw, rn, ?wt1x6, ?wt2x6⟩ (by assumption) nE' (fun p hp => hp) ?wfx6 ?wkx6 (by ksw_same) ?wpx6 ?wmx6
        case wkx6 => kst_all
        case wmx6 => (dsimp only; omega)
        case wpx6 => exact (word_tog hp (by omega) (of_decide_eq_true (is_q (b := true) (by assumption) (by assumption))) (fun h => absurd h.2.2 (of_decide_eq_false (is_q1 (b := false) (by omega) (by assumption)))))
        case wfx6 => exact ⟨f1, f2, f3, f4, f5, by dsimp only; omega, by dsimp only; omega, by dsimp only; omega⟩
      · rename News _ _ _ _ => nE'
        refine' ksw_end ⟨k + 1, false, dn, ca, cv, cn, cw, rn, ?wt1x7, ?wt2x7⟩ (by assumption) nE' (fun p hp => hp) ?wfx7 ?wkx7 (by ksw_same) ?wpx7 ?wmx7
        case wkx7 => kst_all
        case wmx7 => (dsimp only; omega)
        case wpx7 => exact (word_tog hp (by omega) (of_decide_eq_true (is_q (b := true) (by assumption) (by assumption))) (fun h => absurd h.2.1 (by omega)))
        case wfx7 => exact ⟨f1, f2, f3, f4, f5, by dsimp only; omega, by dsimp only; omega, by dsimp only; omega⟩
      · rename News _ _ _ _ => nE'
        rw [item_cd (by assumption)] at nE'
        refine' ksw_end ⟨k + 1, true, dn, ca, cv ++ [_], cn + 1, cw ++ [cd x k], rn, ?wt1x8, ?wt2x8⟩ (by assumption) nE' (led_chr) ?wfx8 ?wkx8 (by ksw_same) ?wpx8 ?wmx8
        case wkx8 => kst_all
        case wmx8 => (dsimp only; omega)
        case wpx8 => exact (word_chr hp (by omega) (of_decide_eq_false (is_q (b := false) (by assumption) (by assumption))) (fun h => absurd h.2 (by decide)))
        case wfx8 => exact ⟨chars_snoc f1, f2, f3, f4, f5, by dsimp only; omega, by dsimp only; omega, by simp only [List.length_append, List.length_cons, List.length_nil]; omega⟩
      · rename News _ _ _ _ => nE'
        rw [item_cd (by assumption)] at nE'
        refine' ksw_end ⟨k + 1, true, dn, ca, cv ++ [_], cn + 1, cw ++ [cd x k], rn, ?wt1x9, ?wt2x9⟩ (by assumption) nE' (led_chr) ?wfx9 ?wkx9 (by ksw_same) ?wpx9 ?wmx9
        case wkx9 => kst_all
        case wmx9 => (dsimp only; omega)
        case wpx9 => exact (word_chr hp (by omega) (of_decide_eq_false (is_q (b := false) (by assumption) (by assumption))) (fun h => absurd h.2 (by decide)))
        case wfx9 => exact ⟨chars_snoc f1, f2, f3, f4, f5, by dsimp only; omega, by dsimp only; omega, by simp only [List.length_append, List.length_cons, List.length_nil]; omega⟩
      · k_with "call builtin:str.join" => (refine join_listW hJl hJc (by decide) hJw ?_; intro t' k')
        have hall : ∀ p ∈ dn ++ [(⟨ca, cv, cn, cw⟩ : TR)], (CharsAre p.vs p.ws ∧ p.ws.length ≤ x.length) ∧ (p.a, listOf p.vs.toArray p.n) ∈ PS.led rs news ⟨k, true, dn, ca, cv, cn, cw, rn, ti, ts⟩ := by
          intro p hp
          rcases List.mem_append.mp hp with hp | hp
          · exact ⟨f2 p hp, List.mem_cons_of_mem _ (List.mem_cons_of_mem _ (List.mem_append.mpr (.inl (List.mem_map.mpr ⟨p, hp, rfl⟩))))⟩
          · rw [List.mem_singleton.mp hp]; exact ⟨⟨f1, by dsimp only; omega⟩, List.mem_cons_of_mem _ (List.mem_cons_self ..)⟩
        refine LCg.CompSrc.ledger (by rfl) (by k_asm) (by k_asm) (List.Mem.head _) (by simp; rw [sizeLine_eq]; omega) ?_
        intro g
        clear F N
        refine comp_rest (fun i ys nw => nw = PS.led rs news ⟨k, true, dn, ca, cv, cn, cw, rn, ti, ts⟩ ∧ StrsAre ys (((dn ++ [(⟨ca, cv, cn, cw⟩ : TR)]).take i).map fun p => txt p.ws)) ?_ ?_ ?_
        · exact ⟨rfl, by simpa using StrsAre.nil⟩
        · rintro i ys nw v I oI C oC D m₂ h tk E' hi ⟨rfl, hS⟩ hv hC hx' F N off ne
          obtain ⟨p, hp, rfl⟩ := led_at' (c := ⟨ca, cv, cn, cw⟩) hv
          obtain ⟨⟨hJc, hlen⟩, hmem⟩ := hall p (List.mem_of_getElem? hp)
          have hJl := News.isList N (List.mem_cons_of_mem _ (List.mem_cons_of_mem _ (List.mem_cons_of_mem _ hmem)))
          have hJw : ((p.ws.map chr1).map (·.length)).sum + (p.ws.map chr1).length ≤ 1048576 := by rw [weight_chars]; omega
          k_unmd
          k_fold
          k_steps
          exact LCg.CompEnd.intro (by assumption) (by assumption) _ (fun p hp => hp) off (.inr ⟨_, List.mem_cons_self .., rfl, _, rfl⟩) ⟨rfl, strs_take hp hS⟩
        · rintro ys nw ⟨rfl, hS⟩
          unfold LCg.FinE
          intro D h' tk' F' N' o1'
          have ho := off1_mem o1'
          k_steps
          rw [List.size_toArray, show (dn.map (fun p => Value.ref p.a) ++ [Value.ref ca]).length = (dn ++ [(⟨ca, cv, cn, cw⟩ : TR)]).length from by simp, List.take_length] at hS
          refine hret _ ((D, LCg.lst ys) :: news) _ _ (by k_asm) (cb_drop (by assumption) fun p hp => ?_) ⟨D, ys, ys.length, rfl, rfl, ?_, fun p hp => ho p (List.mem_cons_of_mem _ (List.mem_cons_of_mem _ (List.mem_append.mpr (.inr hp))))⟩
          · rcases List.mem_cons.mp hp with e | hp
            · rw [e]; exact List.mem_cons_self ..
            · exact List.mem_cons_of_mem _ (List.mem_cons_of_mem _ (List.mem_cons_of_mem _ (List.mem_append.mpr (.inr hp))))
          · rw [← word_end hp (by omega)]
            simpa [List.map_map, Function.comp_def] using hS
end Mine
end
section
open PySem PySem.W PyProof.Rows PySem.Calls PyProof.V PySem.Spec
namespace Mine
theorem strs_canLay (ws : List Str) (h : ∀ w ∈ ws, PyData.strOk w = true) : PyData.canLayAll0 (ws.map PyData.str) = true := by
  rw [canLayAll_strs', List.all_eq_true]; exact h
theorem strs_depth : ∀ ws : List Str, PyData.depthAll (ws.map PyData.str) = 0
  | [] => rfl
  | _ :: r => by simp [PyData.depthAll, PyData.depth, strs_depth r]
theorem strs_shaped (ws : List Str) (h : ∀ w ∈ ws, PyData.strOk w = true) : SeqAt.shaped (.list (ws.map PyData.str)) = true := by
  simp [SeqAt.shaped, PyData.canLay0, PyData.depth, strs_canLay ws h, strs_depth]
theorem strs_sameAll : ∀ ws : List Str, PySem.Spec.sameAll (ws.map PyData.str) (ws.map PyData.str) = true
  | [] => by simp [PySem.Spec.sameAll]
  | a :: r => by simp [PySem.Spec.sameAll, PySem.Spec.same, strs_sameAll r]
theorem strs_same (ws : List Str) : PySem.Spec.same (.list (ws.map PyData.str)) (.list (ws.map PyData.str)) = true := by
  simp only [PySem.Spec.same]; exact strs_sameAll ws
section
variable {prog : Program} {w : World} {A : Around} {E : Value → Shared → Prop} {s : Shared} {a b : Addr} {xs ys : List Value} {ws : List Str} {Q : Value → Shared → Prop}
theorem eq_strs (ha : s.heap.IsList a xs.toArray) (hb : s.heap.IsList b ys.toArray) (hi : StrsAre xs ws) (hj : StrsAre ys ws) (hok : ∀ w ∈ ws, PyData.strOk w = true) (hu : A.units + 64 < cLine) (h : Q (.bool true) s) :
    wpAny (model prog w) A (compareOp .Eq (.ref a) (.ref b)) Q E s :=
  eq_dataH_same (reads_newData ha hi.carried) (reads_newData hb hj.carried) (strs_shaped _ hok) (strs_shaped _ hok) hu (SeqAt.noMix_of_shape (.list .str) rfl _ _ (list_map_has fun _ => rfl) (list_map_has fun _ => rfl)) (by rw [strs_same]; exact h)
theorem ne_strs (ha : s.heap.IsList a xs.toArray) (hb : s.heap.IsList b ys.toArray) (hi : StrsAre xs ws) (hj : StrsAre ys ws) (hok : ∀ w ∈ ws, PyData.strOk w = true) (hu : A.units + 64 < cLine) (h : Q (.bool false) s) :
    wpAny (model prog w) A (compareOp .NotEq (.ref a) (.ref b)) Q E s :=
  ne_dataH_same (reads_newData ha hi.carried) (reads_newData hb hj.carried) (strs_shaped _ hok) (strs_shaped _ hok) hu (SeqAt.noMix_of_shape (.list .str) rfl _ _ (list_map_has fun _ => rfl) (list_map_has fun _ => rfl)) (by rw [strs_same]; exact h)
end
theorem strOk_iff (x : Str) : PyData.strOk x = true ↔ ∀ c ∈ x.cps.toList, c < 0x110000 := by
  unfold PyData.strOk
  rw [← Array.all_toList, List.all_eq_true]
  simp
theorem cd_ok {x : Str} (h : PyData.strOk x = true) (k : Nat) : cd x k < 0x110000 := by
  unfold cd
  rw [Array.getD_eq_getD_getElem?]
  cases e : x.cps[k]? with
  | none => simp
  | some v =>
    have : v ∈ x.cps.toList := by rw [← Array.getElem?_toList] at e; exact List.mem_of_getElem? e
    exact (strOk_iff x).mp h v this
theorem pz_ok {c : Nat → Nat} {n : Nat} (hc : ∀ k, c k < 0x110000) : ∀ (j k : Nat) (st : Bool) (cur : List Nat), n - k ≤ j → (∀ v ∈ cur, v < 0x110000) → ∀ w ∈ pz c n st k cur, ∀ v ∈ w, v < 0x110000 := by
  intro j
  induction j with
  | zero =>
    intro k st cur hk hcur w hw
    rw [pz_end (by omega)] at hw
    rw [List.mem_singleton.mp hw]; exact hcur
  | succ j ih =>
    intro k st cur hk hcur w hw
    by_cases hlt : k < n
    · by_cases h34 : c k = 34
      · by_cases hd : st = true ∧ k + 1 < n ∧ c (k + 1) = 34
        · rw [hd.1, pz_dbl hd.2.1 h34 hd.2.2] at hw
          refine ih (k + 2) _ _ (by omega) ?_ w hw
          intro v hv
          rcases List.mem_append.mp hv with hv | hv
          · exact hcur v hv
          · rw [List.mem_singleton.mp hv]; decide
        · rw [pz_tog hlt h34 hd] at hw
          exact ih (k + 1) _ _ (by omega) hcur w hw
      · by_cases hd : c k = 46 ∧ st = false
        · rw [hd.2, pz_dot hlt hd.1] at hw
          rcases List.mem_cons.mp hw with e | hw
          · rw [e]; exact hcur
          · exact ih (k + 1) _ _ (by omega) (by simp) w hw
        · rw [pz_chr hlt h34 hd] at hw
          refine ih (k + 1) _ _ (by omega) ?_ w hw
          intro v hv
          rcases List.mem_append.mp hv with hv | hv
          · exact hcur v hv
          · rw [List.mem_singleton.mp hv]; exact hc k
    · rw [pz_end hlt] at hw
      rw [List.mem_singleton.mp hw]; exact hcur
theorem told_ok {x : Str} (h : PyData.strOk x = true) : ∀ w ∈ told x, PyData.strOk w = true := by
  intro w hw
  obtain ⟨l, hl, rfl⟩ := List.mem_map.mp hw
  rw [strOk_iff]
  exact pz_ok (cd_ok h) _ 0 false [] (Nat.le_refl _) (by simp) l hl
end Mine
end
section
open PySem PySem.W PyProof.Rows
namespace Mine
/-- the names between the places told -/
def between (c : Nat → Nat) (n : Nat) : List Nat → List (List Nat)
  | [] => []
  | [_] => []
  | p :: q :: r => bare c n q (p + 1) :: between c n (q :: r)
/-- the parting dots from k on -/
def dots (c : Nat → Nat) (n : Nat) (k : Nat) : List Nat :=
  if k < n then (if c k = 46 ∧ qn c k % 2 = 0 then k :: dots c n (k + 1) else dots c n (k + 1)) else []
termination_by n - k
section
variable {c : Nat → Nat} {n : Nat}
theorem dots_end {k : Nat} (h : ¬ k < n) : dots c n k = [] := by rw [dots, if_neg h]
theorem dots_yes {k : Nat} (h : k < n) (h1 : c k = 46) (h2 : qn c k % 2 = 0) : dots c n k = k :: dots c n (k + 1) := by rw [dots, if_pos h, if_pos ⟨h1, h2⟩]
theorem dots_no {k : Nat} (h : k < n) (h1 : ¬ (c k = 46 ∧ qn c k % 2 = 0)) : dots c n k = dots c n (k + 1) := by rw [dots, if_pos h, if_neg h1]
theorem qn_succ (k : Nat) : qn c (k + 1) = qn c k + if c k = 34 then 1 else 0 := rfl
/-- the head of the places from k on: it lies at k or behind, and where it lies before n it is no quote -/
theorem head_ge : ∀ (j k : Nat), n - k ≤ j → k ≤ n → ∃ h r, dots c n k ++ [n] = h :: r ∧ k ≤ h := by
  intro j
  induction j with
  | zero => intro k hj hk; exact ⟨n, [], by rw [dots_end (by omega)]; rfl, hk⟩
  | succ j ih =>
    intro k hj hk
    by_cases hlt : k < n
    · by_cases hd : c k = 46 ∧ qn c k % 2 = 0
      · exact ⟨k, _, by rw [dots_yes hlt hd.1 hd.2]; rfl, Nat.le_refl _⟩
      · obtain ⟨h, r, e, hh⟩ := ih (k + 1) (by omega) (by omega)
        exact ⟨h, r, by rw [dots_no hlt hd]; exact e, by omega⟩
    · exact ⟨n, [], by rw [dots_end hlt]; rfl, hk⟩
/-- the parser's names are those between the places -/
theorem pz_between : ∀ (j k : Nat) (st : Bool) (cur : List Nat), n - k ≤ j → k ≤ n → (st = true ↔ qn c k % 2 = 1) → ∀ h r, dots c n k ++ [n] = h :: r → pz c n st k cur = (cur ++ bare c n h k) :: between c n (h :: r) := by
  intro j
  induction j with
  | zero =>
    intro k st cur hj hk hst h r e
    rw [dots_end (by omega)] at e
    injection e with e1 e2
    subst e1; subst e2
    rw [pz_end (by omega), bare_end (by omega), List.append_nil]; rfl
  | succ j ih =>
    intro k st cur hj hk hst h r e
    by_cases hlt : k < n
    · by_cases h34 : c k = 34
      · have hnd : ¬ (c k = 46 ∧ qn c k % 2 = 0) := by omega
        rw [dots_no hlt hnd] at e
        by_cases hd : st = true ∧ k + 1 < n ∧ c (k + 1) = 34
        · have hq1 := hst.mp hd.1
          have hnd1 : ¬ (c (k + 1) = 46 ∧ qn c (k + 1) % 2 = 0) := by omega
          rw [dots_no hd.2.1 hnd1] at e
          have hq2 : qn c (k + 1 + 1) = qn c k + 2 := by rw [qn_succ, qn_succ, if_pos h34, if_pos hd.2.2]
          obtain ⟨h', r', e', hge⟩ := head_ge (c := c) (n := n) (n - (k + 2)) (k + 2) (Nat.le_refl _) (by omega)
          have hh : k + 2 ≤ h := by
            have := e'.symm.trans e
            injection this with a b; omega
          rw [hd.1, pz_dbl hd.2.1 h34 hd.2.2, ih (k + 2) true _ (by omega) (by omega) (by constructor <;> intro _ <;> first | rfl | (have : qn c (k + 2) = qn c k + 2 := hq2; omega)) h r e,
            bare_dbl (k := k) (high := h) (by omega) h34 ⟨hq1, hd.2.1, hd.2.2⟩]
          simp
        · obtain ⟨h', r', e', hge⟩ := head_ge (c := c) (n := n) (n - (k + 1)) (k + 1) (Nat.le_refl _) (by omega)
          have hh : k + 1 ≤ h := by
            have := e'.symm.trans e
            injection this with a b; omega
          have hq : qn c (k + 1) = qn c k + 1 := by rw [qn_succ, if_pos h34]
          rw [pz_tog hlt h34 hd, ih (k + 1) (!st) _ (by omega) (by omega) ?_ h r e,
            bare_skip (k := k) (high := h) (by omega) h34 (fun q => hd ⟨hst.mpr q.1, q.2.1, q.2.2⟩)]
          cases st with
          | true => have := hst.mp rfl; simp; omega
          | false =>
            have : ¬ qn c k % 2 = 1 := fun q => by have := hst.mpr q; cases this
            simp; omega
      · by_cases hd : c k = 46 ∧ st = false
        · have hq0 : qn c k % 2 = 0 := by
            have : ¬ qn c k % 2 = 1 := fun q => by have := hst.mpr q; rw [hd.2] at this; cases this
            omega
          rw [dots_yes hlt hd.1 hq0] at e
          injection e with e1 e2
          subst e1
          have hq : qn c (k + 1) = qn c k := by rw [qn_succ, if_neg h34]; rfl
          obtain ⟨h', r', e', hge⟩ := head_ge (c := c) (n := n) (n - (k + 1)) (k + 1) (Nat.le_refl _) (by omega)
          have e3 : r = h' :: r' := e2.symm.trans e'
          rw [hd.2, pz_dot hlt hd.1, ih (k + 1) false [] (by omega) (by omega) (by rw [hq, ← hd.2]; exact hst) h' r' e', bare_end (k := k) (high := k) (by omega), List.append_nil, e3]
          rfl
        · have hnd : ¬ (c k = 46 ∧ qn c k % 2 = 0) := fun q => hd ⟨q.1, by
            cases st with
            | true => have := hst.mp rfl; omega
            | false => rfl⟩
          rw [dots_no hlt hnd] at e
          obtain ⟨h', r', e', hge⟩ := head_ge (c := c) (n := n) (n - (k + 1)) (k + 1) (Nat.le_refl _) (by omega)
          have hh : k + 1 ≤ h := by
            have := e'.symm.trans e
            injection this with a b; omega
          have hq : qn c (k + 1) = qn c k := by rw [qn_succ, if_neg h34]; rfl
          rw [pz_chr hlt h34 hd, ih (k + 1) st _ (by omega) (by omega) (by rw [hq]; exact hst) h r e, bare_chr (k := k) (high := h) (by omega) h34]
          simp
    · rw [dots_end hlt] at e
      injection e with e1 e2
      subst e1; subst e2
      rw [pz_end hlt, bare_end hlt, List.append_nil]; rfl
end
/-- the dots are those that the law picks -/
theorem dots_range {c : Nat → Nat} {n : Nat} : ∀ (j k : Nat), n - k ≤ j → k ≤ n → dots c n k = (List.range' k (n - k)).filter fun i => decide (c i = 46) && decide (qn c i % 2 = 0) := by
  intro j
  induction j with
  | zero =>
    intro k hj hk
    rw [dots_end (by omega), show n - k = 0 by omega]; rfl
  | succ j ih =>
    intro k hj hk
    by_cases hlt : k < n
    · rw [show n - k = (n - (k + 1)) + 1 by omega, List.range'_succ, List.filter_cons]
      by_cases hd : c k = 46 ∧ qn c k % 2 = 0
      · rw [dots_yes hlt hd.1 hd.2, ih (k + 1) (by omega) (by omega)]
        simp [hd.1, hd.2]
      · rw [dots_no hlt hd, ih (k + 1) (by omega) (by omega)]
        have : (decide (c k = 46) && decide (qn c k % 2 = 0)) = false := by
          rw [Bool.and_eq_false_iff, decide_eq_false_iff_not, decide_eq_false_iff_not]
          by_cases h1 : c k = 46
          · exact .inr fun h2 => hd ⟨h1, h2⟩
          · exact .inl h1
        rw [this]; simp
    · rw [dots_end hlt, show n - k = 0 by omega]; rfl
theorem places_dots (x : Str) : places x = -1 :: ((dots (cd x) x.length 0 ++ [x.length]).map fun (k : Nat) => (k : Int)) := by
  unfold places sel parts
  rw [dots_range x.length 0 (by omega) (by omega), List.map_append, List.range_eq_range']
  simp
theorem between_map {c : Nat → Nat} {n : Nat} : ∀ (p : Nat) (l : List Nat), between c n (p :: l) = (List.range l.length).map fun k => bare c n ((p :: l).getD (k + 1) 0) ((p :: l).getD k 0 + 1)
  | _, [] => rfl
  | p, q :: r => by
    rw [List.length_cons, List.range_succ_eq_map, List.map_cons, List.map_map]
    show bare c n q (p + 1) :: between c n (q :: r) = _
    rw [between_map q r]
    rfl
theorem getD_cast (l : List Nat) (k : Nat) : ((l.map fun (k : Nat) => (k : Int)).getD k 0).toNat = l.getD k 0 := by
  rw [List.getD_eq_getElem?_getD, List.getD_eq_getElem?_getD, List.getElem?_map]
  cases l[k]? <;> simp
theorem getD_cast1 (l : List Nat) (k : Nat) : ((l.map fun (k : Nat) => (k : Int)).getD k 0 + 1).toNat = l.getD k 0 + 1 := by
  rw [List.getD_eq_getElem?_getD, List.getD_eq_getElem?_getD, List.getElem?_map]
  cases l[k]? <;> simp <;> omega
/-- what the parser tells is what the law finds -/
theorem told_found (x : Str) : told x = found x := by
  obtain ⟨h, r, e, _⟩ := head_ge (c := cd x) (n := x.length) x.length 0 (by omega) (by omega)
  unfold told found
  rw [pz_between x.length 0 false [] (by omega) (by omega) (by simp [qn]) h r e, places_dots, e, List.nil_append, List.map_cons, between_map]
  rw [show (-1 :: ((h :: r).map fun (k : Nat) => (k : Int))).length - 1 = r.length + 1 by simp, List.range_succ_eq_map, List.map_cons, List.map_map, List.map_map]
  congr 1
  apply List.map_congr_left
  intro k _
  simp only [Function.comp_def, Nat.succ_eq_add_one, List.getD_cons_succ, getD_cast, getD_cast1]
end Mine
end
section
open PySem PySem.W PyProof.Rows
namespace Mine
local macro_rules | `(tactic| k_steps) => `(tactic| repeat' ((fail_if_success (with_reducible show wpAny _ _ (pyIter (Value.ref _)) _ _ _)); (fail_if_success (with_reducible show LCg.CompSrc _ _ _ _ _ _ _ _ _ _ _ _ _ _)); first | (k_unfold; (try dsimp only)) | (k_end; wrow_close) | walk1 | (dsimp only; walk1) | fail "no step"))
theorem sign_item {w : World} {A : Around} {E : Value → Shared → Prop} {s : Shared} {h₀ : Heap} {L : Addr} {m : Str → Option Value} {value slice : PySem.Expr} {x : Int} {u : Tok} {Q : Value → Shared → Prop} (F : Fr h₀ L s.heap m) (X : (Mine.hd.heap_39 w.params).In h₀) (h0 : 0 ≤ x) (h1 : x < 10)
    (h : ∀ y t, y.length ≤ 2 → PyData.strOk y = true → Q (.str y t) s)
    (hs : subscripted slice false (.ref 27) (.int x u) = operate [.ref 27, .int x u] (getItem (.ref 27) (.int x u)) := by with_unfolding_all rfl) :
    wpAny (model PySem.Challenge.rw_bq5030_01.row.prog w) A (subscriptTail value slice (.ref 27) (.int x u)) Q E s := by
  revert X
  k_with_none
  w_top off
  k_fill
  intro X
  have key : ∃ items : Array Value, h₀.IsList 27 items ∧ ∀ k : Nat, k < 10 → ∃ y t, items[k]? = some (.str y t) ∧ y.length ≤ 2 ∧ PyData.strOk y = true := by
    refine ⟨_, ⟨_, X 27 _ (by k_is), rfl, _, rfl⟩, ?_⟩
    intro k hk
    have : k = 0 ∨ k = 1 ∨ k = 2 ∨ k = 3 ∨ k = 4 ∨ k = 5 ∨ k = 6 ∨ k = 7 ∨ k = 8 ∨ k = 9 := by omega
    rcases this with rfl | rfl | rfl | rfl | rfl | rfl | rfl | rfl | rfl | rfl <;> exact ⟨_, _, rfl, by decide +kernel, by decide +kernel⟩
  obtain ⟨items, hl, hi⟩ := key
  obtain ⟨y, t, e, e1, e2⟩ := hi x.toNat (by omega)
  have hl' : s.heap.IsList 27 items := hl.at fun o e => F.keep _ o e
  exact tail_any hl'.typeIs slot_list_getitem.lookup (wpAny_getItem_list hl' h0 (by omega) e (h y t e1 e2)) hs
theorem join_facts {ws : List Str} (h : ∀ w ∈ ws, w.length ≤ 2 ∧ PyData.strOk w = true) (hn : ws.length ≤ 14) : (Txt.join (Str.ofString "") ws).length ≤ 1000 ∧ PyData.strOk (Txt.join (Str.ofString "") ws) = true ∧ (ws.map (·.length)).sum + ws.length ≤ 1048576 := by
  have hsum : (ws.map (·.length)).sum ≤ 2 * ws.length := by
    clear hn
    induction ws with
    | nil => simp
    | cons a r ih =>
      have := (h a (List.mem_cons_self ..)).1
      have := ih fun w hw => h w (List.mem_cons_of_mem _ hw)
      simp only [List.map_cons, List.sum_cons, List.length_cons]; omega
  refine ⟨?_, ?_, by omega⟩
  · unfold Txt.join
    rw [StrLaws.glued_eq_join]
    have := StrLaws.join_length_le (Str.ofString "") ws
    have e : (Str.ofString "").length = 0 := by decide +kernel
    rw [e] at this
    omega
  · unfold Txt.join
    rw [StrLaws.glued_eq_join, strOk_iff]
    intro c hc
    rcases (mem_join (Str.ofString "") c ws).mp hc with ⟨t, ht, hct⟩ | ⟨_, h2⟩
    · exact (strOk_iff t).mp (h t ht).2 c hct
    · have e : (Str.ofString "").cps.toList = [] := by decide +kernel
      rw [e] at h2; cases h2
theorem perm5 {α : Type} {a b c d e : α} {l : List α} : ∀ p ∈ d :: e :: a :: b :: c :: l, p ∈ a :: b :: c :: d :: e :: l := by
  intro p hp
  simp only [List.mem_cons] at hp ⊢
  rcases hp with h | h | h | h | h | h
  · exact .inr (.inr (.inr (.inl h)))
  · exact .inr (.inr (.inr (.inr (.inl h))))
  · exact .inl h
  · exact .inr (.inl h)
  · exact .inr (.inr (.inl h))
  · exact .inr (.inr (.inr (.inr (.inr h))))
theorem perm5' {α : Type} {a b c d e : α} {l : List α} : ∀ p ∈ a :: b :: c :: d :: e :: l, p ∈ d :: e :: a :: b :: c :: l := by
  intro p hp
  simp only [List.mem_cons] at hp ⊢
  rcases hp with h | h | h | h | h | h
  · exact .inr (.inr (.inl h))
  · exact .inr (.inr (.inr (.inl h)))
  · exact .inr (.inr (.inr (.inr (.inl h))))
  · exact .inl h
  · exact .inr (.inl h)
  · exact .inr (.inr (.inr (.inr (.inr h))))
theorem lit_told : told (Str.ofString "\"a.b\".c\"\"d\"e\"") = [Str.ofString "a.b", Str.ofString "cde"] := by
  have hn : (Str.ofString "\"a.b\".c\"\"d\"e\"").length = 13 := by decide +kernel
  have c0 : cd (Str.ofString "\"a.b\".c\"\"d\"e\"") 0 = 34 := by decide +kernel
  have c1 : cd (Str.ofString "\"a.b\".c\"\"d\"e\"") 1 = 97 := by decide +kernel
  have c2 : cd (Str.ofString "\"a.b\".c\"\"d\"e\"") 2 = 46 := by decide +kernel
  have c3 : cd (Str.ofString "\"a.b\".c\"\"d\"e\"") 3 = 98 := by decide +kernel
  have c4 : cd (Str.ofString "\"a.b\".c\"\"d\"e\"") 4 = 34 := by decide +kernel
  have c5 : cd (Str.ofString "\"a.b\".c\"\"d\"e\"") 5 = 46 := by decide +kernel
  have c6 : cd (Str.ofString "\"a.b\".c\"\"d\"e\"") 6 = 99 := by decide +kernel
  have c7 : cd (Str.ofString "\"a.b\".c\"\"d\"e\"") 7 = 34 := by decide +kernel
  have c8 : cd (Str.ofString "\"a.b\".c\"\"d\"e\"") 8 = 34 := by decide +kernel
  have c9 : cd (Str.ofString "\"a.b\".c\"\"d\"e\"") 9 = 100 := by decide +kernel
  have c10 : cd (Str.ofString "\"a.b\".c\"\"d\"e\"") 10 = 34 := by decide +kernel
  have c11 : cd (Str.ofString "\"a.b\".c\"\"d\"e\"") 11 = 101 := by decide +kernel
  have c12 : cd (Str.ofString "\"a.b\".c\"\"d\"e\"") 12 = 34 := by decide +kernel
  unfold told
  rw [hn]
  rw [pz_tog (k := 0) (by decide) c0 (fun h => Bool.noConfusion h.1)]
  rw [Bool.not_false]
  rw [pz_chr (k := 1) (by decide) (fun h => absurd (c1.symm.trans h) (by decide)) (fun h => Bool.noConfusion h.2)]
  rw [c1]
  rw [pz_chr (k := 2) (by decide) (fun h => absurd (c2.symm.trans h) (by decide)) (fun h => Bool.noConfusion h.2)]
  rw [c2]
  rw [pz_chr (k := 3) (by decide) (fun h => absurd (c3.symm.trans h) (by decide)) (fun h => Bool.noConfusion h.2)]
  rw [c3]
  rw [pz_tog (k := 4) (by decide) c4 (fun h => absurd (c5.symm.trans h.2.2) (by decide))]
  rw [Bool.not_true]
  rw [pz_dot (k := 5) (by decide) c5]
  rw [pz_chr (k := 6) (by decide) (fun h => absurd (c6.symm.trans h) (by decide)) (fun h => absurd (c6.symm.trans h.1) (by decide))]
  rw [c6]
  rw [pz_tog (k := 7) (by decide) c7 (fun h => Bool.noConfusion h.1)]
  rw [Bool.not_false]
  rw [pz_tog (k := 8) (by decide) c8 (fun h => absurd (c9.symm.trans h.2.2) (by decide))]
  rw [Bool.not_true]
  rw [pz_chr (k := 9) (by decide) (fun h => absurd (c9.symm.trans h) (by decide)) (fun h => absurd (c9.symm.trans h.1) (by decide))]
  rw [c9]
  rw [pz_tog (k := 10) (by decide) c10 (fun h => Bool.noConfusion h.1)]
  rw [Bool.not_false]
  rw [pz_chr (k := 11) (by decide) (fun h => absurd (c11.symm.trans h) (by decide)) (fun h => Bool.noConfusion h.2)]
  rw [c11]
  rw [pz_tog (k := 12) (by decide) c12 (fun h => absurd h.2.1 (by decide))]
  rw [Bool.not_true]
  rw [pz_end (by decide)]
  have e1 : Str.ofString "a.b" = txt [97, 46, 98] := by decide +kernel
  have e2 : Str.ofString "cde" = txt [99, 100, 101] := by decide +kernel
  rw [e1, e2]
  rfl
theorem lit_ok : PyData.strOk (Str.ofString "\"a.b\".c\"\"d\"e\"") = true := by decide +kernel
structure DS where
  i : Int
  v : Int
  ti : Tok
  tv : Tok
  n : Nat
theorem law_holds : PySem.Challenge.rw_bq5030_01.Holds := Mine.hd (by
  k_with_none
  k_go0
  all_goals try k_fold
  k_steps
  rename_i wW s00 s1 mg mb G Y fa oo pm dc ho hg KX XX VV GL TT BB TE TW w10 w9 MM w8 w7 hcd script hsh hlay0 hLay hrec hl2 w5 w4 w3 w2 w1 hLst ra w1' r0 hI hr hcond hcond2 K0 hD hh1 tk1 ww right X0 sc us _ hus hul0 hul1 lsc st _ lst _ co FS NS dco _ _ _ _ _ rng F1 N1 kp1
  have hl60 : (List.take 60 script).length ≤ 60 := by rw [List.length_take]; omega
  have hss : (@Ne Nat st sc) := by have := lst.1; omega
  have hcs : (@Ne Nat (s1.heap.objs.size + 1) st) := by have := lst.2; omega
  clear FS NS kp1 X0 right hD
  refine' kst_range (fun c : DS => (st, draws sc c.i c.v c.ti c.tv c.n) :: (sc, listOf us.toArray 0) :: [(s1.heap.objs.size + 1, co)]) (fun _ => []) (fun c => 0 ≤ c.i ∧ 0 ≤ c.v ∧ c.v < 2147483647) [Str.ofString "text", Str.ofString "told"] (fun _ _ => True) ⟨0, 17, _, _, _⟩ (by rfl) rng (by decide) (rangeSize_nat _ _) F1 N1 ?wf ?wk ?wp ?_ ?_
  case wf => exact ⟨Int.le_refl 0, by show (0 : Int) ≤ 17; decide, by show (17 : Int) < 2147483647; decide⟩
  case wk => exact List.forall_mem_nil _
  case wp => trivial
  · clear F1 N1 rng
    rintro ⟨i, v, ti, tv, n⟩ pre k t u h tk2 own hk hlt hown ⟨hi, hv, hv2⟩ - F N
    dsimp only [kstB] at hown hi hv hv2 F N
    rw [List.cons_append, List.cons_append, List.cons_append, List.nil_append] at N
    have hrest : ∀ p ∈ (s1.heap.objs.size + 1, co) :: own, p.1 ≠ st := by
      intro p hp
      rcases List.mem_cons.mp hp with e | hp
      · rw [e]; exact hcs
      · exact hown p hp st (List.mem_cons_self ..)
    k_with "call ref" => k_dflt (refine' says_use (c_next _ st sc i v 14 ti tv _ n 0 us _ ((s1.heap.objs.size + 1, co) :: own) hi hv hv2 (by decide) (by decide) hus hl60 hss hrest) ?k1 ?k2 ?k3 ?k4 ?k5 ?kK ?kd ?ku ?_; (case k1 => k_asm); (case k2 => k_asm); (case k3 => k_asm); (case k4 => k_asm); (case k5 => k_asm); (case kK => exact rfl); (case kd => ktr_room); (case ku => ktr_units); rintro r9 led9 h9 tk9 F9 N9 ⟨i2, v2, ti2, tv2, n2, x2, t2, rfl, hx0, hx1, hi2, hv02, hv22, rfl⟩; (try dsimp only); (try k_fold))
    k_with "eval ListComp" => (k_dflt (refine LCg.ListComp_U (F₀ := by k_asm) (by with_unfolding_all rfl) (by decide) (by rfl) (by decide) (by rfl) ?_))
    k_unmd
    k_fold
    k_steps
    refine LCg.CompSrc.range (by rfl) (by k_asm) (by k_asm) (by assumption) (small_one (by omega) (by omega) (by omega) (by omega)) (rangeSize_nat _ _) (by rw [sizeLine_eq]; omega) ?_
    intro gh
    rename News _ _ _ _ => nX
    rename Fr _ _ _ _ => fX
    refine comp_rest (fun j ys nw => ∃ (i v : Int) (ti tv : Tok) (n : Nat) (ws : List Str), nw = (st, draws sc i v ti tv n) :: (sc, listOf us.toArray 0) :: (s1.heap.objs.size + 1, co) :: own ∧ 0 ≤ i ∧ 0 ≤ v ∧ v < 2147483647 ∧ StrsAre ys ws ∧ ws.length = j ∧ ∀ w ∈ ws, w.length ≤ 2 ∧ PyData.strOk w = true) ⟨i2, v2, ti2, tv2, n2, [], rfl, hi2, hv02, hv22, .nil, rfl, by simp⟩ ?_ ?_
    · clear nX fX
      rintro j ys nw vv I oI C oC D m₂ h tk9 E' hj ⟨i3, v3, ti3, tv3, n3, ws, rfl, hi3, hv03, hv23, hS, hwl, hw⟩ hv' hC hx' F N off ne
      have hr3 : ∀ p ∈ (I, oI) :: (C, oC) :: (D, LCg.lst ys) :: (s1.heap.objs.size + 1, co) :: own, p.1 ≠ st := by
        intro p hp
        rcases List.mem_cons.mp hp with e | hp
        · rw [e]; exact Ne.symm off.1.1
        rcases List.mem_cons.mp hp with e | hp
        · rw [e]; exact Ne.symm off.1.2.1
        rcases List.mem_cons.mp hp with e | hp
        · rw [e]; exact Ne.symm off.1.2.2
        exact hrest p hp
      k_with "call ref" => k_dflt (refine' says_use (c_next _ st sc i3 v3 10 ti3 tv3 _ n3 0 us _ ((I, oI) :: (C, oC) :: (D, LCg.lst ys) :: (s1.heap.objs.size + 1, co) :: own) hi3 hv03 hv23 (by decide) (by decide) hus hl60 hss hr3) ?k1 ?k2 ?k3 ?k4 ?k5 ?kK ?kd ?ku ?_; (case k1 => k_asm); (case k2 => k_asm); (case k3 => k_asm); (case k4 => exact cb_drop N perm5); (case k5 => k_asm); (case kK => exact rfl); (case kd => ktr_room); (case ku => ktr_units); rintro r9 led9 h9 tk9 F9 N9 ⟨i4, v4, ti4, tv4, n4, x4, t4, rfl, hx40, hx41, hi4, hv04, hv24, rfl⟩; (try dsimp only); (try k_fold))
      k_unmd
      k_fold
      repeat' ((fail_if_success (with_reducible show wpAny _ _ (subscriptTail _ _ (Value.ref _) _) _ _ _)); first | (k_unfold; (try dsimp only)) | (k_end; wrow_close) | walk1 | (dsimp only; walk1) | fail "no step")
      refine sign_item (by k_asm) (by k_asm) hx40 hx41 ?_
      intro y8 t8 hy1 hy2
      k_steps
      refine LCg.CompEnd.intro (by assumption) (by assumption) ((st, draws sc i4 v4 ti4 tv4 n4) :: (sc, listOf us.toArray 0) :: (s1.heap.objs.size + 1, co) :: own) perm5' off trivial ⟨i4, v4, ti4, tv4, n4, ws ++ [y8], rfl, hi4, hv04, hv24, hS.append' (.cons _ _ .nil), by rw [List.length_append, hwl]; rfl, ?_⟩
      intro w hw'
      rcases List.mem_append.mp hw' with hw' | hw'
      · exact hw w hw'
      · rw [List.mem_singleton.mp hw']; exact ⟨hy1, hy2⟩
    · clear nX fX
      rintro ys nw ⟨i3, v3, ti3, tv3, n3, ws, rfl, hi3, hv03, hv23, hS, hwl, hw⟩
      unfold LCg.FinE
      intro D h' tk' F' N' o1'
      have ho := off1_mem o1'
      obtain ⟨hXl, hXo, hXw⟩ := join_facts hw (by omega)
      repeat' ((fail_if_success (with_reducible show wpAny _ _ (call (Value.builtin "str.join") _) _ _ _)); (fail_if_success (with_reducible show wpAny _ _ (call (Value.ref _) _) _ _ _)); (fail_if_success (with_reducible show wpAny _ _ (compareOp CmpOp.NotEq _ _) _ _ _)); first | (k_unfold; (try dsimp only)) | (k_end; wrow_close) | walk1 | (dsimp only; walk1) | fail "no step")
      refine join_listW (News.isList (by k_asm) (List.Mem.head _)) hS (by decide) hXw ?_
      intro t8 k8
      repeat' ((fail_if_success (with_reducible show wpAny _ _ (call (Value.builtin "str.join") _) _ _ _)); (fail_if_success (with_reducible show wpAny _ _ (call (Value.ref _) _) _ _ _)); (fail_if_success (with_reducible show wpAny _ _ (compareOp CmpOp.NotEq _ _) _ _ _)); first | (k_unfold; (try dsimp only)) | (k_end; wrow_close) | walk1 | (dsimp only; walk1) | fail "no step")
      refine' says_use (c_parser _ (Txt.join (Str.ofString "") ws) _ hXl _) ?k1 ?k2 ?k3 ?k4 ?k5 ?kK ?kd ?ku ?_
      (case k1 => k_asm); (case k2 => k_asm); (case k3 => k_asm); (case k4 => k_asm); (case k5 => k_asm); (case kK => exact rfl); (case kd => ktr_room); (case ku => ktr_units)
      rintro r9 led9 h9 tk9 F9 N9 ⟨pa, py, pn, rfl, rfl, hps, hpo⟩
      repeat' ((fail_if_success (with_reducible show wpAny _ _ (call (Value.builtin "str.join") _) _ _ _)); (fail_if_success (with_reducible show wpAny _ _ (call (Value.ref _) _) _ _ _)); (fail_if_success (with_reducible show wpAny _ _ (compareOp CmpOp.NotEq _ _) _ _ _)); first | (k_unfold; (try dsimp only)) | (k_end; wrow_close) | walk1 | (dsimp only; walk1) | fail "no step")
      refine' says_use (c_names _ (Txt.join (Str.ofString "") ws) _ hXl _) ?k1 ?k2 ?k3 ?k4 ?k5 ?kK ?kd ?ku ?_
      (case k1 => k_asm); (case k2 => k_asm); (case k3 => k_asm); (case k4 => k_asm); (case k5 => k_asm); (case kK => exact rfl); (case kd => ktr_room); (case ku => ktr_units)
      rintro r9 led9 h9 tk9 F9 N9 ⟨qa, qy, qn, rfl, rfl, hqs, hqo⟩
      repeat' ((fail_if_success (with_reducible show wpAny _ _ (call (Value.builtin "str.join") _) _ _ _)); (fail_if_success (with_reducible show wpAny _ _ (call (Value.ref _) _) _ _ _)); (fail_if_success (with_reducible show wpAny _ _ (compareOp CmpOp.NotEq _ _) _ _ _)); first | (k_unfold; (try dsimp only)) | (k_end; wrow_close) | walk1 | (dsimp only; walk1) | fail "no step")
      refine ne_strs (News.isList (by k_asm) (List.Mem.tail _ (List.Mem.head _))) (News.isList (by k_asm) (List.Mem.head _)) hps (by rw [told_found]; exact hqs) (told_ok hXo) (by units_room) ?_
      k_steps
      refine InvEndN.intro F9 N9 (nx := [(st, draws sc i3 v3 ti3 tv3 n3), (sc, listOf us.toArray 0), (s1.heap.objs.size + 1, co)]) ⟨⟨i3, v3, ti3, tv3, n3⟩, rfl, ⟨hi3, hv03, hv23⟩, List.forall_mem_nil _, by kst_same, trivial⟩ rfl (fun p hp => ?_) (fun p hp => ?_)
      · exact List.mem_cons_of_mem _ (List.mem_cons_of_mem _ (List.mem_cons_of_mem _ (List.mem_append.mpr (.inl hp))))
      · exact List.mem_cons_of_mem _ (List.mem_cons_of_mem _ (List.mem_cons_of_mem _ (List.mem_cons_of_mem _ (List.mem_cons_of_mem _ (List.mem_cons_of_mem _ hp)))))
  · clear F1 N1 rng
    rintro ⟨i, v, ti, tv, n⟩ u h tk2 ⟨hi, hv, hv2⟩ - F N
    dsimp only [kstB] at hi hv hv2 F N
    show wpAny _ _ _ _ _ _
    k_unmd
    repeat' ((fail_if_success (with_reducible show wpAny _ _ (call (Value.builtin "str.join") _) _ _ _)); (fail_if_success (with_reducible show wpAny _ _ (call (Value.ref _) _) _ _ _)); (fail_if_success (with_reducible show wpAny _ _ (compareOp CmpOp.Eq (Value.ref _) _) _ _ _)); first | (k_unfold; (try dsimp only)) | (k_end; wrow_close) | walk1 | (dsimp only; walk1) | fail "no step")
    refine' says_use (c_parser _ (Str.ofString "\"a.b\".c\"\"d\"e\"") _ (by decide +kernel) _) ?k1 ?k2 ?k3 ?k4 ?k5 ?kK ?kd ?ku ?_
    (case k1 => k_asm); (case k2 => k_asm); (case k3 => k_asm); (case k4 => k_asm); (case k5 => k_asm); (case kK => exact rfl); (case kd => ktr_room); (case ku => ktr_units)
    rintro r9 led9 h9 tk9 F9 N9 ⟨pa, py, pn, rfl, rfl, hps, hpo⟩
    repeat' ((fail_if_success (with_reducible show wpAny _ _ (call (Value.builtin "str.join") _) _ _ _)); (fail_if_success (with_reducible show wpAny _ _ (call (Value.ref _) _) _ _ _)); (fail_if_success (with_reducible show wpAny _ _ (compareOp CmpOp.Eq (Value.ref _) _) _ _ _)); first | (k_unfold; (try dsimp only)) | (k_end; wrow_close) | walk1 | (dsimp only; walk1) | fail "no step")
    refine eq_strs (ws := [Str.ofString "a.b", Str.ofString "cde"]) (News.isList (by k_asm) (List.Mem.tail _ (List.Mem.head _))) (News.isList (by k_asm) (List.Mem.head _)) (by rw [lit_told] at hps; exact hps) (.cons _ _ (.cons _ _ .nil)) (by rw [← lit_told]; exact told_ok lit_ok) (by units_room) ?_
    k_steps)
end Mine
end
theorem PySem.Challenge.cw_bq5030_01_holds : PySem.Challenge.rw_bq5030_01.Holds := by
  exact Mine.law_holds
