import PyProof.Rows.All
import Wide.All
import OpenK.AllK
import Wide.FinOn
import PyProof.IsiH_list
import PySem.Builtin.Str.W2Methods2
import PySem.Builtin.Re_Pattern.W2All
import Lean
import PySem.Challenge.RW_ik0157_01
open PySem PySem.W PySem.Calls PyProof.Rows PyProof.V PySem.Spec
set_option Elab.async false
set_option maxRecDepth 100000
set_option linter.unusedSimpArgs false
set_option linter.unusedVariables false
-- part B1
namespace Mine
section
variable {g h h' h₀ : Heap} {L a : Addr} {m m' : Str → Option Value} {news : List (Addr × Obj)} {o : Obj}
theorem fr_cong (F : Fr g L h m) (e : ∀ y, m y = m' y) : Fr g L h m' := (funext e : m = m') ▸ F
theorem fr_stays (F : Fr h₀ L h m) (k : h.StaysIn h') : Fr h₀ L h' m :=
  ⟨F.ns.at' fun o e => k _ o e, fun b o e => k b o (F.keep b o e), F.above⟩
theorem news_stays (N : News h₀ L h news) (k : h.StaysIn h') : News h₀ L h' news := fun p hp => ⟨k _ _ (N p hp).1, (N p hp).2⟩
theorem news_fresh (F : Fr h₀ L h m) (hn : h.get? a = none) (ha : h'.get? a = some o) (N' : News h₀ L h' news) : News h₀ L h' ((a, o) :: news) := fun p hp => by
  rcases List.mem_cons.mp hp with rfl | hp
  · refine ⟨ha, fun e => ?_, ?_⟩
    · obtain ⟨oL, _, _, hL, _⟩ := F.ns
      rw [show a = L from e, hL] at hn
      cases hn
    · cases q : h₀.get? a with
      | none => rfl
      | some o' => rw [F.keep _ _ q] at hn; cases hn
  · exact N' p hp
theorem news_sub {l l' : List (Addr × Obj)} (N : News h₀ L h l) (hs : ∀ p ∈ l', p ∈ l) : News h₀ L h l' := fun p hp => N p (hs p hp)
end
section
variable {prog : Program} {w : World} {A : Around} {s : Shared} {K : Frag} {R : Result → Shared → Prop} {name qual : Str} {params : Arguments} {body : List Stmt} {scope : Scope} {dV kV doc pm cdv ct oc : Value} {an od : Option Addr} {osl : Array (Option Value)} {f : Addr} {args : Args} {binds : List (Str × Value)}
theorem enter0 (X : K.In s.heap) (lim : s.heap.NoLimit)
    (ho : K.lookup f = some ⟨oc, od, .func (fnOf name qual params body scope dV kV doc pm an cdv ct), osl⟩) (hcd : codeIn K cdv qual = true) (hroom : A.depth < recursionLimit)
    (hbind : BindsTo s (fnOf name qual params body scope dV kV doc pm an cdv ct) args binds) (hloc : ∀ y ∈ binds, scope.names.lookup y.1 = some .local)
    (h : ∀ L' h₁, Fr s.heap L' h₁ (fun y => binds.reverse.lookup y) → News s.heap L' h₁ [] →
      wpAny (model prog w) (A.deeper (envOf qual scope L' f cdv)) (execs body (envOf qual scope L' f cdv))
        (fun fl s' => R (.ok (.ret (match fl with | .ret v => v | _ => .none))) s') (fun _ _ => False) { s with heap := h₁, toks := s.toks + binds.length })
    (hcell : ∀ x ∈ scope.names, x.2 ≠ .cell) (hco : scope.isCoroutine = false := by rfl) (hgen : scope.isGenerator = false := by rfl) (hk : scope.kind = .function := by rfl) :
    codeAny (model prog w) A (.call (.ref f) args) R s := by
  refine codeAny_call_def (fd := fnOf name qual params body scope dV kV doc pm an cdv ct) (body := body) (binds := binds) hroom (X _ _ ho) rfl lim (codeRec_of X hcd) rfl hbind hcell hloc (fun h₁ hns hk₁ => ?_) hco hgen hk
  exact wpAny_mono (h _ h₁ ⟨hns, hk₁, Nat.le_refl _⟩ News.nil) (fun fl s' hl => hl) fun _ _ y => y.elim

theorem enterC0 (X : K.In s.heap) (lim : s.heap.NoLimit)
    (ho : K.lookup f = some ⟨oc, od, .func (fnOf name qual params body scope dV kV doc pm an cdv ct), osl⟩) (hcd : codeIn K cdv qual = true) (hroom : A.depth < recursionLimit)
    (hbind : BindsTo s (fnOf name qual params body scope dV kV doc pm an cdv ct) args binds)
    (hkind : (binds.all fun y => scope.names.lookup y.1 == some .local || scope.names.lookup y.1 == some .cell) = true)
    (hnd : ((cellsFrom 0 scope.names []).map (·.1)).Nodup)
    (h : ∀ L' h₁ tk cells, Fr s.heap L' h₁ (bindL (envOfC qual scope L' f cdv).kindOf binds fun _ => none) → News s.heap L' h₁ cells →
      CellsAre (bindC (envOfC qual scope L' f cdv).kindOf binds fun _ => none) (cellsFrom (L' + 1) scope.names []) cells →
      wpAny (model prog w) (A.deeper (envOfC qual scope L' f cdv)) (execs body (envOfC qual scope L' f cdv))
        (fun fl s' => R (.ok (.ret (match fl with | .ret v => v | _ => .none))) s') (fun _ _ => False) { s with heap := h₁, toks := tk })
    (hco : scope.isCoroutine = false := by rfl) (hgen : scope.isGenerator = false := by rfl) (hk : scope.kind = .function := by rfl) :
    codeAny (model prog w) A (.call (.ref f) args) R s := by
  refine codeAny_call_function hroom (X _ _ ho) rfl hco hgen rfl (codeRec_of X hcd) (hbind _ _ _ _ ?_)
  refine wpAny_newFunctionEnv_cells hk (kindsX hkind _) fun env' he s' x => ?_
  subst he
  refine ⟨lim.keeps x.toInCall.keep, codeAny_func ?_⟩
  obtain ⟨h₁, tk, rfl, _⟩ := x.done
  have hk₁ := x.toInCall.keep
  obtain ⟨cells, NC, Y⟩ := Cl.news (h₀ := s.heap) (Nat.le_refl _) fun n c hm => ⟨x.cell n c (lookup_of_mem_nodup (cellsFrom_names scope.names 0 (s.heap.objs.size + 1) [] [] rfl ▸ hnd) hm), x.above n c hm⟩
  refine wpAny_mono (h s.heap.objs.size h₁ tk cells ⟨x.toInCall.ns, hk₁, Nat.le_refl _⟩ NC Y) (fun fl s' hl => hl) fun _ _ y => y.elim
end
/-- a fact laid by: no line looks into it -/
structure NeBox (p : Prop) : Prop where
  out : p
theorem all1 {a i : Addr} {oa : Obj} (h1 : @Ne Nat a i) : ∀ p ∈ [(a, oa)], p.1 ≠ i := fun p hp => by
  rw [List.mem_singleton.mp hp]; exact h1
theorem all2 {a b i : Addr} {oa ob : Obj} (h1 : @Ne Nat a i) (h2 : @Ne Nat b i) : ∀ p ∈ [(a, oa), (b, ob)], p.1 ≠ i := fun p hp => by
  rcases List.mem_cons.mp hp with rfl | hp
  · exact h1
  · exact all1 h2 p hp
theorem all3 {a b c i : Addr} {oa ob oc : Obj} (h1 : @Ne Nat a i) (h2 : @Ne Nat b i) (h3 : @Ne Nat c i) : ∀ p ∈ [(a, oa), (b, ob), (c, oc)], p.1 ≠ i := fun p hp => by
  rcases List.mem_cons.mp hp with rfl | hp
  · exact h1
  · exact all2 h2 h3 p hp
theorem all4 {a b c d i : Addr} {oa ob oc od : Obj} (h1 : @Ne Nat a i) (h2 : @Ne Nat b i) (h3 : @Ne Nat c i) (h4 : @Ne Nat d i) : ∀ p ∈ [(a, oa), (b, ob), (c, oc), (d, od)], p.1 ≠ i := fun p hp => by
  rcases List.mem_cons.mp hp with rfl | hp
  · exact h1
  · exact all3 h2 h3 h4 p hp
end Mine

-- part P1
namespace Mine
open Builtin Builtin.Str in
theorem call_replace {prog : Program} {w : World} {A : Around} {E : Value → Shared → Prop} {s : Shared} {x y z : Str} {t u v : Tok} {Q : Value → Shared → Prop}
    (hu : u ≠ 0) (hv : v ≠ 0) (huv : u ≠ v) (hyz : (y == z) = false) (hx : x.length ≤ 1048576) (hz : z.length ≤ 14)
    (hq : ∀ t' k, s.toks ≤ k → Q (.str (Txt.replace x y z) t') { s with toks := k }) : wpAny (model prog w) A (call (.builtin "str.replace") [.str x t, .str y u, .str z v]) Q E s := by
  have hb : x.length + (x.length + 1) * z.length ≤ 16777216 := by
    have h1 : (x.length + 1) * z.length ≤ (x.length + 1) * 14 := Nat.mul_le_mul_left _ hz
    omega
  have e : (2 : Nat) ^ 24 = 16777216 := by decide
  have hl : tooLong (x.length + (occurrences x y 0 x.length (x.length + 1)).length * z.length) = false := by
    have h1 := StrLaws.occ_length_le x y 0 x.length (x.length + 1)
    have h2 : (occurrences x y 0 x.length (x.length + 1)).length * z.length ≤ (x.length + 1) * z.length := Nat.mul_le_mul_right _ h1
    unfold tooLong sizeLine
    exact decide_eq_false (by omega)
  refine call_gives F.slot_str_replace (typeIs_str _ _ _) F.entry_str_replace (F.args_str_replace_3 _ _ _)
    (gives_str_replace x y z t u v fun _ => ⟨by simp [hu, hv], by simp [huv], hyz, hl⟩) ?_
  have hq' := hq
  unfold Txt.replace at hq'
  cases hc : ((occurrences x y 0 x.length (x.length + 1)).isEmpty || (y.length == 0 && z.length == 0))
  · rw [hc] at hq'
    simp only [Bool.false_eq_true, if_false] at hq' ⊢
    exact ⟨fits_replaced y hb, hq' _ _ (by show s.toks ≤ s.toks + 1; omega)⟩
  · rw [hc] at hq'
    simp only [if_true] at hq' ⊢
    exact hq' t s.toks (Nat.le_refl _)

/-- one sign in place of a text -/
def rep1 (c : Nat) (d : List Nat) (l : List Nat) : List Nat := l.flatMap fun a => if a = c then d else [a]


theorem rep1_none {c : Nat} {d : List Nat} : ∀ {l : List Nat}, c ∉ l → rep1 c d l = l
  | [], _ => rfl
  | a :: r, h => by
    have h1 : a ≠ c := fun e => h (e ▸ .head _)
    have h2 : c ∉ r := fun e => h (.tail _ e)
    unfold rep1
    rw [List.flatMap_cons, if_neg h1]
    exact congrArg (a :: ·) (rep1_none h2)
theorem rep1_append {c : Nat} {d l r : List Nat} : rep1 c d (l ++ r) = rep1 c d l ++ rep1 c d r := List.flatMap_append
open Builtin Builtin.Str StrLaws in
theorem join_parts (x : Str) (c : Nat) (d : Str) : ∀ (cuts : List Nat) (a f : Nat), a ≤ x.length → ChainG x ⟨#[c]⟩ x.length a cuts f → (∀ k, f ≤ k → ¬ At x ⟨#[c]⟩ x.length k) →
    (Str.join d (partsFrom x (⟨#[c]⟩ : Str).length a cuts)).cps.toList = rep1 c d.cps.toList (x.cps.toList.drop a)
  | [], a, f, ha, h, hn => by
    have e : f = a := h
    subst e
    have hp := part_free x c f x.length (Nat.le_refl _) fun k h1 _ => hn k h1
    show (strSub x f x.length).cps.toList = _
    rw [strSub_toList] at hp ⊢
    have hl : (x.cps.toList.drop f).take (x.length - f) = x.cps.toList.drop f := List.take_of_length_le (by simp [Str.length])
    rw [hl] at hp ⊢
    exact (rep1_none hp).symm
  | k :: r, a, f, ha, h, hn => by
    obtain ⟨hak, hAt, hno, hr⟩ := h
    have hk := (subAt_one x c k).mp hAt
    have hkl : k < x.length := by have := hAt.1; have : (⟨#[c]⟩ : Str).length = 1 := rfl; omega
    have ih := join_parts x c d r (k + (⟨#[c]⟩ : Str).length) f (by show k + 1 ≤ _; omega) hr hn
    obtain ⟨p, q, hpq⟩ := partsFrom_ne x (⟨#[c]⟩ : Str).length (k + (⟨#[c]⟩ : Str).length) r
    have hp := part_free x c a k (by omega) fun j h1 h2 => hno j h1 h2
    show (Str.join d (strSub x a k :: partsFrom x (⟨#[c]⟩ : Str).length (k + (⟨#[c]⟩ : Str).length) r)).cps.toList = _
    rw [hpq] at ih ⊢
    show (strSub x a k ++ d ++ Str.join d (p :: q)).cps.toList = _
    simp only [Str.cps_append, Array.toList_append]
    rw [ih, strSub_toList]
    rw [strSub_toList] at hp
    have hd : x.cps.toList.drop a = (x.cps.toList.drop a).take (k - a) ++ c :: x.cps.toList.drop (k + 1) := by
      have h1 := List.take_append_drop (k - a) (x.cps.toList.drop a)
      rw [List.drop_drop, show a + (k - a) = k by omega] at h1
      rw [List.drop_eq_getElem_cons (i := k) (by simpa [Str.length] using hkl)] at h1
      rw [List.getElem?_eq_getElem (by simpa [Str.length] using hkl)] at hk
      rw [Option.some.inj hk] at h1
      exact h1.symm
    conv => rhs; rw [hd]
    rw [rep1_append, rep1_none hp]
    show _ = _ ++ ((if c = c then d.cps.toList else [c]) ++ rep1 c d.cps.toList (x.cps.toList.drop (k + 1)))
    rw [if_pos rfl, List.append_assoc]
    rfl
open Builtin Builtin.Str StrLaws in
theorem replace_one (x : Str) (c : Nat) (d : Str) : (Txt.replace x ⟨#[c]⟩ d).cps.toList = rep1 c d.cps.toList x.cps.toList := by
  unfold Txt.replace
  obtain ⟨f, h1, h2⟩ := occ_tight x ⟨#[c]⟩ (Nat.le_refl 1)
  have key := join_parts x c d _ 0 f (Nat.zero_le _) h1 h2
  rw [List.drop_zero] at key
  split
  · rename_i hc
    have hc' : (occurrences x ⟨#[c]⟩ 0 x.length (x.length + 1)) = [] := by
      simpa [Str.length] using hc
    rw [hc'] at key
    rw [← key]
    show x.cps.toList = (strSub x 0 x.length).cps.toList
    rw [strSub_toList, List.drop_zero, Nat.sub_zero, List.take_of_length_le (by simp [Str.length])]
  · rw [glued_eq_join, partsBetween_eq, key]
end Mine

-- part P2
namespace Mine
def escT (tab : List (Nat × List Nat)) (a : Nat) : List Nat := (tab.lookup a).getD [a]
def esc (tab : List (Nat × List Nat)) (l : List Nat) : List Nat := l.flatMap (escT tab)
theorem lookup_snoc {tab : List (Nat × List Nat)} {c : Nat} {d : List Nat} (a : Nat) : (tab ++ [(c, d)]).lookup a = match tab.lookup a with | some x => some x | none => if a = c then some d else none := by
  induction tab with
  | nil =>
    rw [List.nil_append, List.lookup_cons]
    by_cases h : a = c
    · simp [h]
    · have : (a == c) = false := by simpa using h
      simp [this, h]
  | cons p r ih =>
    rw [List.cons_append, List.lookup_cons, List.lookup_cons]
    cases hp : a == p.1 with
    | true => rfl
    | false => exact ih
theorem lookup_mem {tab : List (Nat × List Nat)} {a : Nat} {d : List Nat} (h : tab.lookup a = some d) : (a, d) ∈ tab := by
  induction tab with
  | nil => cases h
  | cons p r ih =>
    rw [List.lookup_cons] at h
    cases hp : a == p.1 with
    | true => rw [hp] at h; have := eq_of_beq hp; obtain ⟨p1, p2⟩ := p; cases h; subst this; exact .head _
    | false => rw [hp] at h; exact .tail _ (ih h)
theorem rep1_escT {tab : List (Nat × List Nat)} {c : Nat} {d : List Nat} (h1 : ∀ p ∈ tab, c ∉ p.2) (a : Nat) : rep1 c d (escT tab a) = escT (tab ++ [(c, d)]) a := by
  unfold escT
  rw [lookup_snoc]
  cases ha : tab.lookup a with
  | some x => exact rep1_none (h1 _ (lookup_mem ha))
  | none =>
    show rep1 c d [a] = _
    unfold rep1
    rw [List.flatMap_cons, List.flatMap_nil, List.append_nil]
    by_cases h : a = c
    · simp [h]
    · simp [h]
theorem rep1_flatMap {c : Nat} {d : List Nat} (f : Nat → List Nat) : ∀ l : List Nat, rep1 c d (l.flatMap f) = l.flatMap fun a => rep1 c d (f a)
  | [] => rfl
  | a :: r => by rw [List.flatMap_cons, List.flatMap_cons, rep1_append, rep1_flatMap f r]
theorem esc_snoc {tab : List (Nat × List Nat)} {c : Nat} {d l : List Nat} (h1 : ∀ p ∈ tab, c ∉ p.2) : rep1 c d (esc tab l) = esc (tab ++ [(c, d)]) l := by
  unfold esc
  rw [rep1_flatMap]
  exact congrArg (l.flatMap ·) (funext fun a => rep1_escT h1 a)
theorem esc_nil (l : List Nat) : esc [] l = l := by
  unfold esc
  induction l with
  | nil => rfl
  | cons a r ih => rw [List.flatMap_cons, ih]; rfl
theorem esc_len {tab : List (Nat × List Nat)} (h : ∀ p ∈ tab, p.2.length ≤ 6) : ∀ l : List Nat, (esc tab l).length ≤ 6 * l.length
  | [] => Nat.zero_le _
  | a :: r => by
    have ih := esc_len h r
    unfold esc at ih ⊢
    rw [List.flatMap_cons, List.length_append, List.length_cons]
    have : (escT tab a).length ≤ 6 := by
      unfold escT
      cases ha : tab.lookup a with
      | some x => exact h _ (lookup_mem ha)
      | none => show 1 ≤ 6; decide
    omega
/-- the five tables, in the law's order -/
def tabs : List (List (Nat × List Nat)) :=
  [[(38, [38, 97, 109, 112, 59]), (60, [38, 108, 116, 59]), (34, [38, 113, 117, 111, 116, 59]), (13, [38, 35, 120, 68, 59]), (10, [38, 35, 120, 65, 59]), (9, [38, 35, 120, 57, 59])],
   [(38, [38, 97, 109, 112, 59]), (60, [38, 108, 116, 59]), (62, [38, 103, 116, 59])],
   [(38, [38, 97, 109, 112, 59]), (60, [38, 108, 116, 59]), (62, [38, 103, 116, 59]), (34, [38, 113, 117, 111, 116, 59]), (13, [38, 35, 49, 51, 59]), (10, [38, 35, 49, 48, 59]), (9, [38, 35, 48, 57, 59])],
   [(38, [38, 97, 109, 112, 59]), (62, [38, 103, 116, 59]), (34, [38, 113, 117, 111, 116, 59])],
   [(38, [38, 97, 109, 112, 59]), (60, [38, 108, 116, 59]), (62, [38, 103, 116, 59]), (13, [38, 35, 120, 68, 59])]]
def tabAt (k : Nat) : List (Nat × List Nat) := tabs.getD k []
/-- _escape_attrib_c14n sets tab, newline, return last -/
theorem esc_order (l : List Nat) : esc [(38, [38, 97, 109, 112, 59]), (60, [38, 108, 116, 59]), (34, [38, 113, 117, 111, 116, 59]), (9, [38, 35, 120, 57, 59]), (10, [38, 35, 120, 65, 59]), (13, [38, 35, 120, 68, 59])] l = esc (tabAt 0) l := by
  unfold esc
  refine congrArg (l.flatMap ·) (funext fun a => ?_)
  unfold escT tabAt tabs
  simp only [List.getD, List.getElem?_cons_zero, Option.getD_some, List.lookup_cons]
  cases h1 : a == 38 <;> cases h2 : a == 60 <;> cases h3 : a == 34 <;> cases h4 : a == 9 <;> cases h5 : a == 10 <;> cases h6 : a == 13 <;> simp_all
end Mine

-- part E2
namespace Mine
section
variable {prog : Program} {w : World} {A : Around} {E : Value → Shared → Prop} {s : Shared} {g : Heap} {L a : Addr} {m : Str → Option Value} {news : List (Addr × Obj)} {nm : Str} {sc : Scope} {cd : Value}
set_option maxRecDepth 100000 in
theorem if_rep {x : Str} {t : Tok} {tx cS dS : Str} {c : Nat} {k1 k2 k3 : Nat} {p1 p2 p3 p4 p5 p6 p7 p8 p9 p10 p11 : Pos} {Q : Flow → Shared → Prop}
    (F : Fr g L s.heap (fun y => if y = tx then some (.str x t) else m y)) (N : News g L s.heap news)
    (htx : tx = Str.ofString "text")
    (hk : sc.kind = .function) (hl : (envOf nm sc L a cd).kindOf tx = some .local) (hcS : cS = ⟨#[c]⟩) (hcd : (cS == dS) = false) (hd : dS.length ≤ 14) (hx : x.length ≤ 1048576) {pl : Sem Bool}
    (he : eval (.Call (.Attribute (.Name tx p5) (Str.ofString "replace") p6) [.Constant (.str cS) k2 p7, .Constant (.str dS) k3 p8] [] p9) (envOf nm sc L a cd) = (do
      let ov ← eval (.Name tx p5) (envOf nm sc L a cd)
      standAt p6.atName
      let (f, first) ← holding [ov] (getMethod ov (Str.ofString "replace") pl)
      callWith p9 f first (backTo p9 (starEach [.Constant (.str cS) k2 p7, .Constant (.str dS) k3 p8] (envOf nm sc L a cd))) []))
    (h : ∀ x' t' h' k, x'.cps.toList = rep1 c dS.cps.toList x.cps.toList → s.toks ≤ k → Fr g L h' (fun y => if y = tx then some (.str x' t') else m y) → News g L h' news → Q .next { s with heap := h', toks := k }) :
    wpAny (model prog w) A (exec (.If (.Compare (.Constant (.str cS) k1 p1) [.In] [.Name tx p2] p3) [.Assign [.Name tx p4] (.Call (.Attribute (.Name tx p5) (Str.ofString "replace") p6) [.Constant (.str cS) k2 p7, .Constant (.str dS) k3 p8] [] p9) p10] [] p11) (envOf nm sc L a cd)) Q E s := by
  have hm : (fun y => if y = tx then some (Value.str x t) else m y) tx = some (.str x t) := by simp
  have hdb : (tx == ("__debug__" : Str)) = false := by subst htx; decide
  refine wpAny_If (wpAny_isTrue_Compare1 (Constant_str (ld F hm ?_ hk hl hdb)))
  refine in_str (wpAny_truthy_bool ?_)
  have hf := StrLaws.found_one x c
  rw [← hcS] at hf
  rw [hf]
  by_cases hin : c ∈ x.cps.toList
  · rw [decide_eq_true hin, if_pos rfl]
    refine wpAny_execs_cons (wpAny_Assign_Name ?_ (by rfl))
    refine MethodCall_ ?_ he
    refine ld F hm ?_ hk hl hdb
    walk1
    walk1
    walk1
    walk1
    walk1
    walk1
    walk1
    refine call_replace (Nat.succ_ne_zero _) (Nat.succ_ne_zero _) (by show s.toks + 1 ≠ s.toks + 1 + 1; omega) hcd hx hd ?_
    intro t' k hk'
    refine stN F N (fun h' F' N' => ?_) hk hl
    refine wpAny_execs_nil ?_
    have hk2 : s.toks + 1 + 1 + 1 ≤ k := hk'
    refine h (Txt.replace x cS dS) t' h' (k + 1) (by rw [hcS]; exact replace_one x c dS) (by omega) ?_ N'
    exact fr_cong F' fun y => by by_cases e : y = tx <;> simp [e]
  · rw [decide_eq_false hin]
    refine wpAny_execs_nil ?_
    exact h x t s.heap (s.toks + 1) (rep1_none hin).symm (by omega) F N
end
end Mine

-- part TopP
namespace Mine
section
local macro_rules | `(tactic| o_law) => `(tactic| refine holds_law (by decide +kernel) fun said => ?_)
local macro_rules | `(tactic| o_head $H) => `(tactic| (
  refine (fun (_ : PySem.Challenge.rw_ik0157_01.row.toRowW.promised) (z : PySem.Challenge.rw_ik0157_01.row.Holds) => z) ?hw ?hc))
set_option maxRecDepth 100000 in
set_option maxHeartbeats 8000000 in
open_top hd for PySem.Challenge.rw_ik0157_01
end
end Mine

-- part TopQ
namespace Mine
/-- the text without its four names of modules -/
def view : Program := { PySem.Challenge.pw_ik0157_01 with main := { PySem.Challenge.pw_ik0157_01.main with body := (((PySem.Challenge.pw_ik0157_01.main.body.eraseIdx 14).eraseIdx 12).eraseIdx 9).eraseIdx 1 } }
def written : List Nat := [2, 3, 6, 11, 12, 32, 34, 35, 37, 38, 39, 41, 42, 44, 45, 46, 48, 49, 51, 52, 53, 55, 56, 58, 59, 60, 62, 63, 65, 66,
  67, 69, 70, 72, 73, 77, 78, 80, 84, 86, 87, 89, 90, 91, 93, 94, 96, 97, 98, 100, 101, 103, 104, 105, 107, 108, 110, 111, 112, 114, 115, 117, 118, 119, 121, 122, 124, 125, 126, 128, 129, 131, 132, 133, 135, 136, 138, 139, 140, 143, 144, 145, 148, 149]
theorem written_is : ∀ P, written = (hd.heap_1 P).map (·.1) := fun _ => by kernel_rfl
abbrev freeNames : List Str := [Str.ofString "_twin_re_1", Str.ofString "_special_chars_map"]
abbrev extra (s : Shared) : Bool := xlAt view [] s && recOk (RowW.records PySem.Challenge.rw_ik0157_01.row.toRowW) s
noncomputable abbrev HK := kmHook hd.heap_1 written written_is [92]
abbrev Body (w : World) : Prop := (openEnds treeTable PySem.Challenge.rw_ik0157_01.row.prog w 3850).map (fun s => (openSeen view freeNames (importedModules PySem.Challenge.rw_ik0157_01.row.prog.main.body) extra true s, HK.obs s)) = some (openGood view freeNames, HK.val w)
set_option maxHeartbeats 8000000
theorem run_ff : ∀ w : World, Body ((w.withFollow "special-get-raises" false).withFollow "comprehension-iter-twice" false) := by intro w; kernel_rfl
theorem run_tf : ∀ w : World, Body ((w.withFollow "special-get-raises" true).withFollow "comprehension-iter-twice" false) := by intro w; kernel_rfl
theorem run_ft : ∀ w : World, Body ((w.withFollow "special-get-raises" false).withFollow "comprehension-iter-twice" true) := by intro w; kernel_rfl
theorem run_tt : ∀ w : World, Body ((w.withFollow "special-get-raises" true).withFollow "comprehension-iter-twice" true) := by intro w; kernel_rfl
theorem runs : LeftO PySem.Challenge.rw_ik0157_01.row.prog view freeNames extra HK.obs HK.val 3850 :=
  byRow2 "comprehension-iter-twice" (P := Body) (byRow2 "special-get-raises" (P := fun w => Body (w.withFollow "comprehension-iter-twice" false)) run_ff run_tf) (byRow2 "special-get-raises" (P := fun w => Body (w.withFollow "comprehension-iter-twice" true)) run_ft run_tt)
set_option maxHeartbeats 8000000
section
local macro_rules | `(tactic| o_law) => `(tactic| (refine hd ?_))
local macro_rules | `(tactic| k_head) => `(tactic| (refine holds_open (r := PySem.Challenge.rw_ik0157_01.row) (q := view) (loose := freeNames) (Xt := extra) (XP := XL view []) (Yf := HK.obs) (Ya := HK.val) (YP := HK.says) (N := 3850) runs HK.of HK.keeps (fun s e => xl_of s (Bool.and_eq_true_iff.mp e).1) XL.keeps (by rfl) (by rfl) (by rfl) (fun s e => recFacts_of (Bool.and_eq_true_iff.mp e).2) (by rfl) (by decide +kernel) (by decide +kernel) ⟨rfl, rfl, rfl, rfl, rfl, by decide +kernel⟩ ?hw ?hc))
open_top top for PySem.Challenge.rw_ik0157_01
end
end Mine

-- part E3
namespace Mine
section
variable {w : World} {A : Around} {mg mb : Str → Option Value} {s : Shared} {R : Result → Shared → Prop} {p : Program} {loose : List Str} {mean : ExcName → Option Value} {x : Str} {t : Tok}
theorem esc_len' {tab : List (Nat × List Nat)} {x y : Str} (h : ∀ p ∈ tab, p.2.length ≤ 6) (e : y.cps.toList = esc tab x.cps.toList) (hx : x.length ≤ 1000) : y.length ≤ 1048576 := by
  have h1 := esc_len h x.cps.toList
  rw [← e] at h1
  have h2 : y.cps.toList.length = y.length := by simp [Str.length]
  have h3 : x.cps.toList.length = x.length := by simp [Str.length]
  omega
theorem one_map {tx : Str} {v : Value} (y : Str) : List.lookup y [(tx, v)] = (fun y => if y = tx then some v else (fun _ => none) y) y := by
  rw [List.lookup_cons]
  by_cases e : y = tx
  · simp [e]
  · have : (y == tx) = false := by simpa using e
    simp [this, e]
set_option maxRecDepth 100000 in
set_option maxHeartbeats 8000000 in
theorem esc73 : (hd.heap_1 w.params).In s.heap → Top p loose mean mg mb s.heap → A.depth + 20 < recursionLimit →
    x.length ≤ 1000 → (∀ x' t' h' k, x'.cps.toList = esc (tabAt 0) x.cps.toList → s.heap.StaysIn h' → R (.ok (.ret (.str x' t'))) { s with heap := h', toks := k }) →
    codeAny (model PySem.Challenge.rw_ik0157_01.row.prog w) A (.call (.ref 73) ⟨[.str x t], []⟩) R s := by
  w_top off
  k_fill
  intro X T hd hx hR
  refine' enter0 (binds := [(Str.ofString "text", .str x t)]) X T.nolimit ?k6 ?k7 (by omega) ?k9 ?kB ?_ ?c5 ?c2 ?c3 ?c4
  case k6 => k_is
  case k7 => k_is
  case k9 => exact BindsTo.of_eq rfl
  case c5 => decide
  case kB => exact locs rfl
  case c2 => exact rfl
  case c3 => exact rfl
  case c4 => exact rfl
  intro L' h' F0 N0
  k_fold
  replace F0 := fr_cong F0 (fun y => one_map y)
  walk1
  walk1
  refine wpAny_execs_cons (if_rep (c := 38) F0 N0 rfl rfl rfl rfl (by decide) (by decide) (by omega) (by rfl) ?_)
  intro x1 t1 h1 k1 e1 _ F1 N1
  rw [← esc_nil x.cps.toList, esc_snoc (by decide)] at e1
  have l1 := esc_len' (by decide) e1 hx
  refine wpAny_execs_cons (if_rep (c := 60) F1 N1 rfl rfl rfl rfl (by decide) (by decide) l1 (by rfl) ?_)
  intro x2 t2 h2 k2 e2 _ F2 N2
  rw [e1, esc_snoc (by decide)] at e2
  have l2 := esc_len' (by decide) e2 hx
  refine wpAny_execs_cons (if_rep (c := 34) F2 N2 rfl rfl rfl rfl (by decide) (by decide) l2 (by rfl) ?_)
  intro x3 t3 h3 k3 e3 _ F3 N3
  rw [e2, esc_snoc (by decide)] at e3
  have l3 := esc_len' (by decide) e3 hx
  refine wpAny_execs_cons (if_rep (c := 9) F3 N3 rfl rfl rfl rfl (by decide) (by decide) l3 (by rfl) ?_)
  intro x4 t4 h4 k4 e4 _ F4 N4
  rw [e3, esc_snoc (by decide)] at e4
  have l4 := esc_len' (by decide) e4 hx
  refine wpAny_execs_cons (if_rep (c := 10) F4 N4 rfl rfl rfl rfl (by decide) (by decide) l4 (by rfl) ?_)
  intro x5 t5 h5 k5 e5 _ F5 N5
  rw [e4, esc_snoc (by decide)] at e5
  have l5 := esc_len' (by decide) e5 hx
  refine wpAny_execs_cons (if_rep (c := 13) F5 N5 rfl rfl rfl rfl (by decide) (by decide) l5 (by rfl) ?_)
  intro x6 t6 h6 k6 e6 _ F6 N6
  rw [e5, esc_snoc (by decide)] at e6
  have l6 := esc_len' (by decide) e6 hx
  k_steps
  exact hR _ _ _ _ (e6.trans (esc_order _)) F6.keep
set_option maxRecDepth 100000 in
set_option maxHeartbeats 8000000 in
theorem esc45 : (hd.heap_1 w.params).In s.heap → Top p loose mean mg mb s.heap → A.depth + 20 < recursionLimit →
    x.length ≤ 1000 → (∀ x' t' h' k, x'.cps.toList = esc (tabAt 1) x.cps.toList → s.heap.StaysIn h' → R (.ok (.ret (.str x' t'))) { s with heap := h', toks := k }) →
    codeAny (model PySem.Challenge.rw_ik0157_01.row.prog w) A (.call (.ref 45) ⟨[.str x t], []⟩) R s := by
  w_top off
  k_fill
  intro X T hd hx hR
  refine' enter0 (binds := [(Str.ofString "text", .str x t)]) X T.nolimit ?k6 ?k7 (by omega) ?k9 ?kB ?_ ?c5 ?c2 ?c3 ?c4
  case k6 => k_is
  case k7 => k_is
  case k9 => exact BindsTo.of_eq rfl
  case c5 => decide
  case kB => exact locs rfl
  case c2 => exact rfl
  case c3 => exact rfl
  case c4 => exact rfl
  intro L' h' F0 N0
  k_fold
  replace F0 := fr_cong F0 (fun y => one_map y)
  walk1
  walk1
  refine wpAny_execs_cons (if_rep (c := 38) F0 N0 rfl rfl rfl rfl (by decide) (by decide) (by omega) (by rfl) ?_)
  intro x1 t1 h1 k1 e1 _ F1 N1
  rw [← esc_nil x.cps.toList, esc_snoc (by decide)] at e1
  have l1 := esc_len' (by decide) e1 hx
  refine wpAny_execs_cons (if_rep (c := 60) F1 N1 rfl rfl rfl rfl (by decide) (by decide) l1 (by rfl) ?_)
  intro x2 t2 h2 k2 e2 _ F2 N2
  rw [e1, esc_snoc (by decide)] at e2
  have l2 := esc_len' (by decide) e2 hx
  refine wpAny_execs_cons (if_rep (c := 62) F2 N2 rfl rfl rfl rfl (by decide) (by decide) l2 (by rfl) ?_)
  intro x3 t3 h3 k3 e3 _ F3 N3
  rw [e2, esc_snoc (by decide)] at e3
  have l3 := esc_len' (by decide) e3 hx
  k_steps
  exact hR _ _ _ _ e3 F3.keep
set_option maxRecDepth 100000 in
set_option maxHeartbeats 8000000 in
theorem esc52 : (hd.heap_1 w.params).In s.heap → Top p loose mean mg mb s.heap → A.depth + 20 < recursionLimit →
    x.length ≤ 1000 → (∀ x' t' h' k, x'.cps.toList = esc (tabAt 2) x.cps.toList → s.heap.StaysIn h' → R (.ok (.ret (.str x' t'))) { s with heap := h', toks := k }) →
    codeAny (model PySem.Challenge.rw_ik0157_01.row.prog w) A (.call (.ref 52) ⟨[.str x t], []⟩) R s := by
  w_top off
  k_fill
  intro X T hd hx hR
  refine' enter0 (binds := [(Str.ofString "text", .str x t)]) X T.nolimit ?k6 ?k7 (by omega) ?k9 ?kB ?_ ?c5 ?c2 ?c3 ?c4
  case k6 => k_is
  case k7 => k_is
  case k9 => exact BindsTo.of_eq rfl
  case c5 => decide
  case kB => exact locs rfl
  case c2 => exact rfl
  case c3 => exact rfl
  case c4 => exact rfl
  intro L' h' F0 N0
  k_fold
  replace F0 := fr_cong F0 (fun y => one_map y)
  walk1
  walk1
  refine wpAny_execs_cons (if_rep (c := 38) F0 N0 rfl rfl rfl rfl (by decide) (by decide) (by omega) (by rfl) ?_)
  intro x1 t1 h1 k1 e1 _ F1 N1
  rw [← esc_nil x.cps.toList, esc_snoc (by decide)] at e1
  have l1 := esc_len' (by decide) e1 hx
  refine wpAny_execs_cons (if_rep (c := 60) F1 N1 rfl rfl rfl rfl (by decide) (by decide) l1 (by rfl) ?_)
  intro x2 t2 h2 k2 e2 _ F2 N2
  rw [e1, esc_snoc (by decide)] at e2
  have l2 := esc_len' (by decide) e2 hx
  refine wpAny_execs_cons (if_rep (c := 62) F2 N2 rfl rfl rfl rfl (by decide) (by decide) l2 (by rfl) ?_)
  intro x3 t3 h3 k3 e3 _ F3 N3
  rw [e2, esc_snoc (by decide)] at e3
  have l3 := esc_len' (by decide) e3 hx
  refine wpAny_execs_cons (if_rep (c := 34) F3 N3 rfl rfl rfl rfl (by decide) (by decide) l3 (by rfl) ?_)
  intro x4 t4 h4 k4 e4 _ F4 N4
  rw [e3, esc_snoc (by decide)] at e4
  have l4 := esc_len' (by decide) e4 hx
  refine wpAny_execs_cons (if_rep (c := 13) F4 N4 rfl rfl rfl rfl (by decide) (by decide) l4 (by rfl) ?_)
  intro x5 t5 h5 k5 e5 _ F5 N5
  rw [e4, esc_snoc (by decide)] at e5
  have l5 := esc_len' (by decide) e5 hx
  refine wpAny_execs_cons (if_rep (c := 10) F5 N5 rfl rfl rfl rfl (by decide) (by decide) l5 (by rfl) ?_)
  intro x6 t6 h6 k6 e6 _ F6 N6
  rw [e5, esc_snoc (by decide)] at e6
  have l6 := esc_len' (by decide) e6 hx
  refine wpAny_execs_cons (if_rep (c := 9) F6 N6 rfl rfl rfl rfl (by decide) (by decide) l6 (by rfl) ?_)
  intro x7 t7 h7 k7 e7 _ F7 N7
  rw [e6, esc_snoc (by decide)] at e7
  have l7 := esc_len' (by decide) e7 hx
  k_steps
  exact hR _ _ _ _ e7 F7.keep
set_option maxRecDepth 100000 in
set_option maxHeartbeats 8000000 in
theorem esc59 : (hd.heap_1 w.params).In s.heap → Top p loose mean mg mb s.heap → A.depth + 20 < recursionLimit →
    x.length ≤ 1000 → (∀ x' t' h' k, x'.cps.toList = esc (tabAt 3) x.cps.toList → s.heap.StaysIn h' → R (.ok (.ret (.str x' t'))) { s with heap := h', toks := k }) →
    codeAny (model PySem.Challenge.rw_ik0157_01.row.prog w) A (.call (.ref 59) ⟨[.str x t], []⟩) R s := by
  w_top off
  k_fill
  intro X T hd hx hR
  refine' enter0 (binds := [(Str.ofString "text", .str x t)]) X T.nolimit ?k6 ?k7 (by omega) ?k9 ?kB ?_ ?c5 ?c2 ?c3 ?c4
  case k6 => k_is
  case k7 => k_is
  case k9 => exact BindsTo.of_eq rfl
  case c5 => decide
  case kB => exact locs rfl
  case c2 => exact rfl
  case c3 => exact rfl
  case c4 => exact rfl
  intro L' h' F0 N0
  k_fold
  replace F0 := fr_cong F0 (fun y => one_map y)
  walk1
  walk1
  refine wpAny_execs_cons (if_rep (c := 38) F0 N0 rfl rfl rfl rfl (by decide) (by decide) (by omega) (by rfl) ?_)
  intro x1 t1 h1 k1 e1 _ F1 N1
  rw [← esc_nil x.cps.toList, esc_snoc (by decide)] at e1
  have l1 := esc_len' (by decide) e1 hx
  refine wpAny_execs_cons (if_rep (c := 62) F1 N1 rfl rfl rfl rfl (by decide) (by decide) l1 (by rfl) ?_)
  intro x2 t2 h2 k2 e2 _ F2 N2
  rw [e1, esc_snoc (by decide)] at e2
  have l2 := esc_len' (by decide) e2 hx
  refine wpAny_execs_cons (if_rep (c := 34) F2 N2 rfl rfl rfl rfl (by decide) (by decide) l2 (by rfl) ?_)
  intro x3 t3 h3 k3 e3 _ F3 N3
  rw [e2, esc_snoc (by decide)] at e3
  have l3 := esc_len' (by decide) e3 hx
  k_steps
  exact hR _ _ _ _ e3 F3.keep
set_option maxRecDepth 100000 in
set_option maxHeartbeats 8000000 in
theorem esc66 : (hd.heap_1 w.params).In s.heap → Top p loose mean mg mb s.heap → A.depth + 20 < recursionLimit →
    x.length ≤ 1000 → (∀ x' t' h' k, x'.cps.toList = esc (tabAt 4) x.cps.toList → s.heap.StaysIn h' → R (.ok (.ret (.str x' t'))) { s with heap := h', toks := k }) →
    codeAny (model PySem.Challenge.rw_ik0157_01.row.prog w) A (.call (.ref 66) ⟨[.str x t], []⟩) R s := by
  w_top off
  k_fill
  intro X T hd hx hR
  refine' enter0 (binds := [(Str.ofString "text", .str x t)]) X T.nolimit ?k6 ?k7 (by omega) ?k9 ?kB ?_ ?c5 ?c2 ?c3 ?c4
  case k6 => k_is
  case k7 => k_is
  case k9 => exact BindsTo.of_eq rfl
  case c5 => decide
  case kB => exact locs rfl
  case c2 => exact rfl
  case c3 => exact rfl
  case c4 => exact rfl
  intro L' h' F0 N0
  k_fold
  replace F0 := fr_cong F0 (fun y => one_map y)
  walk1
  walk1
  refine wpAny_execs_cons (if_rep (c := 38) F0 N0 rfl rfl rfl rfl (by decide) (by decide) (by omega) (by rfl) ?_)
  intro x1 t1 h1 k1 e1 _ F1 N1
  rw [← esc_nil x.cps.toList, esc_snoc (by decide)] at e1
  have l1 := esc_len' (by decide) e1 hx
  refine wpAny_execs_cons (if_rep (c := 60) F1 N1 rfl rfl rfl rfl (by decide) (by decide) l1 (by rfl) ?_)
  intro x2 t2 h2 k2 e2 _ F2 N2
  rw [e1, esc_snoc (by decide)] at e2
  have l2 := esc_len' (by decide) e2 hx
  refine wpAny_execs_cons (if_rep (c := 62) F2 N2 rfl rfl rfl rfl (by decide) (by decide) l2 (by rfl) ?_)
  intro x3 t3 h3 k3 e3 _ F3 N3
  rw [e2, esc_snoc (by decide)] at e3
  have l3 := esc_len' (by decide) e3 hx
  refine wpAny_execs_cons (if_rep (c := 13) F3 N3 rfl rfl rfl rfl (by decide) (by decide) l3 (by rfl) ?_)
  intro x4 t4 h4 k4 e4 _ F4 N4
  rw [e3, esc_snoc (by decide)] at e4
  have l4 := esc_len' (by decide) e4 hx
  k_steps
  exact hR _ _ _ _ e4 F4.keep
end
end Mine

-- part E4
namespace Mine
section
variable {w : World} {A : Around} {mg mb : Str → Option Value} {s : Shared} {R : Result → Shared → Prop} {p : Program} {loose : List Str} {mean : ExcName → Option Value} {x : Str} {t th : Tok} {k : Nat}
set_option maxRecDepth 100000 in
set_option maxHeartbeats 8000000 in
theorem c_escaped : (hd.heap_1 w.params).In s.heap → Top p loose mean mg mb s.heap → A.depth + 25 < recursionLimit → k < 5 →
    x.length ≤ 1000 → (∀ x' t' h' tk, x'.cps.toList = esc (tabAt k) x.cps.toList → s.heap.StaysIn h' → R (.ok (.ret (.str x' t'))) { s with heap := h', toks := tk }) →
    codeAny (model PySem.Challenge.rw_ik0157_01.row.prog w) A (.call (.ref 104) ⟨[.int (k : Int) th, .str x t], []⟩) R s := by
  w_top off
  k_fill
  intro X T hd hk hx hR
  refine' enter0 (binds := [(Str.ofString "hand", .int (k : Int) th), (Str.ofString "text", .str x t)]) X T.nolimit ?k6 ?k7 (by omega) ?k9 ?kB ?_ ?c5 ?c2 ?c3 ?c4
  case k6 => k_is
  case k7 => k_is
  case k9 => exact BindsTo.of_eq rfl
  case c5 => decide
  case kB => exact locs rfl
  case c2 => exact rfl
  case c3 => exact rfl
  case c4 => exact rfl
  intro L' h' F0 N0
  k_fold
  rcases k with _ | _ | _ | _ | _ | k
  · k_steps
    refine wpAny_call (esc73 (X.keeps F0.keep) (T.keeps F0.keep) (by show A.depth + 1 + 20 < _; omega) hx ?_)
    intro x' t' h2 k' e st
    exact hR x' t' h2 k' e fun b o q => st b o (F0.keep b o q)
  · k_steps
    refine wpAny_call (esc45 (X.keeps F0.keep) (T.keeps F0.keep) (by show A.depth + 1 + 20 < _; omega) hx ?_)
    intro x' t' h2 k' e st
    exact hR x' t' h2 k' e fun b o q => st b o (F0.keep b o q)
  · k_steps
    refine wpAny_call (esc52 (X.keeps F0.keep) (T.keeps F0.keep) (by show A.depth + 1 + 20 < _; omega) hx ?_)
    intro x' t' h2 k' e st
    exact hR x' t' h2 k' e fun b o q => st b o (F0.keep b o q)
  · k_steps
    refine wpAny_call (esc59 (X.keeps F0.keep) (T.keeps F0.keep) (by show A.depth + 1 + 20 < _; omega) hx ?_)
    intro x' t' h2 k' e st
    exact hR x' t' h2 k' e fun b o q => st b o (F0.keep b o q)
  · k_steps
    refine wpAny_call (esc66 (X.keeps F0.keep) (T.keeps F0.keep) (by show A.depth + 1 + 20 < _; omega) hx ?_)
    intro x' t' h2 k' e st
    exact hR x' t' h2 k' e fun b o q => st b o (F0.keep b o q)
  · omega
end
end Mine

-- part P3
namespace Mine
open Builtin Builtin.Str StrLaws
theorem idx_ss (a b n : Nat) : strSliceIndices (some (a : Int)) (some (b : Int)) 1 n = sliceRange (min a n : Nat) (min b n : Nat) 1 := by
  have h1 : ¬ ((a : Int) < 0) := by omega
  have h2 : ¬ ((b : Int) < 0) := by omega
  have e1 : max (0 : Int) (min (a : Int) (n : Int)) = (min a n : Nat) := by omega
  have e2 : max (0 : Int) (min (b : Int) (n : Int)) = (min b n : Nat) := by omega
  simp only [strSliceIndices, h1, h2, if_false, e1, e2, show ((1 : Int) > 0) = True from by simp, if_true]
theorem idx_ns (b n : Nat) : strSliceIndices none (some (b : Int)) 1 n = sliceRange (0 : Nat) (min b n : Nat) 1 := by
  have h2 : ¬ ((b : Int) < 0) := by omega
  have e2 : max (0 : Int) (min (b : Int) (n : Int)) = (min b n : Nat) := by omega
  simp only [strSliceIndices, h2, if_false, e2, show ((1 : Int) > 0) = True from by simp, if_true]
  rfl
theorem idx_sn (a n : Nat) : strSliceIndices (some (a : Int)) none 1 n = sliceRange (min a n : Nat) (n : Nat) 1 := by
  have h1 : ¬ ((a : Int) < 0) := by omega
  have e1 : max (0 : Int) (min (a : Int) (n : Int)) = (min a n : Nat) := by omega
  simp only [strSliceIndices, h1, if_false, e1, show ((1 : Int) > 0) = True from by simp, if_true]
theorem range_pick (x : Str) {a b : Nat} (hb : b ≤ x.length) : (sliceRange (a : Int) (b : Int) 1).filterMap (x.cps[·]?) = (x.cps.toList.drop a).take (b - a) := by
  by_cases hab : a ≤ b
  · have e := sliced_plain x hab hb
    rw [idx_ss, Nat.min_eq_left hb, Nat.min_eq_left (Nat.le_trans hab hb)] at e
    exact e
  · have e : sliceRange (a : Int) (b : Int) 1 = [] := by
      have h1 : ¬ ((a : Int) < (b : Int)) := by omega
      simp only [sliceRange, show ((1 : Int) > 0) = True from by simp, if_true, h1, if_false]
      rfl
    rw [e, show b - a = 0 by omega]
    simp
theorem range_len {a b : Nat} (hab : a ≤ b) : (sliceRange (a : Int) (b : Int) 1).length = b - a := by
  unfold sliceRange
  rw [List.length_map, List.length_range]
  split
  · split <;> omega
  · omega
theorem slice_of (x : Str) (l u : Option Int) {a b : Nat} (ha : a ≤ x.length) (hb : b ≤ x.length) (e : strSliceIndices l u 1 x.length = sliceRange (a : Int) (b : Int) 1) :
    (Txt.slice x l u).cps.toList = (x.cps.toList.drop a).take (b - a) := by
  unfold Txt.slice
  rw [e]
  split
  · rename_i h
    have h' : (sliceRange (a : Int) (b : Int) 1).length = x.length := by simpa using h
    by_cases hab : a ≤ b
    · rw [range_len hab] at h'
      have h0 : a = 0 := by omega
      have h1 : b = x.length := by omega
      subst h0 h1
      rw [List.drop_zero, Nat.sub_zero, List.take_of_length_le (by simp [Str.length])]
    · have e0 : sliceRange (a : Int) (b : Int) 1 = [] := by
        have h1 : ¬ ((a : Int) < (b : Int)) := by omega
        simp only [sliceRange, show ((1 : Int) > 0) = True from by simp, if_true, h1, if_false]
        rfl
      rw [e0] at h'
      have : x.length = 0 := h'.symm
      omega
  · exact range_pick x hb
theorem slice_ss (x : Str) (a b : Nat) : (Txt.slice x (some (a : Int)) (some (b : Int))).cps.toList = (x.cps.toList.drop a).take (b - a) := by
  rw [slice_of x _ _ (Nat.min_le_right a _) (Nat.min_le_right b _) (idx_ss a b x.length)]
  have hl : x.cps.toList.length = x.length := by simp [Str.length]
  by_cases h1 : a ≤ x.length
  · rw [Nat.min_eq_left h1]
    by_cases h2 : b ≤ x.length
    · rw [Nat.min_eq_left h2]
    · rw [Nat.min_eq_right (by omega), List.take_of_length_le (by first | (rw [List.length_drop, hl]; omega) | (rw [hl]; omega)), List.take_of_length_le (by first | (rw [List.length_drop, hl]; omega) | (rw [hl]; omega))]
  · rw [List.drop_eq_nil_of_le (by first | (rw [List.length_drop, hl]; omega) | (rw [hl]; omega)), List.drop_eq_nil_of_le (by first | (rw [List.length_drop, hl]; omega) | (rw [hl]; omega))]
    simp
theorem slice_ns (x : Str) (b : Nat) : (Txt.slice x none (some (b : Int))).cps.toList = x.cps.toList.take b := by
  rw [slice_of x _ _ (Nat.zero_le _) (Nat.min_le_right b _) (idx_ns b x.length), List.drop_zero, Nat.sub_zero]
  have hl : x.cps.toList.length = x.length := by simp [Str.length]
  by_cases h2 : b ≤ x.length
  · rw [Nat.min_eq_left h2]
  · rw [Nat.min_eq_right (by omega), List.take_of_length_le (by omega), List.take_of_length_le (by omega)]
theorem slice_sn (x : Str) (a : Nat) : (Txt.slice x (some (a : Int)) none).cps.toList = x.cps.toList.drop a := by
  rw [slice_of x _ _ (Nat.min_le_right a _) (Nat.le_refl _) (idx_sn a x.length)]
  have hl : x.cps.toList.length = x.length := by simp [Str.length]
  by_cases h1 : a ≤ x.length
  · rw [Nat.min_eq_left h1, List.take_of_length_le (by first | (rw [List.length_drop, hl]; omega) | (rw [hl]; omega))]
  · rw [List.drop_eq_nil_of_le (by first | (rw [List.length_drop, hl]; omega) | (rw [hl]; omega)), List.drop_eq_nil_of_le (by first | (rw [List.length_drop, hl]; omega) | (rw [hl]; omega))]
    simp
theorem str_eq {x y : Str} (h : x.cps.toList = y.cps.toList) : x = y := Str.ext' (Array.toList_inj.mp h)
theorem str_beq (x y : Str) : (x == y) = decide (x.cps.toList = y.cps.toList) := by
  rw [Bool.eq_iff_iff, beq_iff_eq, decide_eq_true_eq]
  exact ⟨fun h => h ▸ rfl, str_eq⟩
theorem str_len (x : Str) : x.cps.toList.length = x.length := by simp [Str.length]
/-- the ends of a piece that lies at a or behind it -/
def hits (text p : List Nat) (a : Nat) : List Nat := ((List.range' a (text.length + 1 - a)).filter fun k => decide ((text.drop k).take p.length = p)).map (· + p.length)
def stepP (text pl p : List Nat) : List Nat := match pl with
  | [] => []
  | a :: _ => hits text p a
def startP (text p0 : List Nat) : List Nat := if text.take p0.length = p0 then [p0.length] else []
def takesP : List (List Nat) → List Nat → Bool
  | [], _ => false
  | p0 :: ps, text => decide (text.length ∈ ps.foldl (stepP text) (startP text p0))
theorem startP_le {text p0 : List Nat} : ∀ k ∈ startP text p0, k ≤ text.length := by
  unfold startP
  split
  · rename_i h
    intro k hk
    rw [List.mem_singleton.mp hk, ← h, List.length_take]
    omega
  · intro k hk; cases hk
theorem hits_le {text p : List Nat} {a : Nat} : ∀ k ∈ hits text p a, k ≤ text.length := by
  intro k hk
  obtain ⟨j, hj, rfl⟩ := List.mem_map.mp hk
  obtain ⟨h1, h2⟩ := List.mem_filter.mp hj
  have h3 := of_decide_eq_true h2
  rw [List.mem_range'_1] at h1
  have h4 := congrArg List.length h3
  rw [List.length_take, List.length_drop] at h4
  omega
theorem stepP_le {text pl p : List Nat} : ∀ k ∈ stepP text pl p, k ≤ text.length := by
  unfold stepP
  split
  · intro k hk; cases hk
  · exact hits_le
theorem fold_le {text : List Nat} : ∀ (ps : List (List Nat)) (pl : List Nat), (∀ k ∈ pl, k ≤ text.length) → ∀ k ∈ ps.foldl (stepP text) pl, k ≤ text.length
  | [], _, h => h
  | _ :: r, _, _ => fold_le r _ stepP_le
end Mine
namespace Mine
theorem start_yes {x y : Str} (h : (Txt.slice x none (some (y.length : Int)) == y) = true) : startP x.cps.toList y.cps.toList = [y.length] := by
  have e : (Txt.slice x none (some (y.length : Int))).cps.toList = y.cps.toList := by rw [eq_of_beq h]
  rw [slice_ns, ← str_len] at e
  unfold startP
  rw [if_pos e, str_len]
theorem start_no {x y : Str} (h : (Txt.slice x none (some (y.length : Int)) == y) = false) : startP x.cps.toList y.cps.toList = [] := by
  rw [str_beq, slice_ns, ← str_len] at h
  unfold startP
  rw [if_neg (of_decide_eq_false h)]
end Mine
namespace Mine
def hitsN (text p : List Nat) (a i : Nat) : List Nat := ((List.range' a i).filter fun k => decide ((text.drop k).take p.length = p)).map (· + p.length)
theorem hits_eq (text p : List Nat) (a : Nat) : hits text p a = hitsN text p a (text.length + 1 - a) := rfl
theorem hitsN_yes {text p : List Nat} {a i : Nat} (h : (text.drop (a + i)).take p.length = p) : hitsN text p a (i + 1) = hitsN text p a i ++ [a + i + p.length] := by
  unfold hitsN
  rw [List.range'_concat, List.filter_append, List.map_append]
  simp [h]
theorem hitsN_no {text p : List Nat} {a i : Nat} (h : ¬ (text.drop (a + i)).take p.length = p) : hitsN text p a (i + 1) = hitsN text p a i := by
  unfold hitsN
  rw [List.range'_concat, List.filter_append, List.map_append]
  simp [h]
theorem hit_slice (x y : Str) (a i : Nat) : (Txt.slice x (some (Int.ofNat a + (i : Int))) (some (Int.ofNat a + (i : Int) + (y.length : Int))) == y) = decide ((x.cps.toList.drop (a + i)).take y.cps.toList.length = y.cps.toList) := by
  have e1 : Int.ofNat a + (i : Int) = ((a + i : Nat) : Int) := by show (a : Int) + i = _; omega
  have e2 : Int.ofNat a + (i : Int) + (y.length : Int) = ((a + i + y.length : Nat) : Int) := by rw [e1]; omega
  rw [e2, e1, str_beq, slice_ss, Nat.add_sub_cancel_left, str_len]
theorem hit_yes {x y : Str} {a i : Nat} {ys : List Value} {t : Tok} (h : (Txt.slice x (some (Int.ofNat a + (i : Int))) (some (Int.ofNat a + (i : Int) + (y.length : Int))) == y) = true)
    (hJ : IntsAre ys ((hitsN x.cps.toList y.cps.toList a i).map Int.ofNat)) : IntsAre (ys ++ [.int (Int.ofNat a + (i : Int) + (y.length : Int)) t]) ((hitsN x.cps.toList y.cps.toList a (i + 1)).map Int.ofNat) := by
  rw [hit_slice] at h
  rw [hitsN_yes (of_decide_eq_true h), List.map_append]
  refine IntsAre.append hJ ?_
  have e : Int.ofNat a + (i : Int) + (y.length : Int) = Int.ofNat (a + i + y.cps.toList.length) := by rw [str_len]; show (a : Int) + i + y.length = ((a + i + y.length : Nat) : Int); omega
  rw [e]
  exact IntsAre.cons _ _ IntsAre.nil
theorem hit_no {x y : Str} {a i : Nat} {ys : List Value} (h : (Txt.slice x (some (Int.ofNat a + (i : Int))) (some (Int.ofNat a + (i : Int) + (y.length : Int))) == y) = false)
    (hJ : IntsAre ys ((hitsN x.cps.toList y.cps.toList a i).map Int.ofNat)) : IntsAre ys ((hitsN x.cps.toList y.cps.toList a (i + 1)).map Int.ofNat) := by
  rw [hit_slice] at h
  rw [hitsN_no (of_decide_eq_false h)]
  exact hJ
end Mine
namespace Mine
theorem takes_val (x y0 : Str) (xs : List Str) {n : Nat} (hn : n = xs.length) : takesP ((y0 :: xs).map (·.cps.toList)) x.cps.toList =
    ((((xs.take n).map (·.cps.toList)).foldl (stepP x.cps.toList) (startP x.cps.toList y0.cps.toList)).map Int.ofNat).any fun z => z == (x.length : Int) := by
  rw [hn, List.take_length]
  show decide (x.cps.toList.length ∈ (xs.map (·.cps.toList)).foldl (stepP x.cps.toList) (startP x.cps.toList y0.cps.toList)) = _
  generalize (xs.map (·.cps.toList)).foldl (stepP x.cps.toList) (startP x.cps.toList y0.cps.toList) = G
  rw [Bool.eq_iff_iff, decide_eq_true_eq, List.any_eq_true, str_len]
  constructor
  · intro h
    exact ⟨Int.ofNat x.length, List.mem_map_of_mem h, by simp⟩
  · rintro ⟨z, hz, e⟩
    obtain ⟨k, hk, rfl⟩ := List.mem_map.mp hz
    have e' : Int.ofNat k = (x.length : Int) := eq_of_beq e
    have : k = x.length := by have : (k : Int) = x.length := e'; omega
    rw [← this]; exact hk
end Mine
namespace Mine
open Builtin Builtin.Str StrLaws
abbrev META : List Nat := [46, 94, 36, 42, 43, 63, 123, 125, 91, 93, 124, 40, 41, 92]
theorem meta_cps : (Str.ofString ".^$*+?{}[]|()\\").cps.toList = META := by decide
theorem meta_len : (Str.ofString ".^$*+?{}[]|()\\").length = 14 := by decide
/-- a part as _translate gives it: of the sign c -/
def GoodPart (c : Nat) (y : List Nat) : Prop :=
  (y = [c] ∧ c ∉ META) ∨ y = [92, c] ∨ y = [91, c, 93] ∨ y = [91, 92, c, 93]
theorem meta_2 : ∀ i, i < 13 → (META.drop i).head? ≠ some 92 := by decide
theorem meta_3 : ∀ i, i < 12 → ¬ ((META.drop i).head? = some 91 ∧ (META.drop i)[2]? = some 93) := by decide
theorem meta_4 : ∀ i, i < 11 → ¬ ((META.drop i).head? = some 91 ∧ (META.drop i)[1]? = some 92) := by decide
theorem meta_no {y : Str} {c : Nat} (h : GoodPart c y.cps.toList) : (!(occurrences (Str.ofString ".^$*+?{}[]|()\\") y 0 (Str.ofString ".^$*+?{}[]|()\\").length 1).isEmpty) = false := by
  rcases h with ⟨h, hc⟩ | h
  · obtain rfl : y = ⟨#[c]⟩ := str_eq h
    rw [found_one, meta_cps]
    exact decide_eq_false hc
  · rw [Bool.eq_false_iff]
    intro hf
    obtain ⟨i, hi, hs⟩ := (found_iff _ _).mp hf
    rw [subAt_eq, meta_cps] at hs
    rw [meta_len] at hi
    have e := eq_of_beq hs
    have hl := str_len y
    rcases h with h | h | h
    · rw [h] at hl e
      have hl2 : y.length = 2 := hl.symm
      have e1 := congrArg List.head? e
      rw [List.head?_take, if_neg (by omega)] at e1
      exact meta_2 i (by omega) e1
    · rw [h] at hl e
      have hl2 : y.length = 3 := hl.symm
      have e1 := congrArg List.head? e
      rw [List.head?_take, if_neg (by omega)] at e1
      have e2 := congrArg (fun l : List Nat => l[2]?) e
      rw [List.getElem?_take_of_lt (show 2 < y.length by omega)] at e2
      exact meta_3 i (by omega) ⟨e1, e2⟩
    · rw [h] at hl e
      have hl2 : y.length = 4 := hl.symm
      have e1 := congrArg List.head? e
      rw [List.head?_take, if_neg (by omega)] at e1
      have e2 := congrArg (fun l : List Nat => l[1]?) e
      rw [List.getElem?_take_of_lt (show 1 < y.length by omega)] at e2
      exact meta_4 i (by omega) ⟨e1, e2⟩
end Mine

-- part P4
namespace Mine
/-- a piece out of step with a tail -/
def hitP (P : List (List Nat)) (j : Nat) (tail : List Nat) : Bool :=
  decide (P.getD j [] ≠ []) && ((decide (j + 1 < P.length) && decide (P.getD j [] <+: tail)) || decide (tail <+: P.getD j []))
def outK (P : List (List Nat)) (j c : Nat) (tail : List Nat) : List (List Nat) :=
  if hitP P j tail then [((P.take j).flatten ++ [c]) ++ ((P.getD j []).drop tail.length ++ (P.drop (j + 1)).flatten)] else []
def outC (P : List (List Nat)) (j : Nat) (p : Nat × List Nat) : List (List Nat) := (List.range (p.2.length - 1)).flatMap fun k => outK P j p.1 (p.2.drop (1 + k))
def outR (P : List (List Nat)) (tab : List (Nat × List Nat)) (j : Nat) : List (List Nat) := tab.flatMap (outC P j)
def outP (P : List (List Nat)) (tab : List (Nat × List Nat)) : List (List Nat) := (List.range' 1 (P.length - 1)).flatMap (outR P tab)
theorem flatMap_snoc {α β : Type} (f : α → List β) (l : List α) (a : α) : (l ++ [a]).flatMap f = l.flatMap f ++ f a := by simp
theorem range_snoc {β : Type} (f : Nat → List β) (n : Nat) : (List.range (n + 1)).flatMap f = (List.range n).flatMap f ++ f n := by rw [List.range_succ, flatMap_snoc]
theorem range1_snoc {β : Type} (f : Nat → List β) (n : Nat) : (List.range' 1 (n + 1)).flatMap f = (List.range' 1 n).flatMap f ++ f (1 + n) := by rw [List.range'_concat, flatMap_snoc]; simp
theorem take_snoc {α β : Type} (f : α → List β) {l : List α} {i : Nat} {a : α} (h : l[i]? = some a) : (l.take (i + 1)).flatMap f = (l.take i).flatMap f ++ f a := by rw [List.take_add_one, h]; simp
end Mine

-- part P5
namespace Mine
/-- a part of a pattern as it is written: a star, or a sign, in brackets if it is a special one -/
def tokS : Option Nat → List Nat
  | none => [42]
  | some c => if c = 42 ∨ c = 63 ∨ c = 91 then [91, c, 93] else [c]
def patOf (xs : List (Option Nat)) : List Nat := xs.flatMap tokS
/-- the parts told: a star that follows a star is left out -/
def colStep (a : List (Option Nat)) : Option Nat → List (Option Nat)
  | none => if a.getLast? = some none then a else a ++ [none]
  | some c => a ++ [some c]
def colP (xs : List (Option Nat)) : List (Option Nat) := xs.foldl colStep []
theorem colP_succ {xs : List (Option Nat)} {i : Nat} {o : Option Nat} (h : xs[i]? = some o) : colP (xs.take (i + 1)) = colStep (colP (xs.take i)) o := by
  unfold colP
  rw [List.take_add_one, h]
  simp
theorem patOf_take {xs : List (Option Nat)} {i : Nat} {o : Option Nat} (h : xs[i]? = some o) : patOf (xs.take (i + 1)) = patOf (xs.take i) ++ tokS o := by
  unfold patOf
  exact take_snoc _ h
theorem patOf_split {xs : List (Option Nat)} {i : Nat} {o : Option Nat} (h : xs[i]? = some o) : patOf xs = patOf (xs.take i) ++ (tokS o ++ patOf (xs.drop (i + 1))) := by
  have e : xs = xs.take i ++ o :: xs.drop (i + 1) := by
    obtain ⟨hi, e⟩ := List.getElem?_eq_some_iff.mp h
    have e1 := List.take_append_drop i xs
    rw [List.drop_eq_getElem_cons hi, e] at e1
    exact e1.symm
  conv => lhs; rw [e]
  simp [patOf, List.flatMap_append]
theorem tokS_pos (o : Option Nat) : 1 ≤ (tokS o).length := by
  cases o with
  | none => decide
  | some c => unfold tokS; dsimp only; split <;> simp
theorem pat_at {xs : List (Option Nat)} {j : Nat} {o : Option Nat} (h : xs[j]? = some o) (k : Nat) (hk : k < (tokS o).length) : (patOf xs)[(patOf (xs.take j)).length + k]? = (tokS o)[k]? := by
  rw [patOf_split h, List.getElem?_append_right (by omega), List.getElem?_append_left (by omega)]
  congr 1
  omega
theorem pat_lt {xs : List (Option Nat)} {j : Nat} {o : Option Nat} (h : xs[j]? = some o) : (patOf (xs.take j)).length + (tokS o).length ≤ (patOf xs).length := by
  rw [patOf_split h]; simp
theorem pat_end {xs : List (Option Nat)} {j : Nat} (h : xs[j]? = none) : patOf (xs.take j) = patOf xs := by
  rw [List.take_of_length_le (List.getElem?_eq_none_iff.mp h)]
end Mine

-- part P7
namespace Mine
/-- what stands behind the first piece -/
def Rest : List (List Nat) → List Nat → Prop
  | [], s => s = []
  | q :: r, s => ∃ u v, s = u ++ (q ++ v) ∧ Rest r v
theorem rest_mono {r : List (List Nat)} (hr : r ≠ []) {x s : List Nat} (h : Rest r s) : Rest r (x ++ s) := by
  cases r with
  | nil => exact absurd rfl hr
  | cons q r =>
    obtain ⟨u, v, rfl, hv⟩ := h
    exact ⟨x ++ u, v, by simp, hv⟩
theorem mem_hits {t q : List Nat} {a e : Nat} : e ∈ hits t q a ↔ ∃ k, a ≤ k ∧ k < t.length + 1 ∧ (t.drop k).take q.length = q ∧ e = k + q.length := by
  unfold hits
  simp only [List.mem_map, List.mem_filter, List.mem_range'_1, decide_eq_true_eq]
  constructor
  · rintro ⟨k, ⟨⟨h1, h2⟩, h3⟩, rfl⟩
    exact ⟨k, h1, by omega, h3, rfl⟩
  · rintro ⟨k, h1, h2, h3, rfl⟩
    exact ⟨k, ⟨⟨h1, by omega⟩, h3⟩, rfl⟩
theorem hit_le {t q : List Nat} {k : Nat} (h : (t.drop k).take q.length = q) (hk : k ≤ t.length) : k + q.length ≤ t.length := by
  have := congrArg List.length h
  rw [List.length_take, List.length_drop] at this
  omega
theorem hits_sorted (t q : List Nat) (a : Nat) : (hits t q a).Pairwise (· < ·) := by
  unfold hits
  rw [List.pairwise_map]
  refine (List.Pairwise.filter _ (List.pairwise_lt_range' (s := a) (n := t.length + 1 - a))).imp ?_
  intro x y h
  omega
theorem rest_cons_iff {t q : List Nat} {r : List (List Nat)} {a : Nat} (ha : a ≤ t.length) : Rest (q :: r) (t.drop a) ↔ ∃ e ∈ hits t q a, Rest r (t.drop e) := by
  constructor
  · rintro ⟨u, v, h, hv⟩
    have hl : (t.drop a).length = t.length - a := List.length_drop
    rw [h] at hl
    simp only [List.length_append] at hl
    have e1 : t.drop (a + u.length) = q ++ v := by
      rw [← List.drop_drop, h, List.drop_left]
    refine ⟨a + u.length + q.length, mem_hits.mpr ⟨a + u.length, by omega, by omega, ?_, rfl⟩, ?_⟩
    · rw [e1, List.take_left]
    · rw [← List.drop_drop, e1, List.drop_left]; exact hv
  · rintro ⟨e, he, hv⟩
    obtain ⟨k, h1, h2, h3, rfl⟩ := mem_hits.mp he
    refine ⟨(t.drop a).take (k - a), t.drop (k + q.length), ?_, hv⟩
    have e1 : t.drop a = (t.drop a).take (k - a) ++ t.drop k := by
      have := (List.take_append_drop (k - a) (t.drop a)).symm
      rw [List.drop_drop, show a + (k - a) = k by omega] at this
      exact this
    have e2 : t.drop k = q ++ t.drop (k + q.length) := by
      have := (List.take_append_drop q.length (t.drop k)).symm
      rw [h3, List.drop_drop] at this
      exact this
    rw [← e2]; exact e1
theorem fold_nil (t : List Nat) : ∀ r : List (List Nat), r.foldl (stepP t) [] = []
  | [] => rfl
  | _ :: r => fold_nil t r
theorem fold_iff {t : List Nat} : ∀ {r : List (List Nat)} {q : List Nat} {a : Nat}, a ≤ t.length → (t.length ∈ r.foldl (stepP t) (hits t q a) ↔ ∃ e ∈ hits t q a, Rest r (t.drop e))
  | [], q, a, ha => by
    show t.length ∈ hits t q a ↔ _
    constructor
    · intro h
      exact ⟨_, h, by show t.drop t.length = []; simp⟩
    · rintro ⟨e, he, h⟩
      have h : t.drop e = [] := h
      obtain ⟨k, h1, h2, h3, rfl⟩ := mem_hits.mp he
      have := hit_le h3 (by omega)
      have := List.drop_eq_nil_iff.mp h
      rw [show t.length = k + q.length by omega]
      exact he
  | q' :: r, q, a, ha => by
    cases hh : hits t q a with
    | nil =>
      rw [fold_nil]
      constructor
      · intro h; cases h
      · rintro ⟨e, he, _⟩; cases he
    | cons b l =>
      have hb : b ∈ hits t q a := hh ▸ .head _
      obtain ⟨k, h1, h2, h3, hbk⟩ := mem_hits.mp hb
      have hbt : b ≤ t.length := by have := hit_le h3 (by omega); omega
      show t.length ∈ r.foldl (stepP t) (hits t q' b) ↔ _
      rw [fold_iff hbt, ← rest_cons_iff hbt]
      constructor
      · intro h; exact ⟨b, .head _, h⟩
      · rintro ⟨e, he, h⟩
        have hbe : b ≤ e := by
          have hs := hits_sorted t q a
          rw [hh] at hs
          rcases List.mem_cons.mp he with rfl | he
          · exact Nat.le_refl _
          · exact Nat.le_of_lt ((List.pairwise_cons.mp hs).1 e he)
        have e1 := (List.take_append_drop (e - b) (t.drop b)).symm
        rw [List.drop_drop, show b + (e - b) = e by omega] at e1
        rw [e1]
        exact rest_mono (by simp) h
/-- a text that the pieces take -/
def Glob : List (List Nat) → List Nat → Prop
  | [], _ => False
  | p :: r, t => ∃ s, t = p ++ s ∧ Rest r s
theorem takes_iff (P : List (List Nat)) (t : List Nat) : takesP P t = true ↔ Glob P t := by
  cases P with
  | nil => simp [takesP, Glob]
  | cons p r =>
    unfold takesP
    rw [decide_eq_true_eq]
    unfold startP
    by_cases hp : t.take p.length = p
    · rw [if_pos hp]
      have e1 : t = p ++ t.drop p.length := by
        have := (List.take_append_drop p.length t).symm
        rw [hp] at this; exact this
      have hl : p.length ≤ t.length := by
        have := congrArg List.length hp
        rw [List.length_take] at this; omega
      have e2 : Glob (p :: r) t ↔ Rest r (t.drop p.length) := by
        constructor
        · rintro ⟨s, rfl, hs⟩; rw [List.drop_left]; exact hs
        · intro h; exact ⟨_, e1, h⟩
      rw [e2]
      cases r with
      | nil =>
        show t.length ∈ [p.length] ↔ t.drop p.length = []
        rw [List.mem_singleton, List.drop_eq_nil_iff]; omega
      | cons q r =>
        show t.length ∈ r.foldl (stepP t) (hits t q p.length) ↔ _
        rw [fold_iff hl, ← rest_cons_iff hl]
    · rw [if_neg hp, fold_nil]
      constructor
      · intro h; cases h
      · rintro ⟨s, rfl, _⟩; exact absurd (List.take_left) hp
end Mine

-- part L1
namespace Mine
structure Stop (P : Prop) : Prop where
  out : P
section
variable {prog : Program} {w : World} {A : Around} {E : Value → Shared → Prop} {s : Shared} {env : Env} {h₀ : Heap} {target iter : Expr} {body : List Stmt} {Q : Flow → Shared → Prop}

/-- what a turn leaves: I is the iterator -/
def TurnEnd (h₀ : Heap) (L I : Addr) (oI : Obj) (J : (Str → Option Value) → List (Addr × Obj) → Prop) (s₁ : Shared) (Q : Flow → Shared → Prop) (f : Flow) (s₂ : Shared) : Prop :=
  match f with
  | .ret v => Q (.ret v) s₂
  | .brk => Q .next s₂
  | _ => ∃ h' tk m' nx, s₂ = { s₁ with heap := h', toks := tk } ∧ Fr h₀ L h' m' ∧ News h₀ L h' ((I, oI) :: nx) ∧ (∀ p ∈ nx, p.1 ≠ I) ∧ J m' nx

def Turn (prog : Program) (w : World) (A : Around) (h₀ : Heap) (env : Env) (target : Expr) (body : List Stmt) (Q : Flow → Shared → Prop) (P : Nat → Value → Prop) (n : Nat) (J : Nat → (Str → Option Value) → List (Addr × Obj) → Prop) (s : Shared) : Prop :=
  ∀ i v m₁ nx h tk I oI, i < n → P i v → J i m₁ nx → (∀ p ∈ nx, p.1 ≠ I) → I ≠ env.locals → Fr h₀ env.locals h m₁ → News h₀ env.locals h ((I, oI) :: nx) →
    wpAny (model prog w) A (assign target env v) (fun _ s₃ => wpAny (model prog w) A (execs body env) (TurnEnd h₀ env.locals I oI (J (i + 1)) { s with heap := h, toks := tk } Q) (fun _ _ => False) s₃) (fun _ _ => False) { s with heap := h, toks := tk }
def Done (h₀ : Heap) (env : Env) (Q : Flow → Shared → Prop) (J : (Str → Option Value) → List (Addr × Obj) → Prop) (s : Shared) : Prop :=
  ∀ m₁ nx h tk, J m₁ nx → Fr h₀ env.locals h m₁ → News h₀ env.locals h nx → Q .next { s with heap := h, toks := tk }

/-- a loop over any walk, its target of any kind -/
def LoopHere (prog : Program) (w : World) (A : Around) (h₀ : Heap) (env : Env) (target : Expr) (body : List Stmt) (Q : Flow → Shared → Prop) (it : Value) (s₂ : Shared) : Prop :=
  ∃ (I : Addr) (fp : List Addr) (n : Nat) (P : Nat → Value → Prop) (St : Nat → Heap → Prop) (m : Str → Option Value) (news : List (Addr × Obj)) (J : Nat → (Str → Option Value) → List (Addr × Obj) → Prop),
    it = .ref I ∧ Walks prog w A I fp [I] n P St ∧ (∀ i h, St i h → ∃ o, h.get? I = some o) ∧
    (∀ i m h h' o nx, St i h → h.get? I = some o → h'.get? I = some o → (∀ b o, h₀.get? b = some o → h'.get? b = some o) → News h₀ env.locals h' nx → J i m nx → St i h') ∧
    h₀.get? I = none ∧ I ≠ env.locals ∧ (∀ p ∈ news, p.1 ≠ I) ∧ St 0 s₂.heap ∧ Fr h₀ env.locals s₂.heap m ∧ News h₀ env.locals s₂.heap news ∧ J 0 m news ∧
    Turn prog w A h₀ env target body Q P n J s₂ ∧ Done h₀ env Q (J n) s₂

theorem loop_code {R : Result → Shared → Prop} {I : Addr} {fp : List Addr} {n : Nat} {P : Nat → Value → Prop} {St : Nat → Heap → Prop} {m : Str → Option Value} {news : List (Addr × Obj)} {J : Nat → (Str → Option Value) → List (Addr × Obj) → Prop}
    (W : Walks prog w A I fp [I] n P St) (hIo : ∀ i h, St i h → ∃ o, h.get? I = some o)
    (hSt : ∀ i m h h' o nx, St i h → h.get? I = some o → h'.get? I = some o → (∀ b o, h₀.get? b = some o → h'.get? b = some o) → News h₀ env.locals h' nx → J i m nx → St i h')
    (hI₀ : h₀.get? I = none) (hIL : I ≠ env.locals) (hnw : ∀ p ∈ news, p.1 ≠ I) (hst : St 0 s.heap) (F : Fr h₀ env.locals s.heap m) (N : News h₀ env.locals s.heap news) (h0 : J 0 m news)
    (turn : Turn prog w A h₀ env target body (fun f s' => R (.ok f) s') P n J s)
    (done : Done h₀ env (fun f s' => R (.ok f) s') (J n) s)
    (ht : ∀ v, letOwnedTupleGo target (.ref I) v = pure () := by intro _; rfl) :
    codeAny (model prog w) A (.forLoop target (.ref I) body [] env) R s := by
  refine codeAny_forLoop
    (fun k s' => ∃ h' tk m' nx i, s' = { s with heap := h', toks := tk } ∧ St i h' ∧ Fr h₀ env.locals h' m' ∧ News h₀ env.locals h' nx ∧ (∀ p ∈ nx, p.1 ≠ I) ∧ J i m' nx ∧ i ≤ n ∧ k = n + 1 - i) ?_ (n + 1)
    ⟨s.heap, s.toks, m, news, 0, rfl, hst, F, N, hnw, h0, Nat.zero_le _, rfl⟩ ht
  rintro k s' ⟨h', tk, m', nx, i, rfl, hst', F', N', ha, hJ, hi, rfl⟩
  have next : ∀ h₁ : Heap, (∀ b o, b ∉ [I] → h'.get? b = some o → h₁.get? b = some o) → Fr h₀ env.locals h₁ m' ∧ News h₀ env.locals h₁ nx := fun h₁ hk₁ =>
    ⟨LCg.fr_but F' hk₁ (Ne.symm hIL) hI₀, LCg.news_but N' hk₁ ha⟩
  by_cases hlt : i < n
  · refine W.item i _ _ _ hlt hst' fun v h₁ tk₁ hP hst₁ hk₁ => ?_
    obtain ⟨F₁, N₁⟩ := next h₁ hk₁
    obtain ⟨oI, heI⟩ := hIo _ _ hst₁
    have N₂ : News h₀ env.locals h₁ ((I, oI) :: nx) := fun p hp => by
      rcases List.mem_cons.mp hp with rfl | hp
      · exact ⟨heI, hIL, hI₀⟩
      · exact N₁ p hp
    refine wpAny_mono (turn i v m' nx h₁ tk₁ I oI hlt hP hJ ha hIL F₁ N₂) (fun _ s₃ h₃ => wpAny_mono h₃ (fun f s₄ h₄ => ?_) fun _ _ e => e.elim) fun _ _ e => e.elim
    have fin : (∃ h' tk m' nx, s₄ = { s with heap := h', toks := tk } ∧ Fr h₀ env.locals h' m' ∧ News h₀ env.locals h' ((I, oI) :: nx) ∧ (∀ p ∈ nx, p.1 ≠ I) ∧ J (i + 1) m' nx) →
        ∃ mm, mm < n + 1 - i ∧ ∃ h' tk m' nx i', s₄ = { s with heap := h', toks := tk } ∧ St i' h' ∧ Fr h₀ env.locals h' m' ∧ News h₀ env.locals h' nx ∧ (∀ p ∈ nx, p.1 ≠ I) ∧ J i' m' nx ∧ i' ≤ n ∧ mm = n + 1 - i' := by
      rintro ⟨h₅, tk₅, m₅, nx₅, rfl, F₅, N₅, ha₅, hJ₅⟩
      have N₆ : News h₀ env.locals h₅ nx₅ := fun p hp => N₅ p (.tail _ hp)
      exact ⟨n + 1 - (i + 1), by omega, h₅, tk₅, m₅, nx₅, i + 1, rfl, hSt _ _ _ _ _ _ hst₁ heI (N₅ _ (.head _)).1 F₅.keep N₆ hJ₅, F₅, N₆, ha₅, hJ₅, hlt, rfl⟩
    cases f with
    | ret v => exact h₄
    | brk => exact h₄
    | cont => exact fin h₄
    | next => exact fin h₄
  · have hin : i = n := by omega
    subst hin
    refine W.done _ _ _ hst' fun h₁ tk₁ hk₁ => wpAny_execs_nil ?_
    obtain ⟨F₁, N₁⟩ := next h₁ hk₁
    exact done m' nx h₁ tk₁ hJ F₁ N₁

theorem for_here (h₀ : Heap) {pos : Pos} (h : wpAny (model prog w) A (eval iter env) (fun xv s₁ => wpAny (model prog w) A (pyIter xv) (fun it s₂ => LoopHere prog w A h₀ env target body Q it s₂) E s₁) E s)
    (hs : ∀ x, foldedSetIterable iter env x = pure x := by intro _; rfl)
    (ht : ∀ I v, letOwnedTupleGo target (.ref I) v = pure () := by intro _ _; rfl) :
    wpAny (model prog w) A (exec (.For target iter body [] pos) env) Q E s := by
  refine wpAny_For (wpAny_mono h (fun xv s₁ h₁ => wpAny_mono h₁ (fun it s₂ h₂ => ?_) fun _ _ e => e) fun _ _ e => e) hs
  obtain ⟨I, fp, n, P, St, m, news, J, rfl, W, hIo, hSt, hI₀, hIL, hnw, hst, F, N, h0, turn, done⟩ := h₂
  exact loop_code W hIo hSt hI₀ hIL hnw hst F N h0 turn done (ht I)

theorem new_ne {L : Addr} {h : Heap} {m : Str → Option Value} {news : List (Addr × Obj)} (F : Fr h₀ L h m) (N : News h₀ L h news) : h₀.get? h.objs.size = none ∧ h.objs.size ≠ L ∧ ∀ p ∈ news, p.1 ≠ h.objs.size :=
  ⟨next_is_new F, Nat.ne_of_gt F.ns.lt, fun p hp => Nat.ne_of_lt (Heap.lt_size (N p hp).1)⟩

/-- over a list, in the base or in the ledger -/
theorem iter_list {l : Addr} {vs : List Value} {m : Str → Option Value} {news : List (Addr × Obj)} (J : Nat → (Str → Option Value) → List (Addr × Obj) → Prop)
    (hh : A.handled = none) (hJS : ∀ i m nx, J i m nx → LCg.SrcAt h₀ l vs.toArray nx) (F : Fr h₀ env.locals s.heap m) (N : News h₀ env.locals s.heap news) (h0 : J 0 m news)
    (turn : ∀ g, Turn prog w A h₀ env target body Q (fun i v => vs[i]? = some v) vs.length J { s with heap := g }) (done : ∀ g, Done h₀ env Q (J vs.length) { s with heap := g }) :
    wpAny (model prog w) A (pyIter (.ref l)) (fun it s₂ => LoopHere prog w A h₀ env target body Q it s₂) E s := by
  have hl : s.heap.IsList l vs.toArray := (hJS _ _ _ h0).list F.keep N
  obtain ⟨ol, hol, _⟩ := id hl
  have hlt : l < s.heap.objs.size := Heap.lt_size hol
  obtain ⟨e1, e2, e3⟩ := new_ne F N
  refine wpAny_pyIter_list hl ?_
  have W := Walks.list (prog := prog) (w := w) hh s.heap.objs.size l (Nat.ne_of_lt hlt) vs.toArray
  rw [List.size_toArray] at W
  refine ⟨_, _, _, _, _, m, news, J, rfl, W, (fun i h st => by obtain ⟨o, e, _⟩ := st.1; exact ⟨o, e⟩), (fun i m h h' o nx st e e' k N' hJ => LCg.list_st (L := env.locals) i h h' o nx st e e' k N' (hJS _ _ _ hJ)), e1, e2, e3,
    ⟨⟨_, Heap.get?_push_size _ rfl, rfl, rfl⟩, hl.at fun o e => Heap.get?_push_of_some _ e⟩, F.push _, (fun p hp => ⟨Heap.get?_push_of_some _ (N p hp).1, (N p hp).2⟩), h0, fun i v m₁ nx h tk I oI hi hP => turn _ i v m₁ nx h tk I oI hi (by simpa using hP), done _⟩

/-- over a range by ones -/
theorem iter_range {r : Addr} {a b : Int} {t u v : Tok} {n : Nat} {m : Str → Option Value} {news : List (Addr × Obj)} (J : Nat → (Str → Option Value) → List (Addr × Obj) → Prop)
    (hh : A.handled = none) (hr : IsRange s.heap r a b 1 t u v) (hsm : Builtin.Range.small a b 1 = true) (hn : Builtin.Range.rangeSize a b 1 = ((n : Nat) : Int)) (F : Fr h₀ env.locals s.heap m) (N : News h₀ env.locals s.heap news) (h0 : J 0 m news)
    (turn : ∀ g, Turn prog w A h₀ env target body Q (fun i v => ∃ t, v = .int (a + (i : Int)) t) n J { s with heap := g }) (done : ∀ g, Done h₀ env Q (J n) { s with heap := g }) :
    wpAny (model prog w) A (pyIter (.ref r)) (fun it s₂ => LoopHere prog w A h₀ env target body Q it s₂) E s := by
  obtain ⟨e1, e2, e3⟩ := new_ne F N
  refine wpAny_pyIter_range hr hsm ?_
  exact ⟨_, _, _, _, _, m, news, J, rfl, LCg.range_walks hh a n, (fun i h st => ⟨_, st⟩), (fun i m h h' o nx st e e' k N' hJ => LCg.range_st (L := env.locals) i h h' o nx st e e' k N' trivial), e1, e2, e3,
    (by show IsRangeIter _ _ _ _ _; rw [hn]; simpa using Heap.get?_push_size _ rfl), F.push _, (fun p hp => ⟨Heap.get?_push_of_some _ (N p hp).1, (N p hp).2⟩), h0, turn _, done _⟩
end
end Mine
namespace Mine
theorem for_hereF {prog : Program} {w : World} {A : Around} {E : Value → Shared → Prop} {s : Shared} {env : Env} {h₀ : Heap} {L : Addr} {m : Str → Option Value} {target iter : Expr} {body : List Stmt} {Q : Flow → Shared → Prop} {pos : Pos} (hF0 : Fr h₀ L s.heap m)
    (h : wpAny (model prog w) A (eval iter env) (fun xv s₁ => wpAny (model prog w) A (pyIter xv) (fun it s₂ => LoopHere prog w A h₀ env target body Q it s₂) E s₁) E s)
    (hs : ∀ x, foldedSetIterable iter env x = pure x := by intro _; rfl)
    (ht : ∀ I v, letOwnedTupleGo target (.ref I) v = pure () := by intro _ _; rfl) :
    wpAny (model prog w) A (exec (.For target iter body [] pos) env) Q E s := for_here h₀ h hs ht
end Mine

-- part L3
namespace Mine
section
variable {prog : Program} {w : World} {A : Around} {s : Shared} {h₀ : Heap} {L : Addr} {m : Str → Option Value} {env : Env} {ct elt : PySem.Expr} {x : Str} {scope : Scope} {cl : List (Str × Addr)} {S : List (Addr × Obj) → Prop} {P : Nat → Value → Prop} {Fin : List Value → List (Addr × Obj) → Prop} {news : List (Addr × Obj)} {n : Nat}
theorem restT (J : Nat → List Value → Prop)
    (turn : ∀ i ys v I oI C oC D m₂ h tk (E' : Value → Shared → Prop), i < n → P i v → J i ys → LCg.NsObj oC m₂ → m₂ x = some v → Fr h₀ L h m → News h₀ L h ((I, oI) :: (C, oC) :: (D, LCg.lst ys) :: news) → LCg.Off3 I C D news → ((@Ne Nat I C) ∧ (@Ne Nat I D) ∧ (@Ne Nat C D)) →
      wpAny (model prog w) A (isTrue ct (compEnvC scope cl C env) (eval ct (compEnvC scope cl C env))) (fun ok s' => if ok = true then
        wpAny (model prog w) A (eval elt (compEnvC scope cl C env)) (LCg.CompEnd h₀ L m { s with heap := h, toks := tk } I oI C oC D (LCg.lst ys) S (fun y news' => Stop (news' = news ∧ J (i + 1) (ys ++ [y])))) E' s'
        else LCg.CompEnd h₀ L m { s with heap := h, toks := tk } I oI C oC D (LCg.lst ys) S (fun _ news' => Stop (news' = news ∧ J (i + 1) ys)) Value.none s') E' { s with heap := h, toks := tk })
    (fin : ∀ ys, J n ys → Fin ys news) : ∀ k i ys, i + k = n → J i ys → LCt.CompRestT prog w A h₀ L m env ct elt x scope cl s S P Fin k i ys news := by
  intro k
  induction k with
  | zero => intro i ys hi hJ; exact LCt.CompRestT.zero (fin ys (by rw [← hi]; exact hJ))
  | succ k ih =>
    intro i ys hi hJ
    refine LCt.CompRestT.succ fun v I oI C oC D m₂ h tk E' hP hC hx F N off ne => ?_
    refine wpAny_mono (turn i ys v I oI C oC D m₂ h tk E' (by omega) hP hJ hC hx F N off ne) (fun ok s' hq => ?_) fun _ _ e => e
    cases ok with
    | true =>
      simp only [if_true] at hq ⊢
      refine wpAny_mono hq (fun y s₂ hz => ?_) fun _ _ e => e
      obtain ⟨h', tk', nw, e, F', N', off', hS, ⟨hn, hJ'⟩⟩ := hz
      subst hn
      exact ⟨h', tk', nw, e, F', N', off', hS, ih (i + 1) _ (by omega) hJ'⟩
    | false =>
      simp only [Bool.false_eq_true, if_false] at hq ⊢
      obtain ⟨h', tk', nw, e, F', N', off', hS, ⟨hn, hJ'⟩⟩ := hq
      subst hn
      exact ⟨h', tk', nw, e, F', N', off', hS, ih (i + 1) _ (by omega) hJ'⟩
theorem restU (J : Nat → List Value → Prop)
    (turn : ∀ i ys v I oI C oC D m₂ h tk (E' : Value → Shared → Prop), i < n → P i v → J i ys → LCg.NsObj oC m₂ → m₂ x = some v → Fr h₀ L h m → News h₀ L h ((I, oI) :: (C, oC) :: (D, LCg.lst ys) :: news) → LCg.Off3 I C D news → ((@Ne Nat I C) ∧ (@Ne Nat I D) ∧ (@Ne Nat C D)) →
      wpAny (model prog w) A (eval elt (compEnvC scope cl C env)) (LCg.CompEnd h₀ L m { s with heap := h, toks := tk } I oI C oC D (LCg.lst ys) S (fun y news' => Stop (news' = news ∧ J (i + 1) (ys ++ [y])))) E' { s with heap := h, toks := tk })
    (fin : ∀ ys, J n ys → Fin ys news) : ∀ k i ys, i + k = n → J i ys → LCg.CompRest prog w A h₀ L m env elt x scope cl s S P Fin k i ys news := by
  intro k
  induction k with
  | zero => intro i ys hi hJ; exact LCg.CompRest.zero (fin ys (by rw [← hi]; exact hJ))
  | succ k ih =>
    intro i ys hi hJ
    refine LCg.CompRest.succ fun v I oI C oC D m₂ h tk E' hP hC hx F N off ne => ?_
    refine wpAny_mono (turn i ys v I oI C oC D m₂ h tk E' (by omega) hP hJ hC hx F N off ne) (fun y s₂ hz => ?_) fun _ _ e => e
    obtain ⟨h', tk', nw, e, F', N', off', hS, ⟨hn, hJ'⟩⟩ := hz
    subst hn
    exact ⟨h', tk', nw, e, F', N', off', hS, ih (i + 1) _ (by omega) hJ'⟩
end
end Mine

-- part L7
namespace Mine
section
variable {prog : Program} {w : World} {A : Around} {E : Value → Shared → Prop} {s : Shared} {h₀ : Heap} {L : Addr} {m : Str → Option Value} {env : Env}
/-- a comprehension over a text -/
theorem ListComp_S {elt iter : PySem.Expr} {x : Str} {px : Pos} {scope : Scope} {cl : List (Str × Addr)} {pos : Pos} {Q : Value → Shared → Prop} (hF0 : Fr h₀ L s.heap m)
    (hclos : closureFor scope env = pure cl) (hcell : ∀ y ∈ scope.names, y.2 ≠ .cell) (hkind : scope.kind = .function)
    (hnames : ∀ y ∈ scope.names, y.2 = .local → scope.names.lookup y.1 = some .local) (hx : scope.names.lookup x = some .local)
    (h : wpAny (model prog w) A (eval iter env) (fun xv s₁ => ∃ y t news, xv = .str y t ∧ A.handled = none ∧ Fr h₀ L s₁.heap m ∧ News h₀ L s₁.heap news ∧ y.cps.size ≤ sizeLine ∧
      ∀ s₂ : Shared, (∃ g, s₂ = { s₁ with heap := g }) → LCg.CompRest prog w A h₀ L m env elt x scope cl s₂ (fun _ => True) (PySem.SignAt y) (LCg.FinE h₀ L m s₂ Q) y.cps.size 0 [] news) E s)
    (hs : ∀ x, foldedSetIterable iter env x = pure x := by intro _; rfl) :
    wpAny (model prog w) A (eval (.ListComp elt [⟨.Name x px, iter, [], 0⟩] scope pos) env) Q E s := by
  rw [eval_ListComp]
  refine wpAny_comprehension_free (use := none) rfl hs hclos hkind hnames (wpAny_mono h (fun xv s₁ h₁ => ?_) fun _ _ e => e)
  obtain ⟨y, t, news, rfl, hh, F, N, hsz, R⟩ := h₁
  cases ha : y.cps.all (· < 128)
  · refine wpAny_pyIter_wide ha ?_
    refine LCg.block_U (Walks.strWide hh s₁.heap.objs.size y t) hsz (fun i h st => by obtain ⟨o, e, _⟩ := st; exact ⟨o, e⟩) (fun i h h' o nw st e1 e2 _ _ _ => by obtain ⟨o', e, r⟩ := st; rw [e1] at e; cases e; exact ⟨o, e2, r⟩) hcell hkind hx ⟨_, Heap.get?_push_size _ rfl, rfl, rfl⟩ (fun b hb => ?_)
      (F.keeps fun _ _ e => Heap.get?_push_of_some _ e) (N.grown fun _ _ e => Heap.get?_push_of_some _ e) (Nat.ne_of_lt F.ns.lt) (next_is_new F) (fun p hp => Nat.ne_of_lt (Heap.lt_size (N p hp).1)) trivial (R _ ⟨_, rfl⟩) ?_
    · rw [List.mem_singleton.mp hb]
      show s₁.heap.objs.size < (s₁.heap.push _).objs.size
      rw [Heap.size_push]; exact Nat.lt_succ_self _
    · intro D C h tk m' ys news' F' N' o1 hn hC₀ hD₀ hCL hDL hCD offC fin
      refine ⟨m', hn, fun h'' hs'' => fin D h'' tk (F'.change hs'' hCL hC₀) (fun p hp => ?_) o1⟩
      refine ⟨hs''.extBut _ _ ?_ (N' p hp).1, (N' p hp).2⟩
      rcases List.mem_cons.mp hp with rfl | hp
      · exact Ne.symm hCD
      · exact offC p hp
  · refine wpAny_pyIter_ascii ha ?_
    refine LCg.block_U (Walks.strAscii hh s₁.heap.objs.size y t) hsz (fun i h st => by obtain ⟨o, e, _⟩ := st; exact ⟨o, e⟩) (fun i h h' o nw st e1 e2 _ _ _ => by obtain ⟨o', e, r⟩ := st; rw [e1] at e; cases e; exact ⟨o, e2, r⟩) hcell hkind hx ⟨_, Heap.get?_push_size _ rfl, rfl, rfl⟩ (fun b hb => ?_)
      (F.keeps fun _ _ e => Heap.get?_push_of_some _ e) (N.grown fun _ _ e => Heap.get?_push_of_some _ e) (Nat.ne_of_lt F.ns.lt) (next_is_new F) (fun p hp => Nat.ne_of_lt (Heap.lt_size (N p hp).1)) trivial (R _ ⟨_, rfl⟩) ?_
    · rw [List.mem_singleton.mp hb]
      show s₁.heap.objs.size < (s₁.heap.push _).objs.size
      rw [Heap.size_push]; exact Nat.lt_succ_self _
    · intro D C h tk m' ys news' F' N' o1 hn hC₀ hD₀ hCL hDL hCD offC fin
      refine ⟨m', hn, fun h'' hs'' => fin D h'' tk (F'.change hs'' hCL hC₀) (fun p hp => ?_) o1⟩
      refine ⟨hs''.extBut _ _ ?_ (N' p hp).1, (N' p hp).2⟩
      rcases List.mem_cons.mp hp with rfl | hp
      · exact Ne.symm hCD
      · exact offC p hp
end
end Mine

-- part L2
namespace Mine
section
variable {prog : Program} {w : World} {A : Around} {E : Value → Shared → Prop} {s : Shared} {h₀ : Heap} {L : Addr} {m : Str → Option Value} {news : List (Addr × Obj)}
theorem list_on {l : Addr} {its : Array Value} {h : Heap} (F : Fr h₀ L h m) (hl : h₀.IsList l its) : h.IsList l its := hl.at fun o e => F.keep l o e
theorem item_at {value slice : PySem.Expr} {l : Addr} {vs : List Value} {k : Int} {u : Tok} {v : Value} {Q : Value → Shared → Prop}
    (hl : s.heap.IsList l vs.toArray) (h0 : 0 ≤ k) (hhi : k < 2 ^ 63) (hx : vs[k.toNat]? = some v) (h : Q v s)
    (hs : subscripted slice false (.ref l) (.int k u) = operate [.ref l, .int k u] (getItem (.ref l) (.int k u)) := by with_unfolding_all rfl) :
    wpAny (model prog w) A (subscriptTail value slice (.ref l) (.int k u)) Q E s :=
  tail_any hl.typeIs slot_list_getitem.lookup (wpAny_getItem_list hl h0 hhi (by simpa using hx) h) hs
theorem strs_get : ∀ {vs : List Value} {xs : List Str} {i : Nat} {v : Value}, StrsAre vs xs → vs[i]? = some v → ∃ y t, v = .str y t ∧ xs[i]? = some y
  | _, _, i, v, .nil, h => by simp at h
  | _, _, 0, v, .cons y t r, h => by simp at h; exact ⟨y, t, h.symm, rfl⟩
  | _, _, i + 1, v, .cons y t r, h => by
    obtain ⟨y', t', e, h'⟩ := strs_get r (by simpa using h)
    exact ⟨y', t', e, by simpa using h'⟩
theorem strs_len {vs : List Value} {xs : List Str} (h : StrsAre vs xs) : vs.length = xs.length := by
  induction h with
  | nil => rfl
  | cons y t r ih => simp [ih]
theorem fr_put {h : Heap} {x : Str} {v : Value} (F : Fr h₀ L h m) (e : m x = some v) : Fr h₀ L h (fun y => if y = x then some v else m y) := by
  have : (fun y => if y = x then some v else m y) = m := by
    funext y
    by_cases q : y = x
    · simp [q, e]
    · simp [q]
  rw [this]; exact F
end
end Mine
namespace Mine
section
variable {prog : Program} {w : World} {A : Around} {E : Value → Shared → Prop} {s : Shared} {h₀ : Heap} {L : Addr} {m : Str → Option Value} {news : List (Addr × Obj)}
theorem slice_from {value slice : PySem.Expr} {l : Addr} {vs : List Value} {k : Int} {u : Tok} {Q : Value → Shared → Prop} (F : Fr h₀ L s.heap m) (N : News h₀ L s.heap news) (hl : s.heap.IsList l vs.toArray) (h0 : 0 ≤ k) (hz : vs.length ≤ sizeLine)
    (h : ∀ D h', Fr h₀ L h' m → News h₀ L h' ((D, listOf (vs.drop k.toNat).toArray 0) :: news) → (∀ p ∈ news, p.1 < D) → Q (.ref D) { s with heap := h' })
    (hs : subscripted slice false (.ref l) (.ref s.heap.objs.size) = operate [.ref s.heap.objs.size, .ref l] (getItem (.ref l) (.ref s.heap.objs.size)) := by with_unfolding_all rfl) (ht : ∀ r, letTemporaryGo value (.ref l) r = pure () := by intro _; rfl) :
    wpAny (model prog w) A (subscriptTail value slice (.ref l) (.ref s.heap.objs.size)) Q E { s with heap := s.heap.push { cls := .type "slice", data := .fields #[.int k u, .none, .none] } } := by
  refine kmk_slice F N hl (.int k u) .none (fun D h' F' N' l1 => h D h' F' ?_ l1) hs ht (by rw [List.size_toArray]; exact hz)
  have e : slicePick vs.toArray (some k) none none = (vs.drop k.toNat).toArray := by
    rw [kms_pick_eq]
    unfold kms_pick kms_lo kms_hi
    simp only [if_neg (show ¬ (k < 0) by omega)]
    rw [kmk_drop_min]
    congr 1
    rw [List.take_of_length_le]
    rw [List.length_drop]
    by_cases q : k.toNat ≤ vs.length
    · rw [Nat.min_eq_left q]; exact Nat.le_refl _
    · rw [Nat.min_eq_right (by omega)]; omega
  rw [← e]; exact N'
theorem slice_upto {value slice : PySem.Expr} {l : Addr} {vs : List Value} {k : Int} {u : Tok} {Q : Value → Shared → Prop} (F : Fr h₀ L s.heap m) (N : News h₀ L s.heap news) (hl : s.heap.IsList l vs.toArray) (h0 : 0 ≤ k) (hz : vs.length ≤ sizeLine)
    (h : ∀ D h', Fr h₀ L h' m → News h₀ L h' ((D, listOf (vs.take k.toNat).toArray 0) :: news) → (∀ p ∈ news, p.1 < D) → Q (.ref D) { s with heap := h' })
    (hs : subscripted slice false (.ref l) (.ref s.heap.objs.size) = operate [.ref s.heap.objs.size, .ref l] (getItem (.ref l) (.ref s.heap.objs.size)) := by with_unfolding_all rfl) (ht : ∀ r, letTemporaryGo value (.ref l) r = pure () := by intro _; rfl) :
    wpAny (model prog w) A (subscriptTail value slice (.ref l) (.ref s.heap.objs.size)) Q E { s with heap := s.heap.push { cls := .type "slice", data := .fields #[.none, .int k u, .none] } } := by
  refine kmk_slice F N hl .none (.int k u) (fun D h' F' N' l1 => h D h' F' ?_ l1) hs ht (by rw [List.size_toArray]; exact hz)
  have e : slicePick vs.toArray none (some k) none = (vs.take k.toNat).toArray := by
    rw [kms_pick_eq]
    unfold kms_pick kms_lo kms_hi
    simp only [if_neg (show ¬ (k < 0) by omega)]
    rw [List.drop_zero, Nat.sub_zero, kmk_take_min]
  rw [← e]; exact N'
end
end Mine
namespace Mine
/-- a range as the ledger keeps it -/
abbrev rangeObj (a b : Int) (t u v : Tok) : Obj := { cls := .type "range", dict := none, data := .fields #[.int a t, .int b u, .int 1 v], slots := #[] }
section
variable {prog : Program} {w : World} {A : Around} {E : Value → Shared → Prop} {s : Shared} {h₀ : Heap} {L : Addr} {m : Str → Option Value} {news : List (Addr × Obj)}
theorem news_here {h h' : Heap} {a : Addr} {o : Obj} (F : Fr h₀ L h m) (hn : h.get? a = none) (ha : h'.get? a = some o) (N' : News h₀ L h' news) : News h₀ L h' ((a, o) :: news) := news_fresh F hn ha N'
theorem size_none (h : Heap) : h.get? h.objs.size = none := Heap.get?_none_of_le (Nat.le_refl _)
theorem range_two {a b : Int} {t u : Tok} {Q : Value → Shared → Prop} (F : Fr h₀ L s.heap m) (N : News h₀ L s.heap news)
    (h : ∀ r h' tk t₁ u₁ v₁, Fr h₀ L h' m → News h₀ L h' ((r, rangeObj a b t₁ u₁ v₁) :: news) → (∀ p ∈ news, p.1 < r) → Q (.ref r) { s with heap := h', toks := tk }) :
    wpAny (model prog w) A (call (.type "range") [.int a t, .int b u]) Q E s :=
  range2_rows F N fun h' tk t₁ u₁ v₁ hr F' N' _ => h _ h' tk t₁ u₁ v₁ F' (news_here F (size_none _) hr N') fun p hp => Heap.lt_size (N p hp).1
theorem range_one {n : Int} {t : Tok} {Q : Value → Shared → Prop} (F : Fr h₀ L s.heap m) (N : News h₀ L s.heap news)
    (h : ∀ r h' tk t₁ u₁ v₁, Fr h₀ L h' m → News h₀ L h' ((r, rangeObj 0 n t₁ u₁ v₁) :: news) → (∀ p ∈ news, p.1 < r) → Q (.ref r) { s with heap := h', toks := tk }) :
    wpAny (model prog w) A (call (.type "range") [.int n t]) Q E s :=
  range1_rows F N fun h' tk t₁ u₁ v₁ hr F' N' _ => h _ h' tk t₁ u₁ v₁ F' (news_here F (size_none _) hr N') fun p hp => Heap.lt_size (N p hp).1
end
end Mine
namespace Mine
section
variable {prog : Program} {w : World} {A : Around} {E : Value → Shared → Prop} {s : Shared} {h₀ : Heap} {L D : Addr} {m : Str → Option Value} {news news' : List (Addr × Obj)}
theorem set_last : ∀ (vs : List Value) (v v' : Value), ki_setL (vs ++ [v]) vs.length v' = some (vs ++ [v'])
  | [], _, _ => rfl
  | x :: r, v, v' => by
    show (match ki_setL (r ++ [v]) r.length v' with | some q => some (x :: q) | none => none) = _
    rw [set_last r v v']
    rfl
theorem last_get {l : Addr} {vs : List Value} {v : Value} {u : Tok} {Q : Value → Shared → Prop} (hl : s.heap.IsList l (vs ++ [v]).toArray) (h : Q v s) : wpAny (model prog w) A (getItem (.ref l) (.int (-1) u)) Q E s := by
  refine wpAny_getItem_list_neg hl (by decide) (by simp only [List.size_toArray, List.length_append, List.length_cons, List.length_nil]; omega) (by decide) ?_ h
  have e : ((-1 : Int) + ((vs ++ [v]).toArray.size : Nat)).toNat = vs.length := by simp only [List.size_toArray, List.length_append, List.length_cons, List.length_nil]; omega
  rw [e]
  simp
theorem last_set {vs : List Value} {v v' : Value} {u : Tok} {n : Nat} {Q : Unit → Shared → Prop} (F : Fr h₀ L s.heap m) (N : News h₀ L s.heap news)
    (U : Upd D (listOf (vs ++ [v]).toArray n) (listOf (vs ++ [v']).toArray n) news news') (h : ∀ h', Fr h₀ L h' m → News h₀ L h' news' → Q () { s with heap := h' }) :
    wpAny (model prog w) A (setItem (.ref D) (.int (-1) u) v') Q E s := by
  have e : ((-1 : Int) + ((vs ++ [v]).toArray.size : Nat)).toNat = vs.length := by simp only [List.size_toArray, List.length_append, List.length_cons, List.length_nil]; omega
  refine ki_setNeg (j := vs.length) (q := vs ++ [v']) F N (by decide) (by decide) ?_ ?_ U h
  · rw [PySem.seqIndex_neg (by decide) (by simp only [List.size_toArray, List.length_append, List.length_cons, List.length_nil]; omega), e]
  · show ki_setL (vs ++ [v]) vs.length v' = some (vs ++ [v'])
    exact set_last vs v v'
theorem len_1 {a : Nat} {t : Tok} {Q : Value → Shared → Prop} (h : Q (.int 1 (s.toks + 1)) { s with toks := s.toks + 1 + 1 }) : wpAny (model prog w) A (call (.builtin "len") [.str ⟨#[a]⟩ t]) Q E s :=
  len_str (by show ¬ ((1 : Nat) : Int) ≥ 2 ^ 63; decide) h
theorem len_2 {a b : Nat} {t : Tok} {Q : Value → Shared → Prop} (h : Q (.int 2 (s.toks + 1)) { s with toks := s.toks + 1 + 1 }) : wpAny (model prog w) A (call (.builtin "len") [.str ⟨#[a, b]⟩ t]) Q E s :=
  len_str (by show ¬ ((2 : Nat) : Int) ≥ 2 ^ 63; decide) h
theorem len_3 {a b c : Nat} {t : Tok} {Q : Value → Shared → Prop} (h : Q (.int 3 (s.toks + 1)) { s with toks := s.toks + 1 + 1 }) : wpAny (model prog w) A (call (.builtin "len") [.str ⟨#[a, b, c]⟩ t]) Q E s :=
  len_str (by show ¬ ((3 : Nat) : Int) ≥ 2 ^ 63; decide) h
theorem len_4 {a b c d : Nat} {t : Tok} {Q : Value → Shared → Prop} (h : Q (.int 4 (s.toks + 1)) { s with toks := s.toks + 1 + 1 }) : wpAny (model prog w) A (call (.builtin "len") [.str ⟨#[a, b, c, d]⟩ t]) Q E s :=
  len_str (by show ¬ ((4 : Nat) : Int) ≥ 2 ^ 63; decide) h
end
theorem any_mem {x : Str} {ys : List Str} (h : x ∈ ys) : (!(ys.any fun z => z == x)) = false := by
  rw [Bool.not_eq_false', List.any_eq_true]
  exact ⟨x, h, by simp⟩
end Mine
namespace Mine
section
variable {h₀ h : Heap} {L : Addr} {m : Str → Option Value} {x1 x2 x3 x4 x5 : Str} {v1 v2 v3 v4 v5 : Value}
theorem fr_put2 (F : Fr h₀ L h m) (e1 : m x1 = some v1) (e2 : m x2 = some v2) : Fr h₀ L h (fun y => if y = x1 then some v1 else if y = x2 then some v2 else m y) :=
  fr_cong F fun y => by split; (rename_i q; rw [q, e1]); split; (rename_i q; rw [q, e2]); rfl
theorem fr_put3 (F : Fr h₀ L h m) (e1 : m x1 = some v1) (e2 : m x2 = some v2) (e3 : m x3 = some v3) : Fr h₀ L h (fun y => if y = x1 then some v1 else if y = x2 then some v2 else if y = x3 then some v3 else m y) :=
  fr_cong F fun y => by split; (rename_i q; rw [q, e1]); split; (rename_i q; rw [q, e2]); split; (rename_i q; rw [q, e3]); rfl
theorem fr_put4 (F : Fr h₀ L h m) (e1 : m x1 = some v1) (e2 : m x2 = some v2) (e3 : m x3 = some v3) (e4 : m x4 = some v4) : Fr h₀ L h (fun y => if y = x1 then some v1 else if y = x2 then some v2 else if y = x3 then some v3 else if y = x4 then some v4 else m y) :=
  fr_cong F fun y => by split; (rename_i q; rw [q, e1]); split; (rename_i q; rw [q, e2]); split; (rename_i q; rw [q, e3]); split; (rename_i q; rw [q, e4]); rfl
theorem fr_put5 (F : Fr h₀ L h m) (e1 : m x1 = some v1) (e2 : m x2 = some v2) (e3 : m x3 = some v3) (e4 : m x4 = some v4) (e5 : m x5 = some v5) : Fr h₀ L h (fun y => if y = x1 then some v1 else if y = x2 then some v2 else if y = x3 then some v3 else if y = x4 then some v4 else if y = x5 then some v5 else m y) :=
  fr_cong F fun y => by split; (rename_i q; rw [q, e1]); split; (rename_i q; rw [q, e2]); split; (rename_i q; rw [q, e3]); split; (rename_i q; rw [q, e4]); split; (rename_i q; rw [q, e5]); rfl
end
end Mine
namespace Mine
theorem strs_snoc {vs : List Value} {xs : List Str} {z : Str} {t : Tok} (h : StrsAre vs xs) : StrsAre (vs ++ [.str z t]) (xs ++ [z]) := kct_snoc h
end Mine
namespace Mine
theorem fr_put6 {h₀ h : Heap} {L : Addr} {m : Str → Option Value} {x1 x2 x3 x4 x5 x6 : Str} {v1 v2 v3 v4 v5 v6 : Value} (F : Fr h₀ L h m) (e1 : m x1 = some v1) (e2 : m x2 = some v2) (e3 : m x3 = some v3) (e4 : m x4 = some v4) (e5 : m x5 = some v5) (e6 : m x6 = some v6) :
    Fr h₀ L h (fun y => if y = x1 then some v1 else if y = x2 then some v2 else if y = x3 then some v3 else if y = x4 then some v4 else if y = x5 then some v5 else if y = x6 then some v6 else m y) :=
  fr_cong F fun y => by split; (rename_i q; rw [q, e1]); split; (rename_i q; rw [q, e2]); split; (rename_i q; rw [q, e3]); split; (rename_i q; rw [q, e4]); split; (rename_i q; rw [q, e5]); split; (rename_i q; rw [q, e6]); rfl
end Mine

-- part L4
namespace Mine
theorem join_nil : ∀ ys : List Str, (Str.join Str.empty ys).cps.toList = (ys.map (·.cps.toList)).flatten
  | [] => rfl
  | [x] => by show x.cps.toList = _; simp
  | x :: y :: r => by
    have ih := join_nil (y :: r)
    show (x ++ Str.empty ++ Str.join Str.empty (y :: r)).cps.toList = _
    rw [Str.cps_append, Str.cps_append, Array.toList_append, Array.toList_append, ih]
    show x.cps.toList ++ [] ++ _ = _
    rw [List.append_nil]; rfl
theorem len_sum_le {B : Nat} : ∀ {ys : List Str}, (∀ y ∈ ys, y.length ≤ B) → (ys.map (·.length)).sum ≤ B * ys.length
  | [], _ => Nat.zero_le _
  | y :: r, h => by
    have ih := len_sum_le (B := B) (ys := r) fun z hz => h z (.tail _ hz)
    have h1 := h y (.head _)
    rw [List.map_cons, List.sum_cons, List.length_cons, Nat.mul_succ]
    omega
theorem flat_len : ∀ ys : List Str, (ys.map (·.cps.toList)).flatten.length = (ys.map (·.length)).sum
  | [] => rfl
  | y :: r => by
    rw [List.map_cons, List.flatten_cons, List.length_append, flat_len r, List.map_cons, List.sum_cons, str_len]
theorem strs_take : ∀ {vs : List Value} {xs : List Str} (k : Nat), StrsAre vs xs → StrsAre (vs.take k) (xs.take k)
  | _, _, 0, _ => by simp only [List.take_zero]; exact .nil
  | _, _, k + 1, .nil => by simp only [List.take_nil]; exact .nil
  | _, _, k + 1, .cons y t r => by rw [List.take_succ_cons, List.take_succ_cons]; exact .cons y t (strs_take k r)
theorem strs_drop : ∀ {vs : List Value} {xs : List Str} (k : Nat), StrsAre vs xs → StrsAre (vs.drop k) (xs.drop k)
  | _, _, 0, h => h
  | _, _, k + 1, .nil => by simp only [List.drop_nil]; exact .nil
  | _, _, k + 1, .cons y t r => strs_drop k r
section
variable {prog : Program} {w : World} {A : Around} {E : Value → Shared → Prop} {s : Shared}
/-- the empty text joins -/
theorem join_flat {D : Addr} {vsJ : List Value} {ys : List Str} {t : Tok} {e : Str} {Q : Value → Shared → Prop} (he : e = Str.ofString "") (hl : s.heap.IsList D vsJ.toArray) (hi : StrsAre vsJ ys) (hn : ys.length ≤ 9) (hb : ∀ y ∈ ys, y.length ≤ 32)
    (h : ∀ y t' k, y.cps.toList = (ys.map (·.cps.toList)).flatten → y.length ≤ 288 → Q (.str y t') { s with toks := k }) : wpAny (model prog w) A (call (.builtin "str.join") [.str e t, .ref D]) Q E s := by
  have hs := len_sum_le hb
  have h9 : 32 * ys.length ≤ 288 := by omega
  have e1 : e.length = 0 := by rw [he]; rfl
  refine join_list hl (ys := ys) (by simpa using hi) (by rw [e1]; omega) fun t' k => ?_
  have e2 : (Txt.join e ys).cps.toList = (ys.map (·.cps.toList)).flatten := by
    have := join_nil ys
    rw [← this, show Txt.join e ys = Str.join Str.empty ys from ?_]
    have hc := join_closes (sep := e) (sep' := Str.empty) (ys := ys) he
    exact eq_of_beq hc
  refine h _ t' k e2 ?_
  rw [← str_len, e2, flat_len]
  omega
end
end Mine
namespace Mine
section
variable {prog : Program} {w : World} {A : Around} {E : Value → Shared → Prop} {s : Shared}
theorem item_sig {value slice : PySem.Expr} {l : Addr} {vs : List Value} {ys : List Str} {k : Int} {u : Tok} {Q : Value → Shared → Prop}
    (hl : s.heap.IsList l vs.toArray) (hvs : StrsAre vs ys) (h0 : 0 ≤ k) (h1 : k < ys.length) (h2 : ys.length < 1000) (h : ∀ y t, y ∈ ys → Q (.str y t) s)
    (hs : subscripted slice false (.ref l) (.int k u) = operate [.ref l, .int k u] (getItem (.ref l) (.int k u)) := by with_unfolding_all rfl) :
    wpAny (model prog w) A (subscriptTail value slice (.ref l) (.int k u)) Q E s := by
  have hlt : k.toNat < vs.length := by have := strs_len hvs; omega
  have hx : vs[k.toNat]? = some vs[k.toNat] := List.getElem?_eq_getElem hlt
  obtain ⟨y, t, e, hy⟩ := strs_get hvs hx
  exact item_at hl h0 (by omega) (hx.trans (congrArg some e)) (h y t (List.mem_of_getElem? hy)) hs
end
end Mine
namespace Mine
section
variable {prog : Program} {w : World} {A : Around} {E : Value → Shared → Prop} {s : Shared}
theorem join_take {D : Addr} {vs : List Value} {xs : List Str} {j : Nat} {t : Tok} {e : Str} {Q : Value → Shared → Prop} (hi : StrsAre vs xs) (hb : ∀ y ∈ xs, y.length ≤ 32) (hn : xs.length ≤ 9) (he : e = Str.ofString "") (hl : s.heap.IsList D (vs.take j).toArray)
    (h : ∀ y t' k, y.cps.toList = ((xs.take j).map (·.cps.toList)).flatten → y.length ≤ 288 → Q (.str y t') { s with toks := k }) : wpAny (model prog w) A (call (.builtin "str.join") [.str e t, .ref D]) Q E s :=
  join_flat he hl (strs_take j hi) (by rw [List.length_take]; omega) (fun y hy => hb y (List.mem_of_mem_take hy)) h
theorem join_drop {D : Addr} {vs : List Value} {xs : List Str} {j : Nat} {t : Tok} {e : Str} {Q : Value → Shared → Prop} (hi : StrsAre vs xs) (hb : ∀ y ∈ xs, y.length ≤ 32) (hn : xs.length ≤ 9) (he : e = Str.ofString "") (hl : s.heap.IsList D (vs.drop j).toArray)
    (h : ∀ y t' k, y.cps.toList = ((xs.drop j).map (·.cps.toList)).flatten → y.length ≤ 288 → Q (.str y t') { s with toks := k }) : wpAny (model prog w) A (call (.builtin "str.join") [.str e t, .ref D]) Q E s :=
  join_flat he hl (strs_drop j hi) (by rw [List.length_drop]; omega) (fun y hy => hb y (List.mem_of_mem_drop hy)) h
theorem item_sigB {value slice : PySem.Expr} {l : Addr} {vs : List Value} {ys : List Str} {k : Int} {u : Tok} {B : Nat} {Q : Value → Shared → Prop}
    (hvs : StrsAre vs ys) (hB : ∀ y ∈ ys, y.length ≤ B) (hl : s.heap.IsList l vs.toArray) (h0 : 0 ≤ k) (h1 : k < ys.length) (h2 : ys.length < 1000) (h : ∀ y t, y ∈ ys → y.length ≤ B → Q (.str y t) s)
    (hs : subscripted slice false (.ref l) (.int k u) = operate [.ref l, .int k u] (getItem (.ref l) (.int k u)) := by with_unfolding_all rfl) :
    wpAny (model prog w) A (subscriptTail value slice (.ref l) (.int k u)) Q E s := item_sig hl hvs h0 h1 h2 (fun y t hy => h y t hy (hB y hy)) hs
end
end Mine
namespace Mine
/-- a dict's pairs are a table's: signs to texts -/
inductive TabIs : List (Str × Value) → List (Nat × List Nat) → Prop
  | nil : TabIs [] []
  | cons (c : Nat) (d : List Nat) (x : Str) (t : Tok) {r q} : x.cps.toList = d → TabIs r q → TabIs ((⟨#[c]⟩, .str x t) :: r) ((c, d) :: q)
end Mine

-- part L5
namespace Mine
section
variable {prog : Program} {w : World} {A : Around} {E : Value → Shared → Prop} {s : Shared} {env : Env} {h₀ : Heap} {L : Addr} {m : Str → Option Value} {target : PySem.Expr} {body : List Stmt} {Q : Flow → Shared → Prop} {d : Addr} {kvs : List (Str × Value)}
theorem dict_on {h : Heap} (F : Fr h₀ L h m) (hD : h₀.DictOf (PySem.strKind prog w) d kvs) : h.DictOf (PySem.strKind prog w) d kvs := by
  obtain ⟨o, ho, hd⟩ := Heap.dictOf_iff.mp hD
  exact Heap.dictOf_iff.mpr ⟨o, F.keep _ _ ho, hd⟩
/-- over a dict's keys -/
theorem iter_keys {news : List (Addr × Obj)} (J : Nat → (Str → Option Value) → List (Addr × Obj) → Prop)
    (hh : A.handled = none) (lo : (d == sysModules) = false) (hD : h₀.DictOf (PySem.strKind prog w) d kvs) (F : Fr h₀ env.locals s.heap m) (N : News h₀ env.locals s.heap news) (h0 : J 0 m news)
    (turn : ∀ g, Turn prog w A h₀ env target body Q (fun i v => ∃ k x t, kvs[i]? = some (k, x) ∧ v = .str k t) kvs.length J { s with heap := g }) (done : ∀ g, Done h₀ env Q (J kvs.length) { s with heap := g }) :
    wpAny (model prog w) A (pyIter (.ref d)) (fun it s₂ => LoopHere prog w A h₀ env target body Q it s₂) E s := by
  obtain ⟨ep, hat₀⟩ := Heap.DictOf.dictAt hD
  have hat : s.heap.DictAt (PySem.strKind prog w) d kvs ep := hat₀.at' fun o e => F.keep _ _ e
  obtain ⟨e1, e2, e3⟩ := new_ne F N
  have hlt : d < s.heap.objs.size := by obtain ⟨o, _, ho, _⟩ := hat; exact Heap.lt_size ho
  refine wpAny_pyIter_dict lo hat ?_
  refine ⟨_, _, _, _, _, m, news, J, rfl, Walks.dictKeys (knd := PySem.strKind prog w) hh s.heap.objs.size d (Nat.ne_of_lt hlt) kvs ep, (fun i h st => by obtain ⟨o, e, _⟩ := st.1; exact ⟨o, e⟩), ?_, e1, e2, e3,
    ⟨⟨_, Heap.get?_push_size _ rfl, rfl, rfl⟩, hat.at' fun o e => Heap.get?_push_of_some _ e⟩, F.push _, (fun p hp => ⟨Heap.get?_push_of_some _ (N p hp).1, (N p hp).2⟩), h0, ?_, done _⟩
  · intro i m h h' o nx st e e' k N' _
    refine ⟨?_, hat₀.at' fun o e => k _ _ e⟩
    obtain ⟨o', q, r⟩ := st.1
    rw [e] at q; cases q
    exact ⟨o, e', r⟩
  · intro i v m₁ nx h tk I oI hi hP
    obtain ⟨k, x, hx, hk⟩ := hP
    obtain ⟨t, rfl⟩ := Value.isStrOf_shape hk
    exact turn _ i _ m₁ nx h tk I oI hi ⟨k, x, t, hx, rfl⟩
theorem dict_item {value slice : PySem.Expr} {k : Str} {t : Tok} {i : Nat} {v : Value} {Q : Value → Shared → Prop} (hD : s.heap.DictOf (PySem.strKind prog w) d kvs) (hx : kvs[i]? = some (k, v)) (h : Q v { s with toks := s.toks + 1 })
    (hs : subscripted slice false (.ref d) (.str k t) = operate [.ref d, .str k t] (getItem (.ref d) (.str k t)) := by with_unfolding_all rfl) (hg : ∀ r, letTemporaryGo value (.ref d) r = pure () := by intro _; with_unfolding_all rfl) :
    wpAny (model prog w) A (subscriptTail value slice (.ref d) (.str k t)) Q E s := by
  have hn : (kvs.map (·.1)).Nodup := by
    obtain ⟨o, _, hd⟩ := Heap.dictOf_iff.mp hD
    exact hd.choose_spec.choose_spec.2.2.2.2
  exact subscriptTail_builtin hD.typeIs slot_dict_getitem.lookup (wpAny_getItem_of (strKind_is _ _ _ _) hD.mapOf (valueAt_of_get hn hx) h) hs hg
end
theorem tab_get : ∀ {kvs : List (Str × Value)} {tab : List (Nat × List Nat)} {i : Nat} {k : Str} {v : Value}, TabIs kvs tab → kvs[i]? = some (k, v) → ∃ c d x t, k = ⟨#[c]⟩ ∧ v = .str x t ∧ x.cps.toList = d ∧ tab[i]? = some (c, d)
  | _, _, i, k, v, .nil, h => by simp at h
  | _, _, 0, k, v, .cons c d x t e r, h => by
    simp at h
    exact ⟨c, d, x, t, h.1.symm, h.2.symm, e, rfl⟩
  | _, _, i + 1, k, v, .cons c d x t e r, h => by
    obtain ⟨c', d', x', t', e1, e2, e3, e4⟩ := tab_get r (by simpa using h)
    exact ⟨c', d', x', t', e1, e2, e3, by simpa using e4⟩
theorem tab_len {kvs : List (Str × Value)} {tab : List (Nat × List Nat)} (h : TabIs kvs tab) : kvs.length = tab.length := by
  induction h with
  | nil => rfl
  | cons c d x t e r ih => simp [ih]
end Mine
namespace Mine
open Builtin Builtin.Str StrLaws
theorem starts_val (x y : Str) : Txt.startswith x y = decide (y.cps.toList <+: x.cps.toList) := by
  unfold Txt.startswith
  rw [Bool.eq_iff_iff, decide_eq_true_eq, Bool.and_eq_true, decide_eq_true_eq, subAt_eq, List.drop_zero, beq_iff_eq, Nat.zero_add]
  constructor
  · rintro ⟨_, h⟩
    rw [← h]
    exact List.take_prefix _ _
  · rintro ⟨r, h⟩
    have hl := congrArg List.length h
    rw [List.length_append, str_len, str_len] at hl
    refine ⟨by omega, ?_⟩
    rw [← h, ← str_len, List.take_left]
end Mine

-- part L6
namespace Mine
/-- the sign that stands at a place -/
def SignAt (x : Str) (k : Int) (c : Nat) : Prop := 0 ≤ k ∧ x.cps.toList[k.toNat]? = some c
theorem SignAt.lt {x : Str} {k : Int} {c : Nat} (h : SignAt x k c) : 0 ≤ k ∧ k < x.length := by
  refine ⟨h.1, ?_⟩
  obtain ⟨hi, _⟩ := List.getElem?_eq_some_iff.mp h.2
  have := h.1
  have : x.cps.toList.length = x.length := by simp [Str.length]
  omega
theorem SignAt.slice {x : Str} {k : Int} {c : Nat} (h : SignAt x k c) : Txt.slice x (some k) (some (k + 1)) = ⟨#[c]⟩ := by
  obtain ⟨n, rfl⟩ : ∃ n : Nat, k = n := ⟨k.toNat, by have := h.1; omega⟩
  have h2 : x.cps.toList[n]? = some c := by simpa using h.2
  refine str_eq ?_
  have e := slice_ss x n (n + 1)
  rw [show ((n + 1 : Nat) : Int) = (n : Int) + 1 from rfl] at e
  rw [e]
  obtain ⟨hi, e2⟩ := List.getElem?_eq_some_iff.mp h2
  rw [List.drop_eq_getElem_cons hi, e2, show n + 1 - n = 1 by omega]
  rfl
theorem SignAt.item {x : Str} {k : Int} {c : Nat} (h : SignAt x k c) : Txt.item x k = ⟨#[c]⟩ := by
  obtain ⟨n, rfl⟩ : ∃ n : Nat, k = n := ⟨k.toNat, by have := h.1; omega⟩
  have h2 : x.cps.toList[n]? = some c := by simpa using h.2
  obtain ⟨hi, e2⟩ := List.getElem?_eq_some_iff.mp h2
  refine str_eq ?_
  have hl : x.cps.toList.length = x.length := by simp [Str.length]
  have e3 : Txt.charAt x (n : Int) = some c := by
    have h3 : x.cps[n]? = some c := by simpa using h2
    have e4 : seqIndex? (n : Int) x.length = some n := by
      unfold seqIndex?
      simp
      omega
    unfold Txt.charAt
    rw [e4]
    exact h3
  unfold Txt.item
  rw [e3]
  rfl
section
variable {prog : Program} {w : World} {A : Around} {E : Value → Shared → Prop} {s : Shared} {h₀ : Heap} {L : Addr} {m : Str → Option Value} {news : List (Addr × Obj)} {value slice : PySem.Expr} {x : Str} {t : Tok} {k : Int} {c : Nat} {Q : Value → Shared → Prop}
theorem str_item {u : Tok} (hc : SignAt x k c) (hl : x.length ≤ 10000) (h : Q (.str ⟨#[c]⟩ s.toks) { s with toks := s.toks + 1 })
    (hs : subscripted slice false (.str x t) (.int k u) = operate [.str x t, .int k u] (getItem (.str x t) (.int k u)) := by with_unfolding_all rfl)
    (ht : ∀ r, letTemporaryGo value (.str x t) r = pure () := by intro _; with_unfolding_all rfl) :
    wpAny (model prog w) A (subscriptTail value slice (.str x t) (.int k u)) Q E s := by
  have hb := hc.lt
  refine item_str (fitsSsize_of (N := 9223372036854775808) (by omega) (by omega) (Int.le_refl _)) (by omega) (by omega) (fun _ => ?_) hs ht
  rw [hc.item]
  exact h
theorem slice_one {ui uj : Tok} (F : Fr h₀ L s.heap m) (N : News h₀ L s.heap news) (hc : SignAt x k c) (hl : x.length ≤ 10000)
    (h : ∀ h' t' tk, Fr h₀ L h' m → News h₀ L h' news → Q (.str ⟨#[c]⟩ t') { s with heap := h', toks := tk })
    (hs : subscripted slice false (.str x t) (.ref s.heap.objs.size) = operate [.ref s.heap.objs.size, .str x t] (getItem (.str x t) (.ref s.heap.objs.size)) := by with_unfolding_all rfl)
    (ht : ∀ r, letTemporaryGo value (.str x t) r = pure () := by intro _; with_unfolding_all rfl) :
    wpAny (model prog w) A (subscriptTail value slice (.str x t) (.ref s.heap.objs.size)) Q E { s with heap := s.heap.push { cls := .type "slice", data := .fields #[.int k ui, .int (k + 1) uj, .none] } } := by
  refine slice_strN_ss (hsz := by show x.length ≤ 16777216; omega) F N (fun h' t' tk F' N' => ?_) hs ht
  rw [hc.slice]
  exact h h' t' tk F' N'
end
end Mine

-- part M1
namespace Mine
section
variable {prog : Program} {w : World} {A : Around} {E : Value → Shared → Prop} {s : Shared} {d : Addr} {f : Int → Option Value} {c : Nat}
open Builtin Builtin.Str
theorem table_hit {z : PySem.Str} {u : Tok} {Q : Mapped → Shared → Prop} (hm : s.heap.MapOf (intKind prog w) d f) (hv : f (c : Int) = some (.str z u))
    (h : Q (.text z) { s with toks := s.toks + 1 + 1 }) : wpAny (model prog w) A (tableLookup (.ref d) c) Q E s := by
  unfold tableLookup
  refine wpAny_bind (wpAny_attempt (wpAny_bind (wpAny_mkInt (wpAny_getItem_intMap hm.intMap hv ?_))))
  dsimp only
  refine wpAny_bind (wpAny_pure ?_)
  refine wpAny_bind (wpAny_pure ?_)
  exact wpAny_pure h
theorem table_miss {Q : Mapped → Shared → Prop} (hm : s.heap.MapOf (intKind prog w) d f) (hd : (d == sysModules) = false) (hh : A.handled = none) (hv : f (c : Int) = none)
    (h : ∀ h' tk, s.heap.StaysIn h' → Q .keep { s with heap := h', toks := tk }) : wpAny (model prog w) A (tableLookup (.ref d) c) Q E s := by
  unfold tableLookup
  refine wpAny_bind (wpAny_attempt (wpAny_bind (wpAny_mkInt (wpAny_getItem_missing_of (knd := intKind prog w) (k := (c : Int)) (by simp [intKind, Value.isInt]) hd hh hm hv ?_))))
  intro h' e hx
  dsimp only
  obtain ⟨ob, tp, he, hcl, hdt⟩ := hx.there
  refine wpAny_bind (wpAny_isInstance (T := "KeyError") (U := "LookupError") (b := true) ⟨ob, he, hcl⟩ (by kernel_rfl) ?_)
  exact wpAny_bind (wpAny_rule (wpAny_pure (h _ _ hx.keeps)))
theorem call_translate {t : Tok} {Q : Value → Shared → Prop} (hc : c < 128) (hm : s.heap.MapOf (intKind prog w) d f) (hd : (d == sysModules) = false) (hh : A.handled = none)
    (hf : f (c : Int) = none ∨ ∃ z u, f (c : Int) = some (.str z u) ∧ z.length = 2)
    (hno : f (c : Int) = none → ∀ h' tk tk2, s.heap.StaysIn h' → Q (.str ⟨#[c]⟩ tk) { s with heap := h', toks := tk2 })
    (hyes : ∀ z u tk tk2, f (c : Int) = some (.str z u) → Q (.str z tk) { s with toks := tk2 }) :
    wpAny (model prog w) A (call (.builtin "str.translate") [.str ⟨#[c]⟩ t, .ref d]) Q E s := by
  refine wpAny_call (codeAny_call_builtin F.slot_str_translate.plain F.entry_str_translate (F.slot_str_translate.check _ _ _ _ _ _ _ _ (typeIs_str _ _ _) (F.args_str_translate_2 _ _) ?_))
  unfold «str.translate»
  refine wpAny_bind (wpAny_pure ?_)
  dsimp only
  rw [if_neg (by show ¬ ((1 : Nat) == 0) = true; decide)]
  have hfast : (#[c].all fun x => decide (x < 128)) = true := by simp [hc]
  rw [hfast, List.forIn_toArray]
  refine wpAny_bind ?_
  rw [List.forIn_cons]
  refine wpAny_bind ?_
  dsimp only
  rw [if_neg (by show ¬ tooLong 0 = true; decide), if_pos rfl]
  show wpAny _ _ (tableLookup (.ref d) c >>= _) _ _ _
  refine wpAny_bind ?_
  rcases hf with hf | ⟨z, u, hf, hz⟩
  · refine table_miss (A := A.in1) hm hd hh hf ?_
    intro h' tk hst
    refine wpAny_bind (wpAny_pure ?_)
    refine wpAny_pure ?_
    dsimp only
    refine wpAny_pure ?_
    dsimp only
    rw [if_neg (by decide)]
    refine wpAny_bind (wpAny_mkStr ?_ (by show 1 ≤ sizeLine; decide))
    exact wpAny_pure (hno hf _ _ _ hst)
  · refine table_hit hm hf ?_
    dsimp only
    rw [if_neg (by rw [hz]; exact Bool.false_ne_true)]
    refine wpAny_bind (wpAny_pure ?_)
    dsimp only
    refine wpAny_bind (wpAny_rule ?_)
    rw [if_neg Bool.false_ne_true]
    refine wpAny_bind (table_hit hm hf ?_)
    dsimp only
    refine wpAny_pure ?_
    dsimp only
    refine wpAny_pure ?_
    dsimp only
    rw [Nat.zero_add, hz, if_neg (by decide)]
    have e : (⟨List.foldl (fun acc (p : PySem.Str) => acc ++ p.cps) #[] [z].reverse⟩ : PySem.Str) = z := by
      cases z with | mk a => simp
    rw [e]
    refine wpAny_bind (wpAny_mkStr ?_ (by rw [hz]; decide))
    exact wpAny_pure (hyes _ _ _ _ hf)
end
end Mine

-- part M2
namespace Mine
theorem slot_sub : Slot "re.Pattern" "sub" "re.Pattern.sub" :=
  .of (owner := "re.Pattern") (n := "sub") (by rw [typeLookup_type, builtinLookup_eq_fast]; kernel_rfl) (by decide +kernel) (by decide +kernel) (by decide +kernel)
    (by first | exact .inl (by decide +kernel) | exact .inr (by decide +kernel)) (by rw [isSubtype_type]; kernel_rfl)
theorem entry_sub : entryFor table "re.Pattern.sub" = some Builtin.«re.Pattern.sub» := entryFor_of_tree (by kernel_rfl)
theorem entry_loop : entryFor table "re.Pattern.sub.loop" = some Builtin.«re.Pattern.sub.loop» := entryFor_of_tree (by kernel_rfl)
theorem owner_pat : Manifest.owners.lookup (String.ofList ['n', 'r', 'e', 't', 't', 'a', 'P', '.', 'e', 'r'].reverse) = some Manifest.sig_re_Pattern := by kernel_rfl
theorem args_sub (a b c : Value) : argsOk "re.Pattern.sub" ⟨[a, b, c], []⟩ := by
  unfold argsOk; rw [signature?_of (id := "re.Pattern.sub") (n := ['b', 'u', 's']) (o := ['n', 'r', 'e', 't', 't', 'a', 'P', '.', 'e', 'r']) (by kernel_rfl) owner_pat]; kernel_rfl
def CODE : Array Nat := #[14, 14, 4, 1, 1, 9, 0, 64, 0, 1342177280, 0, 0, 0, 0, 0, 17, 0, 13, 11, 9, 0, 64, 0, 1342177280, 0, 0, 0, 0, 0, 17, 1, 1]
def codeVals : Array Value := #[.int 14 0, .int 14 0, .int 4 0, .int 1 0, .int 1 0, .int 9 0, .int 0 0, .int 64 0, .int 0 0, .int 1342177280 0, .int 0 0, .int 0 0, .int 0 0, .int 0 0, .int 0 0, .int 17 0, .int 0 0, .int 13 0, .int 11 0, .int 9 0, .int 0 0, .int 64 0, .int 0 0, .int 1342177280 0, .int 0 0, .int 0 0, .int 0 0, .int 0 0, .int 0 0, .int 17 0, .int 1 0, .int 1 0]
def ThreeSigns (c : Nat) : Prop := c = 42 ∨ c = 63 ∨ c = 91
theorem sre_fails {c : Nat} (hc : ThreeSigns c) : ((Sre.forSearch CODE #[c] 1 0 1 false).runFor 4).outcome = some .failed := by
  rcases hc with rfl | rfl | rfl <;> kernel_rfl
section
variable {prog : Program} {w : World} {A : Around} {E : Value → Shared → Prop} {s : Shared} {c : Nat}
open Builtin Builtin.Re
theorem wp_rules {M : Model} {b : Nat → Bool} {g : Nat → String} {Q : PUnit → Shared → Prop} (h : Q ⟨⟩ s) : ∀ l : List Nat, wpAny M A (forIn l PUnit.unit fun i _ => (if b i = true then do rule (g i); pure (.yield ⟨⟩) else pure (.yield ⟨⟩) : Sem (ForInStep PUnit))) Q E s
  | [] => by rw [List.forIn_nil]; exact wpAny_pure h
  | a :: r => by
    rw [List.forIn_cons]
    refine wpAny_bind ?_
    split
    · exact wpAny_bind (wpAny_rule (wpAny_pure (wp_rules h r)))
    · exact wpAny_pure (wp_rules h r)
theorem next_none (hc : ThreeSigns c) {t : ReTarget} (h1 : t.code = CODE) (h2 : t.text = #[c]) (h3 : t.groups = 1) (h4 : t.lim = 1) {Q : Option Sre.M → Shared → Prop} (h : Q none s) :
    wpAny (model prog w) A (reNextFound t 0 false) Q E s := by
  unfold reNextFound
  rw [h1, h2, h3, h4]
  unfold reRunToEnd
  have e : ((Sre.forSearch CODE #[c] 1 0 1 false).runFor reTurnSteps).outcome = some .failed := sre_fails hc
  refine wpAny_bind ?_
  rw [show (2 : Nat) ^ 64 = 18446744073709551615 + 1 from rfl]
  rw [reDrive]
  rw [e]
  refine wpAny_pure ?_
  refine wpAny_bind ?_
  exact wp_rules (by rw [e]; exact wpAny_pure h) _
theorem whole_target {pA cA : Addr} {op oc : Obj} {px x : Str} {t0 u0 u1 t : Tok} {Q : ReTarget → Shared → Prop}
    (hp : s.heap.get? pA = some op) (hpd : op.data = .fields #[.str px t0, .int 32 u0, .int 1 u1, .none, .none, .ref cA, .int 0 0])
    (hc : s.heap.get? cA = some oc) {n : Nat} (hcd : oc.data = .seq codeVals n)
    (h : Q { pattern := .ref pA, string := .str x t, code := CODE, text := x.cps, kind := 0, groups := 1, pos := 0, lim := x.cps.size } s) :
    wpAny (model prog w) A (reWholeTarget (.ref pA) (.str x t)) Q E s := by
  unfold reWholeTarget
  refine wpAny_bind (wpAny_fieldsOf hp hpd ?_)
  refine wpAny_bind (wpAny_bind (wpAny_pure (wpAny_pure ?_)))
  dsimp only
  rw [if_neg (by exact Bool.false_ne_true), if_neg (by exact Bool.false_ne_true)]
  refine wpAny_bind (wpAny_pure ?_)
  refine wpAny_bind (wpAny_bind (wpAny_seqItems hc hcd (wpAny_pure ?_)))
  have e : Array.map (fun x : Int => x.toNat) (Array.map reRawOf ((some codeVals).getD #[])) = CODE := by simp [codeVals, CODE, reRawOf]
  rw [e]
  exact wpAny_pure h
theorem call_sub {pA cA lA : Addr} {op oc ol : Obj} {px : Str} {t0 u0 u1 t : Tok} {n : Nat} {Q : Value → Shared → Prop} (h3 : ThreeSigns c)
    (hp : s.heap.get? pA = some op) (hpc : op.cls = .type "re.Pattern") (hpd : op.data = .fields #[.str px t0, .int 32 u0, .int 1 u1, .none, .none, .ref cA, .int 0 0])
    (hc : s.heap.get? cA = some oc) (hcd : oc.data = .seq codeVals n) (hl : s.heap.get? lA = some ol) (hlc : ol.cls = .type "function")
    (h : ∀ h' tk tk2, s.heap.StaysIn h' → Q (.str ⟨#[c]⟩ tk) { s with heap := h', toks := tk2 }) :
    wpAny (model prog w) A (call (.builtin "re.Pattern.sub") [.ref pA, .ref lA, .str ⟨#[c]⟩ t]) Q E s := by
  refine wpAny_call (codeAny_call_builtin slot_sub.plain entry_sub (slot_sub.check _ _ _ _ _ _ _ _ ⟨op, hp, hpc⟩ (args_sub _ _ _) ?_))
  unfold «re.Pattern.sub» reSubstitute
  dsimp only
  refine wpAny_bind (wpAny_of_eq (a := [some (.ref lA), some (.str ⟨#[c]⟩ t), none]) (by rfl) ?_)
  dsimp only
  refine wpAny_bind (wpAny_pure ?_)
  refine wpAny_bind (wpAny_specialOf (r := some (.builtin "function.__call__")) ⟨ol, hl, hlc⟩ (by rw [typeLookup_type, builtinLookup_eq_fast]; kernel_rfl) ?_)
  refine wpAny_bind (wpAny_pure ?_)
  refine wpAny_bind (wpAny_pure ?_)
  dsimp only
  refine wpAny_bind (wpAny_holding (whole_target hp hpd hc hcd ?_))
  rw [if_pos (by decide)]
  refine wpAny_bind ?_
  unfold reNotHeld
  refine wpAny_bind (wpAny_isInstance (T := "str") (b := false) (typeIs_str _ _ _) (by rw [isSubtype_type]; kernel_rfl) ?_)
  refine wpAny_bind (wpAny_pure ?_)
  refine wpAny_pure ?_
  refine wpAny_bind (wpAny_newList ?_)
  refine wpAny_pure ⟨plainId_quiet (by decide +kernel) _, codeAny_builtin entry_loop ?_⟩
  rw [Around.under_plainId (by decide +kernel)]
  unfold «re.Pattern.sub.loop»
  have kp : ∀ b o, s.heap.get? b = some o → (s.heap.push (listOf #[] 0)).get? b = some o := fun b o e => Heap.get?_push_of_some _ e
  dsimp only [rawInt]
  refine wpAny_bind (whole_target (kp _ _ hp) hpd (kp _ _ hc) hcd ?_)
  dsimp only
  rw [if_neg (by decide)]
  refine wpAny_bind ?_
  rw [if_neg (by decide)]
  refine next_none h3 rfl rfl rfl rfl ?_
  dsimp only
  rw [if_pos (show Int.toNat 0 < #[c].size from Nat.zero_lt_one)]
  unfold reSlice
  rw [if_pos (by decide)]
  refine wpAny_bind (wpAny_mkStr ?_ (by show (1 : Nat) ≤ sizeLine; decide))
  refine wpAny_bind (wpAny_updateSeq (xs := #[]) (n := 0) (Heap.get?_push_size _ rfl) rfl ?_ (by decide) (by show (1 : Nat) ≤ _; decide))
  rw [if_pos (by decide)]
  refine wpAny_bind (wpAny_mkStr ?_ (by show (0 : Nat) ≤ sizeLine; decide))
  dsimp only
  have ho : ((s.heap.push (listOf #[] 0)).update s.heap.objs.size (Obj.mapSeq fun x => x.push (Value.str ⟨#[c]⟩ s.toks))).get? s.heap.objs.size =
      some (Obj.mapSeq (fun x => x.push (Value.str ⟨#[c]⟩ s.toks)) (listOf #[] 0)) := Heap.get?_update_self _ (Heap.get?_push_size _ rfl) rfl
  have hst : s.heap.StaysIn ((s.heap.push (listOf #[] 0)).update s.heap.objs.size (Obj.mapSeq fun x => x.push (Value.str ⟨#[c]⟩ s.toks))) := fun b o e => by
    rw [Heap.get?_update_ne _ _ _ _ (fun e' => by rw [e', Heap.StaysIn.fresh (fun _ _ e => e)] at e; cases e)]
    exact kp _ _ e
  refine wpAny_bind (wpAny_seqItems ho rfl ?_)
  rw [if_neg (by exact Bool.false_ne_true)]
  rw [if_pos (by decide)]
  refine wpAny_bind (join_flat (ys := [⟨#[c]⟩]) (vsJ := [.str ⟨#[c]⟩ s.toks]) ?_ ⟨_, ho, rfl, _, rfl⟩ (.cons _ _ .nil) (by show (1 : Nat) ≤ 9; decide) (by intro y hy; rw [List.mem_singleton.mp hy]; show (1 : Nat) ≤ 32; decide) ?_)
  · rfl
  · intro y t' k hy _
    obtain rfl : y = ⟨#[c]⟩ := str_eq hy
    exact wpAny_pure (h _ _ _ hst)
end
end Mine

-- part M3
namespace Mine
theorem slot_mdget : Slot "method_descriptor" "__get__" "method_descriptor.__get__" :=
  .of (owner := "method_descriptor") (n := "__get__") (by rw [typeLookup_type, builtinLookup_eq_fast]; kernel_rfl) (by decide +kernel) (by decide +kernel) (by decide +kernel)
    (by first | exact .inl (by decide +kernel) | exact .inr (by decide +kernel)) (by rw [isSubtype_type]; kernel_rfl)
theorem entry_mdget : entryFor table "method_descriptor.__get__" = some Builtin.«method_descriptor.__get__» := entryFor_of_tree (by kernel_rfl)
theorem args_mdget (a b c : Value) : argsOk "method_descriptor.__get__" ⟨[a, b, c], []⟩ := by unfold argsOk; kernel_rfl
theorem md_noset : typeLookup (.type "method_descriptor") "__set__" = pure none := by rw [typeLookup_type, builtinLookup_eq_fast]; kernel_rfl
theorem md_nodel : typeLookup (.type "method_descriptor") "__delete__" = pure none := by rw [typeLookup_type, builtinLookup_eq_fast]; kernel_rfl
theorem nottold : Manifest.toldItsClass.contains "list.append" = false := by decide +kernel
theorem owner_append : (".".intercalate ("list.append".cutAt '.').dropLast) = "list" := by decide +kernel
section
variable {prog : Program} {w : World} {A : Around} {E : Value → Shared → Prop} {s : Shared} {h : Heap} {g : Array GenState} {d : Drawn} {t : Nat} {os : OsState} {a : Addr} {o : Obj} {xs : Array Value} {k : Nat}
theorem get_append {R : Result → Shared → Prop} (hx : h.get? a = some o) (hc : o.cls = .type "list") (hq : ∀ h' b, h' = h.push { cls := .type "builtin_function_or_method", data := .fields #[.builtin "list.append", .ref a] } → b = h.objs.size → R (.ok (.ret (.ref b))) ⟨h', g, d, t, os⟩) :
    codeAny (model prog w) A (.call (.builtin "method_descriptor.__get__") ⟨[.builtin "list.append", .ref a, .type "list"], []⟩) R ⟨h, g, d, t, os⟩ := by
  have hT : (⟨h, g, d, t, os⟩ : Shared).TypeIs (.ref a) "list" := ⟨_, hx, hc⟩
  have hT5 : (⟨h, g, d, t, os⟩ : Shared).TypeIs (.builtin "list.append") "method_descriptor" := type_list_append
  refine codeAny_call_builtin slot_mdget.plain entry_mdget (slot_mdget.check _ _ _ _ _ _ _ _ hT5 (args_mdget _ _ _) ?_)
  unfold Builtin.«method_descriptor.__get__»
  repeat (any_goals (first | assumption | wp_step))
  rw [owner_append]
  refine wpAny_of_eq (a := true) (by rw [isSubtype_type]; kernel_rfl) ?_
  rw [if_neg (by decide)]
  refine wpAny_pure ?_
  repeat (any_goals (first | assumption | wp_step))
  exact hq _ _ rfl rfl
theorem entry_append {tk : Tok} {R : Fin → Shared → Prop} (hx : h.get? a = some o) (hc : o.cls = .type "list") (hod : o.dict = none) (hdt : o.data = .seq xs k) (hq : ∀ h' b, h' = h.push { cls := .type "builtin_function_or_method", data := .fields #[.builtin "list.append", .ref a] } → b = h.objs.size → R (.done (.ret (.ref b))) ⟨h', g, d, t, os⟩) :
    wpAny (model prog w) A (Builtin.«object.__getattribute__» ⟨[.ref a, .str "append" tk], []⟩) R E ⟨h, g, d, t, os⟩ := by
  obtain ⟨c, dct, dat, sl⟩ := o
  simp only at hc hdt hod
  subst hc hdt hod
  have hT : (⟨h, g, d, t, os⟩ : Shared).TypeIs (.ref a) "list" := ⟨_, hx, rfl⟩
  have f4 := slot_list_append.lookup
  have f5 := type_list_append
  have f6 := slot_mdget.lookup
  have f7 := md_noset
  have f8 := md_nodel
  unfold Builtin.«object.__getattribute__»
  repeat (any_goals (first | assumption | wp_step))
  exact get_append hx rfl fun h' b e1 e2 => wpAny_pure (hq h' b e1 e2)
theorem getattr_append {s : Shared} {Q : Value → Shared → Prop} (hx : s.heap.get? a = some o) (hc : o.cls = .type "list") (hod : o.dict = none) (hdt : o.data = .seq xs k)
    (hq : ∀ h' b tk, h' = s.heap.push { cls := .type "builtin_function_or_method", data := .fields #[.builtin "list.append", .ref a] } → b = s.heap.objs.size → Q (.ref b) { s with heap := h', toks := tk }) :
    wpAny (model prog w) A (getAttr (.ref a) (Str.ofString "append") true) Q E s := by
  obtain ⟨hp, g, d, tk, os⟩ := s
  obtain ⟨c, dct, dat, sl⟩ := o
  simp only at hc hdt hod
  subst hc hdt hod
  have hx : hp.get? a = _ := hx
  have hT : ∀ tk', (⟨hp, g, d, tk', os⟩ : Shared).TypeIs (.ref a) "list" := fun _ => ⟨_, hx, rfl⟩
  have f3 := F.slot_list_getattribute.lookup
  have f4 := F.slot_list_getattribute.bind (.ref a)
  unfold getAttr getAttrBy
  repeat (any_goals (first | assumption | exact hT _ | ((with_reducible show wpAny _ _ (call (Value.builtin "list.__getattribute__") _ _) _ _ _); refine wpAny_call (codeAny_call_builtin F.slot_list_getattribute.plain F.entry_list_ga (F.slot_list_getattribute.check _ _ _ _ _ _ _ _ (hT _) (F.args_list_getattribute_2 _ _) (entry_append hx rfl rfl rfl ?_)))) | wp_step))
  intro h' b e1 e2
  show wpAny _ _ (handedOut (.ref b)) _ _ _
  repeat (any_goals (first | assumption | wp_step))
  exact hq h' b _ e1 e2
end
end Mine

-- part M4
namespace Mine
section
variable {prog : Program} {w : World} {a : Addr} {xs : Array Value} {k : Nat} {A : Around} {E : Value → Shared → Prop}
theorem args_bound (A : Around) {E : Value → Shared → Prop} {s : Shared} {v : Value} {Q : Unit → Shared → Prop} (hx : s.heap.get? a = some (listOf xs k)) (hq : Q () s) : wpAny (model prog w) A (checkBoundCall "list.append" ⟨[.ref a, v], []⟩) Q E s := by
  obtain ⟨hp, g, d, tk, os⟩ := s
  have hx : hp.get? a = _ := hx
  have hT : (⟨hp, g, d, tk, os⟩ : Shared).TypeIs (.ref a) "list" := ⟨_, hx, rfl⟩
  have e1 : Manifest.signature? "list.append" = some ⟨.oneArg, "list.append", "append", .self, [⟨"object", .posOnly, true⟩]⟩ := by kernel_rfl
  have e2 : builtinKind "list.append" = some .method := by kernel_rfl
  unfold checkBoundCall
  rw [e1, e2]
  dsimp only
  rw [if_neg (by decide)]
  refine wpAny_bind (wpAny_isInstance (b := false) hT (by rw [isSubtype_type]; kernel_rfl) ?_)
  rw [if_neg (by decide +kernel)]
  have e3 : Bind.checkArgs "list.append" ⟨.oneArg, toString (Bind.lastOf "list") ++ toString "." ++ toString (Bind.lastOf "list.append"), "append", .self, [⟨"object", .posOnly, true⟩]⟩ ⟨[.ref a, v], []⟩ = pure () := by kernel_rfl
  repeat (any_goals (first | assumption | wp_step))
theorem call_bound {s : Shared} {Q : Value → Shared → Prop} {bm : Addr} {ob : Obj} {v : Value} (hb : s.heap.get? bm = some ob) (hbc : ob.cls = .type "builtin_function_or_method") (hbd : ob.data = .fields #[.builtin "list.append", .ref a])
    (hx : s.heap.get? a = some (listOf xs k)) (hq : Q .none { s with heap := s.heap.update a (Obj.mapSeq fun z => z.push v) }) (hsz : xs.size ≤ sizeLine) :
    wpAny (model prog w) A (call (.ref bm) [v]) Q E s := by
  refine wpAny_call (codeAny_of_tree ?_)
  show wpAny _ A.in1 (callAny (.ref bm) ⟨[v], []⟩) _ _ _
  unfold callAny
  refine wpAny_bind (wpAny_load hb ?_)
  rw [hbd]
  dsimp only
  rw [hbc, if_pos (by decide)]
  simp only [show (#[Value.builtin "list.append", Value.ref a])[0]? = some (.builtin "list.append") from rfl, show (#[Value.builtin "list.append", Value.ref a])[1]? = some (.ref a) from rfl]
  rw [if_pos (by decide)]
  refine wpAny_bind (args_bound _ hx ?_)
  refine wpAny_pure ⟨plainId_quiet (by decide +kernel) _, codeAny_builtin entry_list_append ?_⟩
  rw [Around.under_plainId (by decide +kernel)]
  exact PySem.AutoListH.list_append_list_val_0 a xs k v hsz prog w A (wants Q E) s ⟨hx, hq⟩
end
end Mine

-- part M5
namespace Mine
abbrev bmObj (l : Addr) : Obj := { cls := .type "builtin_function_or_method", data := .fields #[.builtin "list.append", .ref l] }
section
variable {prog : Program} {w : World} {A : Around} {E : Value → Shared → Prop} {s : Shared} {h₀ : Heap} {L l bm : Addr} {m : Str → Option Value} {news news' : List (Addr × Obj)} {its : Array Value} {n : Nat} {v : Value}
theorem getattr_N {Q : Value → Shared → Prop} (F : Fr h₀ L s.heap m) (N : News h₀ L s.heap news) (hm : (l, listOf its n) ∈ news)
    (h : ∀ b h' tk, Fr h₀ L h' m → News h₀ L h' ((b, bmObj l) :: news) → (∀ p ∈ news, p.1 < b) → Q (.ref b) { s with heap := h', toks := tk }) :
    wpAny (model prog w) A (getAttr (.ref l) (Str.ofString "append") true) Q E s := by
  refine getattr_append (N _ hm).1 rfl rfl rfl fun h' b tk e1 e2 => ?_
  subst e1 e2
  obtain ⟨e1, e2, e3⟩ := new_ne F N
  refine h _ _ _ (F.push _) (fun p hp => ?_) fun p hp => Heap.lt_size (N p hp).1
  rcases List.mem_cons.mp hp with rfl | hp
  · exact ⟨Heap.get?_push_size _ rfl, e2, e1⟩
  · exact ⟨Heap.get?_push_of_some _ (N p hp).1, (N p hp).2⟩
theorem bound_N {Q : Value → Shared → Prop} (F : Fr h₀ L s.heap m) (N : News h₀ L s.heap news) (hm : (bm, bmObj l) ∈ news) (U : Upd l (listOf its n) (listOf (its.push v) (n + 1)) news news')
    (h : ∀ h', Fr h₀ L h' m → News h₀ L h' news' → Q .none { s with heap := h' }) (hsz : its.size ≤ sizeLine) :
    wpAny (model prog w) A (call (.ref bm) [v]) Q E s := by
  obtain ⟨pre, post, rfl, rfl, a, b⟩ := U.split
  have z := N (l, listOf its n) (List.mem_append.mpr (.inr (.head _)))
  refine call_bound (N _ hm).1 rfl rfl z.1 ?_ hsz
  have hs : Heap.SameBut l s.heap (s.heap.update l (Obj.mapSeq fun z => z.push v)) := Heap.SameBut.update ..
  refine h _ (F.change hs z.2.1 z.2.2) (news_set N a b hs ?_)
  rw [Heap.get?_update_self _ z.1 rfl]
  exact congrArg some (Obj.mapSeq_push_plain ..)
theorem truthy_snoc {vs : List Value} {Q : Bool → Shared → Prop} (hl : vs.length ≤ 10000) (N : News h₀ L s.heap news) (hm : (l, listOf (vs ++ [v]).toArray n) ∈ news) (h : Q true { s with toks := s.toks + 1 + 1 }) : wpAny (model prog w) A (truthy (.ref l)) Q E s := by
  refine wpAny_truthy_list ⟨_, (N _ hm).1, rfl, _, rfl⟩ (by simp only [List.size_toArray, List.length_append, List.length_cons, List.length_nil]; omega) ?_
  have e : (!((vs ++ [v]).toArray.isEmpty)) = true := by simp
  have h2 := h
  rw [← e] at h2
  exact h2
theorem truthy_nil {Q : Bool → Shared → Prop} (N : News h₀ L s.heap news) (hm : (l, listOf (#[] : Array Value) n) ∈ news) (h : Q false { s with toks := s.toks + 1 + 1 }) : wpAny (model prog w) A (truthy (.ref l)) Q E s := by
  refine wpAny_truthy_list ⟨_, (N _ hm).1, rfl, _, rfl⟩ (by decide) ?_
  first | exact h | (simp; exact h)
def BmAt (bm l : Addr) (h : Heap) : Prop := h.get? bm = some (bmObj l)
theorem callWith_fields {M : Model} {pos : Pos} {first : List Value} {args : List (Bool × Sem Value)} {Q : Value → Shared → Prop} (hplain : args.any (·.1) = false)
    (h : wpAny M A (evalArgs (.ref bm) true args []) (fun x s₁ => BmAt bm l s₁.heap ∧ wpAny M A (call (.ref bm) (first ++ x.pos) x.kw) Q E s₁) E s) : wpAny M A (callWith pos (.ref bm) first args []) Q E s := by
  unfold callWith
  refine wpAny_bind (wpAny_holding (wpAny_mono h (fun x s₁ h₁ => wpAny_bind (wpAny_standAt ?_)) fun _ _ x => x))
  obtain ⟨ho, hcall⟩ := h₁
  simp only [hplain, List.any_nil, Bool.or_false]
  refine wpAny_bind (m := keeperOf (.ref bm)) ?_
  unfold keeperOf
  refine wpAny_bind (wpAny_load ho ?_)
  simp only [bmObj, show (Value.type "builtin_function_or_method" != Value.type "method") = true by decide, show (Value.type "builtin_function_or_method" == Value.type "builtin_function_or_method" || Value.type "builtin_function_or_method" == Value.type "method-wrapper") = true by decide, if_true]
  refine wpAny_pure ?_
  exact wpAny_bind (wpAny_mono hcall (fun r s₂ hr => wpAny_bind (wpAny_holding (wpAny_point (wpAny_pure hr)))) fun _ _ x => x)
theorem callWith_bm {M : Model} {pos : Pos} {first : List Value} {env : Env} {e : Expr} {rest : List Expr} {Q : Value → Shared → Prop} (_N : News h₀ L s.heap news) (_hm : (bm, bmObj l) ∈ news)
    (h : wpAny M A (spliced (backTo pos (starEach (e :: rest) env))) (fun vs s₁ => BmAt bm l s₁.heap ∧ wpAny M A (call (.ref bm) (first ++ vs)) Q E s₁) E s)
    (he : starEach (e :: rest) env = (false, eval e env) :: starEach rest env := by rfl) (hplain : (backTo pos (starEach rest env)).any (·.1) = false := by rfl) :
    wpAny M A (callWith pos (.ref bm) first (backTo pos (starEach (e :: rest) env)) []) Q E s := by
  rw [he] at h ⊢
  refine callWith_fields (l := l) (by show (false || (backTo pos (starEach rest env)).any (·.1)) = false; rw [hplain]; rfl) ?_
  exact evalArgs_plain h
end
end Mine

-- part M6
namespace Mine
/-- a code table with at most the one lambda -/
def TabOk (pos : Pos) (ps : Array Value) : Prop := ps = #[] ∨ ∃ c', ps = #[rawInt pos.line, rawInt pos.col, .ref c']
theorem plain_re : PlainAttrs "re.Pattern" :=
  ⟨⟨"object.__getattribute__", by rw [typeLookup_type, builtinLookup_eq_fast]; kernel_rfl, by decide +kernel⟩, by rw [typeLookup_type, builtinLookup_eq_fast]; kernel_rfl⟩
theorem type_sub : typeOf (.builtin "re.Pattern.sub") = pure (.type "method_descriptor") := by show builtinType _ = _; rw [builtinType_eq_fast]; kernel_rfl
section
variable {M : Model} {A : Around} {E : Value → Shared → Prop} {s : Shared} {h₀ : Heap} {L a c P : Addr} {m mg mb : Str → Option Value} {cn : Str} {cs : Scope} {news : List (Addr × Obj)} {b1 b2 : Addr} {o1 o2 : Obj}
  {p : Program} {loose : List Str} {mean : ExcName → Option Value} {params : Arguments} {body : PySem.Expr} {scope : Scope} {ps : Array Value} {pos : Pos}
theorem news_drop {h : Heap} {x y : Addr × Obj} {r : List (Addr × Obj)} (N : News h₀ L h (x :: y :: r)) : News h₀ L h (x :: r) := fun p hp => by
  rcases List.mem_cons.mp hp with rfl | hp
  · exact N _ (.head _)
  · exact N _ (.tail _ (.tail _ hp))
theorem lam_any {Q : Value → Shared → Prop} (F : Fr h₀ L s.heap m) (N : News h₀ L s.heap [(b1, o1), (b2, o2), (P, tabObj ps)]) (T : Top p loose mean mg mb h₀) (C : CodeHd h₀ c P) (hps : TabOk pos ps) (hne : b1 ≠ P ∧ b2 ≠ P)
    (hdef : defaultsOf params (envOf cn cs L a (.ref c)) = ([], []))
    (hcl : closureFor scope (envOf cn cs L a (.ref c)) = pure [])
    (h : ∀ f fo ps' h' tk, fo.cls = .type "function" → TabOk pos ps' → Fr h₀ L h' m → News h₀ L h' [(f, fo), (b1, o1), (b2, o2), (P, tabObj ps')] → Q (.ref f) { s with heap := h', toks := tk }) :
    wpAny M A (eval (.Lambda params body scope pos) (envOf cn cs L a (.ref c))) Q E s := by
  refine kla_eval hdef ?_
  rcases hps with rfl | ⟨c', rfl⟩
  · refine kla_nest (cl := []) F N T C rfl (UpdF.tail hne.1 (UpdF.tail hne.2 (UpdF.head fun p hp => nomatch hp))) ?_ ?_ hcl ?_
    · exact True.intro
    · rfl
    · intro f c' oc vs t ctv h' tk F' N' _ _ _ _
      exact h f _ #[rawInt pos.line, rawInt pos.col, .ref c'] h' tk (by rfl) (.inr ⟨c', rfl⟩) F' (news_drop N')
  · refine kla_hit (cl := []) (c' := c') F N T C rfl (.tail _ (.tail _ (.head _))) ?_ ?_ hcl ?_
    · simp [TriplesOk, rawInt]
    · simp [codeAmong, rawInt]
    · intro f ctv h' tk F' N' _
      exact h f _ _ h' tk (by rfl) (.inr ⟨c', rfl⟩) F' N'
end
end Mine

namespace Mine
section
local macro_rules | `(tactic| units_room) => `(tactic| (simp only [Around.deeper_units, Around.in1_units]; omega))
local macro_rules | `(tactic| walk_at "subscriptTail Name Constant ref int") => `(tactic| ((with_reducible show wpAny _ _ (subscriptTail _ _ (Value.ref _) (Value.int _ _)) _ _ _); (with_unfolding_all refine' item_at ?k1 ?k2 ?k3 ?k4 ?_; (case k1 => first | (exact list_on (by assumption) (by assumption))); (case k2 => decide); (case k3 => decide); (case k4 => rfl); k_whole)))
local macro_rules | `(tactic| walk_at "call type:range") => `(tactic| ((with_reducible show wpAny _ _ (call _ [_, _]) _ _ _); (rename Fr _ _ _ _ => F'); (rename News _ _ _ _ => N'); (with_unfolding_all refine range_two F' N' ?_); intro r' h' tk' t1' u1' v1' F' N' l1; (try k_lt l1); (try k_sweep)))
local macro_rules | `(tactic| walk_at "subscriptTail Name Slice ref ref") => `(tactic| ((with_reducible show wpAny _ _ (subscriptTail _ _ (Value.ref _) (Value.ref _)) _ _ _); (rename Fr _ _ _ _ => F'); (rename News _ _ _ _ => N'); (with_unfolding_all first
  | (refine' slice_from F' N' ?k1 ?k2 ?k3 ?_; (case k1 => first | exact list_on (by assumption) (by assumption) | exact ⟨_, (News.get N' (by k_mem)), rfl, _, rfl⟩); (case k2 => first | decide | omega); (case k3 => (simp only [List.length_cons, PySem.sizeLine_eq]; omega)); k_whole)
  | (refine' slice_upto F' N' ?k1 ?k2 ?k3 ?_; (case k1 => first | exact list_on (by assumption) (by assumption) | exact ⟨_, (News.get N' (by k_mem)), rfl, _, rfl⟩); (case k2 => first | decide | omega); (case k3 => (simp only [List.length_cons, PySem.sizeLine_eq]; omega)); k_whole)); intro D' h' F' N' l1; (try k_lt l1); (try k_sweep)))
local macro_rules | `(tactic| walk_at "CompEnd") => `(tactic| (refine LCg.CompEnd.intro (by assumption) (by assumption) _ (fun p hp => hp) (by assumption) (by exact trivial) ?_))
local macro_rules | `(tactic| walk_at "call builtin:list.append") => `(tactic| ((with_reducible show wpAny _ _ (call (Value.builtin _) [Value.ref _, _]) _ _ _); k_dflt (refine' append_K ?k1 ?k2 ?k3 ?_ ?z; (case k1 => k_asm); (case k2 => k_asm); (case k3 => first | ((have hb := (‹NeBox _›).out); k_upd) | k_upd); (case z => (simp only [List.size_toArray, List.length_append, List.length_cons, List.length_nil, PySem.sizeLine_eq]; omega)); k_whole); intro h' F' N'; (try simp only [List.push_toArray] at N'); (try k_sweep)))
local macro_rules | `(tactic| walk_at "call builtin:len") => `(tactic| ((with_reducible show wpAny _ _ (call (Value.builtin "len") [Value.str (Str.mk _) _]) _ _ _); first | refine len_1 ?_ | refine len_2 ?_ | refine len_3 ?_ | refine len_4 ?_))
local macro_rules | `(tactic| walk_at "getItem ref int") => `(tactic| ((with_reducible show wpAny _ _ (getItem (Value.ref _) (Value.int (-1) _)) _ _ _); (with_unfolding_all refine' last_get ?k1 ?_; (case k1 => exact ⟨_, (News.get (by assumption) (by k_mem)), rfl, _, rfl⟩); k_whole)))
local macro_rules | `(tactic| walk_at "setItem ref int") => `(tactic| ((with_reducible show wpAny _ _ (PySem.setItem (Value.ref _) (Value.int (-1) _) _) _ _ _); (with_unfolding_all refine' last_set ?F ?N ?U ?_; (case F => k_asm); (case N => k_asm); (case U => k_upd); k_whole); intro h' F' N'; (try k_sweep)))
local macro_rules | `(tactic| walk_at "exec For Name Name cons nil") => `(tactic| ((rename Fr _ _ _ _ => lF'); (with_unfolding_all refine for_hereF lF' ?_)))
local macro_rules | `(tactic| walk_at "exec For Name Subscript cons nil") => `(tactic| ((rename Fr _ _ _ _ => lF'); (with_unfolding_all refine for_hereF lF' ?_)))
local macro_rules | `(tactic| walk_at "exec For Name Call cons nil") => `(tactic| ((rename Fr _ _ _ _ => lF'); (with_unfolding_all refine for_hereF lF' ?_)))
local macro_rules | `(tactic| walk_at "exec For Name BinOp cons nil") => `(tactic| ((rename Fr _ _ _ _ => lF'); (with_unfolding_all refine for_hereF lF' ?_)))
local macro_rules | `(tactic| walk_at "call type:range") => `(tactic| ((with_reducible show wpAny _ _ (call _ [_]) _ _ _); (rename Fr _ _ _ _ => F'); (rename News _ _ _ _ => N'); (with_unfolding_all refine range_one F' N' ?_); intro r' h' tk' t1' u1' v1' F' N' l1; (try k_lt l1); (try k_sweep)))
local macro_rules | `(tactic| walk_at "callWith") => `(tactic| ((with_reducible show wpAny _ _ (callWith _ (Value.builtin _) (_ :: _) _ _) _ _ _); (first | with_reducible refine callWith_method0 ?_ | refine callWith_method1 ?_)))

-- part T1
section
section
variable {w : World} {A : Around} {mg mb : Str → Option Value} {s : Shared} {R : Result → Shared → Prop} {p : Program} {loose : List Str} {mean : ExcName → Option Value} {x : Str} {t th : Tok} {l : Addr} {vs : List Value} {xs : List Str}
set_option maxRecDepth 100000 in
set_option maxHeartbeats 8000000 in
theorem c_takes {y0 : Str} {t0 : Tok} : (hd.heap_1 w.params).In s.heap → Top p loose mean mg mb s.heap → A.depth + 25 < recursionLimit → A.units + 200 < cLine → A.handled = none → 
    s.heap.IsList l (Value.str y0 t0 :: vs).toArray → StrsAre vs xs → xs.length ≤ 1000 → x.length ≤ 100000 → (∀ y ∈ xs, y.length ≤ 10000) → y0.length ≤ 10000 →
    (∀ h' tk, s.heap.StaysIn h' → R (.ok (.ret (.bool (takesP ((y0 :: xs).map (·.cps.toList)) x.cps.toList)))) { s with heap := h', toks := tk }) →
    codeAny (model PySem.Challenge.rw_ik0157_01.row.prog w) A (.call (.ref 144) ⟨[.ref l, .str x t], []⟩) R s := by
  w_top off
  k_fill
  intro X T hd hu hh hl hvs hn hx hy hy0 hR
  refine' enterC0 (binds := [(Str.ofString "pieces", .ref l), (Str.ofString "text", .str x t)]) X T.nolimit ?k6 ?k7 (by omega) ?k9 ?kB ?kD ?_ ?c2 ?c3 ?c4
  case k6 => k_is
  case k7 => k_is
  case k9 => exact BindsTo.of_eq rfl
  case kB => exact rfl
  case kD => decide +kernel
  case c2 => exact rfl
  case c3 => exact rfl
  case c4 => exact rfl
  intro L' h0 tk0 cells F0 N0 Y'
  k_cells Y'

  rename_i oP oT dP dT
  replace F0 : Fr s.heap L' h0 (fun y => if y = Str.ofString "pieces" then some (.ref l) else none) := fr_cong F0 (fun y => by with_unfolding_all rfl)
  iterate 9 (first | walk1 | (dsimp only; walk1))
  refine wpAny_execs_cons (wpAny_mono (Q := fun f s' => Stop (f = .next ∧ ∃ h tk pl vsP, s' = { s with heap := h, toks := tk } ∧
    Fr s.heap L' h (fun y => if y = Str.ofString "places" then some (.ref pl) else if y = Str.ofString "pieces" then some (.ref l) else none) ∧ News s.heap L' h [(pl, listOf vsP.toArray 0), (L' + 1 + 1, oP), (L' + 1, oT)] ∧ IntsAre vsP ((startP x.cps.toList y0.cps.toList).map Int.ofNat) ∧ L' + 1 + 1 < pl)) ?_ ?_ fun _ _ e => e)
  · k_steps
    · refine ⟨⟨trivial, _, _, _, [_], rfl, by assumption, by assumption, ?_, by show @LT.lt Nat _ _ _; omega⟩⟩
      rw [start_yes (by assumption)]
      exact IntsAre.cons _ _ IntsAre.nil
    · refine ⟨⟨trivial, _, _, _, [], rfl, by assumption, by assumption, ?_, by show @LT.lt Nat _ _ _; omega⟩⟩
      rw [start_no (by assumption)]
      exact IntsAre.nil
  · rintro f s' ⟨rfl, h, tk, pl, vsP, rfl, F1, N1, hi, hlt⟩
    dsimp only
    clear F0 N0
    refine wpAny_execs_cons (for_here s.heap ?_)
    have hvl := strs_len hvs
    k_steps
    rename_i D h2 F2 N2 l1
    replace N2 : News s.heap L' h2 [(D, listOf vs.toArray 0), (pl, listOf vsP.toArray 0), (L' + 1 + 1, oP), (L' + 1, oT)] := N2
    refine iter_list (vs := vs) (fun i m nx => ∃ pl vsP nP oP c, m (Str.ofString "places") = some (.ref pl) ∧ nx = [(D, listOf vs.toArray 0), (pl, listOf vsP.toArray nP), (L' + 1 + 1, oP), (L' + 1, oT)] ∧ oP.data = .cell c ∧
      IntsAre vsP ((((xs.take i).map (·.cps.toList)).foldl (stepP x.cps.toList) (startP x.cps.toList y0.cps.toList)).map Int.ofNat) ∧ L' + 1 + 1 ≠ pl ∧ L' + 1 ≠ pl ∧ D ≠ pl ∧ L' + 1 + 1 < D) hh ?_ F2 N2 ⟨pl, vsP, 0, oP, _, rfl, rfl, dP, hi, Nat.ne_of_lt hlt, Nat.ne_of_lt (Nat.lt_of_succ_lt hlt), Nat.ne_of_gt l1.1, l1.2.1⟩ ?_ ?_
    · rintro i m nx ⟨pl, vsP, nP, oP, c, _, rfl, _⟩
      exact .inr ⟨_, .head _, rfl, _, rfl⟩
    · rintro g i v m₁ nx h3 tk3 I oI hin hP ⟨pl, vsP, nP, oP, c, em, rfl, dP, hi, hlt, hlt2, hne, hlD⟩ hoff hIL F3 N3
      obtain ⟨y, ty, rfl, hyi⟩ := strs_get hvs hP
      have F4 := fr_put F3 em
      clear F3 F2 N2
      have q1 := neN (show D ≠ I from hoff _ (.head _))
      have q2 := neN (show pl ≠ I from hoff _ (.tail _ (.head _)))
      have q3 := neN (show L' + 1 + 1 ≠ I from hoff _ (.tail _ (.tail _ (.head _))))
      have q4 := neN (show L' + 1 ≠ I from hoff _ (.tail _ (.tail _ (.tail _ (.head _)))))
      have q5 := neN (hne)
      have q6 := neN hlt
      have q8 := neN hlt2
      have q7 := ltN hlD
      have hlD0 := hlD
      clear hoff hne hlt hlt2 hlD
      have hle := fold_le ((xs.take i).map (·.cps.toList)) (startP x.cps.toList y0.cps.toList) startP_le
      have hnext : ((xs.take (i + 1)).map (·.cps.toList)).foldl (stepP x.cps.toList) (startP x.cps.toList y0.cps.toList) = stepP x.cps.toList (((xs.take i).map (·.cps.toList)).foldl (stepP x.cps.toList) (startP x.cps.toList y0.cps.toList)) y.cps.toList := by
        rw [List.take_add_one, hyi]
        simp
      generalize ((xs.take i).map (·.cps.toList)).foldl (stepP x.cps.toList) (startP x.cps.toList y0.cps.toList) = G at hi hle hnext
      rcases G with _ | ⟨a, r⟩
      · cases hi
        k_steps
        · refine ⟨_, _, _, _, rfl, by assumption, news_sub (by assumption) (by lcg_sub), all4 q1 q2 q3 q4, _, [], nP, _, _, rfl, rfl, by assumption, ?_, q6, q8, q5, hlD0⟩
          rw [hnext]
          exact IntsAre.nil
      · rw [List.map_cons] at hi
        cases hi with
        | cons _ ta hi =>
          k_steps
          · exact absurd (show decide (Int.ofNat a :: List.map Int.ofNat r = []) = true by assumption) (by simp)
          k_dflt (refine LCt.Assign_ListComp_T (F₀ := by k_asm) (by rfl) (by with_unfolding_all rfl) (by with_unfolding_all rfl) (by decide) (by rfl) (by decide) (by rfl) (by rfl) (by rfl) ?_)
          walk1
          have hal : a ≤ x.length := by have := hle a (.head _); rw [str_len] at this; exact this
          have hyl : y.length ≤ 10000 := hy y (List.mem_of_getElem? hyi)
          refine LCt.CompSrcT.range (a := Int.ofNat a) (b := (x.length : Int) + 1) (n := x.length + 1 - a) hh (by k_asm) (by k_asm) ((‹News _ _ _ _› _ (.head _)).1) ?sm ?rs ?sz ?rest
          case sm =>
            have q1 : ((-(2 ^ 62) : Int)) ≤ Int.ofNat a := by show _ ≤ (a : Int); omega
            have q2 : Int.ofNat a < 2 ^ 62 := by show (a : Int) < _; omega
            exact small_one q1 q2 (by omega) (by omega)
          case rs => rw [rangeSize_nat]; show ((((x.length : Int) + 1 - (a : Int)).toNat : Nat) : Int) = _; omega
          case sz => rw [PySem.sizeLine_eq]; omega
          intro g2
          refine restT (fun i ys => IntsAre ys ((hitsN x.cps.toList y.cps.toList a i).map Int.ofNat)) ?_ ?_ _ 0 [] (Nat.zero_add _) ?_
          · intro i2 ys v I2 oI2 C oC D2 m₂ h5 tk5 E' hi2 hv hJ hC hx2 F5 N5 off ne
            obtain ⟨tv, rfl⟩ := hv
            have off0 := off
            simp only [LCg.Off3, and_true] at off
            k_steps
            · exact ⟨rfl, hit_yes (by assumption) hJ⟩
            · exact ⟨rfl, hit_no (by assumption) hJ⟩
          · intro ys hJ
            k_steps
            refine ⟨_, _, _, _, rfl, by assumption, news_sub (by assumption) (by lcg_sub), all4 q1 (by omega) q3 q4, _, ys, ys.length, _, _, rfl, rfl, by assumption, ?_, neN (by omega), neN (by omega), neN (by omega), hlD0⟩
            rw [hnext]
            show IntsAre ys ((hits x.cps.toList y.cps.toList a).map Int.ofNat)
            rw [hits_eq, str_len]
            exact hJ
          · exact IntsAre.nil
    · rintro g m₁ nx h3 tk3 ⟨pl, vsP, nP, oP, c, em, rfl, dP, hi, _⟩ F3 N3
      replace F3 := fr_put F3 em
      k_steps
      exact (congrArg (fun b => R (Except.ok (Flow.ret (Value.bool b))) _) (takes_val x y0 xs (strs_len hvs))).mp (hR h3 _ F3.keep)
end
end

-- part R1
section
inductive TellsAre : List Value → List (Option Nat) → Prop
  | nil : TellsAre [] []
  | star {vs r} : TellsAre vs r → TellsAre (.none :: vs) (none :: r)
  | sign (y : Str) (c : Nat) (t : Tok) {vs r} : GoodPart c y.cps.toList → TellsAre vs r → TellsAre (.str y t :: vs) (some c :: r)
theorem tells_get : ∀ {vs : List Value} {xs : List (Option Nat)} {i : Nat} {v : Value}, TellsAre vs xs → vs[i]? = some v → (v = .none ∧ xs[i]? = some none) ∨ ∃ y c t, v = .str y t ∧ GoodPart c y.cps.toList ∧ xs[i]? = some (some c)
  | _, _, i, v, .nil, h => by simp at h
  | _, _, 0, v, .star r, h => by simp at h; exact .inl ⟨h.symm, rfl⟩
  | _, _, 0, v, .sign y c t g r, h => by simp at h; exact .inr ⟨y, c, t, h.symm, g, rfl⟩
  | _, _, i + 1, v, .star r, h => by simpa using tells_get r (by simpa using h)
  | _, _, i + 1, v, .sign y c t g r, h => by simpa using tells_get r (by simpa using h)
theorem tells_len {vs : List Value} {xs : List (Option Nat)} (h : TellsAre vs xs) : vs.length = xs.length := by
  induction h with
  | nil => rfl
  | star r ih => simp [ih]
  | sign y c t g r ih => simp [ih]
/-- the pieces read so far: those closed, the open one -/
def readStep (a : List (List Nat) × List Nat) : Option Nat → List (List Nat) × List Nat
  | none => (a.1 ++ [a.2], [])
  | some c => (a.1, a.2 ++ [c])
def readP (xs : List (Option Nat)) : List (List Nat) × List Nat := xs.foldl readStep ([], [])
theorem readP_succ {xs : List (Option Nat)} {i : Nat} {o : Option Nat} (h : xs[i]? = some o) : readP (xs.take (i + 1)) = readStep (readP (xs.take i)) o := by
  unfold readP
  rw [List.take_add_one, h]
  simp
theorem good_mem {c : Nat} {y : Str} (h : GoodPart c y.cps.toList) : y ∈ [(⟨#[c]⟩ : Str), Str.ofString "\\" ++ ⟨#[c]⟩, Str.ofString "[" ++ ⟨#[c]⟩ ++ Str.ofString "]", Str.ofString "[\\" ++ ⟨#[c]⟩ ++ Str.ofString "]"] := by
  rcases h with ⟨h, _⟩ | h | h | h
  · rw [show y = ⟨#[c]⟩ from str_eq h]; exact .head _
  · rw [show y = Str.ofString "\\" ++ ⟨#[c]⟩ from str_eq h]; exact .tail _ (.head _)
  · rw [show y = Str.ofString "[" ++ ⟨#[c]⟩ ++ Str.ofString "]" from str_eq h]; exact .tail _ (.tail _ (.head _))
  · rw [show y = Str.ofString "[\\" ++ ⟨#[c]⟩ ++ Str.ofString "]" from str_eq h]; exact .tail _ (.tail _ (.tail _ (.head _)))
section
variable {w : World} {A : Around} {mg mb : Str → Option Value} {s : Shared} {R : Result → Shared → Prop} {p : Program} {loose : List Str} {mean : ExcName → Option Value} {x : Str} {t th : Tok} {l : Addr} {vs : List Value} {xs : List (Option Nat)}
set_option maxRecDepth 100000 in
set_option maxHeartbeats 8000000 in
theorem c_read : (hd.heap_1 w.params).In s.heap → Top p loose mean mg mb s.heap → A.depth + 25 < recursionLimit → A.units + 200 < cLine → A.handled = none →
    s.heap.IsList l vs.toArray → TellsAre vs xs → xs.length ≤ 10000 →
    (∀ h' tk pl vsP n ps, s.heap.StaysIn h' → s.heap.get? pl = none → h'.get? pl = some (listOf vsP.toArray n) → StrsAre vsP ps → ps.map (·.cps.toList) = (readP xs).1 ++ [(readP xs).2] → R (.ok (.ret (.ref pl))) { s with heap := h', toks := tk }) →
    codeAny (model PySem.Challenge.rw_ik0157_01.row.prog w) A (.call (.ref 139) ⟨[.ref l], []⟩) R s := by
  w_top off
  k_fill
  intro X T hd hu hh hl hvs hn hR
  refine' enter0 (binds := [(Str.ofString "told", .ref l)]) X T.nolimit ?k6 ?k7 (by omega) ?k9 ?kB ?_ ?c5 ?c2 ?c3 ?c4
  case k6 => k_is
  case k7 => k_is
  case k9 => exact BindsTo.of_eq rfl
  case c5 => decide
  case kB => exact locs rfl
  case c2 => exact rfl
  case c3 => exact rfl
  case c4 => exact rfl
  intro L' h0 F0 N0
  iterate 9 (first | walk1 | (dsimp only; walk1))
  rename_i pl h1 l1 h2 F1 N1
  refine wpAny_execs_cons (for_here s.heap ?_)
  walk1
  refine iter_list (vs := vs) (fun i m nx => ∃ ini z tz vsI n, m (Str.ofString "pieces") = some (.ref pl) ∧ nx = [(pl, listOf (vsI ++ [.str z tz]).toArray n)] ∧
      StrsAre vsI ini ∧ ini.map (·.cps.toList) = (readP (xs.take i)).1 ∧ z.cps.toList = (readP (xs.take i)).2 ∧ ini.length ≤ i ∧ z.length ≤ i) hh ?_ F1 N1 ⟨[], _, _, [], _, rfl, rfl, .nil, rfl, rfl, Nat.le_refl _, Nat.le_refl _⟩ ?_ ?_
  · rintro i m nx _
    exact .inl hl
  · rintro g i v m₁ nx h3 tk3 I oI hin hP ⟨ini, z, tz, vsI, n, em, rfl, hI, hi1, hi2, hl1, hl2⟩ hoff hIL F3 N3
    have F4 := fr_put F3 em
    have q1 := neN (show pl ≠ I from hoff _ (.head _))
    clear hoff F3 F1 N1
    have hvI := strs_len hI
    have hil : i ≤ 10000 := by have := tells_len hvs; omega
    rcases tells_get hvs hP with ⟨rfl, hx⟩ | ⟨y, c, t, rfl, hg, hx⟩
    · k_steps
      refine ⟨_, _, _, _, rfl, by assumption, news_sub (by assumption) (by lcg_sub), all1 q1, ini ++ [z], Str.ofString "", _, vsI ++ [.str z tz], n + 1, rfl, rfl, strs_snoc hI, ?_, ?_, ?_, Nat.zero_le _⟩
      · rw [readP_succ hx, List.map_append, hi1]
        show _ = (readP (xs.take i)).1 ++ [(readP (xs.take i)).2]
        rw [← hi2]; rfl
      · rw [readP_succ hx]; rfl
      · rw [List.length_append]; exact Nat.succ_le_succ hl1
    · have hm := meta_no hg
      have hany : (!([(⟨#[c]⟩ : Str), Str.ofString "\\" ++ ⟨#[c]⟩, Str.ofString "[" ++ ⟨#[c]⟩ ++ Str.ofString "]", Str.ofString "[\\" ++ ⟨#[c]⟩ ++ Str.ofString "]"].any fun z => z == y)) = false := any_mem (good_mem hg)
      iterate 11 (first | walk1 | (dsimp only; walk1))
      refine wpAny_execs_cons (wpAny_mono (Q := fun f s' => Stop (f = .next ∧ ∃ h tk ts, s' = { s with heap := h, toks := tk } ∧
        Fr s.heap L' h (fun z => if z = Str.ofString "sign" then some (Value.str ⟨#[c]⟩ ts) else if z = Str.ofString "part" then some (Value.str y t) else if z = Str.ofString "pieces" then some (Value.ref pl) else m₁ z) ∧
        News s.heap L' h [(I, oI), (pl, listOf (vsI ++ [Value.str z tz]).toArray n)])) ?_ ?_ fun _ _ e => e)
      · rcases hg with ⟨hy, hc⟩ | hy | hy | hy
        · obtain rfl : y = ⟨#[c]⟩ := str_eq hy
          k_steps
          exact ⟨trivial, _, _, _, rfl, by assumption, by assumption⟩
        · obtain rfl : y = ⟨#[92, c]⟩ := str_eq hy
          k_steps
          exact ⟨trivial, _, _, _, rfl, by assumption, by assumption⟩
        · obtain rfl : y = ⟨#[91, c, 93]⟩ := str_eq hy
          k_steps
          exact ⟨trivial, _, _, _, rfl, by assumption, by assumption⟩
        · obtain rfl : y = ⟨#[91, 92, c, 93]⟩ := str_eq hy
          k_steps
          exact ⟨trivial, _, _, _, rfl, by assumption, by assumption⟩
      · rintro f s' ⟨rfl, h5, tk5, ts, rfl, F5, N5⟩
        dsimp only
        clear F4 N3
        k_steps
        refine ⟨_, _, _, _, rfl, by assumption, news_sub (by assumption) (by lcg_sub), all1 q1, ini, z ++ ⟨#[c]⟩, _, vsI, n, rfl, rfl, hI, ?_, ?_, Nat.le_succ_of_le hl1, ?_⟩
        · rw [readP_succ hx, hi1]; rfl
        · rw [readP_succ hx]
          show (z ++ ⟨#[c]⟩ : Str).cps.toList = (readP (xs.take i)).2 ++ [c]
          rw [← hi2, Str.cps_append, Array.toList_append]
        · rw [Str.length_append]; exact Nat.succ_le_succ hl2
  · rintro g m₁ nx h3 tk3 ⟨ini, zz, tz, vsI, n, em, rfl, hI, hi1, hi2, hl1, hl2⟩ F3 N3
    replace F3 := fr_put F3 em
    k_steps
    rw [show vs.length = xs.length from tells_len hvs, List.take_length] at hi1 hi2
    have z := N3 _ (.head _)
    exact hR h3 _ pl _ n (ini ++ [_]) F3.keep z.2.2 z.1 (strs_snoc hI) (by rw [List.map_append, hi1, ← hi2]; rfl)
end
end

-- part D1
section
/-- the signs of the law's menu -/
abbrev SIG : List Nat := [98, 38, 60, 62, 34, 10, 59, 116, 109, 112, 108, 97, 35, 49, 120, 42, 91, 63]
def SigStr (y : Str) : Prop := ∀ c ∈ y.cps.toList, c ∈ SIG
abbrev STUFF : List Str := [Str.ofString "b", Str.ofString "&", Str.ofString "<", Str.ofString ">", Str.ofString "\"", Str.ofString "\n", Str.ofString ";", Str.ofString "t;", Str.ofString "m", Str.ofString "p;", Str.ofString "lt", Str.ofString "amp;", Str.ofString "#1", Str.ofString "x", Str.ofString "*", Str.ofString "[?"]
theorem stuff_ok : ∀ y ∈ STUFF, y.length ≤ 4 ∧ y.cps.toList.all (fun c => SIG.contains c) = true := by decide
theorem stuff_len {y : Str} (h : y ∈ STUFF) : y.length ≤ 4 := (stuff_ok y h).1
theorem stuff_sig {y : Str} (h : y ∈ STUFF) : SigStr y := fun c hc => by
  have := List.all_eq_true.mp (stuff_ok y h).2 c hc
  simpa using this
theorem sig_append {y z : Str} (h1 : SigStr y) (h2 : SigStr z) : SigStr (y ++ z) := fun c hc => by
  rw [Str.cps_append, Array.toList_append] at hc
  exact (List.mem_append.mp hc).elim (h1 c) (h2 c)
theorem sig_nil : SigStr (Str.ofString "") := fun c hc => by cases hc
section
variable {w : World} {A : Around} {mg mb : Str → Option Value} {s : Shared} {R : Result → Shared → Prop} {p : Program} {loose : List Str} {mean : ExcName → Option Value} {l : Addr} {vs : List Value} {ns : List Int}
local macro_rules | `(tactic| walk_at "subscriptTail Name BinOp ref int") => `(tactic| ((with_reducible show wpAny _ _ (subscriptTail _ _ (Value.ref _) (Value.int _ _)) _ _ _); (with_unfolding_all refine' item_sig (ys := STUFF) ?k1 ?k2 ?k3 ?k4 ?k5 ?_; (case k1 => exact ⟨_, (News.get (by assumption) (by k_mem)), rfl, _, rfl⟩); (case k2 => assumption); (case k3 => exact fmod_lo _ (by decide)); (case k4 => exact fmod_hi _ (by decide)); (case k5 => decide); k_whole); intro yS tS hS; have hS4 := stuff_len hS))
set_option maxRecDepth 100000 in
set_option maxHeartbeats 8000000 in
theorem c_drawn : (hd.heap_1 w.params).In s.heap → Top p loose mean mg mb s.heap → A.depth + 25 < recursionLimit → A.units + 200 < cLine → A.handled = none →
    s.heap.IsList l vs.toArray → IntsAre vs ns → ns.length ≤ 8 →
    (∀ h' tk tl pl vsP n ps T tT, s.heap.StaysIn h' → s.heap.get? tl = none → h'.get? tl = some { cls := .type "tuple", data := .seq #[.ref pl, .str T tT] } → s.heap.get? pl = none → h'.get? pl = some (listOf vsP.toArray n) → StrsAre vsP ps → ps ≠ [] → (∀ y ∈ ps, SigStr y ∧ y.length ≤ 32) → ps.length ≤ 9 → T.length ≤ 32 → SigStr T → R (.ok (.ret (.ref tl))) { s with heap := h', toks := tk }) →
    codeAny (model PySem.Challenge.rw_ik0157_01.row.prog w) A (.call (.ref 118) ⟨[.ref l], []⟩) R s := by
  w_top off
  k_fill
  intro X T hd hu hh hl hvs hn hR
  refine' enter0 (binds := [(Str.ofString "numbers", .ref l)]) X T.nolimit ?k6 ?k7 (by omega) ?k9 ?kB ?_ ?c5 ?c2 ?c3 ?c4
  case k6 => k_is
  case k7 => k_is
  case k9 => exact BindsTo.of_eq rfl
  case c5 => decide
  case kB => exact locs rfl
  case c2 => exact rfl
  case c3 => exact rfl
  case c4 => exact rfl
  intro L' h0 F0 N0
  k_steps
  rename_i tkA sl hA tt hB tkB pl hC hlt hD h4 F5 N5
  have hne : @Ne Nat sl pl := Nat.ne_of_lt hlt
  obtain ⟨vsS, hvS, N6⟩ : ∃ vsS, StrsAre vsS STUFF ∧ News s.heap L' h4 [(pl, listOf (([] : List Value) ++ [Value.str (Str.ofString "") tkB]).toArray 0), (sl, listOf vsS.toArray 0)] :=
    ⟨[_, _, _, _, _, _, _, _, _, _, _, _, _, _, _, _], by repeat' (first | exact StrsAre.nil | refine StrsAre.cons _ _ ?_), N5⟩
  clear N5
  refine iter_list (vs := vs) (fun i m nx => ∃ ini z tz vsI n T tT, m (Str.ofString "pieces") = some (.ref pl) ∧ m (Str.ofString "stuff") = some (.ref sl) ∧ m (Str.ofString "text") = some (.str T tT) ∧
      nx = [(pl, listOf (vsI ++ [.str z tz]).toArray n), (sl, listOf vsS.toArray 0)] ∧
      StrsAre vsI ini ∧ (∀ y ∈ ini, SigStr y ∧ y.length ≤ 4 * i) ∧ SigStr z ∧ z.length ≤ 4 * i ∧ ini.length ≤ i ∧ T.length ≤ 4 * i ∧ SigStr T) hh ?_ F5 N6
    ⟨[], _, _, [], _, _, _, rfl, rfl, rfl, rfl, .nil, fun y hy => (nomatch hy), sig_nil, Nat.le_refl _, Nat.le_refl _, Nat.le_refl _, sig_nil⟩ ?_ ?_
  · rintro i m nx _
    exact .inl hl
  · rintro g i v m₁ nx h6 tk6 I oI hin hP ⟨ini, z, tz, vsI, n, T, tT, e1, e2, e3, rfl, hI, hi1, hi2, hl1, hl2, hl3, hl4⟩ hoff hIL F7 N7
    obtain ⟨k, tk, rfl, hk⟩ := IntsAre.at hvs i v hP
    have F8 := fr_put3 F7 e1 e2 e3
    have q1 := neN (show pl ≠ I from hoff _ (.head _))
    have q2 := neN (show sl ≠ I from hoff _ (.tail _ (.head _)))
    clear hoff F7 F5 N6
    have hvI := strs_len hI
    have hil : i < 8 := by have := hvs.length; omega
    k_steps
    · refine ⟨_, _, _, _, rfl, by assumption, news_sub (by assumption) (by lcg_sub), all2 q1 q2, ini ++ [z], Str.ofString "", _, vsI ++ [.str z tz], n + 1, _, _, rfl, rfl, rfl, rfl, strs_snoc hI, ?_, sig_nil, Nat.zero_le _, ?_, ?_, sig_append hl4 (stuff_sig (by assumption))⟩
      · intro y hy
        rcases List.mem_append.mp hy with hy | hy
        · exact ⟨(hi1 y hy).1, by have := (hi1 y hy).2; omega⟩
        · rw [List.mem_singleton.mp hy]
          exact ⟨hi2, by omega⟩
      · rw [List.length_append]; exact Nat.succ_le_succ hl2
      · rw [Str.length_append]; omega
    · refine ⟨_, _, _, _, rfl, by assumption, news_sub (by assumption) (by lcg_sub), all2 q1 q2, ini, _, _, vsI, n, _, _, rfl, rfl, rfl, rfl, hI, ?_, sig_append hi2 (stuff_sig (by assumption)), ?_, Nat.le_succ_of_le hl2, ?_, sig_append hl4 (stuff_sig (by assumption))⟩
      · intro y hy
        exact ⟨(hi1 y hy).1, by have := (hi1 y hy).2; omega⟩
      · rw [Str.length_append]; omega
      · rw [Str.length_append]; omega
  · rintro g m₁ nx h6 tk6 ⟨ini, z, tz, vsI, n, T, tT, e1, e2, e3, rfl, hI, hi1, hi2, hl1, hl2, hl3, hl4⟩ F7 N7
    have F8 := fr_put2 F7 e1 e3
    have hvl := hvs.length
    k_steps
    rename_i tl h7 F9 N9 _
    have z1 := N9 _ (.head _)
    have z2 := N9 _ (.tail _ (.head _))
    refine hR _ _ tl pl (vsI ++ [_]) n (ini ++ [z]) T _ F9.keep z1.2.2 z1.1 z2.2.2 z2.1 (strs_snoc hI) (by simp) ?_ ?_ (by omega) hl4
    · intro y hy
      rcases List.mem_append.mp hy with hy | hy
      · exact ⟨(hi1 y hy).1, by have := (hi1 y hy).2; omega⟩
      · rw [List.mem_singleton.mp hy]
        exact ⟨hi2, by omega⟩
    · rw [List.length_append]; show ini.length + 1 ≤ 9; omega
end
end

-- part Y1
section
section
variable {w : World} {A : Around} {mg mb : Str → Option Value} {s : Shared} {R : Result → Shared → Prop} {p : Program} {loose : List Str} {mean : ExcName → Option Value} {l sl : Addr} {vs vsG : List Value} {xs gs : List Str} {x : Str} {t tt : Tok} {total : Int}
local macro_rules | `(tactic| walk_at "subscriptTail Name Name ref int") => `(tactic| ((with_reducible show wpAny _ _ (subscriptTail _ _ (Value.ref _) (Value.int _ _)) _ _ _); (with_unfolding_all refine' item_at ?k1 ?k2 ?k3 ?k4 ?_; (case k1 => exact list_on (by assumption) (by assumption)); (case k4 => assumption); (case k2 => omega); (case k3 => omega); k_whole)))
local macro_rules | `(tactic| walk_at "subscriptTail Name BinOp ref int") => `(tactic| ((with_reducible show wpAny _ _ (subscriptTail _ _ (Value.ref _) (Value.int _ _)) _ _ _); (with_unfolding_all refine' item_sigB (B := 1) ?a ?b ?k1 ?k3 ?k4 ?k5 ?_; (case k1 => exact list_on (by assumption) (by assumption)); (case a => assumption); (case b => assumption); (case k3 => exact fmod_lo _ (by omega)); (case k4 => exact fmod_hi _ (by omega)); (case k5 => omega); k_whole); intro yS tS hS hS4))
local macro_rules | `(tactic| walk_at "call builtin:str.join") => `(tactic| ((with_reducible show wpAny _ _ (call (Value.builtin _) [Value.str _ _, Value.ref _]) _ _ _); (with_unfolding_all first
  | (refine' join_take ?a ?b ?c ?k0 ?k1 ?_; (case k0 => rfl); (case k1 => exact ⟨_, (News.get (by assumption) (List.Mem.head _)), rfl, _, rfl⟩); (case a => assumption); (case b => assumption); (case c => assumption); k_whole)
  | (refine' join_drop ?a ?b ?c ?k0 ?k1 ?_; (case k0 => rfl); (case k1 => exact ⟨_, (News.get (by assumption) (List.Mem.head _)), rfl, _, rfl⟩); (case a => assumption); (case b => assumption); (case c => assumption); k_whole)); intro yJ tJ kJ hJ hJl))
set_option maxRecDepth 100000 in
set_option maxHeartbeats 8000000 in
theorem c_tries : (hd.heap_1 w.params).In s.heap → Top p loose mean mg mb s.heap → A.depth + 25 < recursionLimit → A.units + 200 < cLine → A.handled = none →
    s.heap.IsList l vs.toArray → StrsAre vs xs → xs.length ≤ 9 → (∀ y ∈ xs, y.length ≤ 32) → x.length ≤ 32 →
    s.heap.IsList sl vsG.toArray → StrsAre vsG gs → 0 < gs.length → gs.length ≤ 10 → (∀ y ∈ gs, y.length ≤ 1) →
    (∀ h' tk tl vsT n ts, s.heap.StaysIn h' → s.heap.get? tl = none → h'.get? tl = some (listOf vsT.toArray n) → StrsAre vsT ts → ts.length ≤ 12 → (∀ y ∈ ts, y.length ≤ 1000) → R (.ok (.ret (.ref tl))) { s with heap := h', toks := tk }) →
    codeAny (model PySem.Challenge.rw_ik0157_01.row.prog w) A (.call (.ref 125) ⟨[.ref l, .str x t, .ref sl, .int total tt], []⟩) R s := by
  w_top off
  k_fill
  intro X T hd hu hh hl hvs hn hxl hx hsl hvg hg0 hgn hg1 hR
  refine' enter0 (binds := [(Str.ofString "pieces", .ref l), (Str.ofString "text", .str x t), (Str.ofString "signs", .ref sl), (Str.ofString "total", .int total tt)]) X T.nolimit ?k6 ?k7 (by omega) ?k9 ?kB ?_ ?c5 ?c2 ?c3 ?c4
  case k6 => k_is
  case k7 => k_is
  case k9 => exact BindsTo.of_eq rfl
  case c5 => decide
  case kB => exact locs rfl
  case c2 => exact rfl
  case c3 => exact rfl
  case c4 => exact rfl
  intro L' h0 F0 N0
  have hvl := strs_len hvs
  have hgl := strs_len hvg
  k_steps
  rename_i hA tA kA hA2 tB kB hB tl hC tt2 hD r hE tkE t1 u1 v1 F1 N1 hlt
  have hne : @Ne Nat tl r := Nat.ne_of_lt hlt
  refine iter_range (r := r) (a := 1) (b := (xs.length : Int)) (t := t1) (u := u1) (v := v1) (n := ((xs.length : Int) - 1).toNat) (fun i m nx => ∃ vsT ts n, m (Str.ofString "tries") = some (.ref tl) ∧ m (Str.ofString "pieces") = some (.ref l) ∧ m (Str.ofString "signs") = some (.ref sl) ∧ m (Str.ofString "total") = some (.int total tt) ∧
      nx = [(tl, listOf vsT.toArray n)] ∧ StrsAre vsT ts ∧ ts.length ≤ 3 + i ∧ (∀ y ∈ ts, y.length ≤ 1000)) hh (N1 _ (.head _)).1 ?_ (rangeSize_nat _ _) F1 (news_sub N1 (by lcg_sub)) ⟨[_, _, _], _, 0, rfl, rfl, rfl, rfl, rfl, .cons _ _ (.cons _ _ (.cons _ _ .nil)), Nat.le_refl _, ?_⟩ ?_ ?_
  · exact small_one (by decide) (by decide) (by omega) (by omega)
  · intro y hy
    rcases List.mem_cons.mp hy with rfl | hy
    · omega
    · rcases List.mem_cons.mp hy with rfl | hy
      · omega
      · rw [List.mem_singleton.mp hy, Str.length_append]
        have : (Str.ofString ";").length = 1 := rfl
        omega
  · rintro g i v m₁ nx h6 tk6 I oI hin ⟨tv, rfl⟩ ⟨vsT, ts, n, e1, e2, e3, e4, rfl, hT, hTl, hTb⟩ hoff hIL F7 N7
    have F8 := fr_put4 F7 e1 e2 e3 e4
    have q1 := neN (show tl ≠ I from hoff _ (.head _))
    clear hoff F7 F1 N1
    have hTl2 := strs_len hT
    have hil : i + 1 < xs.length := by omega
    obtain ⟨y, ty, hget, hyx⟩ : ∃ y ty, vs[((1 : Int) + (i : Int)).toNat]? = some (.str y ty) ∧ y ∈ xs := by
      have hlt : ((1 : Int) + (i : Int)).toNat < vs.length := by omega
      obtain ⟨y, ty, e, hy⟩ := strs_get hvs (List.getElem?_eq_getElem hlt)
      exact ⟨y, ty, (List.getElem?_eq_getElem hlt).trans (congrArg some e), List.mem_of_getElem? hy⟩
    have hyl := hxl y hyx
    k_steps
    · refine ⟨_, _, _, _, rfl, by assumption, news_sub (by assumption) (by lcg_sub), all1 q1, vsT ++ [_], ts ++ [_], n + 1, rfl, rfl, rfl, rfl, rfl, strs_snoc (by assumption), ?_, ?_⟩
      · rw [List.length_append]; show ts.length + 1 ≤ _; omega
      · intro z hz
        rcases List.mem_append.mp hz with hz | hz
        · exact hTb z hz
        · rw [List.mem_singleton.mp hz, Str.length_append, Str.length_append, Str.length_append]; omega
    · exact ⟨_, _, _, _, rfl, by assumption, news_sub (by assumption) (by lcg_sub), all1 q1, vsT, ts, n, rfl, rfl, rfl, rfl, rfl, hT, by omega, hTb⟩
  · rintro g m₁ nx h6 tk6 ⟨vsT, ts, n, e1, e2, e3, e4, rfl, hT, hTl, hTb⟩ F7 N7
    have F8 := fr_put F7 e1
    k_steps
    have z := N7 _ (.head _)
    exact hR _ _ tl vsT n ts F8.keep z.2.2 z.1 hT (by omega) hTb
end
end

-- part H1
section
section
variable {w : World} {A : Around} {mg mb : Str → Option Value} {s : Shared} {R : Result → Shared → Prop} {p : Program} {loose : List Str} {mean : ExcName → Option Value} {t tt : Tok} {k : Nat}
set_option maxRecDepth 100000 in
set_option maxHeartbeats 8000000 in
theorem c_table : (hd.heap_1 w.params).In s.heap → Top p loose mean mg mb s.heap → A.depth + 25 < recursionLimit → A.units + 200 < cLine → A.handled = none → k < 5 →
    (∀ h' tk d o kvs, s.heap.StaysIn h' → s.heap.get? d = none → (d == sysModules) = false → h'.get? d = some o → Obj.IsDictOf (PySem.strKind PySem.Challenge.rw_ik0157_01.row.prog w) o kvs → TabIs kvs (tabAt k) → R (.ok (.ret (.ref d))) { s with heap := h', toks := tk }) →
    codeAny (model PySem.Challenge.rw_ik0157_01.row.prog w) A (.call (.ref 111) ⟨[.int (k : Int) t], []⟩) R s := by
  w_top off
  k_fill
  intro X T hd hu hh hk hR
  refine' enter0 (binds := [(Str.ofString "hand", .int (k : Int) t)]) X T.nolimit ?k6 ?k7 (by omega) ?k9 ?kB ?_ ?c5 ?c2 ?c3 ?c4
  case k6 => k_is
  case k7 => k_is
  case k9 => exact BindsTo.of_eq rfl
  case c5 => decide
  case kB => exact locs rfl
  case c2 => exact rfl
  case c3 => exact rfl
  case c4 => exact rfl
  intro L' h0 F0 N0
  k_steps
  · obtain rfl : k = 0 := by omega
    rename News _ _ _ _ => N1
    rename Fr _ _ _ _ => F1
    have z := N1 _ (.tail _ (.tail _ (.tail _ (.tail _ (.tail _ (.head _))))))
    refine hR _ _ _ _ _ F1.keep z.2.2 (by assumption) z.1 (by assumption) ?_
    repeat' (first | exact TabIs.nil | refine TabIs.cons _ _ _ _ rfl ?_)
  · obtain rfl : k = 1 := by omega
    rename News _ _ _ _ => N1
    rename Fr _ _ _ _ => F1
    have z := N1 _ (.tail _ (.tail _ (.tail _ (.tail _ (.head _)))))
    refine hR _ _ _ _ _ F1.keep z.2.2 (by assumption) z.1 (by assumption) ?_
    repeat' (first | exact TabIs.nil | refine TabIs.cons _ _ _ _ rfl ?_)
  · obtain rfl : k = 2 := by omega
    rename News _ _ _ _ => N1
    rename Fr _ _ _ _ => F1
    have z := N1 _ (.tail _ (.tail _ (.tail _ (.head _))))
    refine hR _ _ _ _ _ F1.keep z.2.2 (by assumption) z.1 (by assumption) ?_
    repeat' (first | exact TabIs.nil | refine TabIs.cons _ _ _ _ rfl ?_)
  · obtain rfl : k = 3 := by omega
    rename News _ _ _ _ => N1
    rename Fr _ _ _ _ => F1
    have z := N1 _ (.tail _ (.tail _ (.head _)))
    refine hR _ _ _ _ _ F1.keep z.2.2 (by assumption) z.1 (by assumption) ?_
    repeat' (first | exact TabIs.nil | refine TabIs.cons _ _ _ _ rfl ?_)
  · obtain rfl : k = 4 := by omega
    rename News _ _ _ _ => N1
    rename Fr _ _ _ _ => F1
    have z := N1 _ (.tail _ (.head _))
    refine hR _ _ _ _ _ F1.keep z.2.2 (by assumption) z.1 (by assumption) ?_
    repeat' (first | exact TabIs.nil | refine TabIs.cons _ _ _ _ rfl ?_)
end
end

-- part O1
section
theorem getD_map {xs : List Str} {j : Nat} {y : Str} (h : xs[j]? = some y) : (xs.map (·.cps.toList)).getD j [] = y.cps.toList := by
  rw [List.getD_eq_getElem?_getD, List.getElem?_map, h]; rfl
theorem hit_val {xs : List Str} {y tl : Str} {i : Nat} {tail : List Nat} {b : Bool} (hyx : xs[1 + i]? = some y) (htl : tl.cps.toList = tail) (hb : b = (decide ((1 : Int) + (i : Int) + 1 < (xs.length : Int)) && Txt.startswith tl y)) :
    ((y != Str.ofString "") && (b || Txt.startswith y tl)) = hitP (xs.map (·.cps.toList)) (1 + i) tail := by
  unfold hitP
  rw [getD_map hyx, hb, starts_val, starts_val, htl, List.length_map]
  have e1 : (y != Str.ofString "") = decide (y.cps.toList ≠ []) := by
    rw [bne, str_beq]
    show (!decide (y.cps.toList = [])) = _
    simp
  have e2 : decide ((1 : Int) + (i : Int) + 1 < (xs.length : Int)) = decide (1 + i + 1 < xs.length) := by
    rw [Bool.eq_iff_iff, decide_eq_true_eq, decide_eq_true_eq]; omega
  rw [e1, e2]
theorem out_yes {xs : List Str} {y tl z1 z2 : Str} {i j1 j2 c : Nat} {tail : List Nat} (hyx : xs[1 + i]? = some y) (htl : tl.cps.toList = tail) (hj1 : j1 = 1 + i) (hj2 : j2 = 1 + i + 1)
    (h1 : z1.cps.toList = ((xs.take j1).map (·.cps.toList)).flatten) (h2 : z2.cps.toList = ((xs.drop j2).map (·.cps.toList)).flatten) (hh : hitP (xs.map (·.cps.toList)) (1 + i) tail = true) :
    outK (xs.map (·.cps.toList)) (1 + i) c tail = [(z1 ++ ⟨#[c]⟩ ++ (Txt.slice y (some (tl.length : Int)) none ++ z2) : Str).cps.toList] := by
  unfold outK
  rw [if_pos hh, getD_map hyx]
  simp only [Str.cps_append, Array.toList_append]
  rw [h1, h2, slice_sn, hj1, hj2, ← str_len, htl, List.map_take, List.map_drop]
theorem out_no {P : List (List Nat)} {j c : Nat} {tail : List Nat} (hh : hitP P j tail = false) : outK P j c tail = [] := by
  unfold outK
  rw [hh]; rfl
section
variable {w : World} {A : Around} {mg mb : Str → Option Value} {s : Shared} {R : Result → Shared → Prop} {p : Program} {loose : List Str} {mean : ExcName → Option Value} {l d : Addr} {vs : List Value} {xs : List Str} {kvs : List (Str × Value)} {tab : List (Nat × List Nat)}
local macro_rules | `(tactic| walk_at "subscriptTail Name Name ref int") => `(tactic| ((with_reducible show wpAny _ _ (subscriptTail _ _ (Value.ref _) (Value.int _ _)) _ _ _); (with_unfolding_all refine' item_at ?k1 ?k2 ?k3 ?k4 ?_; (case k1 => exact list_on (by assumption) (by assumption)); (case k4 => assumption); (case k2 => omega); (case k3 => omega); k_whole)))
local macro_rules | `(tactic| walk_at "call builtin:str.join") => `(tactic| ((with_reducible show wpAny _ _ (call (Value.builtin _) [Value.str _ _, Value.ref _]) _ _ _); (with_unfolding_all first
  | (refine' join_take ?a ?b ?c ?k0 ?k1 ?_; (case k0 => rfl); (case k1 => exact ⟨_, (News.get (by assumption) (List.Mem.head _)), rfl, _, rfl⟩); (case a => assumption); (case b => assumption); (case c => assumption); k_whole)
  | (refine' join_drop ?a ?b ?c ?k0 ?k1 ?_; (case k0 => rfl); (case k1 => exact ⟨_, (News.get (by assumption) (List.Mem.head _)), rfl, _, rfl⟩); (case a => assumption); (case b => assumption); (case c => assumption); k_whole)); intro yJ tJ kJ hJ hJl))
local macro_rules | `(tactic| walk_at "subscriptTail Name Name ref str") => `(tactic| ((with_reducible show wpAny _ _ (subscriptTail _ _ (Value.ref _) (Value.str _ _)) _ _ _); (with_unfolding_all refine' dict_item ?k1 ?k2 ?_; (case k1 => exact dict_on (by assumption) (by assumption)); (case k2 => assumption); k_whole)))
set_option maxRecDepth 100000 in
set_option maxHeartbeats 8000000 in
theorem c_out : (hd.heap_1 w.params).In s.heap → Top p loose mean mg mb s.heap → A.depth + 25 < recursionLimit → A.units + 200 < cLine → A.handled = none →
    s.heap.IsList l vs.toArray → StrsAre vs xs → xs.length ≤ 9 → (∀ y ∈ xs, y.length ≤ 32) →
    s.heap.DictOf (PySem.strKind PySem.Challenge.rw_ik0157_01.row.prog w) d kvs → (d == sysModules) = false → TabIs kvs tab → tab.length ≤ 7 → (∀ p ∈ tab, 1 ≤ p.2.length ∧ p.2.length ≤ 6) →
    (∀ h' tk ol vsO n os, s.heap.StaysIn h' → s.heap.get? ol = none → h'.get? ol = some (listOf vsO.toArray n) → StrsAre vsO os → os.map (·.cps.toList) = outP (xs.map (·.cps.toList)) tab → os.length ≤ 1000 → (∀ y ∈ os, y.length ≤ 1000) → R (.ok (.ret (.ref ol))) { s with heap := h', toks := tk }) →
    codeAny (model PySem.Challenge.rw_ik0157_01.row.prog w) A (.call (.ref 132) ⟨[.ref l, .ref d], []⟩) R s := by
  w_top off
  k_fill
  intro X T hd hu hh hl hvs hn hxl hD lo hT hTn hTl hR
  refine' enter0 (binds := [(Str.ofString "pieces", .ref l), (Str.ofString "table", .ref d)]) X T.nolimit ?k6 ?k7 (by omega) ?k9 ?kB ?_ ?c5 ?c2 ?c3 ?c4
  case k6 => k_is
  case k7 => k_is
  case k9 => exact BindsTo.of_eq rfl
  case c5 => decide
  case kB => exact locs rfl
  case c2 => exact rfl
  case c3 => exact rfl
  case c4 => exact rfl
  intro L' h0 F0 N0
  have hvl := strs_len hvs
  have hkl := tab_len hT
  k_steps
  rename_i tkA ol hA tt hB r hC tkC t1 u1 v1 F1 N1 hlt
  let P : List (List Nat) := xs.map (·.cps.toList)
  have hPl : P.length = xs.length := List.length_map _
  refine iter_range (r := r) (a := 1) (b := (xs.length : Int)) (t := t1) (u := u1) (v := v1) (n := ((xs.length : Int) - 1).toNat) (fun i m nx => ∃ vsO os n, m (Str.ofString "out") = some (.ref ol) ∧ m (Str.ofString "pieces") = some (.ref l) ∧ m (Str.ofString "table") = some (.ref d) ∧
      nx = [(ol, listOf vsO.toArray n)] ∧ StrsAre vsO os ∧ os.map (·.cps.toList) = (List.range' 1 i).flatMap (outR P tab) ∧ os.length ≤ 60 * i ∧ (∀ y ∈ os, y.length ≤ 1000)) hh (N1 _ (.head _)).1 ?_ (rangeSize_nat _ _) F1 (news_sub N1 (by lcg_sub)) ⟨[], [], 0, rfl, rfl, rfl, rfl, .nil, rfl, Nat.zero_le _, fun y hy => nomatch hy⟩ ?_ ?_
  · exact small_one (by decide) (by decide) (by omega) (by omega)
  · rintro g i v m₁ nx h6 tk6 I oI hin ⟨tv, rfl⟩ ⟨vsO, os, n, e1, e2, e3, rfl, hO, hOm, hOl, hOb⟩ hoff hIL F7 N7
    have F8 := fr_put3 F7 e1 e2 e3
    have bx1 : NeBox (@Ne Nat ol I) := ⟨neN (show ol ≠ I from hoff _ (.head _))⟩
    clear hoff F7 F1 N1
    have hil : i + 1 < xs.length := by omega
    k_steps
    rename_i hE F9 N9
    refine iter_keys (d := d) (kvs := kvs) (fun i2 m nx => ∃ vsO os n, m (Str.ofString "out") = some (.ref ol) ∧ m (Str.ofString "pieces") = some (.ref l) ∧ m (Str.ofString "table") = some (.ref d) ∧ m (Str.ofString "j") = some (.int (1 + (i : Int)) tv) ∧
      nx = [(ol, listOf vsO.toArray n), (I, oI)] ∧ StrsAre vsO os ∧ os.map (·.cps.toList) = (List.range' 1 i).flatMap (outR P tab) ++ (tab.take i2).flatMap (outC P (1 + i)) ∧ os.length ≤ 60 * i + 6 * i2 ∧ (∀ y ∈ os, y.length ≤ 1000)) hh lo hD F9 (news_sub N9 (by lcg_sub)) ⟨vsO, os, n, rfl, rfl, rfl, rfl, rfl, hO, ?_, hOl, hOb⟩ ?_ ?_
    · rw [hOm]; simp
    · rintro g2 i2 v m₂ nx h10 tk10 I2 oI2 hin2 ⟨k, xv, ts, hkx, rfl⟩ ⟨vsO, os, n, e1, e2, e3, e4, rfl, hO, hOm, hOl, hOb⟩ hoff hIL2 F10 N10
      obtain ⟨c, dd, xd, tx, rfl, rfl, hxd, htab⟩ := tab_get hT hkx
      have F11 := fr_put4 F10 e1 e2 e3 e4
      have bx2 : NeBox (@Ne Nat ol I2 ∧ @Ne Nat I I2) := ⟨neN (show ol ≠ I2 from hoff _ (.head _)), neN (show I ≠ I2 from hoff _ (.tail _ (.head _)))⟩
      clear hoff F10 N9
      have hdl : 1 ≤ dd.length ∧ dd.length ≤ 6 := hTl _ (List.mem_of_getElem? htab)
      have hxdl : xd.length = dd.length := by rw [← hxd, str_len]
      k_steps
      rename_i hX hY tb kb hbl hZ r2 hW tkW t2 u2 v2 F12 N12 hlt2
      have hbd : (Txt.slice xd (some 1) none).cps.toList = dd.drop 1 := by rw [← hxd]; exact slice_sn xd 1
      generalize Txt.slice xd (some 1) none = bd at hbd F12 N12 hbl
      have hbl2 : bd.length = dd.length - 1 := by rw [← str_len, hbd, List.length_drop]
      refine iter_range (r := r2) (a := 0) (b := (bd.length : Int)) (t := t2) (u := u2) (v := v2) (n := ((bd.length : Int) - 0).toNat) (fun i3 m nx => ∃ vsO os n, m (Str.ofString "out") = some (.ref ol) ∧ m (Str.ofString "pieces") = some (.ref l) ∧ m (Str.ofString "table") = some (.ref d) ∧ m (Str.ofString "j") = some (.int (1 + (i : Int)) tv) ∧
        m (Str.ofString "sign") = some (.str ⟨#[c]⟩ ts) ∧ m (Str.ofString "body") = some (.str bd tb) ∧
        nx = [(ol, listOf vsO.toArray n), (I2, oI2), (I, oI)] ∧ StrsAre vsO os ∧ os.map (·.cps.toList) = (List.range' 1 i).flatMap (outR P tab) ++ (tab.take i2).flatMap (outC P (1 + i)) ++ (List.range i3).flatMap (fun k => outK P (1 + i) c (dd.drop (1 + k))) ∧ os.length ≤ 60 * i + 6 * i2 + i3 ∧ (∀ y ∈ os, y.length ≤ 1000)) hh (N12 _ (.head _)).1 ?_ (rangeSize_nat _ _) F12 (news_sub N12 (by lcg_sub)) ⟨vsO, os, n, rfl, rfl, rfl, rfl, rfl, rfl, rfl, hO, ?_, hOl, hOb⟩ ?_ ?_
      · exact small_one (by decide) (by decide) (by omega) (by omega)
      · rw [hOm]; simp
      · rintro g3 i3 v m₃ nx h13 tk13 I3 oI3 hin3 ⟨t3, rfl⟩ ⟨vsO, os, n, e1, e2, e3, e4, e5, e6, rfl, hO, hOm, hOl, hOb⟩ hoff hIL3 F13 N13
        have F14 := fr_put6 F13 e1 e2 e3 e4 e5 e6
        have bx3 : NeBox (@Ne Nat ol I3 ∧ @Ne Nat I2 I3 ∧ @Ne Nat I I3 ∧ @Ne Nat ol I2 ∧ @Ne Nat I I2 ∧ @Ne Nat ol I) := ⟨neN (show ol ≠ I3 from hoff _ (.head _)), neN (show I2 ≠ I3 from hoff _ (.tail _ (.head _))), neN (show I ≠ I3 from hoff _ (.tail _ (.tail _ (.head _)))), bx2.out.1, bx2.out.2, bx1.out⟩
        clear hoff F13 N12
        obtain ⟨y, ty, hget, hyx⟩ : ∃ y ty, vs[((1 : Int) + (i : Int)).toNat]? = some (.str y ty) ∧ xs[1 + i]? = some y := by
          have e : ((1 : Int) + (i : Int)).toNat = 1 + i := by omega
          rw [e]
          have hlt : 1 + i < vs.length := by omega
          obtain ⟨y, ty, e, hy⟩ := strs_get ‹StrsAre vs xs› (List.getElem?_eq_getElem hlt)
          exact ⟨y, ty, (List.getElem?_eq_getElem hlt).trans (congrArg some e), hy⟩
        have hyl := hxl y (List.mem_of_getElem? hyx)
        iterate 14 (first | walk1 | (dsimp only; walk1))
        dsimp only
        rename_i hA1 hA2 tt3 kA3 hA4 hA5 F15 N15
        have hz3 : (0 : Int) + (i3 : Int) = ((i3 : Nat) : Int) := by omega
        have htl : (Txt.slice bd (some ((0 : Int) + (i3 : Int))) none).cps.toList = dd.drop (1 + i3) := by rw [hz3, slice_sn, hbd, List.drop_drop]
        generalize Txt.slice bd (some ((0 : Int) + (i3 : Int))) none = tl at htl F15 hA4
        refine wpAny_execs_cons (wpAny_mono (Q := fun f s' => Stop (f = .next ∧ ∃ h tk b, s' = { s with heap := h, toks := tk } ∧
          Fr s.heap L' h (fun z => if z = Str.ofString "within" then some (Value.bool b) else if z = Str.ofString "tail" then some (Value.str tl tt3) else if z = Str.ofString "k" then some (Value.int (0 + (i3 : Int)) t3) else if z = Str.ofString "out" then some (Value.ref ol) else if z = Str.ofString "pieces" then some (Value.ref l) else if z = Str.ofString "table" then some (Value.ref d) else if z = Str.ofString "j" then some (Value.int (1 + (i : Int)) tv) else if z = Str.ofString "sign" then some (Value.str ⟨#[c]⟩ ts) else if z = Str.ofString "body" then some (Value.str bd tb) else m₃ z) ∧
          News s.heap L' h [(I3, oI3), (ol, listOf vsO.toArray n), (I2, oI2), (I, oI)] ∧ b = (decide ((1 : Int) + (i : Int) + 1 < (xs.length : Int)) && Txt.startswith tl y))) ?_ ?_ fun _ _ e => e)
        · k_steps
          · refine ⟨trivial, _, _, _, rfl, by assumption, by assumption, ?_⟩
            rw [decide_eq_true (by assumption), Bool.true_and]
          · refine ⟨trivial, _, _, _, rfl, by assumption, by assumption, ?_⟩
            rw [decide_eq_false (by assumption)]; rfl
        · rintro f s' ⟨rfl, h16, tk16, b, rfl, F16, N16, hb⟩
          dsimp only
          clear F15 N15 F14
          have hvO := strs_len hO
          refine wpAny_execs_cons (wpAny_If (wpAny_mono (Q := fun b2 s' => Stop (∃ h tk, s' = { s with heap := h, toks := tk } ∧
            Fr s.heap L' h (fun z => if z = Str.ofString "within" then some (Value.bool b) else if z = Str.ofString "tail" then some (Value.str tl tt3) else if z = Str.ofString "k" then some (Value.int (0 + (i3 : Int)) t3) else if z = Str.ofString "out" then some (Value.ref ol) else if z = Str.ofString "pieces" then some (Value.ref l) else if z = Str.ofString "table" then some (Value.ref d) else if z = Str.ofString "j" then some (Value.int (1 + (i : Int)) tv) else if z = Str.ofString "sign" then some (Value.str ⟨#[c]⟩ ts) else if z = Str.ofString "body" then some (Value.str bd tb) else m₃ z) ∧
            News s.heap L' h [(I3, oI3), (ol, listOf vsO.toArray n), (I2, oI2), (I, oI)] ∧ b2 = ((y != Str.ofString "") && (b || Txt.startswith y tl)))) ?_ ?_ fun _ _ e => e))
          · k_steps
            · refine ⟨_, _, rfl, by assumption, by assumption, ?_⟩
              rw [show (y != Str.ofString "") = true by assumption, show b = true by assumption]; rfl
            · refine ⟨_, _, rfl, by assumption, by assumption, ?_⟩
              rw [show (y != Str.ofString "") = true by assumption, show b = false by assumption, show Txt.startswith y tl = true by assumption]; rfl
            · refine ⟨_, _, rfl, by assumption, by assumption, ?_⟩
              rw [show (y != Str.ofString "") = true by assumption, show b = false by assumption, show Txt.startswith y tl = false by assumption]; rfl
            · refine ⟨_, _, rfl, by assumption, by assumption, ?_⟩
              rw [show (y != Str.ofString "") = false by assumption]; rfl
          · rintro b2 s' ⟨h17, tk17, rfl, F17, N17, hb2⟩
            clear F16 N16
            cases b2 with
            | true =>
              rw [if_pos rfl]
              have hhit := hit_val hyx htl hb
              rw [← hb2] at hhit
              have hbl3 : (bd.length - 0 : Int).toNat ≤ 5 := by omega
              k_steps
              refine ⟨_, _, _, _, rfl, by assumption, news_sub (by assumption) (by lcg_sub), all3 bx3.out.1 bx3.out.2.1 bx3.out.2.2.1, vsO ++ [_], os ++ [_], n + 1, rfl, rfl, rfl, rfl, rfl, rfl, rfl, strs_snoc (by assumption), ?_, ?_, ?_⟩
              · have e := out_yes (j1 := ((1 : Int) + (i : Int)).toNat) (j2 := ((1 : Int) + (i : Int) + 1).toNat) (c := c) hyx htl (by omega) (by omega) (by assumption) (by assumption) hhit.symm
                rw [List.map_append, hOm, range_snoc, e, List.append_assoc]
                rfl
              · rw [List.length_append]; show os.length + 1 ≤ _; omega
              · intro z hz
                rcases List.mem_append.mp hz with hz | hz
                · exact hOb z hz
                · rw [List.mem_singleton.mp hz, Str.length_append, Str.length_append, Str.length_append]
                  have : (⟨#[c]⟩ : Str).length = 1 := rfl
                  omega
            | false =>
              rw [if_neg Bool.false_ne_true]
              have hhit := hit_val hyx htl hb
              rw [← hb2] at hhit
              k_steps
              refine ⟨_, _, _, _, rfl, by assumption, news_sub (by assumption) (by lcg_sub), all3 bx3.out.1 bx3.out.2.1 bx3.out.2.2.1, vsO, os, n, rfl, rfl, rfl, rfl, rfl, rfl, rfl, (by assumption), ?_, by omega, hOb⟩
              rw [hOm, range_snoc, out_no hhit.symm, List.append_nil]
      · rintro g3 m₃ nx h13 tk13 ⟨vsO, os, n, e1, e2, e3, e4, e5, e6, rfl, hO, hOm, hOl, hOb⟩ F13 N13
        have F14 := fr_put4 F13 e1 e2 e3 e4
        have hn3 : ((bd.length : Int) - 0).toNat = dd.length - 1 := by omega
        rw [hn3] at hOm hOl
        k_steps
        refine ⟨_, _, _, _, rfl, by assumption, news_sub (by assumption) (by lcg_sub), all2 bx2.out.1 bx2.out.2, vsO, os, n, rfl, rfl, rfl, rfl, rfl, (by assumption), ?_, by omega, hOb⟩
        rw [hOm, take_snoc _ htab, List.append_assoc]
        rfl
    · rintro g2 m₂ nx h10 tk10 ⟨vsO, os, n, e1, e2, e3, e4, rfl, hO, hOm, hOl, hOb⟩ F10 N10
      have F11 := fr_put3 F10 e1 e2 e3
      rw [List.take_of_length_le (by omega)] at hOm
      k_steps
      refine ⟨_, _, _, _, rfl, by assumption, news_sub (by assumption) (by lcg_sub), all1 bx1.out, vsO, os, n, rfl, rfl, rfl, rfl, (by assumption), ?_, by omega, hOb⟩
      rw [hOm, range1_snoc]
      rfl
  · rintro g m₁ nx h6 tk6 ⟨vsO, os, n, e1, e2, e3, rfl, hO, hOm, hOl, hOb⟩ F7 N7
    have F8 := fr_put F7 e1
    have hn1 : ((xs.length : Int) - 1).toNat = xs.length - 1 := by omega
    rw [hn1] at hOm hOl
    k_steps
    have z := N7 _ (.head _)
    refine hR _ _ _ vsO n os F7.keep z.2.2 z.1 hO ?_ (by omega) hOb
    rw [hOm, outP, hPl]
end
end

-- part S1
section
section
variable {w : World} {A : Around} {mg mb : Str → Option Value} {s : Shared} {R : Result → Shared → Prop} {p : Program} {loose : List Str} {mean : ExcName → Option Value} {t : Tok} {c : Nat}
noncomputable def specOf (P : Params) : Array DictEntry := match (hd.heap_1 P).lookup 80 with | some ⟨_, _, .dict es _, _⟩ => es | _ => #[]
def specOk (es : Array DictEntry) (c : Nat) : Bool := match findBy Value.isInt es (c : Int) with | some (.str z _) => z.cps.toList == [92, c] | none => !META.contains c | _ => false
theorem spec_ok (P : Params) : (List.range 128).all (specOk (specOf P)) = true := by kernel_rfl
theorem spec_keys (P : Params) : (specOf P).all (fun e => match e.key with | .int k _ => e.hash == hashInt k | _ => false) = true := by kernel_rfl
theorem spec_at (P : Params) : ∃ ep, (hd.heap_1 P).lookup 80 = some ⟨.type "dict", none, .dict (specOf P) ep, #[]⟩ := ⟨24, by kernel_rfl⟩
theorem spec_map {prog : Program} {h : Heap} (X : (hd.heap_1 w.params).In h) : h.MapOf (intKind prog w) 80 (fun k => findBy Value.isInt (specOf w.params) k) := by
  obtain ⟨ep, e⟩ := spec_at w.params
  refine Heap.IntMap.mapOf ⟨_, _, _, X _ _ e, rfl, rfl, fun e he => ?_, fun k => rfl⟩ ?_
  · have h := spec_keys w.params
    rw [Array.all_eq_true_iff_forall_mem] at h
    have h1 := h e he
    split at h1
    · rename_i k t hk
      exact ⟨k, t, hk, by simpa using h1⟩
    · cases h1
  · intro o ho
    rw [X _ _ e] at ho
    cases ho
    exact ⟨rfl, rfl⟩
local macro_rules | `(tactic| walk_at "getMethod str") => `(tactic| ((with_reducible show wpAny _ _ (getMethod (Value.str _ _) (PySem.Str.ofString "translate") _) _ _ _); refine GM.of _ (typeIs_str _ _ _) PySem.F.slot_str_translate PySem.F.type_str_translate GM.noRef ?_))
set_option maxRecDepth 100000 in
set_option maxHeartbeats 8000000 in
theorem c_escape : (hd.heap_1 w.params).In s.heap → Top p loose mean mg mb s.heap → A.depth + 3 < recursionLimit → A.units + 100 < cLine → A.handled = none → c < 128 →
    (∀ h' tk y ty, s.heap.StaysIn h' → GoodPart c y.cps.toList → R (.ok (.ret (.str y ty))) { s with heap := h', toks := tk }) →
    codeAny (model PySem.Challenge.rw_ik0157_01.row.prog w) A (.call (.ref 90) ⟨[.str ⟨#[c]⟩ t], []⟩) R s := by
  w_top off
  k_fill
  intro X T hd hu hh hc hR
  refine' enter0 (binds := [(Str.ofString "pattern", .str ⟨#[c]⟩ t)]) X T.nolimit ?k6 ?k7 (by omega) ?k9 ?kB ?_ ?c5 ?c2 ?c3 ?c4
  case k6 => k_is
  case k7 => k_is
  case k9 => exact BindsTo.of_eq rfl
  case c5 => decide
  case kB => exact locs rfl
  case c2 => exact rfl
  case c3 => exact rfl
  case c4 => exact rfl
  intro L' h0 F0 N0
  k_steps
  have hck : specOk (specOf w.params) c = true := by
    have h := spec_ok w.params
    rw [List.all_eq_true] at h
    exact h c (List.mem_range.mpr hc)
  unfold specOk at hck
  have X0 : (Mine.hd.heap_1 w.params).In h0 := X.keeps F0.keep
  refine call_translate (f := fun k => findBy Value.isInt (specOf w.params) k) hc (spec_map X0) (by decide +kernel) hh ?_ ?_ ?_
  · cases e : findBy Value.isInt (specOf w.params) (c : Int) with
    | none => exact .inl rfl
    | some v =>
      rw [e] at hck
      split at hck
      · rename_i z u e2
        cases e2
        refine .inr ⟨z, u, rfl, ?_⟩
        rw [← str_len, show z.cps.toList = [92, c] by simpa using hck]
        rfl
      · rename_i e2; cases e2
      · cases hck
  · intro e h' tk tk2 hst
    have e : findBy Value.isInt (specOf w.params) (c : Int) = _ := e
    rw [e] at hck
    refine hR _ _ _ _ (fun b o q => hst b o (F0.keep b o q)) (.inl ⟨rfl, by simpa using hck⟩)
  · intro z u tk tk2 e
    have e : findBy Value.isInt (specOf w.params) (c : Int) = _ := e
    rw [e] at hck
    exact hR _ _ _ _ F0.keep (.inr (.inl (by simpa using hck)))
end
end

-- part X1
section
section
variable {w : World} {A : Around} {mg mb : Str → Option Value} {s : Shared} {R : Result → Shared → Prop} {p : Program} {loose : List Str} {mean : ExcName → Option Value} {t tq : Tok} {x : Str} {xs : List (Option Nat)} {c : Nat} {h₀ : Heap} {L : Addr} {m : Str → Option Value} {news : List (Addr × Obj)} {E Q : Value → Shared → Prop} {ps : Array Value}
theorem while_stop {prog : Program} {w : World} {A : Around} {E : Value → Shared → Prop} {s : Shared} {env : Env} {test : Expr} {body : List Stmt} {pos : Pos} {Q : Flow → Shared → Prop} (h : Stop (wpAny (model prog w) A (exec (.While test body [] pos) env) Q E s)) :
    wpAny (model prog w) A (exec (.While test body [] pos) env) Q E s := h.out
local macro_rules | `(tactic| walk_at "getAttr ref") => `(tactic| ((with_reducible show wpAny _ _ (getAttr (Value.ref _) (PySem.Str.ofString "append") true) _ _ _); (refine' getattr_N ?F ?N ?m ?_; (case F => assumption); (case N => assumption); (case m => k_mem); intro bm' hm' tm' Fm' Nm' lm'; clear lm')))
local macro_rules | `(tactic| walk_at "unpackItems ref") => `(tactic| (refine unpackItemsN_ (by assumption) (by assumption) (News.isTup (by assumption) (.head _)) (by with_unfolding_all assumption) (by rfl) ?_; intro hu' Fu' Nu'))
local macro_rules | `(tactic| walk_at "subscriptTail Name Name str int") => `(tactic| (refine str_item (by assumption) (by assumption) ?_))
local macro_rules | `(tactic| walk_at "subscriptTail Name Slice str ref") => `(tactic| ((with_reducible rename Fr _ _ _ _ => F'); (with_reducible rename News _ _ _ _ => N'); (refine slice_one (s := ⟨_, _, _, _, _⟩) F' N' (by assumption) (by assumption) ?_); intro _ _ _ _ _))
local macro_rules | `(tactic| walk_at "truthy ref") => `(tactic| first
  | (refine truthy_snoc (by assumption) (by assumption) (.tail _ (.head _)) ?_)
  | (refine truthy_nil (by assumption) (.tail _ (.head _)) ?_))
local macro_rules | `(tactic| walk_at "callWith ref") => `(tactic| ((with_reducible show wpAny _ _ (callWith _ (Value.ref _) _ (backTo _ (starEach (_ :: _) _)) []) _ _ _); (refine' callWith_bm ?N ?m ?_; (case N => assumption); (case m => k_mem)); k_whole))
theorem bmAt_of {h₀ h : Heap} {L bm l : Addr} {news : List (Addr × Obj)} (N : News h₀ L h news) (hm : (bm, bmObj l) ∈ news) : BmAt bm l h := (N _ hm).1
local macro_rules | `(tactic| walk_at "And") => `(tactic| ((with_reducible show BmAt _ _ _ ∧ _); (refine ⟨bmAt_of (by assumption) (by k_mem), ?_⟩); (try dsimp only [List.nil_append, List.cons_append])))
local macro_rules | `(tactic| walk_at "BmAt") => `(tactic| exact bmAt_of (by assumption) (by k_mem))
local macro_rules | `(tactic| walk_at "call ref") => `(tactic| ((with_reducible show wpAny _ _ (call (Value.ref _) [_]) _ _ _); (refine' bound_N ?F ?N ?m ?U ?_ ?z; (case F => assumption); (case N => assumption); (case m => k_mem); (case U => k_upd); (case z => first | exact Nat.zero_le _ | (simp only [List.size_toArray, List.length_append, List.length_cons, List.length_nil, PySem.sizeLine_eq]; omega)); k_whole); intro h' F' N'; (try simp only [List.push_toArray] at N'); (try k_sweep)))
local macro_rules | `(tactic| walk_at "subscriptTail Name UnaryOp ref int") => `(tactic| ((with_reducible show wpAny _ _ (subscriptTail _ _ (Value.ref _) (Value.int (-1) _)) _ _ _); (with_unfolding_all refine' tail_any ?T slot_list_getitem.lookup (last_get ?k1 ?_) ?hs; (case k1 => exact ⟨_, (News.get (by assumption) (by k_mem)), rfl, _, rfl⟩); (case T => exact ⟨_, (News.get (by assumption) (by k_mem)), rfl⟩); (case hs => with_unfolding_all rfl); k_whole)))
theorem use_escape : (hd.heap_1 w.params).In h₀ → Top p loose mean mg mb h₀ → Fr h₀ L s.heap m → News h₀ L s.heap news → A.depth + 3 < recursionLimit → A.units + 100 < cLine → A.handled = none → c < 128 →
    (∀ h' tk y ty, Fr h₀ L h' m → News h₀ L h' news → GoodPart c y.cps.toList → Q (.str y ty) { s with heap := h', toks := tk }) →
    wpAny (model PySem.Challenge.rw_ik0157_01.row.prog w) A (call (.ref 90) [.str ⟨#[c]⟩ t]) Q E s := by
  intro X T F N hd hu hh hc h
  exact wpAny_call (c_escape (X.keeps F.keep) (T.keeps F.keep) hd hu hh hc fun h' tk y ty hst hg => h h' tk y ty (fr_stays F hst) (news_stays N hst) hg)
theorem get_sub {pl : Sem Bool} {Q : Value × List Value → Shared → Prop} : (hd.heap_1 w.params).In h₀ → Fr h₀ L s.heap m → Q (.builtin "re.Pattern.sub", [.ref 78]) s →
    wpAny (model PySem.Challenge.rw_ik0157_01.row.prog w) A (getMethod (.ref 78) (PySem.Str.ofString "sub") pl) Q E s := by
  w_top off
  k_fill
  intro X F h
  have e := F.keep _ _ (X 78 _ (by rfl))
  exact getMethod_builtin ⟨_, e, rfl⟩ plain_re slot_sub type_sub (fun a ea => by cases ea; exact ⟨_, e, rfl⟩) h
theorem use_sub {lA : Addr} {fo : Obj} {news : List (Addr × Obj)} : (hd.heap_1 w.params).In h₀ → Fr h₀ L s.heap m → News h₀ L s.heap ((lA, fo) :: news) → fo.cls = .type "function" → ThreeSigns c →
    (∀ h' tk tk2, Fr h₀ L h' m → News h₀ L h' news → Q (.str ⟨#[c]⟩ tk) { s with heap := h', toks := tk2 }) →
    wpAny (model PySem.Challenge.rw_ik0157_01.row.prog w) A (call (.builtin "re.Pattern.sub") [.ref 78, .ref lA, .str ⟨#[c]⟩ t]) Q E s := by
  w_top off
  k_fill
  intro X F N hf h3 h
  exact call_sub h3 (F.keep _ _ (X 78 _ (by rfl))) rfl rfl (F.keep _ _ (X 77 _ (by rfl))) rfl (N _ (.head _)).1 hf fun h' tk tk2 hst => h h' tk tk2 (fr_stays F hst) (news_sub (news_stays N hst) fun p hp => .tail _ hp)
local macro_rules | `(tactic| walk_at "call ref") => `(tactic| ((with_reducible show wpAny _ _ (call (Value.ref 90) [_]) _ _ _); (refine' use_escape ?X ?T ?F ?N ?d ?u ?h ?c ?_; (case X => assumption); (case T => assumption); (case F => assumption); (case N => assumption); (case d => (show _ + 1 + 3 < recursionLimit; omega)); (case u => (simp only [Around.deeper_units, Around.in1_units]; omega)); (case h => with_unfolding_all assumption); (case c => assumption); k_whole); intro h' tk' y' ty' F' N' g'; (try k_sweep)))
local macro_rules | `(tactic| walk_at "getMethod ref") => `(tactic| ((with_reducible show wpAny _ _ (getMethod (Value.ref 78) (PySem.Str.ofString "sub") _) _ _ _); (refine' get_sub ?X ?F ?_; (case X => assumption); (case F => assumption))))
local macro_rules | `(tactic| walk_at "call builtin:re.Pattern.sub") => `(tactic| ((refine' use_sub ?X ?F ?N ?f ?c ?_; (case X => assumption); (case F => assumption); (case N => assumption); (case f => assumption); (case c => assumption); k_whole); intro h' tk' tk2' F' N'; (try k_sweep)))
theorem use_rep {u v : Tok} {prog : Program} (h3 : ThreeSigns c) (h : Q (.str ⟨#[c]⟩ t) s) : wpAny (model prog w) A (call (.builtin "str.replace") [.str ⟨#[c]⟩ t, .str (Str.ofString "\\") u, .str (Str.ofString "\\\\") v]) Q E s := by
  have e : ((Builtin.Str.occurrences ⟨#[c]⟩ (Str.ofString "\\") 0 (⟨#[c]⟩ : Str).length ((⟨#[c]⟩ : Str).length + 1)).isEmpty || ((Str.ofString "\\").length == 0 && (Str.ofString "\\\\").length == 0)) = true := by
    rcases h3 with rfl | rfl | rfl <;> decide +kernel
  refine call_gives F.slot_str_replace (typeIs_str _ _ _) F.entry_str_replace (F.args_str_replace_3 _ _ _) (gives_str_replace _ _ _ t u v fun h => by rw [e] at h; cases h) ?_
  rw [if_pos e]
  exact h
local macro_rules | `(tactic| walk_at "call builtin:str.replace") => `(tactic| ((refine' use_rep ?h ?_; (case h => assumption))))
local macro_rules | `(tactic| walk_at "eval Lambda") => `(tactic| ((with_unfolding_all refine' lam_any ?F ?N ?T ?C ?o ?n ?d ?l ?_; (case F => assumption); (case N => assumption); (case T => assumption); (case C => assumption); (case o => assumption); (case n => assumption); (case d => rfl); (case l => rfl); k_whole); intro f' fo' ps' h' tk' fc' po' F' N'; (try k_sweep)))
local macro_rules | `(tactic| walk_at "subscriptTail Name Constant str int") => `(tactic| (refine str_item (by assumption) (by assumption) ?_))
local macro_rules | `(tactic| walk_at "exec While BoolOp") => `(tactic| (with_unfolding_all refine while_stop ?_))
local macro_rules | `(tactic| walk_at "exec While Compare") => `(tactic| (with_unfolding_all refine while_stop ?_))
theorem news_ne {h₀ h : Heap} {L a b : Addr} {o o' : Obj} {news : List (Addr × Obj)} (N : News h₀ L h news) (h1 : (a, o) ∈ news) (h2 : (b, o') ∈ news) (hc : o.cls ≠ o'.cls) : a ≠ b := fun e => by
  have e1 := (N _ h1).1
  have e2 := (N _ h2).1
  dsimp only at e1 e2
  rw [e, e2] at e1
  cases e1
  exact hc rfl
theorem fr_put7 {h₀ h : Heap} {L : Addr} {m : Str → Option Value} {x1 x2 x3 x4 x5 x6 x7 : Str} {v1 v2 v3 v4 v5 v6 v7 : Value} (F : Fr h₀ L h m) (e1 : m x1 = some v1) (e2 : m x2 = some v2) (e3 : m x3 = some v3) (e4 : m x4 = some v4) (e5 : m x5 = some v5) (e6 : m x6 = some v6) (e7 : m x7 = some v7) :
    Fr h₀ L h (fun y => if y = x1 then some v1 else if y = x2 then some v2 else if y = x3 then some v3 else if y = x4 then some v4 else if y = x5 then some v5 else if y = x6 then some v6 else if y = x7 then some v7 else m y) :=
  fr_cong F fun y => by split; (rename_i q; rw [q, e1]); split; (rename_i q; rw [q, e2]); split; (rename_i q; rw [q, e3]); split; (rename_i q; rw [q, e4]); split; (rename_i q; rw [q, e5]); split; (rename_i q; rw [q, e6]); split; (rename_i q; rw [q, e7]); rfl
abbrev LPOS : Pos := ⟨132, 39, 132, 76⟩
theorem tells_last {vs : List Value} {v : Value} {r : List (Option Nat)} (h : TellsAre (vs ++ [v]) r) : (v = .none ∧ r.getLast? = some none) ∨ ∃ y t, v = .str y t ∧ r.getLast? ≠ some none := by
  have hl := tells_len h
  have e : (vs ++ [v])[vs.length]? = some v := by simp
  have e2 : r.getLast? = r[vs.length]? := by
    rw [List.getLast?_eq_getElem?, ← hl]; simp
  rcases tells_get h e with ⟨a, b⟩ | ⟨y, c, t, a, _, b⟩
  · exact .inl ⟨a, e2.trans b⟩
  · exact .inr ⟨y, t, a, by rw [e2, b]; simp⟩
theorem tells_snoc_none {vs : List Value} {r : List (Option Nat)} (h : TellsAre vs r) : TellsAre (vs ++ [.none]) (r ++ [none]) := by
  induction h with
  | nil => exact .star .nil
  | star _ ih => exact .star ih
  | sign y c t g _ ih => exact .sign y c t g ih
theorem tells_snoc_some {vs : List Value} {r : List (Option Nat)} {y : Str} {c : Nat} {t : Tok} (h : TellsAre vs r) (g : GoodPart c y.cps.toList) : TellsAre (vs ++ [.str y t]) (r ++ [some c]) := by
  induction h with
  | nil => exact .sign y c t g .nil
  | star _ ih => exact .star ih
  | sign y c t g _ ih => exact .sign y c t g ih
set_option maxRecDepth 100000 in
set_option maxHeartbeats 8000000 in
theorem c_translate : (hd.heap_1 w.params).In (hideAll s.heap [92]) → Top p loose mean mg mb (hideAll s.heap [92]) → s.heap.get? 92 = some (tabObj ps) → TabOk LPOS ps → A.depth + 8 < recursionLimit → A.units + 200 < cLine → A.handled = none →
    x.cps.toList = patOf xs → x.length ≤ 10000 → (∀ c, some c ∈ xs → c < 128) →
    (∀ h' tk rl vs n ps', (hideAll s.heap [92]).StaysIn h' → h'.get? 92 = some (tabObj ps') → TabOk LPOS ps' → s.heap.get? rl = none → h'.get? rl = some (listOf vs.toArray n) → TellsAre vs (colP xs) → vs.length ≤ 10000 → R (.ok (.ret (.ref rl))) { s with heap := h', toks := tk }) →
    codeAny (model PySem.Challenge.rw_ik0157_01.row.prog w) A (.call (.ref 97) ⟨[.str x t, .none, .str (Str.ofString "?") tq], []⟩) R s := by
  w_top off
  k_fill
  intro X T hM hps hdp hu hh hx hxl hsg hR
  have kG : ∀ b o, (hideAll s.heap [92]).get? b = some o → s.heap.get? b = some o := fun b o e => of_hideAll _ e
  have hnG : (hideAll s.heap [92]).get? 92 = none := hideAll_none _ (.head _)
  have hout : ∀ b, (hideAll s.heap [92]).get? b = none → b ≠ 92 → s.heap.get? b = none := fun b e hb => by
    cases q : s.heap.get? b with
    | none => rfl
    | some o => rw [hideAll_get _ q (fun hm => hb (List.mem_singleton.mp hm))] at e; cases e
  have CH : CodeHd (hideAll s.heap [92]) 96 92 := codeHd_of_K X (by rfl)
  refine' enter0 (binds := [(Str.ofString "pat", .str x t), (Str.ofString "STAR", .none), (Str.ofString "QUESTION_MARK", .str (Str.ofString "?") tq)]) (X.keeps kG) (T.nolimit.keeps kG) ?k6 ?k7 (by omega) ?k9 ?kB ?_ ?c5 ?c2 ?c3 ?c4
  case k6 => k_is
  case k7 => k_is
  case k9 => exact BindsTo.of_eq rfl
  case c5 => decide
  case kB => exact locs rfl
  case c2 => exact rfl
  case c3 => exact rfl
  case c4 => exact rfl
  intro L' h0 F00 N00
  have hL92 : 92 ≠ L' := Nat.ne_of_lt (Nat.lt_of_lt_of_le (Heap.lt_size hM) F00.above)
  have F0 : Fr (hideAll s.heap [92]) L' h0 _ := ⟨F00.ns, fun b o e => F00.keep b o (kG b o e), Nat.le_trans (Nat.le_of_eq (hideAll_size _ _)) F00.above⟩
  have N0 : News (hideAll s.heap [92]) L' h0 [(92, tabObj ps)] := fun p hp => by
    rw [List.mem_singleton.mp hp]
    exact ⟨F00.keep _ _ hM, hL92, hnG⟩
  clear F00 N00
  generalize hideAll s.heap [92] = G at X T kG hnG hout CH F0 N0 hR
  k_steps
  rename_i rl qa qb q0 q00 bm hm tm q1 q2 q3 q4 q5 q6 q7 F1 N1
  refine ⟨?_⟩
  have hxc : x.cps.toList.length = x.length := by simp [Str.length]
  refine While_inv (h₀ := G) (L := L') (fun n m nx => ∃ j i0 ti tn vs k ps, n = xs.length - j ∧ j ≤ xs.length ∧ i0 = (patOf (xs.take j)).length ∧ m (Str.ofString "i") = some (.int ((i0 : Nat) : Int) ti) ∧ m (Str.ofString "n") = some (.int (x.length : Int) tn) ∧ m (Str.ofString "add") = some (.ref bm) ∧ m (Str.ofString "res") = some (.ref rl) ∧ m (Str.ofString "pat") = some (.str x t) ∧ m (Str.ofString "STAR") = some .none ∧
    nx = [(bm, bmObj rl), (rl, listOf vs.toArray k), (92, tabObj ps)] ∧ TellsAre vs (colP (xs.take j)) ∧ vs.length ≤ i0 ∧ TabOk LPOS ps) F1 (news_sub N1 (by lcg_sub)) ⟨0, 0, _, _, [], 0, ps, rfl, Nat.zero_le _, rfl, rfl, rfl, rfl, rfl, rfl, rfl, rfl, .nil, Nat.le_refl _, hps⟩ ?_
  rintro n m₁ nx h2 tk2 F2 N2 ⟨j, i0, ti, tn, vs, k, ps, hnj, hj, hi0, e1, e2, e3, e4, e5, e6, rfl, hT, hvl, hps⟩
  have F3 := fr_put6 F2 e1 e2 e3 e4 e5 e6
  clear F1 N1 F2
  have hbr : bm ≠ rl := news_ne N2 (.head _) (.tail _ (.head _)) (by simp)
  have hn92 : bm ≠ 92 ∧ rl ≠ 92 := ⟨news_ne N2 (.head _) (.tail _ (.tail _ (.head _))) (by simp), news_ne N2 (.tail _ (.head _)) (.tail _ (.tail _ (.head _))) (by simp)⟩
  have r1 := neN hbr
  have r2 := neN hn92.1
  have r3 := neN hn92.2
  cases hxj : xs[j]? with
  | none =>
    have hin : i0 = x.length := by rw [hi0, pat_end hxj, ← hx, hxc]
    k_steps
    show R _ _
    have z := N2 _ (.tail _ (.head _))
    refine hR _ _ rl vs k ps F3.keep (N2 _ (.tail _ (.tail _ (.head _)))).1 hps (hout _ z.2.2 hn92.2) z.1 ?_ (by omega)
    rw [List.take_of_length_le (List.getElem?_eq_none_iff.mp hxj)] at hT
    exact hT
  | some o =>
    have hlt := pat_lt hxj
    have hsx : ∀ q c, q < (tokS o).length → (tokS o)[q]? = some c → x.cps.toList[i0 + q]? = some c := fun q c hq e => by rw [hx, hi0, pat_at hxj q hq, e]
    have hxl2 : (patOf xs).length = x.length := by rw [← hx, hxc]
    have hj2 : j < xs.length := (List.getElem?_eq_some_iff.mp hxj).1
    have hnx := patOf_take hxj
    have hcx := colP_succ hxj
    have hv1 : vs.length ≤ 10000 := by omega
    cases o with
    | none =>
      have hs0 : SignAt x ((i0 : Nat) : Int) 42 := ⟨Int.natCast_nonneg _, hsx 0 42 (by decide) rfl⟩
      have hb0 := hs0.lt
      rcases List.eq_nil_or_concat vs with rfl | ⟨vs, v, rfl⟩
      · k_steps
        refine ⟨rfl, _, _, _, _, xs.length - (j + 1), rfl, by assumption, news_sub (by assumption) (by lcg_sub), by omega, j + 1, i0 + 1, _, _, [.none], _, ps, rfl, hj2, ?_, rfl, rfl, rfl, rfl, rfl, rfl, rfl, ?_, ?_, hps⟩
        · rw [hnx, List.length_append, ← hi0]; rfl
        · rw [hcx]
          have hT0 : colP (xs.take j) = [] := by
            have := tells_len hT
            exact List.length_eq_zero_iff.mp this.symm
          rw [hT0]
          exact .star .nil
        · show 1 ≤ i0 + 1; omega
      · rw [List.concat_eq_append] at N2 hT hvl hv1
        rw [List.length_append] at hv1
        have hv2 : vs.length ≤ 10000 := by omega
        rcases tells_last hT with ⟨rfl, hla⟩ | ⟨y, ty, rfl, hla⟩
        · k_steps
          refine ⟨rfl, _, _, _, _, xs.length - (j + 1), rfl, by assumption, news_sub (by assumption) (by lcg_sub), by omega, j + 1, i0 + 1, _, _, _, _, ps, rfl, hj2, ?_, rfl, rfl, rfl, rfl, rfl, rfl, rfl, ?_, ?_, hps⟩
          · rw [hnx, List.length_append, ← hi0]; rfl
          · rw [hcx]
            unfold colStep
            dsimp only
            rw [if_pos hla]
            exact hT
          · omega
        · k_steps
          refine ⟨rfl, _, _, _, _, xs.length - (j + 1), rfl, by assumption, news_sub (by assumption) (by lcg_sub), by omega, j + 1, i0 + 1, _, _, _, _, ps, rfl, hj2, ?_, rfl, rfl, rfl, rfl, rfl, rfl, rfl, ?_, ?_, hps⟩
          · rw [hnx, List.length_append, ← hi0]; rfl
          · rw [hcx]
            unfold colStep
            dsimp only
            rw [if_neg hla]
            exact tells_snoc_none hT
          · rw [List.length_append]; show (vs ++ _).length + 1 ≤ _; omega
    | some c =>
      have hc128 := hsg c (List.mem_of_getElem? hxj)
      by_cases h3 : ThreeSigns c
      · have htok : tokS (some c) = [91, c, 93] := if_pos h3
        have hs0 : SignAt x ((i0 : Nat) : Int) 91 := ⟨Int.natCast_nonneg _, hsx 0 91 (by rw [htok]; show 0 < 3; omega) (by rw [htok]; rfl)⟩
        have hs1 : SignAt x ((i0 : Nat) + 1 : Int) c := ⟨by omega, hsx 1 c (by rw [htok]; show 1 < 3; omega) (by rw [htok]; rfl)⟩
        have hs2 : SignAt x ((i0 : Nat) + 1 + 1 : Int) 93 := ⟨by omega, hsx 2 93 (by rw [htok]; show 2 < 3; omega) (by rw [htok]; rfl)⟩
        have hs3 : SignAt ⟨#[c]⟩ 0 c := ⟨by decide, rfl⟩
        have hl3 : (⟨#[c]⟩ : Str).length ≤ 10000 := by show 1 ≤ 10000; decide
        have hb0 := hs0.lt
        have hb1 := hs1.lt
        have hb2 := hs2.lt
        have hq1 : ((⟨#[c]⟩ : Str) == Str.ofString "!") = false := by rcases h3 with rfl | rfl | rfl <;> decide
        have hq2 : ((⟨#[c]⟩ : Str) == Str.ofString "]") = false := by rcases h3 with rfl | rfl | rfl <;> decide
        have hq3 : ((⟨#[c]⟩ : Str) != Str.ofString "]") = true := by rcases h3 with rfl | rfl | rfl <;> decide
        have hq4 : ((⟨#[c]⟩ : Str) != Str.ofString "") = true := by rcases h3 with rfl | rfl | rfl <;> decide
        have hq5 : (Builtin.Str.occurrences ⟨#[c]⟩ (Str.ofString "-") 0 (⟨#[c]⟩ : Str).length 1).isEmpty = true := by rcases h3 with rfl | rfl | rfl <;> decide +kernel
        have hq6 : ((⟨#[c]⟩ : Str) == Str.ofString "^") = false := by rcases h3 with rfl | rfl | rfl <;> decide
        have hq7 : (⟨#[c]⟩ : Str).length = 1 := rfl
        k_steps
        rename Fr _ _ _ _ => F4
        rename News _ _ _ _ => N4
        refine ⟨?_⟩
        refine While_inv (h₀ := G) (L := L') (fun n m nx => ∃ ti tn tj, ((n = 1 ∧ m (Str.ofString "j") = some (.int ((i0 : Nat) + 1 : Int) tj)) ∨ (n = 0 ∧ m (Str.ofString "j") = some (.int ((i0 : Nat) + 1 + 1 : Int) tj))) ∧ m (Str.ofString "i") = some (.int ((i0 : Nat) + 1 : Int) ti) ∧ m (Str.ofString "n") = some (.int (x.length : Int) tn) ∧ m (Str.ofString "add") = some (.ref bm) ∧ m (Str.ofString "res") = some (.ref rl) ∧ m (Str.ofString "pat") = some (.str x t) ∧ m (Str.ofString "STAR") = some .none ∧
          nx = [(bm, bmObj rl), (rl, listOf vs.toArray k), (92, tabObj ps)]) (n₀ := 1) F4 N4 ⟨_, _, _, .inl ⟨rfl, rfl⟩, rfl, rfl, rfl, rfl, rfl, rfl, rfl⟩ ?_
        rintro n2 m2 nx2 h4 tk4 F5 N5 ⟨ti2, tn2, tj2, hjj, e1, e2, e3, e4, e5, e6, rfl⟩
        clear F4 N4
        rcases hjj with ⟨rfl, e7⟩ | ⟨rfl, e7⟩
        · have F6 := fr_put7 F5 e7 e1 e2 e3 e4 e5 e6
          clear F5
          k_steps
          exact ⟨rfl, _, _, _, _, 0, rfl, by assumption, by assumption, by omega, _, _, _, .inr ⟨rfl, rfl⟩, rfl, rfl, rfl, rfl, rfl, rfl, rfl⟩
        · have F6 := fr_put7 F5 e7 e1 e2 e3 e4 e5 e6
          clear F5
          k_steps
          · rename TabOk LPOS _ => hps2
            refine ⟨rfl, _, _, _, _, xs.length - (j + 1), rfl, by assumption, news_sub (by assumption) (by lcg_sub), by omega, j + 1, i0 + 1 + 1 + 1, _, _, _, _, _, rfl, hj2, ?_, rfl, rfl, rfl, rfl, rfl, rfl, rfl, ?_, ?_, hps2⟩
            · rw [hnx, List.length_append, ← hi0, htok]; rfl
            · rw [hcx]
              exact tells_snoc_some hT (.inr (.inr (.inr rfl)))
            · rw [List.length_append]; show vs.length + 1 ≤ _; omega
          · rename TabOk LPOS _ => hps2
            refine ⟨rfl, _, _, _, _, xs.length - (j + 1), rfl, by assumption, news_sub (by assumption) (by lcg_sub), by omega, j + 1, i0 + 1 + 1 + 1, _, _, _, _, _, rfl, hj2, ?_, rfl, rfl, rfl, rfl, rfl, rfl, rfl, ?_, ?_, hps2⟩
            · rw [hnx, List.length_append, ← hi0, htok]; rfl
            · rw [hcx]
              exact tells_snoc_some hT (.inr (.inr (.inl rfl)))
            · rw [List.length_append]; show vs.length + 1 ≤ _; omega
          · have q : ((⟨#[c]⟩ : Str).length : Int) = 0 := by assumption
            rw [hq7] at q
            cases q
      · have h42 : c ≠ 42 := fun e => h3 (.inl e)
        have h63 : c ≠ 63 := fun e => h3 (.inr (.inl e))
        have h91 : c ≠ 91 := fun e => h3 (.inr (.inr e))
        have htok : tokS (some c) = [c] := if_neg h3
        have hs0 : SignAt x ((i0 : Nat) : Int) c := ⟨Int.natCast_nonneg _, hsx 0 c (by rw [htok]; exact Nat.zero_lt_one) (by rw [htok]; rfl)⟩
        have hb0 := hs0.lt
        have hq1 : ((⟨#[c]⟩ : Str) == Str.ofString "*") = false := by rw [str_beq]; exact decide_eq_false fun e => h42 (List.cons.inj e).1
        have hq2 : ((⟨#[c]⟩ : Str) == Str.ofString "?") = false := by rw [str_beq]; exact decide_eq_false fun e => h63 (List.cons.inj e).1
        have hq3 : ((⟨#[c]⟩ : Str) == Str.ofString "[") = false := by rw [str_beq]; exact decide_eq_false fun e => h91 (List.cons.inj e).1
        k_steps
        refine ⟨rfl, _, _, _, _, xs.length - (j + 1), rfl, by assumption, news_sub (by assumption) (by lcg_sub), by omega, j + 1, i0 + 1, _, _, _, _, ps, rfl, hj2, ?_, rfl, rfl, rfl, rfl, rfl, rfl, rfl, ?_, ?_, hps⟩
        · rw [hnx, List.length_append, ← hi0, htok]; rfl
        · rw [hcx]
          exact tells_snoc_some hT ‹_›
        · rw [List.length_append]; show vs.length + 1 ≤ _; omega
end
end

-- part P8
section
/-- a text that the parts take -/
def TokG : List (Option Nat) → List Nat → Prop
  | [], t => t = []
  | some c :: r, t => ∃ s, t = c :: s ∧ TokG r s
  | none :: r, t => ∃ u v, t = u ++ v ∧ TokG r v
theorem tokG_append : ∀ {x y : List (Option Nat)} {t : List Nat}, TokG (x ++ y) t ↔ ∃ t1 t2, t = t1 ++ t2 ∧ TokG x t1 ∧ TokG y t2
  | [], y, t => by
    constructor
    · intro h; exact ⟨[], t, rfl, rfl, h⟩
    · rintro ⟨t1, t2, rfl, h1, h2⟩
      have h1 : t1 = [] := h1
      subst h1; exact h2
  | some c :: r, y, t => by
    constructor
    · rintro ⟨s, rfl, h⟩
      obtain ⟨t1, t2, rfl, h1, h2⟩ := tokG_append.mp h
      exact ⟨c :: t1, t2, rfl, ⟨t1, rfl, h1⟩, h2⟩
    · rintro ⟨t1, t2, rfl, ⟨s, rfl, h1⟩, h2⟩
      exact ⟨s ++ t2, rfl, tokG_append.mpr ⟨s, t2, rfl, h1, h2⟩⟩
  | none :: r, y, t => by
    constructor
    · rintro ⟨u, v, rfl, h⟩
      obtain ⟨t1, t2, rfl, h1, h2⟩ := tokG_append.mp h
      exact ⟨u ++ t1, t2, by simp, ⟨u, t1, rfl, h1⟩, h2⟩
    · rintro ⟨t1, t2, rfl, ⟨u, v, rfl, h1⟩, h2⟩
      exact ⟨u, v ++ t2, by simp, tokG_append.mpr ⟨v, t2, rfl, h1, h2⟩⟩
theorem tokG_stars {r : List (Option Nat)} {t : List Nat} : TokG (none :: none :: r) t ↔ TokG (none :: r) t := by
  constructor
  · rintro ⟨u, v, rfl, u', v', rfl, h⟩
    exact ⟨u ++ u', v', by simp, h⟩
  · rintro ⟨u, v, rfl, h⟩
    exact ⟨u, v, rfl, [], v, rfl, h⟩
theorem tokG_cong {a x y : List (Option Nat)} (h : ∀ t, TokG x t ↔ TokG y t) (t : List Nat) : TokG (a ++ x) t ↔ TokG (a ++ y) t := by
  rw [tokG_append, tokG_append]
  constructor
  · rintro ⟨t1, t2, e, h1, h2⟩; exact ⟨t1, t2, e, h1, (h t2).mp h2⟩
  · rintro ⟨t1, t2, e, h1, h2⟩; exact ⟨t1, t2, e, h1, (h t2).mpr h2⟩
theorem col_iff : ∀ (xs a : List (Option Nat)) (t : List Nat), TokG (xs.foldl colStep a) t ↔ TokG (a ++ xs) t
  | [], a, t => by rw [List.append_nil]; exact Iff.rfl
  | some c :: r, a, t => by
    show TokG (r.foldl colStep (a ++ [some c])) t ↔ _
    rw [col_iff r, List.append_assoc]
    exact Iff.rfl
  | none :: r, a, t => by
    show TokG (r.foldl colStep (if a.getLast? = some none then a else a ++ [none])) t ↔ _
    by_cases h : a.getLast? = some none
    · rw [if_pos h, col_iff r]
      obtain ⟨b, rfl⟩ : ∃ b, a = b ++ [none] := by
        rcases List.eq_nil_or_concat a with rfl | ⟨b, v, rfl⟩
        · cases h
        · rw [List.concat_eq_append] at h ⊢
          simp at h
          exact ⟨b, by rw [h]⟩
      rw [List.append_assoc, List.append_assoc]
      exact tokG_cong (fun t => tokG_stars.symm) t
    · rw [if_neg h, col_iff r, List.append_assoc]
      exact Iff.rfl
theorem colP_iff (xs : List (Option Nat)) (t : List Nat) : TokG (colP xs) t ↔ TokG xs t := col_iff xs [] t
/-- the pieces of the parts, read from the front -/
def readR : List (Option Nat) → List Nat × List (List Nat)
  | [] => ([], [])
  | some c :: r => (c :: (readR r).1, (readR r).2)
  | none :: r => ([], (readR r).1 :: (readR r).2)
theorem read_eq : ∀ (xs : List (Option Nat)) (a : List (List Nat)) (b : List Nat), (xs.foldl readStep (a, b)).1 ++ [(xs.foldl readStep (a, b)).2] = a ++ ((b ++ (readR xs).1) :: (readR xs).2)
  | [], a, b => by simp [readR]
  | some c :: r, a, b => by
    show (r.foldl readStep (a, b ++ [c])).1 ++ _ = _
    rw [show (some c :: r).foldl readStep (a, b) = r.foldl readStep (a, b ++ [c]) from rfl, read_eq r]
    simp [readR]
  | none :: r, a, b => by
    rw [show (none :: r).foldl readStep (a, b) = r.foldl readStep (a ++ [b], []) from rfl, read_eq r]
    simp [readR]
theorem readP_eq (xs : List (Option Nat)) : (readP xs).1 ++ [(readP xs).2] = (readR xs).1 :: (readR xs).2 := by
  unfold readP
  rw [read_eq]; simp
theorem glob_read : ∀ (xs : List (Option Nat)) (t : List Nat), Glob ((readR xs).1 :: (readR xs).2) t ↔ TokG xs t
  | [], t => by
    show (∃ s, t = [] ++ s ∧ s = []) ↔ t = []
    constructor
    · rintro ⟨s, rfl, rfl⟩; rfl
    · rintro rfl; exact ⟨[], rfl, rfl⟩
  | some c :: r, t => by
    constructor
    · rintro ⟨s, rfl, h⟩
      exact ⟨(readR r).1 ++ s, rfl, (glob_read r _).mp ⟨s, rfl, h⟩⟩
    · rintro ⟨s, rfl, h⟩
      obtain ⟨s', rfl, h'⟩ := (glob_read r _).mpr h
      exact ⟨s', rfl, h'⟩
  | none :: r, t => by
    constructor
    · rintro ⟨s, rfl, u, v, rfl, h⟩
      exact ⟨u, (readR r).1 ++ v, rfl, (glob_read r _).mp ⟨v, rfl, h⟩⟩
    · rintro ⟨u, v, rfl, h⟩
      obtain ⟨s, rfl, h'⟩ := (glob_read r _).mpr h
      exact ⟨_, rfl, u, s, rfl, h'⟩
theorem takes_read (xs : List (Option Nat)) (t : List Nat) : takesP ((readP xs).1 ++ [(readP xs).2]) t = true ↔ TokG xs t := by
  rw [takes_iff, readP_eq, glob_read]
/-- the parts of a pattern: pieces with a star between each two -/
def toksOf : List (List Nat) → List (Option Nat)
  | [] => []
  | [p] => p.map some
  | p :: r => p.map some ++ none :: toksOf r
theorem readR_some (p : List Nat) (r : List (Option Nat)) : readR (p.map some ++ r) = (p ++ (readR r).1, (readR r).2) := by
  induction p with
  | nil => rfl
  | cons c p ih => show readR (some c :: (p.map some ++ r)) = _; rw [readR, ih]; rfl
theorem readR_toks : ∀ {P : List (List Nat)}, P ≠ [] → (readR (toksOf P)).1 :: (readR (toksOf P)).2 = P
  | [p], _ => by
    have := readR_some p []
    rw [List.append_nil] at this
    show (readR (p.map some)).1 :: (readR (p.map some)).2 = _
    rw [this]; simp [readR]
  | p :: q :: r, _ => by
    show (readR (p.map some ++ none :: toksOf (q :: r))).1 :: (readR (p.map some ++ none :: toksOf (q :: r))).2 = _
    rw [readR_some]
    have ih := readR_toks (P := q :: r) (by simp)
    show (p ++ []) :: ((readR (toksOf (q :: r))).1 :: (readR (toksOf (q :: r))).2) = _
    rw [ih, List.append_nil]
theorem takes_toks {P : List (List Nat)} (hP : P ≠ []) (t : List Nat) : takesP P t = true ↔ TokG (toksOf P) t := by
  rw [takes_iff, ← glob_read, readR_toks hP]
/-- the parts of the escaped pattern -/
def escX (tab : List (Nat × List Nat)) (xs : List (Option Nat)) : List (Option Nat) := xs.flatMap fun o => match o with | none => [none] | some c => (escT tab c).map some
theorem tokG_some (p : List Nat) {r : List (Option Nat)} {t : List Nat} : TokG (p.map some ++ r) t ↔ ∃ s, t = p ++ s ∧ TokG r s := by
  induction p generalizing t with
  | nil => simp
  | cons c p ih =>
    constructor
    · rintro ⟨s, rfl, h⟩
      obtain ⟨s', rfl, h'⟩ := ih.mp h
      exact ⟨s', rfl, h'⟩
    · rintro ⟨s, rfl, h⟩
      exact ⟨p ++ s, rfl, ih.mpr ⟨s, rfl, h⟩⟩
theorem esc_append {tab : List (Nat × List Nat)} {a b : List Nat} : esc tab (a ++ b) = esc tab a ++ esc tab b := List.flatMap_append
/-- (A) what the pattern takes, its escaped form takes escaped -/
theorem told_of_fits {tab : List (Nat × List Nat)} : ∀ {xs : List (Option Nat)} {t : List Nat}, TokG xs t → TokG (escX tab xs) (esc tab t)
  | [], t, h => by
    have h : t = [] := h
    subst h; rfl
  | some c :: r, t, ⟨s, e, h⟩ => by
    subst e
    show TokG ((escT tab c).map some ++ escX tab r) _
    exact (tokG_some _).mpr ⟨esc tab s, rfl, told_of_fits h⟩
  | none :: r, t, ⟨u, v, e, h⟩ => by
    subst e
    exact ⟨esc tab u, esc tab v, esc_append, told_of_fits h⟩
end

-- part P9
section
structure TabGood (tab : List (Nat × List Nat)) : Prop where
  look : ∀ p ∈ tab, tab.lookup p.1 = some p.2
  amp : ∀ p ∈ tab, p.2.head? = some 38
  amps : (tab.lookup 38).isSome = true
  body : ∀ p ∈ tab, ∀ x ∈ p.2.drop 1, tab.lookup x = none
  free : ∀ p ∈ tab, ∀ q ∈ tab, p.2 <+: q.2 → p.1 = q.1
section
variable {tab : List (Nat × List Nat)}
theorem escT_none {a : Nat} (h : tab.lookup a = none) : escT tab a = [a] := by unfold escT; rw [h]; rfl
theorem escT_some {a : Nat} {d : List Nat} (h : tab.lookup a = some d) : escT tab a = d := by unfold escT; rw [h]; rfl
theorem esc_cons {a : Nat} {l : List Nat} : esc tab (a :: l) = escT tab a ++ esc tab l := rfl
theorem esc_of_none : ∀ {l : List Nat}, (∀ x ∈ l, tab.lookup x = none) → esc tab l = l
  | [], _ => rfl
  | a :: r, h => by rw [esc_cons, escT_none (h a (.head _)), esc_of_none fun x hx => h x (.tail _ hx)]; rfl
theorem ref_form (H : TabGood tab) {p : Nat × List Nat} (hp : p ∈ tab) : ∃ b, p.2 = 38 :: b ∧ ∀ x ∈ b, tab.lookup x = none := by
  have h := H.amp p hp
  have hb := H.body p hp
  cases e : p.2 with
  | nil => rw [e] at h; cases h
  | cons x b =>
    rw [e] at h hb
    cases h
    exact ⟨b, rfl, hb⟩
theorem code_cancel (H : TabGood tab) {a b : Nat} {x y : List Nat} (h : escT tab a ++ x = escT tab b ++ y) : a = b := by
  cases ha : tab.lookup a with
  | none =>
    rw [escT_none ha] at h
    cases hb : tab.lookup b with
    | none => rw [escT_none hb] at h; exact (List.cons.inj h).1
    | some d =>
      obtain ⟨bd, e, _⟩ := ref_form H (lookup_mem hb)
      have e : d = 38 :: bd := e
      rw [escT_some hb, e] at h
      have h38 : a = 38 := (List.cons.inj h).1
      have := H.amps
      rw [← h38, ha] at this
      cases this
  | some c =>
    cases hb : tab.lookup b with
    | none =>
      obtain ⟨bd, e, _⟩ := ref_form H (lookup_mem ha)
      have e : c = 38 :: bd := e
      rw [escT_some ha, escT_none hb, e] at h
      have h38 : 38 = b := (List.cons.inj h).1
      have := H.amps
      rw [h38, hb] at this
      cases this
    | some d =>
      rw [escT_some ha, escT_some hb] at h
      have h1 : c <+: d ++ y := ⟨x, h⟩
      rcases List.prefix_or_prefix_of_prefix h1 (List.prefix_append d y) with h2 | h2
      · exact H.free _ (lookup_mem ha) _ (lookup_mem hb) h2
      · exact (H.free _ (lookup_mem hb) _ (lookup_mem ha) h2).symm
theorem escT_ne (H : TabGood tab) (a : Nat) : escT tab a ≠ [] := by
  cases ha : tab.lookup a with
  | none => rw [escT_none ha]; simp
  | some c =>
    obtain ⟨bd, e, _⟩ := ref_form H (lookup_mem ha)
    have e : c = 38 :: bd := e
    rw [escT_some ha, e]; simp
theorem pre_cancel (H : TabGood tab) : ∀ {l s t : List Nat}, esc tab l ++ s = esc tab t → ∃ t', t = l ++ t' ∧ s = esc tab t'
  | [], s, t, h => ⟨t, rfl, h⟩
  | a :: l, s, [], h => by
    rw [esc_cons, List.append_assoc] at h
    have := List.append_eq_nil_iff.mp h
    exact absurd this.1 (escT_ne H a)
  | a :: l, s, b :: t, h => by
    rw [esc_cons, esc_cons, List.append_assoc] at h
    obtain rfl := code_cancel H h
    obtain ⟨t', rfl, e⟩ := pre_cancel H (List.append_cancel_left h)
    exact ⟨t', rfl, e⟩
theorem tail_pre (H : TabGood tab) : ∀ {q tail : List Nat}, 38 ∉ tail → tail <+: esc tab q → tail <+: q
  | _, [], _, _ => List.nil_prefix
  | [], x :: tl, _, h => by have := List.prefix_nil.mp h; cases this
  | a :: q, x :: tl, hn, h => by
    rw [esc_cons] at h
    cases ha : tab.lookup a with
    | none =>
      rw [escT_none ha] at h
      obtain ⟨e, h2⟩ := List.cons_prefix_cons.mp h
      rw [e]
      exact List.cons_prefix_cons.mpr ⟨rfl, tail_pre H (fun hm => hn (.tail _ hm)) h2⟩
    | some d =>
      obtain ⟨bd, e, _⟩ := ref_form H (lookup_mem ha)
      have e : d = 38 :: bd := e
      rw [escT_some ha, e] at h
      obtain ⟨e2, _⟩ := List.cons_prefix_cons.mp h
      exact absurd (e2 ▸ List.Mem.head _) hn
theorem no_amp (H : TabGood tab) {q : List Nat} (h : 38 ∉ esc tab q) : esc tab q = q := by
  refine esc_of_none fun x hx => ?_
  cases e : tab.lookup x with
  | none => rfl
  | some d =>
    refine absurd ?_ h
    obtain ⟨bd, e2, _⟩ := ref_form H (lookup_mem e)
    have e2 : d = 38 :: bd := e2
    refine List.mem_flatMap.mpr ⟨x, hx, ?_⟩
    rw [escT_some e, e2]; exact .head _
theorem boundary (H : TabGood tab) : ∀ {t u v : List Nat}, u ++ v = esc tab t → (∃ t1 t2, t = t1 ++ t2 ∧ u = esc tab t1) ∨
    ∃ p f tail t2, p ∈ tab ∧ p.2 = f ++ tail ∧ f ≠ [] ∧ tail ≠ [] ∧ v = tail ++ esc tab t2
  | [], u, v, h => .inl ⟨[], [], rfl, (List.append_eq_nil_iff.mp h).1⟩
  | b :: r, u, v, h => by
    rw [esc_cons] at h
    rcases List.append_eq_append_iff.mp h with ⟨a, e1, e2⟩ | ⟨c, e1, e2⟩
    · by_cases hu : u = []
      · exact .inl ⟨[], b :: r, rfl, hu⟩
      · by_cases ha : a = []
        · subst ha
          rw [List.append_nil] at e1
          exact .inl ⟨[b], r, rfl, by rw [esc_cons, e1]; simp [esc]⟩
        · cases hb : tab.lookup b with
          | none =>
            rw [escT_none hb] at e1
            cases u with
            | nil => exact absurd rfl hu
            | cons x u =>
              have := (List.cons.inj e1).2
              exact absurd (List.append_eq_nil_iff.mp this.symm).2 ha
          | some d =>
            rw [escT_some hb] at e1
            exact .inr ⟨(b, d), u, a, r, lookup_mem hb, e1, hu, ha, e2⟩
    · rcases boundary H e2.symm with ⟨t1, t2, rfl, rfl⟩ | h2
      · exact .inl ⟨b :: t1, t2, rfl, e1⟩
      · exact .inr h2
/-- no piece is out of step -/
def NoHit (tab : List (Nat × List Nat)) : List (List Nat) → Prop
  | [] => True
  | q :: B => (q ≠ [] → ∀ p ∈ tab, ∀ f tail, p.2 = f ++ tail → f ≠ [] → tail ≠ [] → ¬ tail <+: q ∧ (B ≠ [] → ¬ q <+: tail)) ∧ NoHit tab B
theorem rest_back (H : TabGood tab) : ∀ {Q : List (List Nat)} {t : List Nat}, NoHit tab Q → Rest (Q.map (esc tab)) (esc tab t) → Rest Q t
  | [], t, _, h => by
    have h : esc tab t = [] := h
    obtain ⟨t', e, _⟩ := pre_cancel H (l := t) (s := []) (t := []) (by rw [h]; rfl)
    have := List.append_eq_nil_iff.mp e.symm
    exact this.1
  | q :: B, t, hn, ⟨u, v, e, h⟩ => by
    by_cases hq : q = []
    · subst hq
      by_cases hB : B = []
      · subst hB
        exact ⟨t, [], by simp, rfl⟩
      · have e : esc tab t = u ++ v := e
        have h2 := rest_mono (x := u) (r := B.map (esc tab)) (by simpa using hB) h
        rw [← e] at h2
        exact ⟨[], t, rfl, rest_back H hn.2 h2⟩
    · rcases boundary H e.symm with ⟨t1, t2, rfl, rfl⟩ | ⟨p, f, tail, t2, hp, hd, hf, ht, ev⟩
      · rw [esc_append] at e
        have e := List.append_cancel_left e
        obtain ⟨t3, rfl, rfl⟩ := pre_cancel H e.symm
        exact ⟨t1, t3, rfl, rest_back H hn.2 h⟩
      · exfalso
        obtain ⟨k1, k2⟩ := hn.1 hq p hp f tail hd hf ht
        obtain ⟨bd, e38, hbd⟩ := ref_form H hp
        have htl : ∀ x ∈ tail, tab.lookup x = none := by
          cases f with
          | nil => exact absurd rfl hf
          | cons y f =>
            rw [e38] at hd
            have := (List.cons.inj hd).2
            intro x hx
            exact hbd x (this ▸ List.mem_append_right _ hx)
        have h38 : 38 ∉ tail := fun hm => by
          have := H.amps
          rw [htl _ hm] at this
          cases this
        have hpre : tail <+: esc tab q ∨ esc tab q <+: tail := List.prefix_or_prefix_of_prefix (l₃ := esc tab q ++ v) ⟨_, ev.symm⟩ (List.prefix_append _ _)
        rcases hpre with hpre | hpre
        · exact k1 (tail_pre H h38 hpre)
        · have hnq : 38 ∉ esc tab q := fun hm => h38 (hpre.subset hm)
          rw [no_amp H hnq] at hpre ev
          by_cases hB : B = []
          · subst hB
            have hv : v = [] := h
            subst hv
            rw [List.append_nil] at ev
            exact k1 ⟨_, ev.symm⟩
          · exact k2 hB hpre
/-- (C) with no piece out of step, what the escaped pattern takes escaped, the pattern takes -/
theorem glob_back (H : TabGood tab) {p : List Nat} {Q : List (List Nat)} {t : List Nat} (hn : NoHit tab Q) (h : Glob ((p :: Q).map (esc tab)) (esc tab t)) : Glob (p :: Q) t := by
  obtain ⟨s, e, h⟩ := h
  obtain ⟨t', rfl, rfl⟩ := pre_cancel H e.symm
  exact ⟨t', rfl, rest_back H hn h⟩
end
end

-- part P10
section
section
variable {tab : List (Nat × List Nat)}
theorem escX_append {x y : List (Option Nat)} : escX tab (x ++ y) = escX tab x ++ escX tab y := List.flatMap_append
theorem escX_some : ∀ p : List Nat, escX tab (p.map some) = (esc tab p).map some
  | [] => rfl
  | c :: p => by
    show (escT tab c).map some ++ escX tab (p.map some) = _
    rw [escX_some p, esc_cons, List.map_append]
theorem escX_toks : ∀ P : List (List Nat), escX tab (toksOf P) = toksOf (P.map (esc tab))
  | [] => rfl
  | [p] => escX_some p
  | p :: q :: r => by
    show escX tab (p.map some ++ none :: toksOf (q :: r)) = (esc tab p).map some ++ none :: toksOf ((q :: r).map (esc tab))
    rw [escX_append, escX_some, ← escX_toks (q :: r)]
    rfl
theorem rest_glue : ∀ {A R : List (List Nat)} {s : List Nat}, Rest R s → Rest (A ++ R) (A.flatten ++ s)
  | [], _, _, h => h
  | a :: A, R, s, h => ⟨[], A.flatten ++ s, by simp, rest_glue h⟩
theorem rest_flat (B : List (List Nat)) : Rest B B.flatten := by
  have := rest_glue (A := B) (R := []) (s := []) rfl
  simpa using this
theorem esc_flat : ∀ A : List (List Nat), esc tab A.flatten = (A.map (esc tab)).flatten
  | [] => rfl
  | a :: A => by rw [List.flatten_cons, esc_append, esc_flat A]; rfl
theorem out_mem {P : List (List Nat)} {tr : List Nat} (h : tr ∈ outP P tab) : ∃ j p k, 1 ≤ j ∧ j < P.length ∧ p ∈ tab ∧ k < p.2.length - 1 ∧ hitP P j (p.2.drop (1 + k)) = true ∧
    tr = ((P.take j).flatten ++ [p.1]) ++ ((P.getD j []).drop (p.2.drop (1 + k)).length ++ (P.drop (j + 1)).flatten) := by
  unfold outP at h
  obtain ⟨j, hj, h⟩ := List.mem_flatMap.mp h
  obtain ⟨p, hp, h⟩ := List.mem_flatMap.mp h
  obtain ⟨k, hk, h⟩ := List.mem_flatMap.mp h
  rw [List.mem_range'_1] at hj
  rw [List.mem_range] at hk
  unfold outK at h
  split at h
  · rename_i hh
    exact ⟨j, p, k, hj.1, by omega, hp, hk, hh, List.mem_singleton.mp h⟩
  · cases h
theorem hit_split {P : List (List Nat)} {j : Nat} {tail : List Nat} (h : hitP P j tail = true) : P.getD j [] ≠ [] ∧ ((j + 1 < P.length ∧ P.getD j [] <+: tail) ∨ tail <+: P.getD j []) := by
  unfold hitP at h
  simpa using h
/-- (B) the texts with a reference's sign in place of a piece's front are taken -/
theorem told_of_out (H : TabGood tab) {P : List (List Nat)} {tr : List Nat} (h : tr ∈ outP P tab) : Glob (P.map (esc tab)) (esc tab tr) := by
  obtain ⟨j, p, k, hj1, hj2, hp, hk, hh, rfl⟩ := out_mem h
  obtain ⟨hq, hc⟩ := hit_split hh
  obtain ⟨bd, ebd, hbd⟩ := ref_form H hp
  have etail : p.2.drop (1 + k) = bd.drop k := by rw [ebd, Nat.add_comm]; rfl
  rw [etail] at hc ⊢
  have hd : p.2 = (38 :: bd.take k) ++ bd.drop k := by rw [ebd, List.cons_append, List.take_append_drop]
  have hlook := H.look p hp
  generalize htl : bd.drop k = tail at *
  have htn : ∀ x ∈ tail, tab.lookup x = none := fun x hx => hbd x (List.mem_of_mem_drop (htl ▸ hx))
  generalize hqq : P.getD j [] = q at *
  obtain ⟨p0, A, B, rfl, rfl⟩ : ∃ p0 A B, P = (p0 :: A) ++ q :: B ∧ j = (p0 :: A).length := by
    have hg : P[j] = q := by rw [← hqq, List.getD_eq_getElem?_getD, List.getElem?_eq_getElem hj2]; rfl
    have e : P = P.take j ++ q :: P.drop (j + 1) := by
      have := (List.take_append_drop j P).symm
      rw [List.drop_eq_getElem_cons hj2, hg] at this
      exact this
    cases hA : P.take j with
    | nil =>
      have := congrArg List.length hA
      rw [List.length_take, List.length_nil] at this
      omega
    | cons p0 A =>
      refine ⟨p0, A, P.drop (j + 1), by rw [← hA]; exact e, ?_⟩
      rw [← hA, List.length_take]; omega
  have e1 : ((p0 :: A) ++ q :: B).take (p0 :: A).length = p0 :: A := List.take_left
  have e2 : ((p0 :: A) ++ q :: B).drop ((p0 :: A).length + 1) = B := by
    rw [← List.drop_drop, List.drop_left]; rfl
  rw [e1, e2]
  have core : Rest ((q :: B).map (esc tab)) (p.2 ++ (esc tab (q.drop tail.length) ++ (B.map (esc tab)).flatten)) := by
    rcases hc with ⟨hjl, x, hx⟩ | ⟨x, hx⟩
    · have hB : B ≠ [] := by
        rintro rfl
        simp at hjl
      have hqn : esc tab q = q := esc_of_none fun y hy => htn y (by rw [← hx]; exact List.mem_append_left _ hy)
      have hdr : q.drop tail.length = [] := List.drop_eq_nil_iff.mpr (by rw [← hx]; simp)
      rw [hdr]
      refine ⟨38 :: bd.take k, x ++ (B.map (esc tab)).flatten, ?_, rest_mono (by simpa using hB) (rest_flat _)⟩
      rw [hqn, hd, ← hx]
      simp [esc]
    · have hte : esc tab tail = tail := esc_of_none htn
      have hdr : q.drop tail.length = x := by rw [← hx, List.drop_left]
      rw [hdr]
      refine ⟨38 :: bd.take k, (B.map (esc tab)).flatten, ?_, rest_flat _⟩
      rw [hd, ← hx, esc_append, hte]
      simp
  refine ⟨(A.map (esc tab)).flatten ++ (p.2 ++ (esc tab (q.drop tail.length) ++ (B.map (esc tab)).flatten)), ?_, ?_⟩
  · rw [List.flatten_cons]
    simp only [esc_append, esc_flat, List.append_assoc]
    rw [show esc tab [p.1] = p.2 from by rw [esc_cons, escT_some hlook]; simp [esc]]
  · show Rest ((A ++ q :: B).map (esc tab)) _
    rw [List.map_append]
    exact rest_glue core
theorem no_hit {P : List (List Nat)} (h : outP P tab = []) : ∀ (n : Nat) {j : Nat}, 1 ≤ j → P.length - j = n → NoHit tab (P.drop j)
  | 0, j, h1, hn => by
    rw [List.drop_eq_nil_iff.mpr (by omega)]; trivial
  | n + 1, j, h1, hn => by
    have hj : j < P.length := by omega
    rw [List.drop_eq_getElem_cons hj]
    refine ⟨fun hq p hp f tail hd hf ht => ?_, no_hit h n (by omega) (by omega)⟩
    have hfl : 1 ≤ f.length := by cases f with | nil => exact absurd rfl hf | cons _ _ => simp
    have htl : 1 ≤ tail.length := by cases tail with | nil => exact absurd rfl ht | cons _ _ => simp
    have hdl : p.2.length = f.length + tail.length := by rw [hd, List.length_append]
    have hdr : p.2.drop (1 + (f.length - 1)) = tail := by rw [show 1 + (f.length - 1) = f.length by omega, hd, List.drop_left]
    have hno : hitP P j tail = false := by
      cases hh : hitP P j tail with
      | false => rfl
      | true =>
        exfalso
        have hm : ((P.take j).flatten ++ [p.1]) ++ ((P.getD j []).drop tail.length ++ (P.drop (j + 1)).flatten) ∈ outP P tab := by
          unfold outP
          refine List.mem_flatMap.mpr ⟨j, List.mem_range'_1.mpr ⟨h1, by omega⟩, List.mem_flatMap.mpr ⟨p, hp, List.mem_flatMap.mpr ⟨f.length - 1, List.mem_range.mpr (by omega), ?_⟩⟩⟩
          rw [hdr]
          unfold outK
          rw [if_pos hh]
          exact .head _
        rw [h] at hm
        cases hm
    have hg : P.getD j [] = P[j] := by rw [List.getD_eq_getElem?_getD, List.getElem?_eq_getElem hj]; rfl
    unfold hitP at hno
    rw [hg, decide_eq_true hq, Bool.true_and, Bool.or_eq_false_iff] at hno
    refine ⟨of_decide_eq_false hno.2, fun hB hpre => ?_⟩
    have hjl : j + 1 < P.length := by
      have := List.length_pos_iff.mpr hB
      rw [List.length_drop] at this
      omega
    rw [decide_eq_true hjl, decide_eq_true hpre] at hno
    cases hno.1
end
theorem tab_good : ∀ k, k < 5 → TabGood (tabAt k) := by
  intro k hk
  match k, hk with
  | 0, _ => exact ⟨by decide, by decide, by decide, by decide, by decide⟩
  | 1, _ => exact ⟨by decide, by decide, by decide, by decide, by decide⟩
  | 2, _ => exact ⟨by decide, by decide, by decide, by decide, by decide⟩
  | 3, _ => exact ⟨by decide, by decide, by decide, by decide, by decide⟩
  | 4, _ => exact ⟨by decide, by decide, by decide, by decide, by decide⟩
/-- the plain law -/
theorem plain_bare {P : List (List Nat)} (hP : P ≠ []) (t : List Nat) : takesP ((readP (colP (toksOf P))).1 ++ [(readP (colP (toksOf P))).2]) t = takesP P t := by
  rw [Bool.eq_iff_iff, takes_read, colP_iff, takes_toks hP]
theorem told_iff {tab : List (Nat × List Nat)} {P : List (List Nat)} (hP : P ≠ []) (s : List Nat) : takesP ((readP (colP (escX tab (toksOf P)))).1 ++ [(readP (colP (escX tab (toksOf P)))).2]) s = true ↔ Glob (P.map (esc tab)) s := by
  rw [takes_read, colP_iff, escX_toks, ← takes_toks (by simpa using hP), takes_iff]
theorem plain_due {k : Nat} (hk : k < 5) {P : List (List Nat)} (hP : P ≠ []) {t : List Nat} (h : takesP P t = true ∨ t ∈ outP P (tabAt k)) :
    takesP ((readP (colP (escX (tabAt k) (toksOf P)))).1 ++ [(readP (colP (escX (tabAt k) (toksOf P)))).2]) (esc (tabAt k) t) = true := by
  rcases h with h | h
  · rw [takes_read, colP_iff]
    exact told_of_fits ((takes_toks hP t).mp h)
  · exact (told_iff hP _).mpr (told_of_out (tab_good k hk) h)
theorem plain_back {k : Nat} (hk : k < 5) {P : List (List Nat)} (hP : P ≠ []) {t : List Nat} (ho : outP P (tabAt k) = [])
    (h : takesP ((readP (colP (escX (tabAt k) (toksOf P)))).1 ++ [(readP (colP (escX (tabAt k) (toksOf P)))).2]) (esc (tabAt k) t) = true) : takesP P t = true := by
  have hg := (told_iff hP _).mp h
  cases P with
  | nil => exact absurd rfl hP
  | cons p Q =>
    rw [takes_iff]
    exact glob_back (tab_good k hk) (no_hit ho _ (j := 1) (Nat.le_refl _) rfl) hg
end

-- part P11
section
structure TabClean (tab : List (Nat × List Nat)) : Prop where
  star : tab.lookup 42 = none
  ask : tab.lookup 63 = none
  open_ : tab.lookup 91 = none
  shut : tab.lookup 93 = none
  body : ∀ p ∈ tab, ∀ y ∈ p.2, ¬ (y = 42 ∨ y = 63 ∨ y = 91) ∧ y < 128
  short : ∀ p ∈ tab, p.2.length ≤ 6
section
variable {tab : List (Nat × List Nat)}
theorem patOf_append {x y : List (Option Nat)} : patOf (x ++ y) = patOf x ++ patOf y := List.flatMap_append
theorem patOf_some : ∀ {l : List Nat}, (∀ y ∈ l, ¬ (y = 42 ∨ y = 63 ∨ y = 91)) → patOf (l.map some) = l
  | [], _ => rfl
  | a :: r, h => by
    show tokS (some a) ++ patOf (r.map some) = _
    rw [patOf_some fun y hy => h y (.tail _ hy)]
    show (if a = 42 ∨ a = 63 ∨ a = 91 then [91, a, 93] else [a]) ++ r = _
    rw [if_neg (h a (.head _))]; rfl
theorem esc_tok (H : TabClean tab) (o : Option Nat) : esc tab (tokS o) = patOf (escX tab [o]) := by
  cases o with
  | none =>
    show esc tab [42] = _
    rw [esc_cons, escT_none H.star]; rfl
  | some c =>
    have e : escX tab [some c] = (escT tab c).map some := by show (escT tab c).map some ++ [] = _; simp
    rw [e]
    by_cases h3 : c = 42 ∨ c = 63 ∨ c = 91
    · have hc : tab.lookup c = none := by rcases h3 with h | h | h <;> rw [h] <;> first | exact H.star | exact H.ask | exact H.open_
      have h1 : tokS (some c) = [91, c, 93] := if_pos h3
      rw [h1, esc_cons, esc_cons, esc_cons, escT_none H.open_, escT_none hc, escT_none H.shut]
      show [91] ++ ([c] ++ ([93] ++ [])) = tokS (some c) ++ []
      rw [h1]; rfl
    · have h1 : tokS (some c) = [c] := if_neg h3
      rw [h1]
      rw [patOf_some fun y hy => ?_]
      · rw [esc_cons]; show escT tab c ++ [] = _; simp
      · cases hc : tab.lookup c with
        | none => rw [escT_none hc] at hy; rw [List.mem_singleton.mp hy]; exact h3
        | some d => rw [escT_some hc] at hy; exact (H.body _ (lookup_mem hc) y hy).1
theorem esc_pat (H : TabClean tab) : ∀ xs : List (Option Nat), esc tab (patOf xs) = patOf (escX tab xs)
  | [] => rfl
  | o :: r => by
    show esc tab (tokS o ++ patOf r) = _
    rw [esc_append, esc_tok H, esc_pat H r, ← patOf_append, ← escX_append]
    rfl
theorem escX_low (H : TabClean tab) {xs : List (Option Nat)} (h : ∀ c, some c ∈ xs → c < 128) : ∀ c, some c ∈ escX tab xs → c < 128 := by
  intro c hc
  obtain ⟨o, ho, hm⟩ := List.mem_flatMap.mp hc
  cases o with
  | none => simp at hm
  | some a =>
    obtain ⟨y, hy, e⟩ := List.mem_map.mp hm
    cases e
    cases ha : tab.lookup a with
    | none => rw [escT_none ha] at hy; rw [List.mem_singleton.mp hy]; exact h a ho
    | some d => rw [escT_some ha] at hy; exact (H.body _ (lookup_mem ha) c hy).2
theorem escT_short (H : TabClean tab) (a : Nat) : (escT tab a).length ≤ 6 := by
  cases ha : tab.lookup a with
  | none => rw [escT_none ha]; show 1 ≤ 6; decide
  | some d => rw [escT_some ha]; exact H.short _ (lookup_mem ha)
theorem esc_short (H : TabClean tab) : ∀ l : List Nat, (esc tab l).length ≤ 6 * l.length
  | [] => Nat.le_refl _
  | a :: r => by
    rw [esc_cons, List.length_append, List.length_cons]
    have := escT_short H a
    have := esc_short H r
    omega
end
theorem tab_clean : ∀ k, k < 5 → TabClean (tabAt k) := by
  intro k hk
  match k, hk with
  | 0, _ => exact ⟨by decide, by decide, by decide, by decide, by decide, by decide⟩
  | 1, _ => exact ⟨by decide, by decide, by decide, by decide, by decide, by decide⟩
  | 2, _ => exact ⟨by decide, by decide, by decide, by decide, by decide, by decide⟩
  | 3, _ => exact ⟨by decide, by decide, by decide, by decide, by decide, by decide⟩
  | 4, _ => exact ⟨by decide, by decide, by decide, by decide, by decide, by decide⟩
theorem toks_mem : ∀ {P : List (List Nat)} {c : Nat}, some c ∈ toksOf P → ∃ p ∈ P, c ∈ p
  | [p], c, h => by
    obtain ⟨y, hy, e⟩ := List.mem_map.mp (show some c ∈ p.map some from h)
    cases e
    exact ⟨p, .head _, hy⟩
  | p :: q :: r, c, h => by
    rcases List.mem_append.mp (show some c ∈ p.map some ++ none :: toksOf (q :: r) from h) with h | h
    · obtain ⟨y, hy, e⟩ := List.mem_map.mp h
      cases e
      exact ⟨p, .head _, hy⟩
    · rcases List.mem_cons.mp h with h | h
      · cases h
      · obtain ⟨p', hp, hc⟩ := toks_mem h
        exact ⟨p', .tail _ hp, hc⟩
theorem tokS_short (o : Option Nat) : (tokS o).length ≤ 3 := by
  cases o with
  | none => decide
  | some c => unfold tokS; dsimp only; split <;> simp
theorem patOf_short : ∀ xs : List (Option Nat), (patOf xs).length ≤ 3 * xs.length
  | [] => Nat.le_refl _
  | o :: r => by
    show (tokS o ++ patOf r).length ≤ _
    rw [List.length_append, List.length_cons]
    have := tokS_short o
    have := patOf_short r
    omega
theorem toks_short : ∀ {P : List (List Nat)}, (∀ p ∈ P, p.length ≤ 32) → (toksOf P).length ≤ 33 * P.length
  | [], _ => Nat.le_refl _
  | [p], h => by
    show (p.map some).length ≤ _
    have := h p (.head _)
    rw [List.length_map]; show _ ≤ 33 * 1; omega
  | p :: q :: r, h => by
    show (p.map some ++ none :: toksOf (q :: r)).length ≤ _
    have h1 := h p (.head _)
    have h2 := toks_short (P := q :: r) fun p hp => h p (.tail _ hp)
    rw [List.length_append, List.length_map, List.length_cons, List.length_cons]
    omega
end

-- part P12
section
theorem readR_len : ∀ xs : List (Option Nat), (readR xs).1.length ≤ xs.length ∧ ∀ y ∈ (readR xs).2, y.length ≤ xs.length
  | [] => ⟨Nat.le_refl _, fun y hy => nomatch hy⟩
  | some c :: r => by
    have ih := readR_len r
    refine ⟨?_, fun y hy => Nat.le_succ_of_le (ih.2 y hy)⟩
    show ((readR r).1.length + 1) ≤ r.length + 1
    have := ih.1; omega
  | none :: r => by
    have ih := readR_len r
    refine ⟨Nat.zero_le _, fun y hy => ?_⟩
    rcases List.mem_cons.mp hy with rfl | hy
    · exact Nat.le_succ_of_le ih.1
    · exact Nat.le_succ_of_le (ih.2 y hy)
theorem readR_app : ∀ x y : List (Option Nat), (readR (x ++ y)).2.length = (readR x).2.length + (readR y).2.length
  | [], y => by simp [readR]
  | some c :: r, y => readR_app r y
  | none :: r, y => by
    show (readR (r ++ y)).2.length + 1 = (readR r).2.length + 1 + _
    rw [readR_app r y]; omega
theorem col_len : ∀ xs a : List (Option Nat), (xs.foldl colStep a).length ≤ a.length + xs.length ∧ (readR (xs.foldl colStep a)).2.length ≤ (readR (a ++ xs)).2.length
  | [], a => by rw [List.append_nil]; exact ⟨Nat.le_refl _, Nat.le_refl _⟩
  | some c :: r, a => by
    have ih := col_len r (a ++ [some c])
    rw [List.length_append] at ih
    rw [List.append_assoc] at ih
    refine ⟨?_, ih.2⟩
    have := ih.1
    show _ ≤ a.length + (r.length + 1)
    show (r.foldl colStep (a ++ [some c])).length ≤ _
    simp only [List.length_cons, List.length_nil] at this
    omega
  | none :: r, a => by
    show (r.foldl colStep (if a.getLast? = some none then a else a ++ [none])).length ≤ a.length + (r.length + 1) ∧ (readR (r.foldl colStep (if a.getLast? = some none then a else a ++ [none]))).2.length ≤ _
    split
    · have ih := col_len r a
      refine ⟨by omega, Nat.le_trans ih.2 ?_⟩
      rw [readR_app, readR_app]
      show _ ≤ _ + ((readR r).2.length + 1)
      omega
    · have ih := col_len r (a ++ [none])
      rw [List.length_append, List.append_assoc] at ih
      simp only [List.length_cons, List.length_nil] at ih
      exact ⟨by omega, ih.2⟩
theorem colP_len (xs : List (Option Nat)) : (colP xs).length ≤ xs.length ∧ (readR (colP xs)).2.length ≤ (readR xs).2.length := by
  have h := col_len xs []
  rw [List.nil_append] at h
  exact ⟨Nat.le_trans h.1 (by simp), h.2⟩
theorem toks_nones {P : List (List Nat)} (hP : P ≠ []) : (readR (toksOf P)).2.length + 1 = P.length := by
  have := congrArg List.length (readR_toks hP)
  simpa using this
theorem escX_len {tab : List (Nat × List Nat)} (H : TabClean tab) : ∀ xs : List (Option Nat), (escX tab xs).length ≤ 6 * xs.length
  | [] => Nat.le_refl _
  | none :: r => by
    show (none :: escX tab r).length ≤ _
    have := escX_len H r
    simp only [List.length_cons]; omega
  | some c :: r => by
    show ((escT tab c).map some ++ escX tab r).length ≤ _
    have := escX_len H r
    have := escT_short H c
    rw [List.length_append, List.length_map, List.length_cons]; omega
/-- the pieces read are few and short -/
theorem read_bounds {xs : List (Option Nat)} {P : List (List Nat)} (hP : P ≠ []) (hx : (readR xs).2.length ≤ (readR (toksOf P)).2.length) {ps : List Str} (h : ps.map (·.cps.toList) = (readP (colP xs)).1 ++ [(readP (colP xs)).2]) :
    ps ≠ [] ∧ ps.length ≤ P.length ∧ ∀ y ∈ ps, y.length ≤ xs.length := by
  rw [readP_eq] at h
  have hl := congrArg List.length h
  rw [List.length_map, List.length_cons] at hl
  have h1 := colP_len xs
  have h2 := toks_nones hP
  refine ⟨fun e => (by rw [e] at hl; cases hl), by omega, fun y hy => ?_⟩
  have hm : y.cps.toList ∈ (readR (colP xs)).1 :: (readR (colP xs)).2 := h ▸ List.mem_map_of_mem hy
  have h3 := readR_len (colP xs)
  have : y.cps.toList.length ≤ (colP xs).length := by
    rcases List.mem_cons.mp hm with e | e
    · rw [e]; exact h3.1
    · exact h3.2 _ e
  have e4 : y.cps.toList.length = y.length := by simp [Str.length]
  omega
theorem escX_nones {tab : List (Nat × List Nat)} {P : List (List Nat)} (hP : P ≠ []) : (readR (escX tab (toksOf P))).2.length ≤ (readR (toksOf P)).2.length := by
  have h1 := toks_nones hP
  have h2 := toks_nones (P := P.map (esc tab)) (by simpa using hP)
  rw [escX_toks]
  rw [List.length_map] at h2
  omega
end

-- part Q1
section
section
variable {prog : Program} {w : World} {A : Around} {E : Value → Shared → Prop} {s : Shared}
/-- the empty text joins, with a bound of one's own -/
theorem join_flatG {D : Addr} {vsJ : List Value} {ys : List Str} {t : Tok} {e : Str} {B : Nat} {Q : Value → Shared → Prop} (he : e = Str.ofString "") (hl : s.heap.IsList D vsJ.toArray) (hi : StrsAre vsJ ys) (hb : ∀ y ∈ ys, y.length ≤ B) (hn : B * ys.length ≤ 1000000)
    (h : ∀ y t' k, y.cps.toList = (ys.map (·.cps.toList)).flatten → Q (.str y t') { s with toks := k }) : wpAny (model prog w) A (call (.builtin "str.join") [.str e t, .ref D]) Q E s := by
  have hs := len_sum_le hb
  have e1 : e.length = 0 := by rw [he]; rfl
  refine join_list hl (ys := ys) (by simpa using hi) (by rw [e1]; omega) fun t' k => ?_
  refine h _ t' k ?_
  have hc := eq_of_beq (join_closes (sep := e) (sep' := Str.empty) (ys := ys) he)
  rw [hc, join_nil]
def glueL (d : List Nat) : List (List Nat) → List Nat
  | [] => []
  | [x] => x
  | x :: y :: r => x ++ d ++ glueL d (y :: r)
theorem join_glue (d : Str) : ∀ ys : List Str, (Str.join d ys).cps.toList = glueL d.cps.toList (ys.map (·.cps.toList))
  | [] => rfl
  | [x] => rfl
  | x :: y :: r => by
    have ih := join_glue d (y :: r)
    show (x ++ d ++ Str.join d (y :: r)).cps.toList = _
    rw [Str.cps_append, Str.cps_append, Array.toList_append, Array.toList_append, ih]
    rfl
theorem glue_pat : ∀ P : List (List Nat), glueL [42] (P.map fun p => patOf (p.map some)) = patOf (toksOf P)
  | [] => rfl
  | [p] => rfl
  | p :: q :: r => by
    have ih := glue_pat (q :: r)
    show patOf (p.map some) ++ [42] ++ glueL [42] ((q :: r).map fun p => patOf (p.map some)) = patOf (p.map some ++ none :: toksOf (q :: r))
    rw [ih, patOf_append]
    show _ = _ ++ (tokS none ++ patOf (toksOf (q :: r)))
    simp [tokS]
/-- a star joins -/
theorem join_star {D : Addr} {vsJ : List Value} {ys : List Str} {t : Tok} {e : Str} {B : Nat} {Q : Value → Shared → Prop} (he : e = Str.ofString "*") (hl : s.heap.IsList D vsJ.toArray) (hi : StrsAre vsJ ys) (hb : ∀ y ∈ ys, y.length ≤ B) (hn : (B + 1) * ys.length ≤ 1000000)
    (h : ∀ y t' k, y.cps.toList = glueL [42] (ys.map (·.cps.toList)) → Q (.str y t') { s with toks := k }) : wpAny (model prog w) A (call (.builtin "str.join") [.str e t, .ref D]) Q E s := by
  have hs := len_sum_le hb
  have e1 : e.length = 1 := by rw [he]; rfl
  refine join_list hl (ys := ys) (by simpa using hi) (by rw [e1]; rw [Nat.add_mul] at hn; omega) fun t' k => ?_
  refine h _ t' k ?_
  have hc := eq_of_beq (join_closes (sep := e) (sep' := e) (ys := ys) rfl)
  rw [hc, join_glue, he]
  rfl
end
theorem flat_pat (l : List Nat) : (l.map fun c => tokS (some c)).flatten = patOf (l.map some) := by
  unfold patOf
  rw [List.flatMap_map, List.flatMap_def]
theorem map_take_snoc {α β : Type} (f : α → β) {l : List α} {i : Nat} {a : α} (h : l[i]? = some a) : (l.take (i + 1)).map f = (l.take i).map f ++ [f a] := by
  rw [List.take_add_one, h]; simp
theorem tab_value : ∀ {kvs : List (Str × Value)} {tab : List (Nat × List Nat)} (_ : TabIs kvs tab) (c : Nat), (valueAt kvs ⟨#[c]⟩ = none ∧ tab.lookup c = none) ∨ ∃ x t, valueAt kvs ⟨#[c]⟩ = some (.str x t) ∧ tab.lookup c = some x.cps.toList
  | _, _, .nil, c => .inl ⟨rfl, rfl⟩
  | _, _, .cons (r := r0) (q := q0) c' d x t hx r, c => by
    by_cases e : c = c'
    · subst e
      refine .inr ⟨x, t, ?_, ?_⟩
      · unfold valueAt
        rw [List.find?_cons_of_pos (by simp)]; rfl
      · rw [List.lookup_cons, beq_self_eq_true, hx]
    · have hne : ¬ ((⟨#[c']⟩ : Str) = ⟨#[c]⟩) := fun he => e (by have := congrArg (fun z : Str => z.cps.toList) he; simp at this; exact this.symm)
      have ih := tab_value r c
      have e1 : valueAt (((⟨#[c']⟩ : Str), Value.str x t) :: r0) (⟨#[c]⟩ : Str) = valueAt r0 ⟨#[c]⟩ := by
        unfold valueAt
        rw [List.find?_cons_of_neg (by simpa using hne)]
      rw [e1, List.lookup_cons, show (c == c') = false from by simpa using e]
      exact ih
theorem keys_strs : ∀ {kvs : List (Str × Value)} {tab : List (Nat × List Nat)} {vs : List Value}, TabIs kvs tab → vs.length = kvs.length → (∀ (j : Nat) (v : Value), vs[j]? = some v → ∃ (k : Str) (x : Value), kvs[j]? = some (k, x) ∧ ∃ t : Tok, v = Value.str k t) → ∃ gs, StrsAre vs gs ∧ gs.length = tab.length ∧ ∀ y ∈ gs, y.length ≤ 1
  | _, _, [], .nil, _, _ => ⟨[], .nil, rfl, fun y hy => nomatch hy⟩
  | _, _, v :: vs, .cons c d x t hx r, hl, hv => by
    obtain ⟨gs, h1, h2, h3⟩ := keys_strs (vs := vs) r (by simpa using hl) fun j u hu => by simpa using hv (j + 1) u (by simpa using hu)
    obtain ⟨k, x', e, t', rfl⟩ := hv 0 v rfl
    simp only [List.getElem?_cons_zero, Option.some.injEq, Prod.mk.injEq] at e
    obtain ⟨rfl, -⟩ := e
    refine ⟨_, .cons _ t' h1, by rw [List.length_cons, List.length_cons, h2], fun y hy => ?_⟩
    rcases List.mem_cons.mp hy with rfl | hy
    · exact Nat.le_refl 1
    · exact h3 y hy
  | _, _, _ :: _, .nil, hl, _ => by simp at hl
  | _, _, [], .cons .., hl, _ => by simp at hl
section
variable {prog : Program} {w : World} {A : Around} {E : Value → Shared → Prop} {s : Shared} {h₀ : Heap} {L d : Addr} {m : Str → Option Value} {news : List (Addr × Obj)} {Q : Value → Shared → Prop} {o : Obj} {kvs : List (Str × Value)} {tab : List (Nat × List Nat)}
theorem get_spelled {c : Nat} {u u' : Tok} (hT : TabIs kvs tab) (N : News h₀ L s.heap news) (hp : (d, o) ∈ news) (hd : o.IsDictOf (PySem.strKind prog w) kvs) (lo : (d == sysModules) = false)
    (h : ∀ z t', z.cps.toList = escT tab c → Q (.str z t') { s with toks := s.toks + 1 }) :
    wpAny (model prog w) A (call (.builtin "dict.get") [.ref d, .str ⟨#[c]⟩ u, .str ⟨#[c]⟩ u']) Q E s := by
  rcases tab_value hT c with ⟨h1, h2⟩ | ⟨x, t, h1, h2⟩
  · refine kdg_get2 N hp hd lo (strKind_is prog w _ u) none h1 (h _ _ ?_)
    unfold escT; rw [h2]; rfl
  · refine kdg_get2 N hp hd lo (strKind_is prog w _ u) _ h1 (h _ _ ?_)
    unfold escT; rw [h2]; rfl
theorem list_keys (hT : TabIs kvs tab) (hn : tab.length ≤ 7) (hh : A.handled = none) (F : Fr h₀ L s.heap m) (N : News h₀ L s.heap news) (hp : (d, o) ∈ news) (hd : o.IsDictOf (PySem.strKind prog w) kvs) (lo : (d == sysModules) = false)
    (h : ∀ (B : Addr) c h' tk vs gs, Fr h₀ L h' m → News h₀ L h' ((B, listOf vs.toArray c) :: news) → (∀ q ∈ news, q.1 < B) → StrsAre vs gs → gs.length = tab.length → (∀ y ∈ gs, y.length ≤ 1) → Q (.ref B) { s with heap := h', toks := tk }) :
    wpAny (model prog w) A (call (.type "list") [.ref d]) Q E s := by
  obtain ⟨ep, hat⟩ := (kda_dict N hp hd).dictAt
  have hkl := tab_len hT
  refine kdl_N (kdl_dict (knd := PySem.strKind prog w) (kvs := kvs) (ep := ep) lo) hh F N hat (kdl_size (by omega)) fun B c h' tk vs F' N' l1 hl hv => ?_
  obtain ⟨gs, h1, h2, h3⟩ := keys_strs (vs := vs) hT hl fun j u hu => by
    obtain ⟨k, x, hx, hk⟩ := hv j u hu
    exact ⟨k, x, hx, Value.isStrOf_shape hk⟩
  exact h B c h' tk vs gs F' N' l1 h1 h2 h3
theorem flat_esc (l : List Nat) : (l.map fun c => escT tab c).flatten = esc tab l := by
  unfold esc
  rw [List.flatMap_def]
end
theorem strs_canLay : ∀ ns : List Str, (∀ y ∈ ns, PyData.strOk y = true) → PyData.canLayAll0 (ns.map PyData.str) = true
  | [], _ => rfl
  | y :: r, h => by simp [PyData.canLayAll0, PyData.canLay0, strs_canLay r fun z hz => h z (.tail _ hz), h y (.head _)]
theorem strs_depth : ∀ ns : List Str, PyData.depthAll (ns.map PyData.str) = 0
  | [] => rfl
  | _ :: r => by simp [PyData.depthAll, PyData.depth, strs_depth r]
theorem strs_shaped (ns : List Str) (h : ∀ y ∈ ns, PyData.strOk y = true) : SeqAt.shaped (.list (ns.map PyData.str)) = true := by
  simp [SeqAt.shaped, PyData.canLay0, PyData.depth, strs_canLay ns h, strs_depth]
theorem strs_same_nil (ns : List Str) : PySem.Spec.same (.list (ns.map PyData.str)) (.list (([] : List Str).map PyData.str)) = decide (ns = []) := by
  simp only [PySem.Spec.same]
  cases ns with
  | nil => simp [PySem.Spec.sameAll]
  | cons y r => simp [PySem.Spec.sameAll]
theorem strs_carried : ∀ {vs : List Value} {ns : List Str}, StrsAre vs ns → CarriedAll vs (ns.map PyData.str)
  | _, _, .nil => .nil
  | _, _, .cons y t r => .cons (.str y t) (strs_carried r)
theorem eq_strs_nil {prog : Program} {w : World} {A : Around} {E Q : Value → Shared → Prop} {s : Shared} {a b : Addr} {vs : List Value} {ys : List Str} (ha : s.heap.IsList a vs.toArray) (hb : s.heap.IsList b ([] : List Value).toArray) (hi : StrsAre vs ys) (hok : ∀ y ∈ ys, PyData.strOk y = true) (hu : A.units + 64 < cLine) (h : Q (.bool (decide (ys = []))) s) :
    wpAny (model prog w) A (compareOp .Eq (.ref a) (.ref b)) Q E s :=
  eq_dataH_same (reads_newData ha (strs_carried hi)) (reads_newData hb (strs_carried .nil)) (strs_shaped _ hok) (strs_shaped [] fun y hy => nomatch hy) hu (SeqAt.noMix_of_shape (.list .str) rfl _ _ (list_map_has fun _ => rfl) (list_map_has fun _ => rfl)) (by rw [strs_same_nil]; exact h)
theorem out_signs {P : List (List Nat)} {tab : List (Nat × List Nat)} {B : Nat} (hP : ∀ p ∈ P, ∀ c ∈ p, c < B) (hT : ∀ q ∈ tab, q.1 < B) : ∀ l ∈ outP P tab, ∀ c ∈ l, c < B := by
  intro l hl c hc
  obtain ⟨j, -, hl⟩ := List.mem_flatMap.mp hl
  obtain ⟨q, hq, hl⟩ := List.mem_flatMap.mp hl
  obtain ⟨k, -, hl⟩ := List.mem_flatMap.mp hl
  unfold outK at hl
  split at hl
  · rw [List.mem_singleton.mp hl] at hc
    rcases List.mem_append.mp hc with hc | hc
    · rcases List.mem_append.mp hc with hc | hc
      · obtain ⟨p, hp, hm⟩ := List.mem_flatten.mp hc
        exact hP p (List.mem_of_mem_take hp) c hm
      · rw [List.mem_singleton.mp hc]; exact hT q hq
    · rcases List.mem_append.mp hc with hc | hc
      · have hm := List.mem_of_mem_drop hc
        rw [List.getD_eq_getElem?_getD] at hm
        cases e : P[j]? with
        | none => rw [e] at hm; cases hm
        | some p => rw [e] at hm; exact hP p (List.mem_of_getElem? e) c hm
      · obtain ⟨p, hp, hm⟩ := List.mem_flatten.mp hc
        exact hP p (List.mem_of_mem_drop hp) c hm
  · cases hl
theorem tab_low : ∀ k, k < 5 → (∀ q ∈ tabAt k, q.1 < 0x110000) ∧ (tabAt k).length ≤ 7 ∧ 0 < (tabAt k).length ∧ ∀ p ∈ tabAt k, 1 ≤ p.2.length ∧ p.2.length ≤ 6 := by
  intro k hk
  match k, hk with
  | 0, _ => exact ⟨by decide, by decide, by decide, by decide⟩
  | 1, _ => exact ⟨by decide, by decide, by decide, by decide⟩
  | 2, _ => exact ⟨by decide, by decide, by decide, by decide⟩
  | 3, _ => exact ⟨by decide, by decide, by decide, by decide⟩
  | 4, _ => exact ⟨by decide, by decide, by decide, by decide⟩
end

-- part U1
section
section
variable {w : World} {A : Around} {E Q : Value → Shared → Prop} {mg mb : Str → Option Value} {s : Shared} {p : Program} {loose : List Str} {mean : ExcName → Option Value} {t tt th : Tok} {h₀ : Heap} {L l sl d : Addr} {m : Str → Option Value} {news : List (Addr × Obj)}
  {x : Str} {vs vsG : List Value} {xs gs : List Str} {ns : List Int} {z total : Int} {ys : List (Option Nat)} {kvs : List (Str × Value)} {tab : List (Nat × List Nat)} {ps : Array Value}
/-- none of the ledger stands at an address -/
def NeAll (d : Nat) : List (Addr × Obj) → Prop
  | [] => True
  | p :: r => @Ne Nat p.1 d ∧ NeAll d r
theorem neAll_of {h : Heap} (hn : h.get? d = none) : ∀ {l : List (Addr × Obj)}, News h₀ L h l → NeAll d l
  | [], _ => trivial
  | p :: r, N => ⟨fun e => (by have := (N p (.head _)).1; rw [show p.1 = d from e, hn] at this; cases this), neAll_of hn fun q hq => N q (.tail _ hq)⟩
/-- room for a call -/
def Room (A : Around) : Prop := A.depth + 25 < recursionLimit ∧ A.units + 200 < cLine ∧ A.handled = none
theorem use_table : (hd.heap_1 w.params).In h₀ → Top p loose mean mg mb h₀ → Fr h₀ L s.heap m → News h₀ L s.heap news → Room A → 0 ≤ z → z < 5 →
    (∀ h' tk d o kvs, Fr h₀ L h' m → News h₀ L h' ((d, o) :: news) → NeAll d news → (d == sysModules) = false → Obj.IsDictOf (PySem.strKind PySem.Challenge.rw_ik0157_01.row.prog w) o kvs → TabIs kvs (tabAt z.toNat) → Q (.ref d) { s with heap := h', toks := tk }) →
    wpAny (model PySem.Challenge.rw_ik0157_01.row.prog w) A (call (.ref 111) [.int z t]) Q E s := by
  intro X T F N hA h0 h1 h
  obtain ⟨k, rfl⟩ : ∃ k : Nat, z = k := ⟨z.toNat, by omega⟩
  exact wpAny_call (c_table (X.keeps F.keep) (T.keeps F.keep) hA.1 hA.2.1 hA.2.2 (by omega) fun h' tk d o kvs hst hn hs ho hi ht => h h' tk d o kvs (fr_stays F hst) (news_fresh F hn ho (news_stays N hst)) (neAll_of hn N) hs hi ht)
theorem use_escaped : (hd.heap_1 w.params).In h₀ → Top p loose mean mg mb h₀ → Fr h₀ L s.heap m → News h₀ L s.heap news → Room A → 0 ≤ z → z < 5 → x.length ≤ 1000 →
    (∀ h' tk x' t', Fr h₀ L h' m → News h₀ L h' news → x'.cps.toList = esc (tabAt z.toNat) x.cps.toList → Q (.str x' t') { s with heap := h', toks := tk }) →
    wpAny (model PySem.Challenge.rw_ik0157_01.row.prog w) A (call (.ref 104) [.int z th, .str x t]) Q E s := by
  intro X T F N hA h0 h1 hx h
  obtain ⟨k, rfl⟩ : ∃ k : Nat, z = k := ⟨z.toNat, by omega⟩
  exact wpAny_call (c_escaped (X.keeps F.keep) (T.keeps F.keep) hA.1 (by omega) hx fun x' t' h' tk he hst => h h' tk x' t' (fr_stays F hst) (news_stays N hst) he)
theorem use_drawn : (hd.heap_1 w.params).In h₀ → Top p loose mean mg mb h₀ → Fr h₀ L s.heap m → News h₀ L s.heap news → Room A → s.heap.IsList l vs.toArray → IntsAre vs ns → ns.length ≤ 8 →
    (∀ h' tk tl pl vsP n ps T tT, Fr h₀ L h' m → News h₀ L h' ((tl, { cls := .type "tuple", data := .seq #[.ref pl, .str T tT] }) :: (pl, listOf vsP.toArray n) :: news) → NeAll tl ((pl, listOf vsP.toArray n) :: news) → NeAll pl news → StrsAre vsP ps → ps ≠ [] → (∀ y ∈ ps, SigStr y ∧ y.length ≤ 32) → ps.length ≤ 9 → T.length ≤ 32 → SigStr T → Q (.ref tl) { s with heap := h', toks := tk }) →
    wpAny (model PySem.Challenge.rw_ik0157_01.row.prog w) A (call (.ref 118) [.ref l]) Q E s := by
  intro X T F N hA hl hi hn h
  exact wpAny_call (c_drawn (X.keeps F.keep) (T.keeps F.keep) hA.1 hA.2.1 hA.2.2 hl hi hn fun h' tk tl pl vsP n ps T tT hst n1 o1 n2 o2 hs hne hsg hpl hT hTs => h h' tk tl pl vsP n ps T tT (fr_stays F hst) (news_fresh F n1 o1 (news_fresh F n2 o2 (news_stays N hst))) ⟨(news_ne (news_fresh F n1 o1 (news_fresh F n2 o2 (news_stays N hst))) (.tail _ (.head _)) (.head _) (by simp)), neAll_of n1 N⟩ (neAll_of n2 N) hs hne hsg hpl hT hTs)
theorem use_tries : (hd.heap_1 w.params).In h₀ → Top p loose mean mg mb h₀ → Fr h₀ L s.heap m → News h₀ L s.heap news → Room A → s.heap.IsList l vs.toArray → StrsAre vs xs → xs.length ≤ 9 → (∀ y ∈ xs, y.length ≤ 32) → x.length ≤ 32 →
    s.heap.IsList sl vsG.toArray → StrsAre vsG gs → 0 < gs.length → gs.length ≤ 10 → (∀ y ∈ gs, y.length ≤ 1) →
    (∀ h' tk tl vsT n ts, Fr h₀ L h' m → News h₀ L h' ((tl, listOf vsT.toArray n) :: news) → NeAll tl news → StrsAre vsT ts → ts.length ≤ 12 → (∀ y ∈ ts, y.length ≤ 1000) → Q (.ref tl) { s with heap := h', toks := tk }) →
    wpAny (model PySem.Challenge.rw_ik0157_01.row.prog w) A (call (.ref 125) [.ref l, .str x t, .ref sl, .int total tt]) Q E s := by
  intro X T F N hA hl hs h1 h2 h3 h4 h5 h6 h7 h8 h
  exact wpAny_call (c_tries (X.keeps F.keep) (T.keeps F.keep) hA.1 hA.2.1 hA.2.2 hl hs h1 h2 h3 h4 h5 h6 h7 h8 fun h' tk tl vsT n ts hst n1 o1 a b c => h h' tk tl vsT n ts (fr_stays F hst) (news_fresh F n1 o1 (news_stays N hst)) (neAll_of n1 N) a b c)
theorem use_out : (hd.heap_1 w.params).In h₀ → Top p loose mean mg mb h₀ → Fr h₀ L s.heap m → News h₀ L s.heap news → Room A → s.heap.IsList l vs.toArray → StrsAre vs xs → xs.length ≤ 9 → (∀ y ∈ xs, y.length ≤ 32) →
    s.heap.DictOf (PySem.strKind PySem.Challenge.rw_ik0157_01.row.prog w) d kvs → (d == sysModules) = false → TabIs kvs tab → tab.length ≤ 7 → (∀ p ∈ tab, 1 ≤ p.2.length ∧ p.2.length ≤ 6) →
    (∀ h' tk ol vsO n os, Fr h₀ L h' m → News h₀ L h' ((ol, listOf vsO.toArray n) :: news) → NeAll ol news → StrsAre vsO os → os.map (·.cps.toList) = outP (xs.map (·.cps.toList)) tab → os.length ≤ 1000 → (∀ y ∈ os, y.length ≤ 1000) → Q (.ref ol) { s with heap := h', toks := tk }) →
    wpAny (model PySem.Challenge.rw_ik0157_01.row.prog w) A (call (.ref 132) [.ref l, .ref d]) Q E s := by
  intro X T F N hA hl hs h1 h2 h3 h4 h5 h6 h7 h
  exact wpAny_call (c_out (X.keeps F.keep) (T.keeps F.keep) hA.1 hA.2.1 hA.2.2 hl hs h1 h2 h3 h4 h5 h6 h7 fun h' tk ol vsO n os hst n1 o1 a b c e => h h' tk ol vsO n os (fr_stays F hst) (news_fresh F n1 o1 (news_stays N hst)) (neAll_of n1 N) a b c e)
theorem use_read : (hd.heap_1 w.params).In h₀ → Top p loose mean mg mb h₀ → Fr h₀ L s.heap m → News h₀ L s.heap news → Room A → s.heap.IsList l vs.toArray → TellsAre vs ys → ys.length ≤ 10000 →
    (∀ h' tk pl vsP n ps, Fr h₀ L h' m → News h₀ L h' ((pl, listOf vsP.toArray n) :: news) → NeAll pl news → StrsAre vsP ps → ps.map (·.cps.toList) = (readP ys).1 ++ [(readP ys).2] → Q (.ref pl) { s with heap := h', toks := tk }) →
    wpAny (model PySem.Challenge.rw_ik0157_01.row.prog w) A (call (.ref 139) [.ref l]) Q E s := by
  intro X T F N hA hl hs h1 h
  exact wpAny_call (c_read (X.keeps F.keep) (T.keeps F.keep) hA.1 hA.2.1 hA.2.2 hl hs h1 fun h' tk pl vsP n ps hst n1 o1 a b => h h' tk pl vsP n ps (fr_stays F hst) (news_fresh F n1 o1 (news_stays N hst)) (neAll_of n1 N) a b)
theorem use_takes : (hd.heap_1 w.params).In h₀ → Top p loose mean mg mb h₀ → Fr h₀ L s.heap m → News h₀ L s.heap news → Room A → s.heap.IsList l vs.toArray → StrsAre vs xs → xs ≠ [] → xs.length ≤ 1000 → x.length ≤ 100000 → (∀ y ∈ xs, y.length ≤ 10000) →
    (∀ h' tk, Fr h₀ L h' m → News h₀ L h' news → Q (.bool (takesP (xs.map (·.cps.toList)) x.cps.toList)) { s with heap := h', toks := tk }) →
    wpAny (model PySem.Challenge.rw_ik0157_01.row.prog w) A (call (.ref 144) [.ref l, .str x t]) Q E s := by
  intro X T F N hA hl hs hne h1 h2 h3 h
  cases hs with
  | nil => exact absurd rfl hne
  | cons y0 t0 r =>
    exact wpAny_call (c_takes (X.keeps F.keep) (T.keeps F.keep) hA.1 hA.2.1 hA.2.2 hl r (by rw [List.length_cons] at h1; omega) h2 (fun y hy => h3 y (.tail _ hy)) (h3 _ (.head _)) fun h' tk hst => h h' tk (fr_stays F hst) (news_stays N hst))
theorem stays_hide {h : Heap} {a : Addr} {g : Heap} (k : ∀ b o, g.get? b = some o → h.get? b = some o) (hn : g.get? a = none) : ∀ b o, g.get? b = some o → (hideAll h [a]).get? b = some o := fun b o e => hideAll_get _ (k b o e) fun hm => by
  rw [List.mem_singleton.mp hm, hn] at e; cases e
theorem use_translate : (hd.heap_1 w.params).In h₀ → Top p loose mean mg mb h₀ → Fr h₀ L s.heap m → News h₀ L s.heap ((92, tabObj ps) :: news) → (∀ p ∈ news, p.1 ≠ 92) → TabOk LPOS ps → Room A → x.cps.toList = patOf ys → x.length ≤ 10000 → (∀ c, some c ∈ ys → c < 128) →
    (∀ h' tk rl vs n ps', Fr h₀ L h' m → News h₀ L h' ((rl, listOf vs.toArray n) :: (92, tabObj ps') :: news) → NeAll rl ((92, tabObj ps') :: news) → TabOk LPOS ps' → TellsAre vs (colP ys) → vs.length ≤ 10000 → Q (.ref rl) { s with heap := h', toks := tk }) →
    wpAny (model PySem.Challenge.rw_ik0157_01.row.prog w) A (call (.ref 97) [.str x t, .none, .str (Str.ofString "?") tt]) Q E s := by
  intro X T F N hnn hps hA hx hxl hsg h
  have z := N _ (.head _)
  have kG := stays_hide F.keep z.2.2
  refine wpAny_call (c_translate (X.keeps kG) (T.keeps kG) z.1 hps (by have := hA.1; omega) hA.2.1 hA.2.2 hx hxl hsg fun h' tk rl vs n ps' hst h92 hps' n1 o1 hT hvl => ?_)
  have hk : ∀ b o, b ∉ [(92 : Addr)] → s.heap.get? b = some o → h'.get? b = some o := fun b o hb e => hst _ _ (hideAll_get _ e hb)
  have F' : Fr h₀ L h' m := LCg.fr_but F hk (Ne.symm z.2.1) z.2.2
  have N' : News h₀ L h' ((92, tabObj ps') :: news) := fun p hp => by
    rcases List.mem_cons.mp hp with rfl | hp
    · exact ⟨h92, z.2⟩
    · have y := N p (.tail _ hp)
      exact ⟨hk _ _ (fun hm => hnn p hp (List.mem_singleton.mp hm)) y.1, y.2⟩
  exact h h' tk rl vs n ps' F' (news_fresh F n1 o1 N') ⟨(neAll_of n1 N).1, (neAll_of n1 N).2⟩ hps' hT hvl
end
end

-- part Q2
section
theorem brk_cps : (Str.ofString "*?[").cps.toList = [42, 63, 91] := by decide
theorem tok_brk {c : Nat} (h : (Builtin.Str.occurrences (Str.ofString "*?[") ⟨#[c]⟩ 0 (Str.ofString "*?[").length 1).isEmpty = false) : tokS (some c) = [91, c, 93] := by
  have e := StrLaws.found_one (Str.ofString "*?[") c
  rw [h, brk_cps] at e
  have e2 : c ∈ [42, 63, 91] := of_decide_eq_true e.symm
  simp only [List.mem_cons, List.not_mem_nil, or_false] at e2
  show (if c = 42 ∨ c = 63 ∨ c = 91 then [91, c, 93] else [c]) = _
  rw [if_pos e2]
theorem tok_bare {c : Nat} (h : (Builtin.Str.occurrences (Str.ofString "*?[") ⟨#[c]⟩ 0 (Str.ofString "*?[").length 1).isEmpty = true) : tokS (some c) = [c] := by
  have e := StrLaws.found_one (Str.ofString "*?[") c
  rw [h, brk_cps] at e
  have e2 : ¬ c ∈ [42, 63, 91] := of_decide_eq_false e.symm
  simp only [List.mem_cons, List.not_mem_nil, or_false] at e2
  show (if c = 42 ∨ c = 63 ∨ c = 91 then [91, c, 93] else [c]) = _
  rw [if_neg e2]
theorem map_turn {f : Nat → List Nat} {y z : Str} {i c : Nat} {ys : List Value} {t : Tok} (hc : y.cps[i]? = some c) (hz : z.cps.toList = f c)
    (hJ : ∃ zs, StrsAre ys zs ∧ zs.map (·.cps.toList) = (y.cps.toList.take i).map f) : ∃ zs, StrsAre (ys ++ [.str z t]) zs ∧ zs.map (·.cps.toList) = (y.cps.toList.take (i + 1)).map f := by
  obtain ⟨zs, h1, h2⟩ := hJ
  refine ⟨zs ++ [z], strs_snoc h1, ?_⟩
  rw [List.map_append, h2, map_take_snoc f (a := c) (by simpa using hc), ← hz]
  rfl
theorem map_bound {f : Nat → List Nat} {B : Nat} {zs : List Str} {l : List Nat} (hB : ∀ c, (f c).length ≤ B) (h : zs.map (·.cps.toList) = l.map f) : (∀ y ∈ zs, y.length ≤ B) ∧ zs.length = l.length := by
  refine ⟨fun y hy => ?_, by have := congrArg List.length h; simpa using this⟩
  have hm : y.cps.toList ∈ l.map f := by rw [← h]; exact List.mem_map_of_mem hy
  obtain ⟨c, -, e⟩ := List.mem_map.mp hm
  rw [← str_len, ← e]
  exact hB c
theorem tok_le (c : Nat) : (tokS (some c)).length ≤ 3 := tokS_short (some c)
theorem piece_turn {ps : List Str} {y yJ : Str} {i n : Nat} {ys : List Value} {zs : List Str} {t : Tok} (hy : ps[i]? = some y) (hz : zs.map (·.cps.toList) = (y.cps.toList.take n).map fun c => tokS (some c)) (hn : n = y.cps.size) (hj : yJ.cps.toList = (zs.map (·.cps.toList)).flatten)
    (hJ : ∃ zs, StrsAre ys zs ∧ zs.map (·.cps.toList) = (ps.take i).map fun y => patOf (y.cps.toList.map some)) : ∃ zs, StrsAre (ys ++ [.str yJ t]) zs ∧ zs.map (·.cps.toList) = (ps.take (i + 1)).map fun y => patOf (y.cps.toList.map some) := by
  obtain ⟨zs', h1, h2⟩ := hJ
  refine ⟨zs' ++ [yJ], strs_snoc h1, ?_⟩
  have e : y.cps.toList.take y.cps.size = y.cps.toList := List.take_of_length_le (Nat.le_of_eq Array.length_toList)
  rw [List.map_append, h2, map_take_snoc _ hy, List.map_singleton, hj, hz, hn, e, flat_pat]
theorem pat_val {ps : List Str} {n : Nat} {zs : List Str} {x : Str} (h : zs.map (·.cps.toList) = (ps.take n).map fun y => patOf (y.cps.toList.map some)) (hn : n = ps.length) (hx : x.cps.toList = glueL [42] (zs.map (·.cps.toList))) : x.cps.toList = patOf (toksOf (ps.map (·.cps.toList))) := by
  rw [hx, h, hn, List.take_length, ← glue_pat, List.map_map]
  rfl
theorem pat_short {P : List (List Nat)} (h1 : P.length ≤ 9) (h2 : ∀ p ∈ P, p.length ≤ 32) : (patOf (toksOf P)).length ≤ 891 := by
  have h3 := patOf_short (toksOf P)
  have h4 := toks_short h2
  omega
theorem piece_bound {ps : List Str} {n : Nat} {zs : List Str} (hps : ∀ y ∈ ps, SigStr y ∧ y.length ≤ 32) (h : zs.map (·.cps.toList) = (ps.take n).map fun y => patOf (y.cps.toList.map some)) : (∀ y ∈ zs, y.length ≤ 96) ∧ zs.length ≤ ps.length := by
  refine ⟨fun y hy => ?_, by have := congrArg List.length h; simp at this; omega⟩
  have hm : y.cps.toList ∈ (ps.take n).map fun y => patOf (y.cps.toList.map some) := by rw [← h]; exact List.mem_map_of_mem (f := fun y : Str => y.cps.toList) hy
  obtain ⟨q, hq, e⟩ := List.mem_map.mp hm
  have h1 := (hps q (List.mem_of_mem_take hq)).2
  have h2 := patOf_short (q.cps.toList.map some)
  rw [List.length_map, str_len] at h2
  rw [← str_len, ← e]
  omega
theorem sig_low {ps : List Str} (hps : ∀ y ∈ ps, SigStr y ∧ y.length ≤ 32) : ∀ p ∈ ps.map (·.cps.toList), ∀ c ∈ p, c < 128 := by
  intro p hp c hc
  obtain ⟨y, hy, rfl⟩ := List.mem_map.mp hp
  have := (hps y hy).1 c hc
  revert c
  have k : ∀ c ∈ SIG, c < 128 := by decide
  exact fun c _ h => k c h
theorem toks_low {ps : List Str} (hps : ∀ y ∈ ps, SigStr y ∧ y.length ≤ 32) : ∀ c, some c ∈ toksOf (ps.map (·.cps.toList)) → c < 128 := fun c hc => by
  obtain ⟨p, hp, hm⟩ := toks_mem hc
  exact sig_low hps p hp c hm
theorem lens_of {ps : List Str} {B : Nat} (h : ∀ y ∈ ps, SigStr y ∧ y.length ≤ B) : ∀ p ∈ ps.map (·.cps.toList), p.length ≤ B := fun p hp => by
  obtain ⟨y, hy, rfl⟩ := List.mem_map.mp hp
  rw [str_len]; exact (h y hy).2
theorem law_facts {k : Nat} (hk : k < 5) {psD psR psU os : List Str} {x z : Str} (hP : psD.map (·.cps.toList) ≠ [])
    (eR : psR.map (·.cps.toList) = (readP (colP (toksOf (psD.map (·.cps.toList))))).1 ++ [(readP (colP (toksOf (psD.map (·.cps.toList))))).2])
    (eU : psU.map (·.cps.toList) = (readP (colP (escX (tabAt k) (toksOf (psD.map (·.cps.toList)))))).1 ++ [(readP (colP (escX (tabAt k) (toksOf (psD.map (·.cps.toList)))))).2])
    (eO : os.map (·.cps.toList) = outP (psD.map (·.cps.toList)) (tabAt k)) (hz : z.cps.toList = esc (tabAt k) x.cps.toList) :
    takesP (psR.map (·.cps.toList)) x.cps.toList = takesP (psD.map (·.cps.toList)) x.cps.toList ∧
    ((takesP (psD.map (·.cps.toList)) x.cps.toList || os.any (· == x)) = true → takesP (psU.map (·.cps.toList)) z.cps.toList = true) ∧
    (os = [] → takesP (psU.map (·.cps.toList)) z.cps.toList = true → takesP (psD.map (·.cps.toList)) x.cps.toList = true) := by
  refine ⟨by rw [eR]; exact plain_bare hP _, fun h => ?_, fun h1 h2 => ?_⟩
  · rw [eU, hz]
    refine plain_due hk hP ?_
    rcases Bool.or_eq_true _ _ ▸ h with h | h
    · exact .inl h
    · obtain ⟨y, hy, e⟩ := List.any_eq_true.mp h
      obtain rfl : y = x := eq_of_beq e
      exact .inr (eO ▸ List.mem_map_of_mem (f := fun y : Str => y.cps.toList) hy)
  · rw [eU, hz] at h2
    exact plain_back hk hP (by rw [← eO, h1]; rfl) h2
theorem out_ok {k : Nat} (hk : k < 5) {psD os : List Str} (hps : ∀ y ∈ psD, SigStr y ∧ y.length ≤ 32) (eO : os.map (·.cps.toList) = outP (psD.map (·.cps.toList)) (tabAt k)) : ∀ y ∈ os, PyData.strOk y = true := by
  intro y hy
  have hm : y.cps.toList ∈ outP (psD.map (·.cps.toList)) (tabAt k) := eO ▸ List.mem_map_of_mem (f := fun y : Str => y.cps.toList) hy
  have h := out_signs (B := 0x110000) (fun p hp c hc => Nat.lt_trans (sig_low hps p hp c hc) (by decide)) (tab_low k hk).1 _ hm
  unfold PyData.strOk
  rw [← Array.all_toList, List.all_eq_true]
  exact fun c hc => decide_eq_true (h c hc)
theorem strs_append : ∀ {vs ws : List Value} {xs ys : List Str}, StrsAre vs xs → StrsAre ws ys → StrsAre (vs ++ ws) (xs ++ ys)
  | _, _, _, _, .nil, h => h
  | _, _, _, _, .cons y t r, h => .cons y t (strs_append r h)
theorem esc_le (k : Nat) (hk : k < 5) (c : Nat) : (escT (tabAt k) c).length ≤ 6 := escT_short (tab_clean k hk) c
/-- what an expression gives, its two ways told once -/
theorem eval_keep {M : Model} {A : Around} {E Q : Value → Shared → Prop} {s : Shared} {p : Sem Value} {h₀ : Heap} {L : Addr} {m : Str → Option Value} {news : List (Addr × Obj)} {val : Value} (hF0 : Fr h₀ L s.heap m) (hN0 : News h₀ L s.heap news)
    (h1 : wpAny M A p (fun v s' => Stop (v = val ∧ ∃ h' tk', s' = { s with heap := h', toks := tk' } ∧ Fr h₀ L h' m ∧ News h₀ L h' news)) E s)
    (h2 : ∀ h' tk', Fr h₀ L h' m → News h₀ L h' news → Q val { s with heap := h', toks := tk' }) : wpAny M A p Q E s :=
  wpAny_mono h1 (fun v s' ⟨e, h', tk', e2, F, N⟩ => by subst e; subst e2; exact h2 h' tk' F N) fun _ _ e => e
theorem no_due {tb db : Bool} (h : (tb != db) = true) (h2 : db = true) (f : db = true → tb = true) : False := by
  rw [f h2, h2] at h; cases h
theorem no_back {tb bf ib : Bool} {N : Prop} (h : (tb != (bf || ib)) = true) (h2 : (bf || ib) = false) (f : N → tb = true → bf = true) (hN : N) : False := by
  rw [h2] at h
  have e : tb = true := by simpa using h
  rw [f hN e] at h2; cases h2
end

-- part W2
section
theorem room_law {env : Env} : Room (callerA.deeper env) := ⟨by show callerA.depth + 1 + 25 < recursionLimit; decide, by simp only [Around.deeper_units, Around.in1_units]; decide, rfl⟩
local macro_rules | `(tactic| walk_at "call ref") => `(tactic| ((with_reducible show wpAny _ _ (call (Value.ref 111) _) _ _ _); (refine' use_table ?X ?T ?F ?N ?A ?z0 ?z1 ?_; (case X => assumption); (case T => assumption); (case F => assumption); (case N => assumption); (case A => exact room_law); (case z0 => exact fmod_lo _ (by decide)); (case z1 => exact fmod_hi _ (by decide)); k_whole); intro hT tT dT oT kvT FT NT qT sT iT taT; simp only [NeAll, and_true] at qT))
local macro_rules | `(tactic| walk_at "call ref") => `(tactic| ((with_reducible show wpAny _ _ (call (Value.ref 118) _) _ _ _); (refine' use_drawn ?X ?T ?F ?N ?A ?l ?i ?n ?_; (case X => assumption); (case T => assumption); (case F => assumption); (case N => assumption); (case A => exact room_law); (case l => exact ⟨_, (News.get (by assumption) (by k_mem)), rfl, _, rfl⟩); (case i => assumption); (case n => (simp only [List.length_append, List.length_cons, List.length_nil, List.length_take]; omega)); k_whole); intro hD tD tlD plD vsD nD psD TD tTD FD ND qD1 qD2 sD neD sgD lnD lTD sTD; simp only [NeAll, and_true] at qD1 qD2))
local macro_rules | `(tactic| walk_at "unpackItems ref") => `(tactic| (refine unpackItemsN_ (by assumption) (by assumption) (News.isTup (by assumption) (by k_mem)) (by rfl) (by rfl) ?_; intro hu' Fu' Nu'))
theorem CompEnd_of {h₀ : Heap} {L I C D : Addr} {m : Str → Option Value} {s₁ : Shared} {oI oC oD : Obj} {S : List (Addr × Obj) → Prop} {rest : Value → List (Addr × Obj) → Prop} {y : Value} {h' : Heap} {tk : Nat} {all news' : List (Addr × Obj)}
    (off : LCg.Off3 I C D news') (F : Fr h₀ L h' m) (N : News h₀ L h' all) (sub : ∀ p ∈ (I, oI) :: (C, oC) :: (D, oD) :: news', p ∈ all) (hS : S news') (r : rest y news') :
    LCg.CompEnd h₀ L m s₁ I oI C oC D oD S rest y { s₁ with heap := h', toks := tk } := ⟨h', tk, news', rfl, F, fun p hp => N p (sub p hp), off, hS, r⟩
local macro_rules | `(tactic| walk_at "CompEnd") => `(tactic| (refine CompEnd_of (by assumption) (by assumption) (by assumption) (by lcg_sub) (by first | exact trivial | exact .inr ⟨_, (by k_mem), rfl, _, rfl⟩) ?_))
theorem stop_call {M : Model} {A : Around} {E Q : Value → Shared → Prop} {s : Shared} {f : Value} {vs : List Value} (h : Stop (wpAny M A (call f vs) Q E s)) : wpAny M A (call f vs) Q E s := h.out
local macro_rules | `(tactic| walk_at "call ref") => `(tactic| ((with_reducible show wpAny _ _ (call (Value.ref 118) _) _ _ _); refine stop_call ?_))
theorem stop_any {M : Model} {A : Around} {α : Type} {E : Value → Shared → Prop} {Q : α → Shared → Prop} {s : Shared} {p : Sem α} (h : Stop (wpAny M A p Q E s)) : wpAny M A p Q E s := h.out
local macro_rules | `(tactic| walk_at "call type:list") => `(tactic| ((with_reducible show wpAny _ _ (call (Value.type _) [Value.ref _]) _ _ _); refine stop_any ?_))
local macro_rules | `(tactic| walk_at "binaryOp Add ref ref") => `(tactic| ((with_reducible show wpAny _ _ (binaryOp _ (Value.ref _) (Value.ref _)) _ _ _); (have hguard := ‹StrsAre _ _›); clear hguard; refine stop_any ?_))
local macro_rules | `(tactic| walk_at "compareOp In str ref") => `(tactic| ((with_reducible show wpAny _ _ (compareOp CmpOp.In (Value.str _ _) (Value.ref _)) _ _ _); refine stop_any ?_))
local macro_rules | `(tactic| walk_at "compareOp Eq ref ref") => `(tactic| ((with_reducible show wpAny _ _ (compareOp CmpOp.Eq (Value.ref _) (Value.ref _)) _ _ _); refine stop_any ?_))
local macro_rules | `(tactic| walk_at "call builtin:dict.get") => `(tactic| ((with_reducible show wpAny _ _ (call (Value.builtin _) [Value.ref _, Value.str _ _, Value.str _ _]) _ _ _); refine stop_any ?_))
theorem stop_eval {M : Model} {A : Around} {E : Value → Shared → Prop} {Q : Value → Shared → Prop} {s : Shared} {e : PySem.Expr} {env : Env} (h : Stop (wpAny M A (eval e env) Q E s)) : wpAny M A (eval e env) Q E s := h.out
local macro_rules | `(tactic| walk_at "eval ListComp") => `(tactic| ((with_reducible show wpAny _ _ (eval (PySem.Expr.ListComp _ _ _ _) _) _ _ _); refine stop_eval ?_))
theorem stop_exec {M : Model} {A : Around} {E : Value → Shared → Prop} {Q : Flow → Shared → Prop} {s : Shared} {st : Stmt} {env : Env} (h : Stop (wpAny M A (exec st env) Q E s)) : wpAny M A (exec st env) Q E s := h.out
local macro_rules | `(tactic| walk_at "call builtin:str.join") => `(tactic| ((with_reducible show wpAny _ _ (call (Value.builtin _) [Value.str _ _, Value.ref _]) _ _ _); refine stop_call ?_))
local macro_rules | `(tactic| walk_at "call ref") => `(tactic| ((with_reducible show wpAny _ _ (call (Value.ref 97) _) _ _ _); refine stop_call ?_))
local macro_rules | `(tactic| walk_at "call ref") => `(tactic| ((with_reducible show wpAny _ _ (call (Value.ref 104) _) _ _ _); refine stop_call ?_))
local macro_rules | `(tactic| walk_at "call ref") => `(tactic| ((with_reducible show wpAny _ _ (call (Value.ref 132) _) _ _ _); refine stop_call ?_))
local macro_rules | `(tactic| walk_at "call ref") => `(tactic| ((with_reducible show wpAny _ _ (call (Value.ref 125) _) _ _ _); refine stop_call ?_))
local macro_rules | `(tactic| walk_at "call ref") => `(tactic| ((with_reducible show wpAny _ _ (call (Value.ref 139) _) _ _ _); refine stop_call ?_))
local macro_rules | `(tactic| walk_at "call ref") => `(tactic| ((with_reducible show wpAny _ _ (call (Value.ref 144) _) _ _ _); refine stop_call ?_))
local macro_rules | `(tactic| walk_at "exec Assign") => `(tactic| ((with_reducible show wpAny _ _ (exec (Stmt.Assign [PySem.Expr.Name (PySem.Str.ofString "due") _] _ _) _) _ _ _); refine stop_exec ?_))
local macro_rules | `(tactic| walk_at "exec Assign") => `(tactic| ((with_reducible show wpAny _ _ (exec (Stmt.Assign [PySem.Expr.Name (PySem.Str.ofString "pattern") _] _ _) _) _ _ _); refine stop_exec ?_))
set_option maxRecDepth 100000 in
set_option maxHeartbeats 8000000 in
theorem law : PySem.Challenge.rw_ik0157_01.Holds := top (by
  k_go0
  all_goals try k_fold
  k_steps
  rename_i hT tT dT oT kvT sT iT taT qT h1 o1 F1 N1 d1
  rename List Int => ns
  rename (92 < _) => l0
  have hn3 : @Ne Nat (_ + 1) 92 := Nat.ne_of_gt (Nat.lt_succ_of_lt l0)
  have hk : ((List.take 6 ns ++ [0, 5]).sum.fmod 5).toNat < 5 := (by have := fmod_hi (List.take 6 ns ++ [0, 5]).sum (n := 5) (by decide); have := fmod_lo (List.take 6 ns ++ [0, 5]).sum (n := 5) (by decide); omega)
  refine ⟨?_⟩
  ((with_reducible show wpAny _ _ (call (Value.ref 118) _) _ _ _); (refine' use_drawn ?X ?T ?F ?N ?A ?l ?i ?n ?_; (case X => assumption); (case T => assumption); (case F => assumption); (case N => assumption); (case A => exact room_law); (case l => exact ⟨_, (News.get (by assumption) (by k_mem)), rfl, _, rfl⟩); (case i => assumption); (case n => (simp only [List.length_append, List.length_cons, List.length_nil, List.length_take]; omega)); k_whole); intro hD tD tlD plD vsD nD psD TD tTD FD ND qD1 qD2 sD neD sgD lnD lTD sTD; simp only [NeAll, and_true] at qD1 qD2)
  k_steps
  refine ⟨?_⟩
  k_dflt (refine wpAny_Assign_Name ?_ (by rfl))
  k_steps
  refine ⟨?_⟩
  k_dflt (refine LCg.ListComp_U (F₀ := by k_asm) (by with_unfolding_all rfl) (by decide) (by rfl) (by decide) (by rfl) ?_)
  walk1
  refine LCg.CompSrc.ledger rfl (by assumption) (by assumption) (by k_mem) ?_ fun g => ?_
  · rw [PySem.sizeLine_eq, List.size_toArray, strs_len sD]; omega
  refine restU (fun i ys => ∃ zs, StrsAre ys zs ∧ zs.map (·.cps.toList) = (psD.take i).map fun y => patOf (y.cps.toList.map some)) ?_ ?_ _ 0 [] (Nat.zero_add _) ⟨[], .nil, rfl⟩
  · intro i ys v I oI C oC D m₂ h tk E' hi hP hJ hC hx F N off ne
    have off0 := off
    simp only [LCg.Off3, and_true] at off
    obtain ⟨y, ty, rfl, hy⟩ := strs_get sD (show _[i]? = some v by simpa using hP)
    have hyl := (sgD y (List.mem_of_getElem? hy)).2
    have hys : y.cps.size ≤ 32 := by have e : y.cps.size = y.length := rfl; omega
    k_steps
    refine ⟨?_⟩
    k_dflt (refine ListComp_S (by k_asm) (by with_unfolding_all rfl) (by decide) (by rfl) (by decide) (by rfl) ?_)
    walk1
    refine ⟨_, _, _, rfl, rfl, by assumption, by assumption, ?_, ?_⟩
    · rw [PySem.sizeLine_eq]; omega
    rintro s₂ ⟨g2, rfl⟩
    refine restU (fun i ys => ∃ zs, StrsAre ys zs ∧ zs.map (·.cps.toList) = (y.cps.toList.take i).map fun c => tokS (some c)) ?_ ?_ _ 0 [] (Nat.zero_add _) ⟨[], .nil, rfl⟩
    · rintro i2 ys2 v2 I2 oI2 C2 oC2 D2 m3 h2 tk2 E2 hi2 ⟨c, u, hc, rfl⟩ hJ2 hC2 hx2 F2 N2 off2 ne2
      have off02 := off2
      simp only [LCg.Off3, and_true] at off2
      k_steps
      · exact ⟨rfl, map_turn hc (tok_bare (by assumption)).symm hJ2⟩
      · exact ⟨rfl, map_turn hc (tok_brk (by assumption)).symm hJ2⟩
    · rintro ys2 ⟨zs2, hz1, hz2⟩
      have hb2 := map_bound (fun c => tok_le c) hz2
      k_steps
      refine ⟨?_⟩
      refine join_flatG (B := 3) (ys := zs2) rfl ⟨_, (News.get (by assumption) (List.Mem.head _)), rfl, _, rfl⟩ hz1 hb2.1 ?_ ?_
      · rw [hb2.2, List.length_take]; omega
      intro yJ tJ kJ hj
      k_steps
      exact ⟨rfl, piece_turn hy hz2 rfl hj hJ⟩
  · rintro ys ⟨zs, hz1, hz2⟩
    have hb2 := piece_bound sgD hz2
    k_steps
    refine ⟨?_⟩
    refine join_star (B := 96) (ys := zs) rfl ⟨_, (News.get (by assumption) (List.Mem.head _)), rfl, _, rfl⟩ hz1 hb2.1 (by omega) ?_
    intro xP tP kP hj
    have hxP := pat_val hz2 (by have := strs_len sD; simpa using this) hj
    clear hj hz1 hz2 hb2
    have hn1 : @Ne Nat plD 92 := fun e => qD2.2.2.2.2.2 e.symm
    have hn2 : @Ne Nat dT 92 := fun e => qT.2.2.2.2 e.symm
    clear qT qD1 qD2
    have hPne : psD.map (·.cps.toList) ≠ [] := (by simpa using neD)
    have hxl : xP.length ≤ 891 := (by rw [← str_len, hxP]; exact pat_short (by simpa using lnD) (lens_of sgD))
    k_steps
    refine ⟨?_⟩
    refine use_translate (news := [(plD, W.listOf vsD.toArray nD), (dT, oT), (_, o1)]) (ps := #[]) (by assumption) (by assumption) (by assumption) (news_sub (by assumption) (by lcg_sub)) ?_ (.inl rfl) room_law hxP (by omega) (toks_low sgD) ?_
    · simp only [List.mem_cons, List.not_mem_nil, or_false]
      rintro p (rfl | rfl | rfl)
      · exact hn1
      · exact hn2
      · exact hn3
    intro hB tB rl vsB nB psA FB NB qB okA tB vsBl
    clear qB
    k_steps
    refine ⟨?_⟩
    refine use_read (by assumption) (by assumption) (by assumption) (by assumption) room_law (by exact ⟨_, (News.get (by assumption) (by k_mem)), rfl, _, rfl⟩) tB (by rw [← tells_len tB]; exact vsBl) ?_
    intro hR tR bl vsR nR psR FR NR qR sR eR
    have hn4 : @Ne Nat bl 92 := fun e => qR.2.1 e.symm
    clear qR
    have hbR := read_bounds hPne (Nat.le_refl _) eR
    k_steps
    refine ⟨?_⟩
    refine use_escaped (by assumption) (by assumption) (by assumption) (by assumption) room_law (fmod_lo _ (by decide)) (fmod_hi _ (by decide)) (by omega) ?_
    intro hS tS xS tS' FS NS eS
    have hxS := eS
    rw [hxP, esc_pat (tab_clean _ hk)] at hxS
    have hSl : xS.length ≤ 10000 := (by rw [← str_len, eS]; have := esc_short (tab_clean _ hk) xP.cps.toList; rw [str_len] at this; exact Nat.le_trans this (Nat.le_trans (Nat.mul_le_mul_left 6 hxl) (by decide)))
    k_steps
    refine ⟨?_⟩
    refine use_translate (news := [(bl, W.listOf vsR.toArray nR), (plD, W.listOf vsD.toArray nD), (dT, oT), (_, o1)]) (ps := psA) (by assumption) (by assumption) (by assumption) (news_sub (by assumption) (by lcg_sub)) ?_ okA room_law hxS hSl (escX_low (tab_clean _ hk) (toks_low sgD)) ?_
    · simp only [List.mem_cons, List.not_mem_nil, or_false]
      rintro p (rfl | rfl | rfl | rfl)
      · exact hn4
      · exact hn1
      · exact hn2
      · exact hn3
    intro hC tC rl2 vsC nC psC FC NC qC okC tellC vsCl
    clear qC
    k_steps
    refine ⟨?_⟩
    refine use_read (by assumption) (by assumption) (by assumption) (by assumption) room_law (by exact ⟨_, (News.get (by assumption) (by k_mem)), rfl, _, rfl⟩) tellC (by rw [← tells_len tellC]; exact vsCl) ?_
    intro hU tU rd vsU nU psU FU NU qU sU eU
    clear qU
    have hbU := read_bounds hPne (escX_nones hPne) eU
    k_steps
    refine ⟨?_⟩
    refine use_out (tab := tabAt ((List.take 6 ns ++ [0, 5]).sum.fmod 5).toNat) (by assumption) (by assumption) (by assumption) (by assumption) room_law (by exact ⟨_, (News.get (by assumption) (by k_mem)), rfl, _, rfl⟩) sD lnD (fun y hy => (sgD y hy).2) (by exact kda_dict (by assumption) (by k_mem) iT) sT taT (tab_low _ hk).2.1 (tab_low _ hk).2.2.2 ?_
    intro hO tO ol vsO nO os FO NO qO sO eO lnO lO
    clear qO
    have hvO := strs_len sO
    have hbR3 : ∀ y ∈ psR, y.length ≤ 10000 := fun y hy => Nat.le_trans (hbR.2.2 y hy) (Nat.le_trans (toks_short (lens_of sgD)) (Nat.le_trans (Nat.mul_le_mul_left 33 (show _ ≤ 9 by simpa using lnD)) (by decide)))
    have hbU3 : ∀ y ∈ psU, y.length ≤ 10000 := fun y hy => Nat.le_trans (hbU.2.2 y hy) (Nat.le_trans (escX_len (tab_clean _ hk) _) (Nat.le_trans (Nat.mul_le_mul_left 6 (Nat.le_trans (toks_short (lens_of sgD)) (Nat.mul_le_mul_left 33 (show _ ≤ 9 by simpa using lnD)))) (by decide)))
    have hbR2 : psR.length ≤ 1000 := Nat.le_trans hbR.2.1 (Nat.le_trans (show _ ≤ 9 by simpa using lnD) (by decide))
    have hbU2 : psU.length ≤ 1000 := Nat.le_trans hbU.2.1 (Nat.le_trans (show _ ≤ 9 by simpa using lnD) (by decide))
    replace hbR := hbR.1
    replace hbU := hbU.1
    k_steps
    refine ⟨?_⟩
    refine list_keys taT (tab_low _ hk).2.1 rfl (by assumption) (by assumption) (by k_mem) iT sT ?_
    intro gl cG hG tG vsG gs FG NG l1G sG lnG lG
    clear l1G
    k_steps
    refine ⟨?_⟩
    refine use_tries (by assumption) (by assumption) (by assumption) (by assumption) room_law (by exact ⟨_, (News.get (by assumption) (by k_mem)), rfl, _, rfl⟩) sD lnD (fun y hy => (sgD y hy).2) lTD (by exact ⟨_, (News.get (by assumption) (List.Mem.head _)), rfl, _, rfl⟩) sG (by rw [lnG]; exact (tab_low _ hk).2.2.1) (by rw [lnG]; exact Nat.le_trans (tab_low _ hk).2.1 (by decide)) lG ?_
    intro hV tV vl vsV nV tries FV NV qV sV lnV lV
    clear qV
    have hvV := strs_len sV
    have hvD := strs_len sD
    k_steps
    refine ⟨?_⟩
    refine kmk_add_lit (zs := vsO.take 5 ++ vsV) (by assumption) (by assumption) (show Heap.IsList _ _ (List.take (Int.toNat 5) vsO).toArray from ⟨_, (News.get (by assumption) (by k_mem)), rfl, _, rfl⟩) (show Heap.IsList _ _ vsV.toArray from ⟨_, (News.get (by assumption) (by k_mem)), rfl, _, rfl⟩) rfl ?_ (by rw [PySem.sizeLine_eq, List.toList_toArray, List.toList_toArray, List.length_take]; omega)
    intro al hA FA NA l1A
    clear l1A
    have sA := strs_append (strs_take 5 sO) sV
    have lA : ∀ y ∈ os.take 5 ++ tries, y.length ≤ 1000 := fun y hy => (List.mem_append.mp hy).elim (fun h => lO y (List.mem_of_mem_take h)) (lV y)
    have okO := out_ok hk sgD eO
    have NA2 : News _ _ hA [(al, W.listOf (vsO.take 5 ++ vsV).toArray 0), (ol, W.listOf vsO.toArray nO), (rd, W.listOf vsU.toArray nU), (bl, W.listOf vsR.toArray nR), (plD, W.listOf vsD.toArray nD), (dT, oT), (_, o1), (92, tabObj psC)] := news_sub NA (by lcg_sub)
    refine iter_list (vs := vsO.take 5 ++ vsV) (fun i m nx => m (Str.ofString "out") = some (.ref ol) ∧ m (Str.ofString "pieces") = some (.ref plD) ∧ m (Str.ofString "read") = some (.ref rd) ∧ m (Str.ofString "bare") = some (.ref bl) ∧
      nx = [(al, W.listOf (vsO.take 5 ++ vsV).toArray 0), (ol, W.listOf vsO.toArray nO), (rd, W.listOf vsU.toArray nU), (bl, W.listOf vsR.toArray nR), (plD, W.listOf vsD.toArray nD), (dT, oT), (_, o1), (92, tabObj psC)]) rfl ?_ FA NA2 ⟨rfl, rfl, rfl, rfl, rfl⟩ ?_ ?_
    · rintro i m nx ⟨_, _, _, _, rfl⟩
      exact .inr ⟨_, .head _, rfl, _, rfl⟩
    · rintro g i v m₁ nx h6 tk6 I oI hin hv ⟨e1, e2, e3, e4, rfl⟩ hoff hIL F7 N7
      have F8 := fr_put4 F7 e1 e2 e3 e4
      change Fr _ (Array.size _) _ _ at F8
      change News _ (Array.size _) _ _ at N7
      clear hIL
      clear F7 NA FA NA2
      obtain ⟨x, tx, rfl, hx⟩ := strs_get sA hv
      have hxl1 := lA x (List.mem_of_getElem? hx)
      k_steps
      refine ⟨?_⟩
      refine use_takes (by assumption) (by assumption) (by assumption) (by assumption) room_law (by exact ⟨_, (News.get (by assumption) (by k_mem)), rfl, _, rfl⟩) sD neD (by omega) (by omega) (fun y hy => Nat.le_trans (sgD y hy).2 (by decide)) ?_
      intro hF tF FF NF
      generalize hbf : takesP (psD.map (·.cps.toList)) x.cps.toList = bf
      k_steps
      refine ⟨?_⟩
      k_dflt (refine wpAny_Assign_Name ?_ (by rfl))
      refine eval_keep (val := .bool (bf || os.any (· == x))) ‹Fr _ _ _ _› ‹News _ _ _ _› ?_ ?_
      · k_steps
        · exact ⟨⟨by rw [show bf = true by assumption]; rfl, _, _, rfl, by assumption, by assumption⟩⟩
        · refine ⟨?_⟩
          refine in_list_strs (by exact ⟨_, (News.get (by assumption) (by k_mem)), rfl, _, rfl⟩) sO ?_
          exact ⟨⟨by rw [show bf = false by assumption]; rfl, _, _, rfl, by assumption, by assumption⟩⟩
      · intro hG2 tG2 FG2 NG2
        k_steps
        refine ⟨?_⟩
        k_dflt (refine ListComp_S (by k_asm) (by with_unfolding_all rfl) (by decide) (by rfl) (by decide) (by rfl) ?_)
        walk1
        have hxs : x.cps.size = x.length := rfl
        refine ⟨_, _, _, rfl, rfl, by assumption, by assumption, ?_, ?_⟩
        · rw [PySem.sizeLine_eq]; omega
        rintro s₂ ⟨g2, rfl⟩
        refine restU (fun i ys => ∃ zs, StrsAre ys zs ∧ zs.map (·.cps.toList) = (x.cps.toList.take i).map (escT (tabAt ((List.take 6 ns ++ [0, 5]).sum.fmod 5).toNat))) ?_ ?_ _ 0 [] (Nat.zero_add _) ⟨[], .nil, rfl⟩
        · rintro i2 ys2 v2 I2 oI2 C2 oC2 D2 m3 h2 tk2 E2 hi2 ⟨c, u, hc, rfl⟩ hJ2 hC2 hx2 F2 N2 off2 ne2
          have off02 := off2
          simp only [LCg.Off3, and_true] at off2
          k_steps
          refine ⟨?_⟩
          refine get_spelled taT (by assumption) (by k_mem) iT sT ?_
          intro zc tc hzc
          k_steps
          exact ⟨rfl, map_turn hc hzc hJ2⟩
        · rintro ys2 ⟨zs2, hz1, hz2⟩
          have hb2 := map_bound (esc_le _ hk) hz2
          k_steps
          refine ⟨?_⟩
          refine join_flatG (B := 6) (ys := zs2) rfl ⟨_, (News.get (by assumption) (List.Mem.head _)), rfl, _, rfl⟩ hz1 hb2.1 ?_ ?_
          · rw [hb2.2, List.length_take]; omega
          intro xJ tJ kJ hj
          rw [hz2, List.take_of_length_le (Nat.le_of_eq Array.length_toList), flat_esc] at hj
          have hjl : xJ.length ≤ 6000 := (by rw [← str_len, hj]; have := esc_short (tab_clean _ hk) x.cps.toList; rw [str_len] at this; exact Nat.le_trans this (Nat.le_trans (Nat.mul_le_mul_left 6 hxl1) (by decide)))
          clear hz1 hz2 hb2
          obtain ⟨f1, f2, f3⟩ := law_facts hk hPne eR eU eO hj
          rw [hbf] at f1 f2 f3
          k_steps
          refine ⟨?_⟩
          refine use_takes (by assumption) (by assumption) (by assumption) (by assumption) room_law (by exact ⟨_, (News.get (by assumption) (by k_mem)), rfl, _, rfl⟩) sU hbU hbU2 (by omega) hbU3 ?_
          intro hK tK FK NK
          generalize takesP (psU.map (·.cps.toList)) xJ.cps.toList = tb at f2 f3
          k_steps
          refine ⟨?_⟩
          refine use_takes (by assumption) (by assumption) (by assumption) (by assumption) room_law (by exact ⟨_, (News.get (by assumption) (by k_mem)), rfl, _, rfl⟩) sR hbR hbR2 (by omega) hbR3 ?_
          intro hM tM FM NM
          rw [f1]
          k_steps
          · exact absurd (show (bf != bf) = true by assumption) (by simp)
          · exact (no_due (show (tb != _) = true by assumption) (by assumption) f2).elim
          · refine ⟨?_⟩
            refine eq_strs_nil (vs := vsO) (by exact ⟨_, (News.get (by assumption) (by k_mem)), rfl, _, rfl⟩) (by exact ⟨_, (News.get (by assumption) (by k_mem)), rfl, _, rfl⟩) sO okO (by rw [Around.deeper_units]; decide) ?_
            k_steps
            · exact (no_back (show (tb != _) = true by assumption) (by assumption) f3 (by assumption)).elim
            · exact ⟨_, _, _, _, rfl, by assumption, news_sub (by assumption) (by lcg_sub), hoff, rfl, rfl, rfl, rfl, rfl⟩
          · exact ⟨_, _, _, _, rfl, by assumption, news_sub (by assumption) (by lcg_sub), hoff, rfl, rfl, rfl, rfl, rfl⟩
    · rintro g m₁ nx h6 tk6 ⟨e1, e2, e3, e4, rfl⟩ F7 N7
      have F8 := fr_put F7 e1
      change Fr _ (Array.size _) _ _ at F8
      change News _ (Array.size _) _ _ at N7
      clear F7 e1 e2 e3 e4
      k_steps)
end

end
end Mine
theorem PySem.Challenge.cw_ik0157_01_holds : PySem.Challenge.rw_ik0157_01.Holds := by
  exact Mine.law
