import PyProof.Rows.All
import Wide.All
import OpenK.AllK
import Wide.FinOn
import PySem.Challenge.RW_ph0042_01
set_option Elab.async false
namespace Mine
section
open PySem PySem.Builtin PySem.Builtin.Str
/-- a text by its signs' numbers -/
def S (l : List Nat) : Str := ⟨l.toArray⟩
theorem S_toList (l : List Nat) : (S l).cps.toList = l := rfl
theorem S_length (l : List Nat) : (S l).length = l.length := by simp [S, Str.length]
theorem S_of {x : Str} {l : List Nat} (h : x.cps.toList = l) : x = S l := StrLaws.mk_of_toList h
theorem S_inj {a b : List Nat} : S a = S b ↔ a = b := ⟨fun h => by have := congrArg (fun x : Str => x.cps.toList) h; simpa [S] using this, fun h => h ▸ rfl⟩
theorem S_append (a b : List Nat) : S a ++ S b = S (a ++ b) := S_of (by rw [Str.cps_append, Array.toList_append, S_toList, S_toList])
/-- pairs of marks to line ends -/
def R : List Nat → List Nat
  | [] => []
  | [a] => [a]
  | a :: b :: r => if a = 34 ∧ b = 34 then 10 :: R r else a :: R (b :: r)
/-- what stands ahead of the first mark that is left alone -/
def parseL : List Nat → List Nat
  | [] => []
  | [a] => if a = 34 then [] else [a]
  | a :: b :: r => if a = 34 then (if b = 34 then 34 :: parseL r else []) else a :: parseL (b :: r)
theorem at_qq (x : Str) (k : Nat) : StrLaws.At x (S [34, 34]) x.length k ↔ (x.cps.toList[k]? = some 34 ∧ x.cps.toList[k + 1]? = some 34) := by
  have hn : x.length = x.cps.toList.length := by simp [Str.length]
  unfold StrLaws.At
  rw [StrLaws.subAt_eq, S_length, S_toList, hn]
  generalize x.cps.toList = l
  constructor
  · rintro ⟨h1, h2⟩
    have h2 : (l.drop k).take 2 = [34, 34] := by simpa using h2
    have a0 : ((l.drop k).take 2)[0]? = some 34 := by rw [h2]; rfl
    have a1 : ((l.drop k).take 2)[1]? = some 34 := by rw [h2]; rfl
    rw [List.getElem?_take_of_lt (by decide), List.getElem?_drop] at a0 a1
    exact ⟨a0, a1⟩
  · rintro ⟨h1, h2⟩
    have hk : k + 1 < l.length := (List.getElem?_eq_some_iff.mp h2).1
    have e1 : l.drop k = 34 :: 34 :: l.drop (k + 2) := by
      rw [List.drop_eq_getElem_cons (by omega : k < l.length), List.drop_eq_getElem_cons hk]
      have g1 := (List.getElem?_eq_some_iff.mp h1).2
      have g2 := (List.getElem?_eq_some_iff.mp h2).2
      rw [g1, g2]
    refine ⟨by show k + 2 ≤ _; omega, ?_⟩
    rw [e1]; rfl
theorem R_step {l : List Nat} {k : Nat} (hk : k < l.length) (h : ¬ (l[k]? = some 34 ∧ l[k + 1]? = some 34)) : R (l.drop k) = l[k] :: R (l.drop (k + 1)) := by
  rw [List.drop_eq_getElem_cons hk]
  by_cases h1 : k + 1 < l.length
  · rw [List.drop_eq_getElem_cons h1]
    rw [R, if_neg]
    rintro ⟨a, b⟩
    exact h ⟨by simp [hk, a], by simp [h1, b]⟩
  · have : l.drop (k + 1) = [] := List.drop_eq_nil_of_le (by omega)
    rw [this]; rfl
theorem R_gap {l : List Nat} : ∀ (d a : Nat), a + d ≤ l.length → (∀ k, a ≤ k → k < a + d → ¬ (l[k]? = some 34 ∧ l[k + 1]? = some 34)) → R (l.drop a) = (l.drop a).take d ++ R (l.drop (a + d))
  | 0, a, _, _ => by simp
  | d + 1, a, hle, hn => by
    have ha : a < l.length := by omega
    rw [R_step ha (hn a (Nat.le_refl _) (by omega)), R_gap d (a + 1) (by omega) (fun k h1 h2 => hn k (by omega) (by omega))]
    have e : l.drop a = l[a] :: l.drop (a + 1) := List.drop_eq_getElem_cons ha
    rw [e, List.take_succ_cons, List.cons_append, show a + 1 + d = a + (d + 1) by omega]
theorem R_at {l : List Nat} {c : Nat} (h : l[c]? = some 34 ∧ l[c + 1]? = some 34) : R (l.drop c) = 10 :: R (l.drop (c + 2)) := by
  obtain ⟨h1, h2⟩ := h
  have hk : c + 1 < l.length := (List.getElem?_eq_some_iff.mp h2).1
  rw [List.drop_eq_getElem_cons (by omega : c < l.length), List.drop_eq_getElem_cons hk, (List.getElem?_eq_some_iff.mp h1).2, (List.getElem?_eq_some_iff.mp h2).2]
  rw [R, if_pos ⟨rfl, rfl⟩]
theorem join_R (x : Str) : ∀ (cuts : List Nat) (a f : Nat), a ≤ x.length → StrLaws.ChainG x (S [34, 34]) x.length a cuts f → (∀ k, f ≤ k → ¬ StrLaws.At x (S [34, 34]) x.length k) →
    (Str.join (S [10]) (StrLaws.partsFrom x 2 a cuts)).cps.toList = R (x.cps.toList.drop a)
  | [], a, f, ha, h, hf => by
    have hn : x.length = x.cps.toList.length := by simp [Str.length]
    have e : f = a := h
    subst e
    show (strSub x f x.length).cps.toList = _
    rw [StrLaws.strSub_toList, R_gap (x.length - f) f (by omega) (fun k h1 _ => fun q => hf k h1 ((at_qq x k).mpr q)), show f + (x.length - f) = x.length by omega, hn, List.drop_length]
    simp [R]
  | c :: r, a, f, ha, ⟨hac, hat, hno, hr⟩, hf => by
    have hn : x.length = x.cps.toList.length := by simp [Str.length]
    have hq := (at_qq x c).mp hat
    have hc : c + 2 ≤ x.length := hat.1
    have ih := join_R x r (c + 2) f hc hr hf
    obtain ⟨p, q, hp⟩ := StrLaws.partsFrom_ne x 2 (c + 2) r
    have e : Str.join (S [10]) (StrLaws.partsFrom x 2 a (c :: r)) = strSub x a c ++ S [10] ++ Str.join (S [10]) (StrLaws.partsFrom x 2 (c + 2) r) := by
      show Str.join (S [10]) (strSub x a c :: StrLaws.partsFrom x 2 (c + 2) r) = _
      rw [hp]; rfl
    rw [e, Str.cps_append, Str.cps_append, Array.toList_append, Array.toList_append, ih, StrLaws.strSub_toList, S_toList,
      R_gap (c - a) a (by omega) (fun k h1 h2 => fun z => hno k h1 (by omega) ((at_qq x k).mpr z)), show a + (c - a) = c by omega, R_at hq]
    simp
theorem rep_qq (l : List Nat) : Txt.replace (S l) (S [34, 34]) (S [10]) = S (R l) := by
  obtain ⟨f, hc, hf⟩ := StrLaws.occ_tight (S l) (S [34, 34]) (by rw [S_length]; decide)
  have key := join_R (S l) _ 0 f (Nat.zero_le _) hc hf
  rw [S_toList, List.drop_zero] at key
  refine S_of ?_
  unfold Txt.replace
  split
  · rename_i h
    have h0 : (occurrences (S l) (S [34, 34]) 0 (S l).length ((S l).length + 1)) = [] := by
      simpa [S, Str.length] using h
    rw [h0] at key
    rw [← key]
    show l = (strSub (S l) 0 (S l).length).cps.toList
    rw [StrLaws.strSub_toList, S_toList, S_length]; simp
  · rw [StrLaws.glued_eq_join, StrLaws.partsBetween_eq, ← key]; rfl
theorem split_head (l : List Nat) : ∃ r, Txt.split (S l) (S [34]) = S (l.takeWhile (fun c => c != 34)) :: r := by
  have hj := StrLaws.join_split (S l) (S [34])
  have hf : ∀ p ∈ Txt.split (S l) (S [34]), 34 ∉ p.cps.toList := StrLaws.split_free (S l) 34
  have tw : ∀ (p q : List Nat), 34 ∉ p → (p ++ 34 :: q).takeWhile (fun c => c != 34) = p := by
    intro p q hp
    induction p with
    | nil => simp
    | cons a p ih =>
      have ha : a ≠ 34 := fun e => hp (e ▸ List.mem_cons_self ..)
      simp only [List.cons_append, List.takeWhile_cons]
      rw [if_pos (by simp [ha]), ih (fun m => hp (List.mem_cons_of_mem _ m))]
  have tw0 : ∀ (p : List Nat), 34 ∉ p → p.takeWhile (fun c => c != 34) = p := by
    intro p hp
    induction p with
    | nil => rfl
    | cons a p ih =>
      have ha : a ≠ 34 := fun e => hp (e ▸ List.mem_cons_self ..)
      rw [List.takeWhile_cons, if_pos (by simp [ha]), ih (fun m => hp (List.mem_cons_of_mem _ m))]
  cases hs : Txt.split (S l) (S [34]) with
  | nil =>
    exfalso
    unfold Txt.split at hs
    split at hs
    · cases hs
    · split at hs
      · cases hs
      · rw [StrLaws.partsBetween_eq] at hs
        obtain ⟨p, r, hp⟩ := StrLaws.partsFrom_ne (S l) (S [34]).length 0 (occurrences (S l) (S [34]) 0 (S l).length ((S l).length + 1))
        rw [hp] at hs; cases hs
  | cons p r =>
    refine ⟨r, ?_⟩
    congr 1
    have hp : 34 ∉ p.cps.toList := hf p (by rw [hs]; exact List.mem_cons_self ..)
    rw [hs] at hj
    refine S_of ?_
    cases r with
    | nil =>
      have : p = S l := hj
      rw [this, S_toList, tw0 l (by rw [this, S_toList] at hp; exact hp)]
    | cons q r =>
      have hj' : p ++ S [34] ++ Str.join (S [34]) (q :: r) = S l := hj
      have := congrArg (fun x : Str => x.cps.toList) hj'
      simp only [Str.cps_append, Array.toList_append, S_toList] at this
      rw [← this, List.append_assoc]
      exact (tw _ _ hp).symm
theorem rep_nl_join : ∀ parts : List Str, (∀ p ∈ parts, 10 ∉ p.cps.toList) → (Str.join (S [34]) parts).cps.toList = (Str.join (S [10]) parts).cps.toList.map (fun c => if c = 10 then 34 else c)
  | [], _ => rfl
  | [p], h => by
    have hp : 10 ∉ p.cps.toList := h p (List.mem_singleton.mpr rfl)
    show p.cps.toList = p.cps.toList.map _
    conv => lhs; rw [← List.map_id p.cps.toList]
    refine List.map_congr_left fun c hc => ?_
    have hne : ¬ c = 10 := fun e => hp (e ▸ hc)
    rw [if_neg hne]; rfl
  | p :: q :: r, h => by
    have ih := rep_nl_join (q :: r) fun a ha => h a (List.mem_cons_of_mem _ ha)
    have hp : 10 ∉ p.cps.toList := h p (List.mem_cons_self ..)
    show (p ++ S [34] ++ Str.join (S [34]) (q :: r)).cps.toList = ((p ++ S [10] ++ Str.join (S [10]) (q :: r)).cps.toList).map _
    simp only [Str.cps_append, Array.toList_append, List.map_append, S_toList, ih]
    congr 1
    congr 1
    conv => lhs; rw [← List.map_id p.cps.toList]
    refine List.map_congr_left fun c hc => ?_
    have hne : ¬ c = 10 := fun e => hp (e ▸ hc)
    rw [if_neg hne]; rfl
theorem rep_nl (l : List Nat) : Txt.replace (S l) (S [10]) (S [34]) = S (l.map fun c => if c = 10 then 34 else c) := by
  refine S_of ?_
  have e : Txt.replace (S l) (S [10]) (S [34]) = Str.join (S [34]) (Txt.split (S l) (S [10])) := StrLaws.replace_one (S l) (S [34]) 10
  have hf : ∀ p ∈ Txt.split (S l) (S [10]), 10 ∉ p.cps.toList := StrLaws.split_free (S l) 10
  rw [e, rep_nl_join _ hf]
  have := StrLaws.join_split (S l) (S [10])
  rw [this, S_toList]
theorem parse_R : ∀ l : List Nat, 10 ∉ l → ((R l).takeWhile (fun c => c != 34)).map (fun c => if c = 10 then 34 else c) = parseL l
  | [], _ => rfl
  | [a], h => by
    have ha : a ≠ 10 := fun e => h (e ▸ List.mem_cons_self ..)
    by_cases h1 : a = 34
    · subst h1; rfl
    · simp [R, parseL, h1, ha]
  | a :: b :: r, h => by
    have ha : a ≠ 10 := fun e => h (e ▸ List.mem_cons_self ..)
    have hbr : 10 ∉ b :: r := fun m => h (List.mem_cons_of_mem _ m)
    have hr : 10 ∉ r := fun m => hbr (List.mem_cons_of_mem _ m)
    have i1 := parse_R (b :: r) hbr
    have i2 := parse_R r hr
    by_cases h1 : a = 34
    · by_cases h2 : b = 34
      · simp [R, parseL, h1, h2, i2]
      · simp [R, parseL, h1, h2]
    · have e : R (a :: b :: r) = a :: R (b :: r) := by rw [R, if_neg (fun q => h1 q.1)]
      rw [e, List.takeWhile_cons, if_pos (by simp [h1]), List.map_cons, i1, if_neg ha]
      simp [parseL, h1]
termination_by l => l.length
theorem R_le : ∀ l : List Nat, (R l).length ≤ l.length
  | [] => Nat.le_refl _
  | [_] => Nat.le_refl _
  | a :: b :: r => by
    have i1 := R_le (b :: r)
    have i2 := R_le r
    unfold R
    split <;> simp at * <;> omega
termination_by l => l.length
end
section
open PySem PySem.W PyProof.Rows
set_option maxRecDepth 100000
set_option maxHeartbeats 8000000
open_top hd for PySem.Challenge.rw_ph0042_01
end
section
open PySem PySem.W PyProof.Rows PySem.Calls
set_option maxRecDepth 100000
noncomputable abbrev K (w : World) : Frag := Mine.hd.heap_39 w.params
noncomputable abbrev prg : Program := PySem.Challenge.rw_ph0042_01.row.prog
structure Cx (w : World) (h : Heap) : Prop where
  k : (K w).In h
  t : ∃ mg mb, TopRead Mine.hd.view_39 (looseW Mine.hd.view_39 []) mg mb h
theorem Cx.keeps {w : World} {h h' : Heap} (C : Cx w h) (k : ∀ b o, h.get? b = some o → h'.get? b = some o) : Cx w h' :=
  ⟨C.k.keeps k, let ⟨mg, mb, T⟩ := C.t; ⟨mg, mb, T.keeps k⟩⟩
/-- the room about a call: nothing handled, d frames and u units left -/
structure Rm (A : Around) (d u : Nat) : Prop where
  h : A.handled = none
  d : A.depth + d < recursionLimit
  u : A.units + u < cLine
theorem enter {w : World} {A : Around} {s : Shared} {f : Addr} {args : List Value} {Q E : Value → Shared → Prop} {name qual : Str} {params : Arguments} {body : List Stmt} {scope : Scope}
    {dV kV doc pm cdv ct oc : Value} {an od : Option Addr} {osl : Array (Option Value)} {binds : List (Str × Value)}
    (C : Cx w s.heap) (ho : (K w).lookup f = some ⟨oc, od, .func (fnOf name qual params body scope dV kV doc pm an cdv ct), osl⟩) (hcd : codeIn (K w) cdv qual = true) (hroom : A.depth < recursionLimit)
    (hbind : BindsTo s (fnOf name qual params body scope dV kV doc pm an cdv ct) ⟨args, []⟩ binds) (hloc : ∀ y ∈ binds, scope.names.lookup y.1 = some .local)
    (h : ∀ L h₁ tk, 0 < tk → Fr s.heap L h₁ (fun y => binds.reverse.lookup y) → News s.heap L h₁ [] →
      wpAny (model prg w) (A.deeper (envOf qual scope L f cdv)) (execs body (envOf qual scope L f cdv))
        (fun fl s' => Q (match fl with | .ret v => v | _ => .none) s') (fun _ _ => False) { s with heap := h₁, toks := tk })
    (hb : binds.length ≠ 0) (hco : scope.isCoroutine = false) (hgen : scope.isGenerator = false) (hk : scope.kind = .function) (hcell : ∀ x ∈ scope.names, x.2 ≠ .cell) :
    wpAny (model prg w) A (call (.ref f) args) Q E s := by
  obtain ⟨mg, mb, T⟩ := C.t
  refine wpAny_call (codeAny_call_def (fd := fnOf name qual params body scope dV kV doc pm an cdv ct) (body := body) (binds := binds) hroom (C.k _ _ ho) rfl T.nolimit (codeRec_of C.k hcd) rfl hbind hcell hloc (fun h₁ hns hk₁ => ?_) hco hgen hk)
  exact wpAny_mono (h s.heap.objs.size h₁ _ (Nat.lt_of_lt_of_le (Nat.pos_of_ne_zero hb) (Nat.le_add_left _ _)) ⟨hns, hk₁, Nat.le_refl _⟩ News.nil) (fun fl s' x => x) fun _ _ x => x.elim
theorem S34 : Str.ofString "\"" = S [34] := by decide +kernel
theorem S3434 : Str.ofString "\"\"" = S [34, 34] := by decide +kernel
theorem S10 : Str.ofString "\n" = S [10] := by decide +kernel
theorem repl {w : World} {A : Around} {E : Value → Shared → Prop} {s : Shared} {x y z : Str} {t : Tok} {u v : Nat} {Q : Value → Shared → Prop} (huv : 0 < u ∧ u < v) (hyz : (y == z) = false) (hx : x.length ≤ 1048576) (hz : z.length ≤ 14)
    (hq : ∀ t' k, Q (.str (Txt.replace x y z) t') { s with toks := k }) : wpAny (model prg w) A (call (.builtin "str.replace") [.str x t, .str y u, .str z v]) Q E s :=
  SC.replaceW (Nat.ne_of_gt huv.1) (Nat.ne_of_gt (Nat.lt_trans huv.1 huv.2)) (Nat.ne_of_lt huv.2) hyz hx hz hq
theorem slice_to (l : List Nat) (j : Nat) (h : j ≤ l.length) : Txt.slice (S l) none (some (j : Int)) = S (l.take j) := by
  have e := StrLaws.sliceText_to (x := S l) (j := (j : Int)) ⟨by omega, by rw [S_toList]; omega⟩
  show StrLaws.sliceText (S l) none (some (j : Int)) = _
  rw [e, S_toList]; simp [S]
theorem slice_mid (l : List Nat) (i j : Nat) (hi : i ≤ j) (h : j ≤ l.length) : Txt.slice (S l) (some (i : Int)) (some (j : Int)) = S ((l.drop i).take (j - i)) := by
  have e := StrLaws.sliceText_plain (x := S l) (i := (i : Int)) (j := (j : Int)) ⟨by omega, by omega, by rw [S_toList]; omega⟩
  show StrLaws.sliceText (S l) (some (i : Int)) (some (j : Int)) = _
  rw [e, S_toList]
  have e1 : ((i : Int)).toNat = i := by omega
  have e2 : ((j : Int) - (i : Int)).toNat = j - i := by omega
  rw [e1, e2]; rfl
/-- a frame whose names in the list are told -/
def wL (ps : List (Str × Value)) (m : Str → Option Value) : Str → Option Value := fun y => match ps.lookup y with
  | some v => some v
  | none => m y
theorem wL_eq {ps : List (Str × Value)} {m : Str → Option Value} (hp : ∀ p ∈ ps, m p.1 = some p.2) : wL ps m = m := by
  funext y
  unfold wL
  cases e : ps.lookup y with
  | none => rfl
  | some v =>
    have : (y, v) ∈ ps := by
      clear hp
      induction ps with
      | nil => cases e
      | cons p r ih =>
        obtain ⟨a, b⟩ := p
        rw [List.lookup_cons] at e
        cases hq : y == a with
        | true => rw [hq] at e; cases e; rw [eq_of_beq hq]; exact List.mem_cons_self ..
        | false => rw [hq] at e; exact List.mem_cons_of_mem _ (ih e)
    exact (hp _ this).symm
theorem Fr.wL {h₀ h : Heap} {L : Addr} {m : Str → Option Value} (F : Fr h₀ L h m) (ps : List (Str × Value)) (hp : ∀ p ∈ ps, m p.1 = some p.2) : Fr h₀ L h (wL ps m) := (wL_eq hp).symm ▸ F
theorem S_beq (a b : List Nat) : (S a == S b) = decide (a = b) := by
  by_cases h : a = b
  · subst h; simp
  · rw [decide_eq_false h, beq_eq_false_iff_ne]; exact fun e => h (S_inj.mp e)
theorem S_bne (a b : List Nat) : (S a != S b) = !decide (a = b) := by rw [bne, S_beq]
theorem itemS {w : World} {A : Around} {E : Value → Shared → Prop} {s : Shared} {value slice : Expr} {t u : Tok} {Q : Value → Shared → Prop} {l : List Nat} {k c : Nat} {i : Int} (hi : i = (k : Int)) (hc : l[k]? = some c) (hl : l.length ≤ 100000)
    (h : Q (.str (S [c]) s.toks) { s with toks := s.toks + 1 })
    (hs : subscripted slice false (.str (S l) t) (.int i u) = operate [.str (S l) t, .int i u] (getItem (.str (S l) t) (.int i u)) := by with_unfolding_all rfl)
    (ht : ∀ r, letTemporaryGo value (.str (S l) t) r = pure () := by intro _; with_unfolding_all rfl) :
    wpAny (model prg w) A (subscriptTail value slice (.str (S l) t) (.int i u)) Q E s := by
  subst hi
  have hk : k < l.length := (List.getElem?_eq_some_iff.mp hc).1
  refine item_str (fitsSsize_of (N := 9223372036854775808) (by omega) (by omega) (Int.le_refl _)) (by rw [S_length]; omega) (by rw [S_length]; omega) (fun _ => ?_) hs ht
  have e : Txt.item (S l) (k : Int) = S [c] := by
    unfold Txt.item Txt.charAt
    have h1 : (S l).cps[((k : Int)).toNat]? = some c := by
      show (l.toArray)[((k : Int)).toNat]? = some c
      rw [List.getElem?_toArray, Int.toNat_natCast]; exact hc
    rw [StrLaws.at_nonneg (by omega) h1]; rfl
  rw [e]; exact h
theorem addS {w : World} {A : Around} {E : Value → Shared → Prop} {s : Shared} {t u : Tok} {Q : Value → Shared → Prop} {a b : List Nat} (hl : a.length + b.length ≤ 100000)
    (h : ∀ t' tk, Q (.str (S (a ++ b)) t') { s with toks := tk }) : wpAny (model prg w) A (binaryOp .Add (.str (S a) t) (.str (S b) u)) Q E s :=
  PyProof.Rows.add_str (fun t' tk => by rw [S_append]; exact h t' tk) (by rw [S_length, S_length, sizeLine_eq]; omega)
theorem mulI {w : World} {A : Around} {E : Value → Shared → Prop} {s : Shared} {t u : Tok} {Q : Value → Shared → Prop} {a b : Int} (hb : a.natAbs < 2 ^ 64 ∨ b.natAbs < 2 ^ 64)
    (h : Q (.int (a * b) s.toks) { s with toks := s.toks + 1 }) : wpAny (model prg w) A (binaryOp .Mult (.int a t) (.int b u)) Q E s :=
  PyProof.Rows.mul_int h (hb.elim (fun q => IntMulOk.of_left (intBits_le q)) fun q => IntMulOk.of_right (intBits_le q))
theorem powI {w : World} {A : Around} {E : Value → Shared → Prop} {s : Shared} {t u : Tok} {Q : Value → Shared → Prop} {a n : Int} {k : Nat} (hk : n = (k : Int)) (hk2 : k ≤ 1000000) (ha : a.natAbs < 2 ^ 64)
    (h : Q (.int (a ^ k) s.toks) { s with toks := s.toks + 1 }) : wpAny (model prg w) A (binaryOp .Pow (.int a t) (.int n u)) Q E s :=
  pow_int_small (by omega) (by omega) ha (by rw [hk, Int.toNat_natCast]; exact h)
theorem pow_le {b : Int} (hb : b.natAbs ≤ 1000) : ∀ k : Nat, (b ^ k).natAbs ≤ 1000 ^ k
  | 0 => by simp
  | k + 1 => by
    rw [Int.pow_succ, Int.natAbs_mul, Nat.pow_succ]
    exact Nat.mul_le_mul (pow_le hb k) hb
theorem pow_lt {b : Int} (hb : b.natAbs ≤ 1000) {k : Nat} (hk : k ≤ 6) : (b ^ k).natAbs ≤ 1000000000000000000 := by
  have h1 := pow_le hb k
  have h2 : (1000 : Nat) ^ k ≤ 1000 ^ 6 := Nat.pow_le_pow_right (by decide) hk
  have h3 : (1000 : Nat) ^ 6 = 1000000000000000000 := by decide
  omega
end
section
open PySem PySem.W PyProof.Rows PySem.Calls PySem.Spec
set_option maxRecDepth 100000
section
variable {w : World} {A : Around} {E : Value → Shared → Prop} {s : Shared} {env : Env} {h₀ : Heap} {x : Str} {body : List Stmt} {Q : Flow → Shared → Prop} {m₀ : Str → Option Value}
/-- a turn's end: the frame, and what the loop itself bears -/
def SEnd (h₀ : Heap) (L : Addr) (own : List (Addr × Obj)) (J : (Str → Option Value) → Prop) (s₁ s₂ : Shared) : Prop :=
  ∃ h' tk m', s₂ = { s₁ with heap := h', toks := tk } ∧ Fr h₀ L h' m' ∧ News h₀ L h' own ∧ J m'
def SPost (h₀ : Heap) (L : Addr) (own : List (Addr × Obj)) (J : (Str → Option Value) → Prop) (s₁ : Shared) (Q : Flow → Shared → Prop) (f : Flow) (s₂ : Shared) : Prop :=
  match f with
  | .ret v => Q (.ret v) s₂
  | .brk => Q .next s₂
  | _ => SEnd h₀ L own J s₁ s₂
theorem SPost.toN {L : Addr} {own : List (Addr × Obj)} {J : (Str → Option Value) → Prop} {s₁ s₂ : Shared} {f : Flow} (h : SPost h₀ L own J s₁ Q f s₂) : InvPostN h₀ L (fun m' _ => J m') own [] s₁ Q f s₂ := by
  cases f <;> first | exact h | (obtain ⟨h', tk, m', e, F, N, j⟩ := h; exact ⟨h', tk, m', own, [], e, F, N, by simp, fun _ q => q, rfl, j⟩)
/-- any loop of one name, what holds of the frame between the turns -/
theorem loopS {I : Addr} {fp wr : List Addr} {n : Nat} {P : Nat → Value → Prop} {St : Nat → Heap → Prop} (J : Nat → (Str → Option Value) → Prop) (W : Walks prg w A I fp wr n P St) (hLf : env.locals ∉ fp)
    (hwr : ∀ b ∈ wr, h₀.get? b = none) (hst : St 0 s.heap) (F : Fr h₀ env.locals s.heap m₀) (hj : J 0 m₀)
    (turn : ∀ i v m₁ h tk own, i < n → P i v → J i m₁ → Fr h₀ env.locals h (fun y => if y = x then some v else m₁ y) → News h₀ env.locals h own →
      wpAny (model prg w) A (execs body env) (SPost h₀ env.locals own (J (i + 1)) { s with heap := h, toks := tk } Q) E { s with heap := h, toks := tk })
    (done : ∀ m₁ h tk, J n m₁ → Fr h₀ env.locals h m₁ → Q .next { s with heap := h, toks := tk }) : LoopAtV prg w A h₀ env x body Q E (.ref I) s := by
  refine loop_invN (fun i m _ => J i m) W hLf hwr (news := []) (by simp) (by simp) hst F News.nil hj ?_ (fun m₁ _ h tk j F' _ => done m₁ h tk j F')
  intro i v m₁ news₁ h tk own hi hP ha _ hJ F₁ N₁
  have e : news₁ = [] := by simpa using ha
  subst e
  exact wpAny_mono (turn i v m₁ h tk own hi hP hJ F₁ N₁) (fun f s₂ p => p.toN) fun _ _ e => e
theorem iter_str {l : List Nat} {t : Tok} (J : Nat → (Str → Option Value) → Prop) (hh : A.handled = none) (F : Fr h₀ env.locals s.heap m₀) (hj : J 0 m₀)
    (turn : ∀ i c tc m₁ h tk own, l[i]? = some c → J i m₁ → Fr h₀ env.locals h (fun y => if y = x then some (.str (S [c]) tc) else m₁ y) → News h₀ env.locals h own →
      wpAny (model prg w) A (execs body env) (SPost h₀ env.locals own (J (i + 1)) { s with heap := h, toks := tk } Q) E { s with heap := h, toks := tk })
    (done : ∀ m₁ h tk, J l.length m₁ → Fr h₀ env.locals h m₁ → Q .next { s with heap := h, toks := tk }) :
    wpAny (model prg w) A (pyIter (.str (S l) t)) (fun it s₂ => LoopAtV prg w A h₀ env x body Q E it s₂) E s := by
  refine wpAny_pyIter_str fun o St hW hst => ?_
  refine loopS J (hW A hh) ?_ ?_ hst (F.push _) hj ?_ ?_
  · intro hm
    exact absurd F.ns.lt ((List.mem_singleton.mp hm) ▸ Nat.lt_irrefl _)
  · intro b' hb
    rw [List.mem_singleton.mp hb]
    exact next_is_new F
  · rintro i v m₁ h tk own hi ⟨c, u, hc, rfl⟩ hJ F₁ N₁
    refine turn i c u m₁ h tk own ?_ hJ F₁ N₁
    simpa [S] using hc
  · intro m₁ h tk hJ F₁
    exact done m₁ h tk (by simpa [S] using hJ) F₁
theorem iter_range {r : Addr} {a b : Int} {t u v : Tok} {n : Nat} (J : Nat → (Str → Option Value) → Prop) (hh : A.handled = none) (hr : IsRange s.heap r a b 1 t u v) (hsm : Builtin.Range.small a b 1 = true)
    (hn : Builtin.Range.rangeSize a b 1 = (n : Int)) (F : Fr h₀ env.locals s.heap m₀) (hj : J 0 m₀)
    (turn : ∀ (i : Nat) tc m₁ h tk own, i < n → J i m₁ → Fr h₀ env.locals h (fun y => if y = x then some (.int (a + (i : Int)) tc) else m₁ y) → News h₀ env.locals h own →
      wpAny (model prg w) A (execs body env) (SPost h₀ env.locals own (J (i + 1)) { s with heap := h, toks := tk } Q) E { s with heap := h, toks := tk })
    (done : ∀ m₁ h tk, J n m₁ → Fr h₀ env.locals h m₁ → Q .next { s with heap := h, toks := tk }) :
    wpAny (model prg w) A (pyIter (.ref r)) (fun it s₂ => LoopAtV prg w A h₀ env x body Q E it s₂) E s := by
  refine wpAny_pyIter_range hr hsm ?_
  refine loopS J (Walks.range hh s.heap.objs.size a 1 n) ?_ ?_ ?_ (F.push _) hj ?_ ?_
  · intro hm
    exact absurd F.ns.lt ((List.mem_singleton.mp hm) ▸ Nat.lt_irrefl _)
  · intro b' hb
    rw [List.mem_singleton.mp hb]
    exact next_is_new F
  · show IsRangeIter _ _ _ _ _
    rw [hn]
    have e1 : a + ((0 : Nat) : Int) * 1 = a := by omega
    have e2 : (n : Int) - ((0 : Nat) : Int) = n := by omega
    rw [e1, e2]
    exact Heap.get?_push_size _ rfl
  · rintro i v m₁ h tk own hi ⟨tv, rfl⟩ hJ F₁ N₁
    rw [Int.mul_one] at F₁
    exact turn i tv m₁ h tk own hi hJ F₁ N₁
  · intro m₁ h tk hJ F₁
    exact done m₁ h tk hJ F₁
end
end
section
open PySem PySem.W PyProof.Rows PySem.Calls PySem.Spec
set_option maxRecDepth 100000
/-- the turn of a list comprehension's innermost clause -/
def turnOf (e elt target iter : Expr) (ifs : List Expr) (depth : Nat) (it acc : Value) (env : Env) : Sem Fin := do
  standAt iter.pos
  match ← pyNext it with
  | none => pure (.done .next)
  | some v =>
    letOwnedTupleGo target it v
    assign target env v
    let mut ok := true
    for c in ifs do
      if ok then ok ← isTrue c env (eval c env)
    if ok then
      (do let _ ← call (.builtin "list.append") [acc, ← eval elt env])
    again (.compLoop e depth it acc env)
/-- a turn's end in a comprehension: the block's frame, all else kept -/
def CE (C : Addr) (h : Heap) (s : Shared) (J : (Str → Option Value) → Heap → Prop) (s' : Shared) : Prop :=
  ∃ h' tk' m', s' = { s with heap := h', toks := tk' } ∧ h'.Ns C m' ∧ (∀ b o, b ≠ C → h.get? b = some o → h'.get? b = some o) ∧ J m' h'
section
variable {w : World} {A : Around} {R : Result → Shared → Prop} {s : Shared}
theorem compLoopG {elt iter : Expr} {gens : List Comprehension} {scope : Scope} {pos : Pos} {x : Str} {px : Pos} {ifs : List Expr} {depth : Nat} {I D : Addr} {fp wr : List Addr} {n : Nat} {P : Nat → Value → Prop} {St : Nat → Heap → Prop} {cenv : Env}
    {m₀ : Str → Option Value} {ys₀ : List Value} (W : Walks prg w A I fp wr n P St) (he : ∀ it acc, compTurn (.ListComp elt gens scope pos) depth it acc cenv = turnOf (.ListComp elt gens scope pos) elt (.Name x px) iter ifs depth it acc cenv)
    (hx : cenv.kindOf x = some .local) (hp : (cenv.scope.kind == .class || (cenv.scope.kind == .module && cenv.locals != cenv.globals)) = false)
    (hDC : D ≠ cenv.locals) (hDf : D ∉ fp) (hCf : cenv.locals ∉ fp)
    (J : Nat → List Value → (Str → Option Value) → Heap → Prop)
    (hJs : ∀ i ys m h h', J i ys m h → (∀ b o, b ≠ cenv.locals → b ∉ wr → b ≠ D → h.get? b = some o → h'.get? b = some o) → J i ys m h')
    (hJl : ∀ i ys m h, J i ys m h → ys.length ≤ 100000)
    (hst : St 0 s.heap) (hacc : s.heap.PlainList D ys₀.toArray) (hn : s.heap.Ns cenv.locals m₀) (hj : J 0 ys₀ m₀ s.heap)
    (turn : ∀ i v ys m h tk, i < n → P i v → J i ys m h → h.Ns cenv.locals (fun y => if y = x then some v else m y) → h.PlainList D ys.toArray →
      (∀ b o, b ≠ cenv.locals → b ∉ wr → b ≠ D → s.heap.get? b = some o → h.get? b = some o) →
      wpAny (model prg w) A (forIn ifs true fun c r => if r = true then do let ok ← isTrue c cenv (eval c cenv); pure (ForInStep.yield ok) else pure (ForInStep.yield r))
        (fun ok s₃ => if ok = true then wpAny (model prg w) A (eval elt cenv) (fun y s₄ => CE cenv.locals h { s with heap := h, toks := tk } (J (i + 1) (ys ++ [y])) s₄) (fun _ _ => False) s₃
          else CE cenv.locals h { s with heap := h, toks := tk } (J (i + 1) ys) s₃) (fun _ _ => False) { s with heap := h, toks := tk })
    (hR : ∀ h' tk m' ys, h'.Ns cenv.locals m' → h'.PlainList D ys.toArray → J n ys m' h' → (∀ b o, b ≠ cenv.locals → b ∉ wr → b ≠ D → s.heap.get? b = some o → h'.get? b = some o) → R (.ok .next) { s with heap := h', toks := tk }) :
    codeAny (model prg w) A (.compLoop (.ListComp elt gens scope pos) depth (.ref I) (.ref D) cenv) R s := by
  have hCw : cenv.locals ∉ wr := fun h => hCf (W.sub _ h)
  have hDw : D ∉ wr := fun h => hDf (W.sub _ h)
  refine codeAny_loop rfl (fun k s' => ∃ h' tk m' ys i, s' = { s with heap := h', toks := tk } ∧ St i h' ∧ h'.PlainList D ys.toArray ∧ h'.Ns cenv.locals m' ∧ J i ys m' h' ∧ i ≤ n ∧ k = n + 1 - i ∧
      (∀ b o, b ≠ cenv.locals → b ∉ wr → b ≠ D → s.heap.get? b = some o → h'.get? b = some o)) ?_ (n + 1)
    ⟨s.heap, s.toks, m₀, ys₀, 0, rfl, hst, hacc, hn, hj, Nat.zero_le _, rfl, fun _ _ _ _ _ e => e⟩
  rintro k s' ⟨H, tk, m', ys, i, rfl, hst', hacc', hn', hJ, hi, rfl, hk⟩
  show wpAny _ A ((compTurn (.ListComp elt gens scope pos) depth (.ref I) (.ref D) cenv).onRaise (fun x => do noteFrame x cenv; theTreesLotGoes x)) _ _ _
  refine wpAny_noted ?_
  rw [he]
  unfold turnOf
  refine wpAny_bind (wpAny_standAt (wpAny_bind ?_))
  by_cases hlt : i < n
  · refine W.item i _ _ _ hlt hst' fun v h₁ tk₁ hPv hst₁ hk₁ => ?_
    refine wpAny_bind (wpAny_of_eq (show letOwnedTupleGo (.Name x px) (.ref I) v = pure () from rfl) ?_)
    refine wpAny_bind (wpAny_assign_Name (wpAny_storeName_local hx (hn'.at' fun o e => hk₁ _ o hCw e) (fun h₂ hn₂ hs₂ => ?_) hp))
    have up₂ : ∀ b o, b ≠ cenv.locals → b ∉ wr → H.get? b = some o → h₂.get? b = some o := fun b o hbC hbf e => hs₂.extBut b o hbC (hk₁ b o hbf e)
    have hst₂ : St (i + 1) h₂ := W.frame _ _ _ hst₁ fun b hb o e => hs₂.extBut b o (fun h => hCf (h ▸ hb)) e
    have hacc₂ : h₂.PlainList D ys.toArray := hacc'.at fun o e => up₂ D o hDC hDw e
    have hJ₂ : J i ys m' h₂ := hJs _ _ _ _ _ hJ fun b o h1 h2 h3 e => up₂ b o h1 h2 e
    refine wpAny_bind (wpAny_mono (turn i v ys m' h₂ (tk₁ + 1) hlt hPv hJ₂ hn₂ hacc₂ fun b o h1 h2 h3 e => up₂ b o h1 h2 (hk b o h1 h2 h3 e)) (fun ok s₃ h₃ => ?_) fun _ _ f => f.elim)
    cases ok with
    | false =>
      simp only [Bool.false_eq_true, if_false] at h₃ ⊢
      obtain ⟨h', tk', m₃, rfl, hn₃, hk₃, hJ₃⟩ := h₃
      refine wpAny_pure ⟨rfl, n + 1 - (i + 1), by omega, h', tk', m₃, ys, i + 1, rfl, W.frame _ _ _ hst₂ fun b hb o e => hk₃ b o (fun q => hCf (q ▸ hb)) e, hacc₂.at fun o e => hk₃ _ o hDC e, hn₃, hJ₃, hlt, rfl, fun b o h1 h2 h3 e => hk₃ b o h1 (up₂ b o h1 h2 (hk b o h1 h2 h3 e))⟩
    | true =>
      simp only [if_true] at h₃ ⊢
      refine wpAny_bind (wpAny_bind (wpAny_mono h₃ (fun y s₄ h₄ => ?_) fun _ _ f => f.elim))
      obtain ⟨h', tk', m₃, rfl, hn₃, hk₃, hJ₃⟩ := h₄
      have hl := hJl _ _ _ _ hJ
      refine wpAny_bind (wpAny_list_append_plain (hsz := by rw [List.size_toArray, sizeLine_eq]; omega) (hacc₂.at fun o e => hk₃ _ o hDC e) fun h₅ hl₅ hs₅ => ?_)
      refine wpAny_pure (wpAny_pure ⟨rfl, n + 1 - (i + 1), by omega, h₅, tk', m₃, ys ++ [y], i + 1, rfl, ?_, by simpa using hl₅, hn₃.sameBut hs₅ (Ne.symm hDC), hJs _ _ _ _ _ hJ₃ (fun b o h1 h2 h3 e => hs₅.extBut b o h3 e), hlt, rfl, fun b o h1 h2 h3 e => hs₅.extBut b o h3 (hk₃ b o h1 (up₂ b o h1 h2 (hk b o h1 h2 h3 e)))⟩)
      exact W.frame _ _ _ hst₂ fun b hb o e => hs₅.extBut b o (fun q => hDf (q ▸ hb)) (hk₃ b o (fun q => hCf (q ▸ hb)) e)
  · have hin : i = n := by omega
    subst hin
    refine W.done _ _ _ hst' fun h₁ tk₁ hk₁ => ?_
    exact wpAny_pure (hR h₁ tk₁ m' ys (hn'.at' fun o e => hk₁ _ o hCw e) (hacc'.at fun o e => hk₁ _ o hDw e) (hJs _ _ _ _ _ hJ fun b o h1 h2 h3 e => hk₁ b o h2 e) fun b o h1 h2 h3 e => hk₁ b o h2 (hk b o h1 h2 h3 e))
end
/-- all that stands in h beyond the base, the frame apart -/
def Own (hb : Heap) (C : Addr) (h : Heap) (own : List (Addr × Obj)) : Prop := ∀ b o, b ≠ C → hb.get? b = none → h.get? b = some o → (b, o) ∈ own
theorem own_ex (hb : Heap) (C : Addr) (h : Heap) : ∃ own, News hb C h own ∧ Own hb C h own := by
  refine ⟨ownOf hb ((List.range h.objs.size).filter (fun a => decide (a ≠ C))) h, news_ownOf (by simp), fun b o hbC hn e => mem_ownOf ?_ hn e⟩
  have := Heap.lt_size e
  simp [hbC, this]
theorem own_keep {hb h h' : Heap} {C : Addr} {own nx : List (Addr × Obj)} {m m' : Str → Option Value} (F₀ : Fr hb C h m) (ho : Own hb C h own) (F : Fr hb C h' m') (N : News hb C h' nx) (hs : ∀ p ∈ own, p ∈ nx) :
    ∀ b o, b ≠ C → h.get? b = some o → h'.get? b = some o := fun b o hbC e => by
  cases q : hb.get? b with
  | some o₀ =>
    have h1 := F₀.keep b o₀ q
    rw [e] at h1; cases h1
    exact F.keep b o q
  | none => exact (N _ (hs _ (ho b o hbC q e))).1
theorem ce_of {hb h h' : Heap} {C : Addr} {own nx : List (Addr × Obj)} {m m' : Str → Option Value} {s : Shared} {tk tk' : Nat} {J : (Str → Option Value) → Heap → Prop} (F₀ : Fr hb C h m) (ho : Own hb C h own) (F : Fr hb C h' m') (N : News hb C h' nx)
    (hs : ∀ p ∈ own, p ∈ nx) (hj : (∀ b o, b ≠ C → h.get? b = some o → h'.get? b = some o) → J m' h') : CE C h { s with heap := h, toks := tk } J { s with heap := h', toks := tk' } :=
  ⟨h', tk', m', rfl, F.ns, own_keep F₀ ho F N hs, hj (own_keep F₀ ho F N hs)⟩
section
variable {w : World} {A : Around} {s₂ : Shared} {env : Env}
/-- the base of a comprehension's block: what stood, the iterator apart -/
abbrev hbOf (s₂ : Shared) (wr : List Addr) : Heap := hideAll s₂.heap wr
theorem comp1At {elt iter : Expr} {x : Str} {px : Pos} {ifs : List Expr} {scope : Scope} {cl : List (Str × Addr)} {pos : Pos} {E : Value → Shared → Prop} {RR : Value → Addr → Result → Shared → Prop}
    {I : Addr} {fp wr : List Addr} {n : Nat} {P : Nat → Value → Prop} {St : Nat → Heap → Prop} (W : Walks prg w A I fp wr n P St)
    (J : Addr → Addr → Nat → List Value → (Str → Option Value) → Heap → Prop)
    (hcell : ∀ y ∈ scope.names, y.2 ≠ .cell) (hkind : scope.kind = .function) (hx : scope.names.lookup x = some .local) (hst : St 0 s₂.heap) (hfp : ∀ b ∈ fp, b < s₂.heap.objs.size)
    (hJ0 : ∀ D C h, s₂.heap.objs.size ≤ D → D < C → (∀ b o, b ∉ wr → s₂.heap.get? b = some o → h.get? b = some o) → J D C 0 [] (fun _ => none) h)
    (hJs : ∀ D C i ys m h h', J D C i ys m h → (∀ b o, b ≠ C → b ∉ wr → b ≠ D → h.get? b = some o → h'.get? b = some o) → J D C i ys m h')
    (hJl : ∀ D C i ys m h, J D C i ys m h → ys.length ≤ 100000)
    (turn : ∀ D C i v ys m h tk own, s₂.heap.objs.size ≤ D → D < C → i < n → P i v → J D C i ys m h → Fr (hbOf s₂ wr) C h (fun y => if y = x then some v else m y) → News (hbOf s₂ wr) C h own → Own (hbOf s₂ wr) C h own → h.PlainList D ys.toArray →
      wpAny (model prg w) A (forIn ifs true fun c r => if r = true then do let ok ← isTrue c (compEnvC scope cl C env) (eval c (compEnvC scope cl C env)); pure (ForInStep.yield ok) else pure (ForInStep.yield r))
        (fun ok s₃ => if ok = true then wpAny (model prg w) A (eval elt (compEnvC scope cl C env)) (fun y s₄ => CE C h { s₂ with heap := h, toks := tk } (J D C (i + 1) (ys ++ [y])) s₄) (fun _ _ => False) s₃
          else CE C h { s₂ with heap := h, toks := tk } (J D C (i + 1) ys) s₃) (fun _ _ => False) { s₂ with heap := h, toks := tk })
    (hRR : ∀ D C h' tk m' ys, s₂.heap.objs.size ≤ D → D < C → h'.Ns C m' → h'.PlainList D ys.toArray → J D C n ys m' h' → (∀ b o, b ∉ wr → s₂.heap.get? b = some o → h'.get? b = some o) → RR (.ref D) C (.ok .next) { s₂ with heap := h', toks := tk }) :
    wpAny (model prg w) A (newList []) (fun acc s₃ => wpAny (model prg w) A (newFunctionEnv scope env.globals cl [] env.qual none .none (some env)) (fun cenv s₄ =>
      codeAny (model prg w) A (.compStart (.ListComp elt [⟨.Name x px, iter, ifs, 0⟩] scope pos) 0 (.ref I) acc { cenv with scope := relabel scope env }) (RR acc cenv.locals) s₄) E s₃) E s₂ := by
  refine wpAny_newObj_type (wpAny_newFunctionEnv hcell (by intro y hy; simp at hy) (fun h₁ hns₁ hsb₁ => ?_) hkind)
  dsimp only at hns₁ hsb₁ ⊢
  generalize hH2 : s₂.heap.push { cls := .type "list", dict := none, data := .seq ([] : List Value).toArray } = H2 at hns₁ hsb₁ ⊢
  have hC : H2.objs.size = s₂.heap.objs.size + 1 := by rw [← hH2, Heap.size_push]
  have hDC : s₂.heap.objs.size ≠ H2.objs.size := by rw [hC]; exact Nat.ne_of_lt (Nat.lt_succ_self _)
  have hlt : s₂.heap.objs.size < H2.objs.size := by rw [hC]; exact Nat.lt_succ_self _
  have below : ∀ b, b < s₂.heap.objs.size → b ≠ H2.objs.size ∧ b ≠ s₂.heap.objs.size := fun b hb => ⟨by rw [hC]; exact Nat.ne_of_lt (Nat.lt_succ_of_lt hb), Nat.ne_of_lt hb⟩
  have hDf : s₂.heap.objs.size ∉ fp := fun hm => Nat.lt_irrefl _ (hfp _ hm)
  have hCf : H2.objs.size ∉ fp := fun hm => by have := hfp _ hm; rw [hC] at this; exact Nat.lt_irrefl _ (Nat.lt_of_succ_lt this)
  have old : ∀ b o, s₂.heap.get? b = some o → h₁.get? b = some o := fun b o e => hsb₁.extBut b o (below b (Heap.lt_size e)).1 (Heap.get?_push_of_some _ (hH2 ▸ Heap.get?_push_of_some _ e))
  have hacc : h₁.PlainList s₂.heap.objs.size #[] := ⟨_, hsb₁.extBut _ _ hDC (Heap.get?_push_of_some _ (hH2 ▸ Heap.get?_push_size _ rfl))⟩
  have hst₁ : St 0 h₁ := W.frame _ _ _ hst fun b _ o e => old b o e
  have loop : ∀ s₃ : Shared, s₃ = { s₂ with heap := h₁, toks := s₂.toks + ([] : List (Str × Value)).length } →
      codeAny (model prg w) A (.compLoop (.ListComp elt [⟨.Name x px, iter, ifs, 0⟩] scope pos) 0 (.ref I) (.ref s₂.heap.objs.size) (compEnvC scope cl H2.objs.size env))
        (RR (.ref s₂.heap.objs.size) H2.objs.size) s₃ := by
    rintro s₃ rfl
    refine compLoopG (cenv := compEnvC scope cl H2.objs.size env) (ys₀ := []) W (fun it acc => rfl) (lookup_relabel_local hx) (by simp [compEnvC, relabel, hkind]) hDC hDf hCf (J s₂.heap.objs.size H2.objs.size)
      (hJs _ _) (hJl _ _) hst₁ hacc hns₁ (hJ0 _ _ _ (Nat.le_refl _) hlt fun b o _ e => old b o e) ?_ ?_
    · intro i v ys m h tk hi hP hJ hn hpl hk
      have F : Fr (hbOf s₂ wr) H2.objs.size h (fun y => if y = x then some v else m y) := ⟨hn, fun b o e => by
          have e' := of_hideAll _ e
          have hbw : b ∉ wr := fun q => by rw [hideAll_none _ q] at e; cases e
          exact hk b o (below b (Heap.lt_size e')).1 hbw (below b (Heap.lt_size e')).2 (old b o e'), by rw [hideAll_size]; omega⟩
      obtain ⟨own, N, ho⟩ := own_ex (hbOf s₂ wr) H2.objs.size h
      exact turn s₂.heap.objs.size H2.objs.size i v ys m h tk own (Nat.le_refl _) hlt hi hP hJ F N ho hpl
    · intro h' tk m' ys hn hpl hJ hk
      exact hRR _ _ h' tk m' ys (Nat.le_refl _) hlt hn hpl hJ fun b o hbw e => hk b o (below b (Heap.lt_size e)).1 hbw (below b (Heap.lt_size e)).2 (old b o e)
  exact codeAny_compStart_list (loop _ rfl) (W.self 0 _ _ _ hst₁ (loop _ rfl))
end
end
section
open PySem PySem.W PyProof.Rows PySem.Calls PySem.Spec
set_option maxRecDepth 100000
/-- the turn of the outer clause of two -/
def turn2Of (e : Expr) (target iter iter2 : Expr) (it acc : Value) (env : Env) : Sem Fin := do
  standAt iter.pos
  match ← pyNext it with
  | none => pure (.done .next)
  | some v =>
    letOwnedTupleGo target it v
    assign target env v
    let x ← eval iter2 env
    standAt iter2.pos
    let x ← foldedSetIterable iter2 env x
    let _ ← runOwn (.compStart e 1 (← holding [x] (pyIter x)) acc env) env
    again (.compLoop e 0 it acc env)
theorem compTurn_two (elt t1 i1 t2 i2 : Expr) (scope : Scope) (pos : Pos) (it acc : Value) (env : Env) :
    compTurn (.ListComp elt [⟨t1, i1, [], 0⟩, ⟨t2, i2, [], 0⟩] scope pos) 0 it acc env = turn2Of (.ListComp elt [⟨t1, i1, [], 0⟩, ⟨t2, i2, [], 0⟩] scope pos) t1 i1 i2 it acc env := by rfl
def CD (C D : Addr) (h : Heap) (s : Shared) (J : List Value → (Str → Option Value) → Heap → Prop) (s' : Shared) : Prop :=
  ∃ h' tk' m' ys', s' = { s with heap := h', toks := tk' } ∧ h'.Ns C m' ∧ h'.PlainList D ys'.toArray ∧ (∀ b o, b ≠ C → b ≠ D → h.get? b = some o → h'.get? b = some o) ∧ J ys' m' h'
section
variable {w : World} {A : Around} {R : Result → Shared → Prop} {s : Shared}
theorem compStart_one {elt t1 i1 t2 i2 : Expr} {scope : Scope} {pos : Pos} {it acc : Value} {env : Env}
    (h0 : codeAny (model prg w) A (.compLoop (.ListComp elt [⟨t1, i1, [], 0⟩, ⟨t2, i2, [], 0⟩] scope pos) 1 it acc env) R s)
    (h : wpAny (model prg w) A (pyIter it) (fun it' s' => codeAny (model prg w) A (.compLoop (.ListComp elt [⟨t1, i1, [], 0⟩, ⟨t2, i2, [], 0⟩] scope pos) 1 it' acc env) R s')
      (notedBy (model prg w) A env fun x s' => R (.error x) s') s) :
    codeAny (model prg w) A (.compStart (.ListComp elt [⟨t1, i1, [], 0⟩, ⟨t2, i2, [], 0⟩] scope pos) 1 it acc env) R s := by
  refine codeAny_of_tree ?_
  show wpAny _ _ ((compStart (.ListComp elt [⟨t1, i1, [], 0⟩, ⟨t2, i2, [], 0⟩] scope pos) 1 it acc env).onRaise (fun x => do noteFrame x env; standAt theWindowsPlace)) _ _ s
  refine wpAny_notedAt ?_
  unfold compStart
  show wpAny _ _ (ask >>= _) _ _ s
  refine wpAny_bind (wpAny_askSetting (wpAny_ite ?_))
  split
  · first
      | exact wpAny_bind (wpAny_pure (wpAny_pure (And.intro rfl h0)))
      | exact wpAny_pure (And.intro rfl h0)
  · first
      | exact wpAny_bind (wpAny_rule (wpAny_bind (wpAny_standAt (wpAny_bind (wpAny_mono h (fun it' s' h' => wpAny_pure (And.intro rfl h')) fun _ _ x => x)))))
      | (refine wpAny_bind (wpAny_rule ?_); show wpAny _ _ (standAt i2.pos >>= _) _ _ s; exact wpAny_bind (wpAny_standAt (wpAny_bind (wpAny_mono h (fun it' s' h' => wpAny_pure (And.intro rfl h')) fun _ _ x => x))))
theorem compLoop2 {elt i1 i2 : Expr} {x1 x2 : Str} {p1 p2 : Pos} {scope : Scope} {pos : Pos} {I D : Addr} {fp wr : List Addr} {n : Nat} {P : Nat → Value → Prop} {St : Nat → Heap → Prop} {cenv : Env}
    {m₀ : Str → Option Value} {ys₀ : List Value} (W : Walks prg w A I fp wr n P St)
    (hx : cenv.kindOf x1 = some .local) (hp : (cenv.scope.kind == .class || (cenv.scope.kind == .module && cenv.locals != cenv.globals)) = false)
    (hDC : D ≠ cenv.locals) (hDf : D ∉ fp) (hCf : cenv.locals ∉ fp)
    (J : Nat → List Value → (Str → Option Value) → Heap → Prop)
    (hJs : ∀ i ys m h h', J i ys m h → (∀ b o, b ≠ cenv.locals → b ∉ wr → b ≠ D → h.get? b = some o → h'.get? b = some o) → J i ys m h')
    (hst : St 0 s.heap) (hacc : s.heap.PlainList D ys₀.toArray) (hn : s.heap.Ns cenv.locals m₀) (hj : J 0 ys₀ m₀ s.heap)
    (hfold : ∀ x, foldedSetIterable i2 cenv x = pure x)
    (turn : ∀ i v ys m h tk, i < n → P i v → J i ys m h → h.Ns cenv.locals (fun y => if y = x1 then some v else m y) → h.PlainList D ys.toArray →
      (∀ b o, b ≠ cenv.locals → b ∉ wr → b ≠ D → s.heap.get? b = some o → h.get? b = some o) →
      wpAny (model prg w) A (eval i2 cenv) (fun xv s₃ => wpAny (model prg w) A (pyIter xv) (fun it s₄ => ∃ I2 fp2 wr2 n2 P2 St2, it = .ref I2 ∧ Walks prg w A I2 fp2 wr2 n2 P2 St2 ∧ St2 0 s₄.heap ∧
        codeAny (model prg w) A (.compLoop (.ListComp elt [⟨.Name x1 p1, i1, [], 0⟩, ⟨.Name x2 p2, i2, [], 0⟩] scope pos) 1 (.ref I2) (.ref D) cenv) (fun r s₅ => r = .ok .next ∧ CD cenv.locals D h { s with heap := h, toks := tk } (J (i + 1)) s₅) s₄)
          (fun _ _ => False) s₃) (fun _ _ => False) { s with heap := h, toks := tk })
    (hR : ∀ h' tk m' ys, h'.Ns cenv.locals m' → h'.PlainList D ys.toArray → J n ys m' h' → (∀ b o, b ≠ cenv.locals → b ∉ wr → b ≠ D → s.heap.get? b = some o → h'.get? b = some o) → R (.ok .next) { s with heap := h', toks := tk }) :
    codeAny (model prg w) A (.compLoop (.ListComp elt [⟨.Name x1 p1, i1, [], 0⟩, ⟨.Name x2 p2, i2, [], 0⟩] scope pos) 0 (.ref I) (.ref D) cenv) R s := by
  have hCw : cenv.locals ∉ wr := fun h => hCf (W.sub _ h)
  have hDw : D ∉ wr := fun h => hDf (W.sub _ h)
  refine codeAny_loop rfl (fun k s' => ∃ h' tk m' ys i, s' = { s with heap := h', toks := tk } ∧ St i h' ∧ h'.PlainList D ys.toArray ∧ h'.Ns cenv.locals m' ∧ J i ys m' h' ∧ i ≤ n ∧ k = n + 1 - i ∧
      (∀ b o, b ≠ cenv.locals → b ∉ wr → b ≠ D → s.heap.get? b = some o → h'.get? b = some o)) ?_ (n + 1)
    ⟨s.heap, s.toks, m₀, ys₀, 0, rfl, hst, hacc, hn, hj, Nat.zero_le _, rfl, fun _ _ _ _ _ e => e⟩
  rintro k s' ⟨H, tk, m', ys, i, rfl, hst', hacc', hn', hJ, hi, rfl, hk⟩
  show wpAny _ A ((compTurn (.ListComp elt [⟨.Name x1 p1, i1, [], 0⟩, ⟨.Name x2 p2, i2, [], 0⟩] scope pos) 0 (.ref I) (.ref D) cenv).onRaise (fun x => do noteFrame x cenv; theTreesLotGoes x)) _ _ _
  refine wpAny_noted ?_
  rw [compTurn_two]
  unfold turn2Of
  refine wpAny_bind (wpAny_standAt (wpAny_bind ?_))
  by_cases hlt : i < n
  · refine W.item i _ _ _ hlt hst' fun v h₁ tk₁ hPv hst₁ hk₁ => ?_
    refine wpAny_bind (wpAny_of_eq (show letOwnedTupleGo (.Name x1 p1) (.ref I) v = pure () from rfl) ?_)
    refine wpAny_bind (wpAny_assign_Name (wpAny_storeName_local hx (hn'.at' fun o e => hk₁ _ o hCw e) (fun h₂ hn₂ hs₂ => ?_) hp))
    have up₂ : ∀ b o, b ≠ cenv.locals → b ∉ wr → H.get? b = some o → h₂.get? b = some o := fun b o hbC hbf e => hs₂.extBut b o hbC (hk₁ b o hbf e)
    have hst₂ : St (i + 1) h₂ := W.frame _ _ _ hst₁ fun b hb o e => hs₂.extBut b o (fun h => hCf (h ▸ hb)) e
    have hacc₂ : h₂.PlainList D ys.toArray := hacc'.at fun o e => up₂ D o hDC hDw e
    have hJ₂ : J i ys m' h₂ := hJs _ _ _ _ _ hJ fun b o h1 h2 h3 e => up₂ b o h1 h2 e
    refine wpAny_bind (wpAny_mono (turn i v ys m' h₂ (tk₁ + 1) hlt hPv hJ₂ hn₂ hacc₂ fun b o h1 h2 h3 e => up₂ b o h1 h2 (hk b o h1 h2 h3 e)) (fun xv s₃ h₃ => ?_) fun _ _ f => f.elim)
    refine wpAny_bind (wpAny_standAt (wpAny_bind (wpAny_of_eq (hfold xv) (wpAny_bind (wpAny_holding (wpAny_mono h₃ (fun it s₄ h₄ => ?_) fun _ _ f => f.elim))))))
    obtain ⟨I2, fp2, wr2, n2, P2, St2, rfl, W2, hst2, hc⟩ := h₄
    have hc' : codeAny (model prg w) A (.compLoop (.ListComp elt [⟨.Name x1 p1, i1, [], 0⟩, ⟨.Name x2 p2, i2, [], 0⟩] scope pos) 1 (.ref I2) (.ref D) cenv) (fun r s₅ => r = .ok .next ∧ CD cenv.locals D h₂ { s with heap := h₂, toks := tk₁ + 1 } (J (i + 1)) s₅) s₄ := hc
    refine wpAny_bind (wpAny_runOwn (codeAny_mono (compStart_one hc' (W2.self 0 _ _ _ hst2 hc')) fun r s₅ h₅ => ?_))
    obtain ⟨rfl, h', tk', m₃, ys', rfl, hn₃, hpl₃, hk₃, hJ₃⟩ := h₅
    refine wpAny_pure ⟨rfl, n + 1 - (i + 1), by omega, h', tk', m₃, ys', i + 1, rfl, W.frame _ _ _ hst₂ fun b hb o e => hk₃ b o (fun q => hCf (q ▸ hb)) (fun q => hDf (q ▸ hb)) e, hpl₃, hn₃, hJ₃, hlt, rfl, fun b o h1 h2 h3 e => hk₃ b o h1 h3 (up₂ b o h1 h2 (hk b o h1 h2 h3 e))⟩
  · have hin : i = n := by omega
    subst hin
    refine W.done _ _ _ hst' fun h₁ tk₁ hk₁ => ?_
    exact wpAny_pure (hR h₁ tk₁ m' ys (hn'.at' fun o e => hk₁ _ o hCw e) (hacc'.at fun o e => hk₁ _ o hDw e) (hJs _ _ _ _ _ hJ fun b o h1 h2 h3 e => hk₁ b o h2 e) fun b o h1 h2 h3 e => hk₁ b o h2 (hk b o h1 h2 h3 e))
end
section
variable {w : World} {A : Around} {s₂ : Shared} {env : Env}
theorem comp2At {elt i1 i2 : Expr} {x1 x2 : Str} {p1 p2 : Pos} {scope : Scope} {cl : List (Str × Addr)} {pos : Pos} {E : Value → Shared → Prop} {RR : Value → Addr → Result → Shared → Prop}
    {I : Addr} {fp wr : List Addr} {n : Nat} {P : Nat → Value → Prop} {St : Nat → Heap → Prop} (W : Walks prg w A I fp wr n P St)
    (J : Addr → Addr → Nat → List Value → (Str → Option Value) → Heap → Prop)
    (hcell : ∀ y ∈ scope.names, y.2 ≠ .cell) (hkind : scope.kind = .function) (hx : scope.names.lookup x1 = some .local) (hst : St 0 s₂.heap) (hfp : ∀ b ∈ fp, b < s₂.heap.objs.size)
    (hJ0 : ∀ D C h, s₂.heap.objs.size ≤ D → D < C → (∀ b o, b ∉ wr → s₂.heap.get? b = some o → h.get? b = some o) → J D C 0 [] (fun _ => none) h)
    (hJs : ∀ D C i ys m h h', J D C i ys m h → (∀ b o, b ≠ C → b ∉ wr → b ≠ D → h.get? b = some o → h'.get? b = some o) → J D C i ys m h')
    (hfold : ∀ C x, foldedSetIterable i2 (compEnvC scope cl C env) x = pure x)
    (turn : ∀ D C i v ys m h tk own, s₂.heap.objs.size ≤ D → D < C → i < n → P i v → J D C i ys m h → Fr (hbOf s₂ wr) C h (fun y => if y = x1 then some v else m y) → News (hbOf s₂ wr) C h own → Own (hbOf s₂ wr) C h own → h.PlainList D ys.toArray →
      wpAny (model prg w) A (eval i2 (compEnvC scope cl C env)) (fun xv s₃ => wpAny (model prg w) A (pyIter xv) (fun it s₄ => ∃ I2 fp2 wr2 n2 P2 St2, it = .ref I2 ∧ Walks prg w A I2 fp2 wr2 n2 P2 St2 ∧ St2 0 s₄.heap ∧
        codeAny (model prg w) A (.compLoop (.ListComp elt [⟨.Name x1 p1, i1, [], 0⟩, ⟨.Name x2 p2, i2, [], 0⟩] scope pos) 1 (.ref I2) (.ref D) (compEnvC scope cl C env)) (fun r s₅ => r = .ok .next ∧ CD C D h { s₂ with heap := h, toks := tk } (J D C (i + 1)) s₅) s₄)
          (fun _ _ => False) s₃) (fun _ _ => False) { s₂ with heap := h, toks := tk })
    (hRR : ∀ D C h' tk m' ys, s₂.heap.objs.size ≤ D → D < C → h'.Ns C m' → h'.PlainList D ys.toArray → J D C n ys m' h' → (∀ b o, b ∉ wr → s₂.heap.get? b = some o → h'.get? b = some o) → RR (.ref D) C (.ok .next) { s₂ with heap := h', toks := tk }) :
    wpAny (model prg w) A (newList []) (fun acc s₃ => wpAny (model prg w) A (newFunctionEnv scope env.globals cl [] env.qual none .none (some env)) (fun cenv s₄ =>
      codeAny (model prg w) A (.compStart (.ListComp elt [⟨.Name x1 p1, i1, [], 0⟩, ⟨.Name x2 p2, i2, [], 0⟩] scope pos) 0 (.ref I) acc { cenv with scope := relabel scope env }) (RR acc cenv.locals) s₄) E s₃) E s₂ := by
  refine wpAny_newObj_type (wpAny_newFunctionEnv hcell (by intro y hy; simp at hy) (fun h₁ hns₁ hsb₁ => ?_) hkind)
  dsimp only at hns₁ hsb₁ ⊢
  generalize hH2 : s₂.heap.push { cls := .type "list", dict := none, data := .seq ([] : List Value).toArray } = H2 at hns₁ hsb₁ ⊢
  have hC : H2.objs.size = s₂.heap.objs.size + 1 := by rw [← hH2, Heap.size_push]
  have hDC : s₂.heap.objs.size ≠ H2.objs.size := by rw [hC]; exact Nat.ne_of_lt (Nat.lt_succ_self _)
  have hlt : s₂.heap.objs.size < H2.objs.size := by rw [hC]; exact Nat.lt_succ_self _
  have below : ∀ b, b < s₂.heap.objs.size → b ≠ H2.objs.size ∧ b ≠ s₂.heap.objs.size := fun b hb => ⟨by rw [hC]; exact Nat.ne_of_lt (Nat.lt_succ_of_lt hb), Nat.ne_of_lt hb⟩
  have hDf : s₂.heap.objs.size ∉ fp := fun hm => Nat.lt_irrefl _ (hfp _ hm)
  have hCf : H2.objs.size ∉ fp := fun hm => by have := hfp _ hm; rw [hC] at this; exact Nat.lt_irrefl _ (Nat.lt_of_succ_lt this)
  have old : ∀ b o, s₂.heap.get? b = some o → h₁.get? b = some o := fun b o e => hsb₁.extBut b o (below b (Heap.lt_size e)).1 (Heap.get?_push_of_some _ (hH2 ▸ Heap.get?_push_of_some _ e))
  have hacc : h₁.PlainList s₂.heap.objs.size #[] := ⟨_, hsb₁.extBut _ _ hDC (Heap.get?_push_of_some _ (hH2 ▸ Heap.get?_push_size _ rfl))⟩
  have hst₁ : St 0 h₁ := W.frame _ _ _ hst fun b _ o e => old b o e
  have loop : ∀ s₃ : Shared, s₃ = { s₂ with heap := h₁, toks := s₂.toks + ([] : List (Str × Value)).length } →
      codeAny (model prg w) A (.compLoop (.ListComp elt [⟨.Name x1 p1, i1, [], 0⟩, ⟨.Name x2 p2, i2, [], 0⟩] scope pos) 0 (.ref I) (.ref s₂.heap.objs.size) (compEnvC scope cl H2.objs.size env))
        (RR (.ref s₂.heap.objs.size) H2.objs.size) s₃ := by
    rintro s₃ rfl
    refine compLoop2 (cenv := compEnvC scope cl H2.objs.size env) (ys₀ := []) W (lookup_relabel_local hx) (by simp [compEnvC, relabel, hkind]) hDC hDf hCf (J s₂.heap.objs.size H2.objs.size)
      (hJs _ _) hst₁ hacc hns₁ (hJ0 _ _ _ (Nat.le_refl _) hlt fun b o _ e => old b o e) (hfold _) ?_ ?_
    · intro i v ys m h tk hi hP hJ hn hpl hk
      have F : Fr (hbOf s₂ wr) H2.objs.size h (fun y => if y = x1 then some v else m y) := ⟨hn, fun b o e => by
          have e' := of_hideAll _ e
          have hbw : b ∉ wr := fun q => by rw [hideAll_none _ q] at e; cases e
          exact hk b o (below b (Heap.lt_size e')).1 hbw (below b (Heap.lt_size e')).2 (old b o e'), by rw [hideAll_size]; omega⟩
      obtain ⟨own, N, ho⟩ := own_ex (hbOf s₂ wr) H2.objs.size h
      exact turn s₂.heap.objs.size H2.objs.size i v ys m h tk own (Nat.le_refl _) hlt hi hP hJ F N ho hpl
    · intro h' tk m' ys hn hpl hJ hk
      exact hRR _ _ h' tk m' ys (Nat.le_refl _) hlt hn hpl hJ fun b o hbw e => hk b o (below b (Heap.lt_size e)).1 hbw (below b (Heap.lt_size e)).2 (old b o e)
  exact codeAny_compStart_list (loop _ rfl) (W.self 0 _ _ _ hst₁ (loop _ rfl))
end
end
section
open PySem PySem.W PyProof.Rows PySem.Calls PySem.Spec
set_option maxRecDepth 100000
theorem small_ok {a b : Int} (ha : 0 ≤ a ∧ a ≤ 1000) (hb : 0 ≤ b ∧ b ≤ 1000) : Builtin.Range.small a b 1 = true := small_one (by omega) (by omega) (by omega) (by omega)
section
variable {w : World} {A : Around} {E : Value → Shared → Prop} {s : Shared} {env : Env} {h₀ : Heap} {x : Str} {body : List Stmt} {Q : Flow → Shared → Prop} {m₀ : Str → Option Value}
def HEnd (h₀ : Heap) (L : Addr) (own : List (Addr × Obj)) (J : (Str → Option Value) → Heap → Prop) (s₁ s₂ : Shared) : Prop :=
  ∃ h' tk m' nx, s₂ = { s₁ with heap := h', toks := tk } ∧ Fr h₀ L h' m' ∧ News h₀ L h' nx ∧ (∀ p ∈ own, p ∈ nx) ∧ J m' h'
def HPost (h₀ : Heap) (L : Addr) (own : List (Addr × Obj)) (J : (Str → Option Value) → Heap → Prop) (s₁ : Shared) (Q : Flow → Shared → Prop) (f : Flow) (s₂ : Shared) : Prop :=
  match f with
  | .ret v => Q (.ret v) s₂
  | .brk => Q .next s₂
  | _ => HEnd h₀ L own J s₁ s₂
/-- any loop of one name, what holds of the frame and the heap between the turns -/
theorem loopH {I : Addr} {fp wr : List Addr} {n : Nat} {P : Nat → Value → Prop} {St : Nat → Heap → Prop} (J : Nat → (Str → Option Value) → Heap → Prop) (W : Walks prg w A I fp wr n P St) (hLf : env.locals ∉ fp)
    (hwr : ∀ b ∈ wr, h₀.get? b = none) (hlive : ∀ i h, St i h → ∀ b ∈ wr, ∃ o, h.get? b = some o) (hst : St 0 s.heap) (F : Fr h₀ env.locals s.heap m₀)
    (hJs : ∀ i m h h', J i m h → (∀ b o, b ≠ env.locals → b ∉ wr → h.get? b = some o → h'.get? b = some o) → J i m h') (hj : J 0 m₀ s.heap)
    (turn : ∀ i v m₁ h tk own, i < n → P i v → J i m₁ h → (∀ b ∈ wr, ∃ o, h.get? b = some o) → (∀ b o, b ≠ env.locals → b ∉ wr → s.heap.get? b = some o → h.get? b = some o) →
      Fr h₀ env.locals h (fun y => if y = x then some v else m₁ y) → News h₀ env.locals h own → Own h₀ env.locals h own →
      wpAny (model prg w) A (execs body env) (HPost h₀ env.locals own (J (i + 1)) { s with heap := h, toks := tk } Q) E { s with heap := h, toks := tk })
    (done : ∀ m₁ h tk, J n m₁ h → Fr h₀ env.locals h m₁ → (∀ b o, b ≠ env.locals → b ∉ wr → s.heap.get? b = some o → h.get? b = some o) → Q .next { s with heap := h, toks := tk }) : LoopAtV prg w A h₀ env x body Q E (.ref I) s := by
  have hLw : env.locals ∉ wr := fun h => hLf (W.sub _ h)
  let sel : Heap → List (Addr × Obj) := fun h => ownOf h₀ ((List.range h.objs.size).filter (fun a => decide (a ≠ env.locals ∧ a ∉ wr))) h
  have selN : ∀ h, News h₀ env.locals h (sel h) := fun h => news_ownOf (by simp)
  have selM : ∀ h b o, b ≠ env.locals → b ∉ wr → h₀.get? b = none → h.get? b = some o → (b, o) ∈ sel h := fun h b o h1 h2 h3 e => mem_ownOf (by have := Heap.lt_size e; simp [h1, h2, this]) h3 e
  have selW : ∀ h, ∀ p ∈ sel h, p.1 ∉ wr := fun h p hp => by
    have := ownOf_sub p hp
    simp at this
    exact this.2.2
  let J' : Nat → (Str → Option Value) → List (Addr × Obj) → Prop := fun i m news => ∃ hs, J i m hs ∧ (∀ b o, h₀.get? b = some o → hs.get? b = some o) ∧ (∀ b o, b ≠ env.locals → b ∉ wr → h₀.get? b = none → hs.get? b = some o → (b, o) ∈ news) ∧
    (∀ b o, b ≠ env.locals → b ∉ wr → s.heap.get? b = some o → hs.get? b = some o)
  have up : ∀ {hs h : Heap} {m : Str → Option Value} {news : List (Addr × Obj)}, (∀ b o, h₀.get? b = some o → hs.get? b = some o) → (∀ b o, b ≠ env.locals → b ∉ wr → h₀.get? b = none → hs.get? b = some o → (b, o) ∈ news) → Fr h₀ env.locals h m → News h₀ env.locals h news →
      ∀ b o, b ≠ env.locals → b ∉ wr → hs.get? b = some o → h.get? b = some o := by
    intro hs h m news k1 k2 F' N' b o h1 h2 e
    cases q : h₀.get? b with
    | some o₀ =>
      have := k1 b o₀ q
      rw [e] at this; cases this
      exact F'.keep b o q
    | none => exact (N' _ (k2 b o h1 h2 q e)).1
  refine ⟨I, fp, wr, n, P, St, m₀, sel s.heap, J', rfl, W, hLf, hwr, selW _, hst, F, selN _, ⟨s.heap, hj, F.keep, selM _, fun _ _ _ _ e => e⟩, ?_, ?_⟩
  · rintro i v m₁ news₁ s₁ own ⟨h, tk, rfl⟩ hin hP ⟨hs, hJ, k1, k2, k3⟩ hoff hown hget hall hst₁ F₁ N₁
    have kk := up k1 k2 F₁ N₁.right
    obtain ⟨own', N', ho'⟩ := own_ex h₀ env.locals h
    have hl := hlive _ _ hst₁
    refine wpAny_mono (turn i v m₁ h tk own' hin hP (hJs _ _ _ _ hJ kk) hl (fun b o h1 h2 e => kk b o h1 h2 (k3 b o h1 h2 e)) F₁ N' ho') (fun f s₂ p => ?_) fun _ _ e => e
    have fin : HEnd h₀ env.locals own' (J (i + 1)) { s with heap := h, toks := tk } s₂ → LoopStepU h₀ env.locals wr own (J' (i + 1)) { s with heap := h, toks := tk } .next s₂ := by
      rintro ⟨h', tk', m', nx, rfl, F', N₂, hsub, hJ'⟩
      have kp := own_keep F₁ ho' F' N₂ hsub
      refine ⟨rfl, h', tk', m', sel h', rfl, F', ?_, selW _, h', hJ', F'.keep, selM _, fun b o h1 h2 e => kp b o h1 (kk b o h1 h2 (k3 b o h1 h2 e))⟩
      intro p hp
      rcases List.mem_append.mp hp with q | q
      · have N₃ := N₁ p (List.mem_append_left _ q)
        exact ⟨kp _ _ N₃.2.1 N₃.1, N₃.2⟩
      · exact selN h' p q
    cases f with
    | ret v => exact .ret p
    | brk => exact .brk p
    | next => exact .next (fin p)
    | cont => exact .cont (fin p)
  · rintro h' tk m' news' F' N' _ ⟨hs, hJ, k1, k2, k3⟩
    have kk := up k1 k2 F' N'
    exact done m' h' tk (hJs _ _ _ _ hJ kk) F' fun b o h1 h2 e => kk b o h1 h2 (k3 b o h1 h2 e)
theorem iter_rangeH {r : Addr} {a b : Int} {t u v : Tok} {n : Nat} (J : Addr → Nat → (Str → Option Value) → Heap → Prop) (hh : A.handled = none) (hr : IsRange s.heap r a b 1 t u v) (hsm : Builtin.Range.small a b 1 = true)
    (hn : Builtin.Range.rangeSize a b 1 = (n : Int)) (F : Fr h₀ env.locals s.heap m₀)
    (hJs : ∀ i m h h', J s.heap.objs.size i m h → (∀ b o, b ≠ env.locals → b ≠ s.heap.objs.size → h.get? b = some o → h'.get? b = some o) → J s.heap.objs.size i m h') (hj : J s.heap.objs.size 0 m₀ s.heap)
    (turn : ∀ (i : Nat) tc m₁ h tk own, i < n → J s.heap.objs.size i m₁ h → (∃ o, h.get? s.heap.objs.size = some o) → (∀ b o, b ≠ env.locals → s.heap.get? b = some o → h.get? b = some o) →
      Fr h₀ env.locals h (fun y => if y = x then some (.int (a + (i : Int)) tc) else m₁ y) → News h₀ env.locals h own → Own h₀ env.locals h own →
      wpAny (model prg w) A (execs body env) (HPost h₀ env.locals own (J s.heap.objs.size (i + 1)) { s with heap := h, toks := tk } Q) E { s with heap := h, toks := tk })
    (done : ∀ m₁ h tk, J s.heap.objs.size n m₁ h → Fr h₀ env.locals h m₁ → (∀ b o, b ≠ env.locals → s.heap.get? b = some o → h.get? b = some o) → Q .next { s with heap := h, toks := tk }) :
    wpAny (model prg w) A (pyIter (.ref r)) (fun it s₂ => LoopAtV prg w A h₀ env x body Q E it s₂) E s := by
  have ne : ∀ b o, s.heap.get? b = some o → b ∉ [s.heap.objs.size] := fun b o e q => Nat.lt_irrefl _ (List.mem_singleton.mp q ▸ Heap.lt_size e)
  have pu : ∀ (ob : Obj) b o, b ≠ env.locals → s.heap.get? b = some o → (s.heap.push ob).get? b = some o := fun ob b o _ e => Heap.get?_push_of_some _ e
  refine wpAny_pyIter_range hr hsm ?_
  refine loopH (J s.heap.objs.size) (Walks.range hh s.heap.objs.size a 1 n) ?_ ?_ ?_ ?_ (F.push _) ?_ ?_ ?_ ?_
  · intro hm
    exact absurd F.ns.lt ((List.mem_singleton.mp hm) ▸ Nat.lt_irrefl _)
  · intro b' hb
    rw [List.mem_singleton.mp hb]
    exact next_is_new F
  · intro i h hst b hb
    rw [List.mem_singleton.mp hb]
    exact ⟨_, hst⟩
  · show IsRangeIter _ _ _ _ _
    rw [hn]
    have e1 : a + ((0 : Nat) : Int) * 1 = a := by omega
    have e2 : (n : Int) - ((0 : Nat) : Int) = n := by omega
    rw [e1, e2]
    exact Heap.get?_push_size _ rfl
  · intro i m h h' j k
    exact hJs i m h h' j fun b o h1 h2 e => k b o h1 (fun q => h2 (List.mem_singleton.mp q)) e
  · exact hJs 0 _ _ _ hj fun b o _ _ e => Heap.get?_push_of_some _ e
  · rintro i v m₁ h tk own hi ⟨tv, rfl⟩ hJ hl hk F₁ N₁ ho
    rw [Int.mul_one] at F₁
    exact turn i tv m₁ h tk own hi hJ (hl _ (List.mem_singleton.mpr rfl)) (fun b o h1 e => hk b o h1 (ne b o e) (Heap.get?_push_of_some _ e)) F₁ N₁ ho
  · intro m₁ h tk hJ F₁ hk
    exact done m₁ h tk hJ F₁ fun b o h1 e => hk b o h1 (ne b o e) (Heap.get?_push_of_some _ e)
theorem iter_listH {l : Addr} {vs : List Value} (J : Addr → Nat → (Str → Option Value) → Heap → Prop) (hh : A.handled = none) (hl : s.heap.IsList l vs.toArray) (hlL : l ≠ env.locals) (F : Fr h₀ env.locals s.heap m₀)
    (hJs : ∀ i m h h', J s.heap.objs.size i m h → (∀ b o, b ≠ env.locals → b ≠ s.heap.objs.size → h.get? b = some o → h'.get? b = some o) → J s.heap.objs.size i m h') (hj : J s.heap.objs.size 0 m₀ s.heap)
    (turn : ∀ (i : Nat) v m₁ h tk own, vs[i]? = some v → J s.heap.objs.size i m₁ h → (∃ o, h.get? s.heap.objs.size = some o) → (∀ b o, b ≠ env.locals → s.heap.get? b = some o → h.get? b = some o) →
      Fr h₀ env.locals h (fun y => if y = x then some v else m₁ y) → News h₀ env.locals h own → Own h₀ env.locals h own →
      wpAny (model prg w) A (execs body env) (HPost h₀ env.locals own (J s.heap.objs.size (i + 1)) { s with heap := h, toks := tk } Q) E { s with heap := h, toks := tk })
    (done : ∀ m₁ h tk, J s.heap.objs.size vs.length m₁ h → Fr h₀ env.locals h m₁ → (∀ b o, b ≠ env.locals → s.heap.get? b = some o → h.get? b = some o) → Q .next { s with heap := h, toks := tk }) :
    wpAny (model prg w) A (pyIter (.ref l)) (fun it s₂ => LoopAtV prg w A h₀ env x body Q E it s₂) E s := by
  have ne : ∀ b o, s.heap.get? b = some o → b ∉ [s.heap.objs.size] := fun b o e q => Nat.lt_irrefl _ (List.mem_singleton.mp q ▸ Heap.lt_size e)
  have hlt : l < s.heap.objs.size := by obtain ⟨o, ho, _⟩ := hl; exact Heap.lt_size ho
  refine wpAny_pyIter_list hl ?_
  refine loopH (J s.heap.objs.size) (Walks.list hh s.heap.objs.size l (Nat.ne_of_lt hlt) vs.toArray) ?_ ?_ ?_ ?_ (F.push _) ?_ ?_ ?_ ?_
  · intro hm
    rcases List.mem_cons.mp hm with q | q
    · exact absurd F.ns.lt (q ▸ Nat.lt_irrefl _)
    · exact hlL (List.mem_singleton.mp q).symm
  · intro b' hb
    rw [List.mem_singleton.mp hb]
    exact next_is_new F
  · intro i h hst b hb
    rw [List.mem_singleton.mp hb]
    obtain ⟨⟨o, ho, _⟩, _⟩ := hst
    exact ⟨o, ho⟩
  · exact ⟨⟨_, Heap.get?_push_size _ rfl, rfl, rfl⟩, hl.at fun o e => Heap.get?_push_of_some _ e⟩
  · intro i m h h' j k
    exact hJs i m h h' j fun b o h1 h2 e => k b o h1 (fun q => h2 (List.mem_singleton.mp q)) e
  · exact hJs 0 _ _ _ hj fun b o _ _ e => Heap.get?_push_of_some _ e
  · rintro i v m₁ h tk own hi hv hJ hl' hk F₁ N₁ ho
    exact turn i v m₁ h tk own (by simpa using hv) hJ (hl' _ (List.mem_singleton.mpr rfl)) (fun b o h1 e => hk b o h1 (ne b o e) (Heap.get?_push_of_some _ e)) F₁ N₁ ho
  · intro m₁ h tk hJ F₁ hk
    exact done m₁ h tk (by simpa using hJ) F₁ fun b o h1 e => hk b o h1 (ne b o e) (Heap.get?_push_of_some _ e)
end
/-- a def that bears cells -/
theorem enterC {w : World} {A : Around} {s : Shared} {f : Addr} {args : List Value} {Q E : Value → Shared → Prop} {name qual : Str} {params : Arguments} {body : List Stmt} {scope : Scope}
    {dV kV doc pm cdv ct oc : Value} {an od : Option Addr} {osl : Array (Option Value)} {binds : List (Str × Value)}
    (C : Cx w s.heap) (ho : (K w).lookup f = some ⟨oc, od, .func (fnOf name qual params body scope dV kV doc pm an cdv ct), osl⟩) (hcd : codeIn (K w) cdv qual = true) (hroom : A.depth < recursionLimit)
    (hbind : BindsTo s (fnOf name qual params body scope dV kV doc pm an cdv ct) ⟨args, []⟩ binds) (hkind : (binds.all fun y => scope.names.lookup y.1 == some .local || scope.names.lookup y.1 == some .cell) = true)
    (hnd : ((cellsFrom 0 scope.names []).map (·.1)).Nodup)
    (h : ∀ L h₁ tk cells, 0 < L → Fr s.heap L h₁ (bindL (envOfC qual scope L f cdv).kindOf binds fun _ => none) → News s.heap L h₁ cells →
      CellsAre (bindC (envOfC qual scope L f cdv).kindOf binds fun _ => none) (cellsFrom (L + 1) scope.names []) cells →
      wpAny (model prg w) (A.deeper (envOfC qual scope L f cdv)) (execs body (envOfC qual scope L f cdv))
        (fun fl s' => Q (match fl with | .ret v => v | _ => .none) s') (fun _ _ => False) { s with heap := h₁, toks := tk })
    (hco : scope.isCoroutine = false) (hgen : scope.isGenerator = false) (hk : scope.kind = .function) :
    wpAny (model prg w) A (call (.ref f) args) Q E s := by
  obtain ⟨mg, mb, T⟩ := C.t
  have hf0 : 0 < s.heap.objs.size := Nat.lt_of_le_of_lt (Nat.zero_le _) (Heap.lt_size (C.k _ _ ho))
  refine wpAny_call (codeAny_call_function hroom (C.k _ _ ho) rfl hco hgen rfl (codeRec_of C.k hcd) (hbind _ _ _ _ ?_))
  refine wpAny_newFunctionEnv_cells hk (kindsX hkind _) fun env' he s' x => ?_
  subst he
  refine ⟨T.nolimit.keeps x.toInCall.keep, codeAny_func ?_⟩
  obtain ⟨h₁, tk, rfl, _⟩ := x.done
  have hk₁ := x.toInCall.keep
  obtain ⟨cells, NC, Y⟩ := Cl.news (h₀ := s.heap) (Nat.le_refl _) fun n c hm => ⟨x.cell n c (lookup_of_mem_nodup (cellsFrom_names scope.names 0 (s.heap.objs.size + 1) [] [] rfl ▸ hnd) hm), x.above n c hm⟩
  exact wpAny_mono (h s.heap.objs.size h₁ tk cells hf0 ⟨x.toInCall.ns, hk₁, Nat.le_refl _⟩ NC Y) (fun fl s' x => x) fun _ _ x => x.elim
end
section
open PySem PySem.W PyProof.Rows PySem.Calls PySem.Spec
set_option maxRecDepth 100000
theorem Own.kp {hb h : Heap} {C : Addr} {own : List (Addr × Obj)} {m : Str → Option Value} (ho : Own hb C h own) (F : Fr hb C h m) :
    ∀ h2 m2 nx, Fr hb C h2 m2 → News hb C h2 nx → (∀ p ∈ own, p ∈ nx) → ∀ b o, b ≠ C → h.get? b = some o → h2.get? b = some o := fun _ _ _ F2 N2 hs => own_keep F ho F2 N2 hs
theorem Rm.dh {A : Around} {d u : Nat} (R : Rm A d u) (env : Env) : (A.deeper env).handled = none := R.h
theorem Fr.up {h₀ h h' : Heap} {L : Addr} {m : Str → Option Value} (F : Fr h₀ L h m) (k : ∀ b o, h.get? b = some o → h'.get? b = some o) : Fr h₀ L h' m := ⟨F.ns.at' fun o e => k _ o e, fun b o e => k b o (F.keep b o e), F.above⟩
theorem News.up {h₀ h h' : Heap} {L : Addr} {news : List (Addr × Obj)} (N : News h₀ L h news) (k : ∀ b o, h.get? b = some o → h'.get? b = some o) : News h₀ L h' news := fun p hp => ⟨k _ _ (N p hp).1, (N p hp).2⟩
theorem Fr.ne {h₀ h : Heap} {L : Addr} {m : Str → Option Value} (F : Fr h₀ L h m) {b : Addr} (hb : h.objs.size ≤ b) : b ≠ L := fun e => Nat.lt_irrefl _ (Nat.lt_of_lt_of_le F.ns.lt (e ▸ hb))
theorem fresh_of {h : Heap} {b : Addr} (hb : h.objs.size ≤ b) : h.get? b = none := by
  cases e : h.get? b with
  | none => rfl
  | some o => exact absurd (Heap.lt_size e) (Nat.not_lt.mpr hb)
theorem strs_get {vs : List Value} {xs : List Str} (h : StrsAre vs xs) : ∀ {i : Nat} {v : Value}, vs[i]? = some v → ∃ x t, xs[i]? = some x ∧ v = .str x t := by
  induction h with
  | nil => intro i v e; simp at e
  | cons y t _ ih =>
    intro i v e
    cases i with
    | zero => simp at e; exact ⟨y, t, rfl, e.symm⟩
    | succ i => exact ih (by simpa using e)
theorem strs_len {vs : List Value} {xs : List Str} (h : StrsAre vs xs) : vs.length = xs.length := by
  induction h with
  | nil => rfl
  | cons _ _ _ ih => simp [ih]
theorem strs_snoc {vs : List Value} {xs : List Str} {x : Str} {t : Tok} (h : StrsAre vs xs) : StrsAre (vs ++ [.str x t]) (xs ++ [x]) := by
  induction h with
  | nil => exact .cons _ _ .nil
  | cons y t _ ih => exact .cons _ _ ih
section
variable {M : Model} {w : World} {A : Around} {E : Value → Shared → Prop} {s : Shared} {hb : Heap} {C c : Addr} {scope : Scope} {cl : List (Str × Addr)} {env : Env} {x : Str} {pos : Pos} {v : Value} {o : Obj} {Q : Value → Shared → Prop} {m mg mb : Str → Option Value} {p : Program} {loose : List Str} {KK : Frag}
theorem ce_local (F : Fr hb C s.heap m) (hv : m x = some v) (h : Q v s) (hk : (compEnvC scope cl C env).scope.kind = .function) (hx : (compEnvC scope cl C env).kindOf x = some .local) (hb' : (x == ("__debug__" : Str)) = false := by decide) :
    wpAny M A (eval (.Name x pos) (compEnvC scope cl C env)) Q E s := wpAny_Name (wpAny_loadName_local hk hx F.ns hv h) hb'
theorem ce_cell (F : Fr hb C s.heap m) (hc : cl.lookup x = some c) (ho : hb.get? c = some o) (hd : o.data = .cell (some v)) (h : Q v s)
    (hk : (compEnvC scope cl C env).scope.kind = .function) (hx : (compEnvC scope cl C env).kindOf x = some .cell) (hb' : (x == ("__debug__" : Str)) = false := by decide) :
    wpAny M A (eval (.Name x pos) (compEnvC scope cl C env)) Q E s := wpAny_Name (wpAny_loadName_cell hk hx hc ⟨o, F.keep _ _ ho, hd⟩ h) hb'
theorem ce_B (F : Fr hb C s.heap m) (X : KK.In hb) (T : TopRead p loose mg mb hb) (hg : env.globals = mainGlobals) (hbb : env.builtins = builtinsNs) (e : nsIn KK mainGlobals x = some none) (hv : bootBuiltins x = some v) (hn : x ≠ "__name__") (h : Q v s)
    (hk : (compEnvC scope cl C env).scope.kind = .function) (hx : (compEnvC scope cl C env).kindOf x = some .globalImplicit) (hd : (x == ("__debug__" : Str)) = false := by decide) :
    wpAny M A (eval (.Name x pos) (compEnvC scope cl C env)) Q E s :=
  Name_function_global hk hx (loadGlobal_builtin (env := compEnvC scope cl C env) (by show s.heap.Ns env.globals mg; rw [hg]; exact T.g.keeps F.keep) (mg_none_of X T.g e) (by show s.heap.Ns env.builtins mb; rw [hbb]; exact T.b.keeps F.keep) ((T.builtins x hn).trans hv) h) hd
end
section
variable {w : World} {A : Around} {E : Value → Shared → Prop} {s : Shared} {env : Env}
theorem eval_comp1 {elt iter : Expr} {x : Str} {px : Pos} {ifs : List Expr} {scope : Scope} {cl : List (Str × Addr)} {pos : Pos} {Q : Value → Shared → Prop}
    (hclos : closureFor scope env = pure cl) (hkind : scope.kind = .function) (hnames : ∀ y ∈ scope.names, y.2 = .local → scope.names.lookup y.1 = some .local)
    (h : wpAny (model prg w) A (eval iter env) (fun xv s₁ => wpAny (model prg w) A (pyIter xv) (fun it s₂ => wpAny (model prg w) A (newList []) (fun acc s₃ =>
      wpAny (model prg w) A (newFunctionEnv scope env.globals cl [] env.qual none .none (some env)) (fun cenv s₄ =>
        codeAny (model prg w) A (.compStart (.ListComp elt [⟨.Name x px, iter, ifs, 0⟩] scope pos) 0 it acc { cenv with scope := relabel scope env }) (compPost (model prg w) A E none Q acc cenv.locals) s₄) E s₃) E s₂) E s₁) E s)
    (hs : ∀ x, foldedSetIterable iter env x = pure x := by intro _; rfl) :
    wpAny (model prg w) A (eval (.ListComp elt [⟨.Name x px, iter, ifs, 0⟩] scope pos) env) Q E s := by
  rw [eval_ListComp]
  exact wpAny_comprehension_free (use := none) rfl hs hclos hkind hnames h
theorem eval_comp2 {elt i1 i2 : Expr} {x1 x2 : Str} {p1 p2 : Pos} {scope : Scope} {cl : List (Str × Addr)} {pos : Pos} {Q : Value → Shared → Prop}
    (hclos : closureFor scope env = pure cl) (hkind : scope.kind = .function) (hnames : ∀ y ∈ scope.names, y.2 = .local → scope.names.lookup y.1 = some .local)
    (h : wpAny (model prg w) A (eval i1 env) (fun xv s₁ => wpAny (model prg w) A (pyIter xv) (fun it s₂ => wpAny (model prg w) A (newList []) (fun acc s₃ =>
      wpAny (model prg w) A (newFunctionEnv scope env.globals cl [] env.qual none .none (some env)) (fun cenv s₄ =>
        codeAny (model prg w) A (.compStart (.ListComp elt [⟨.Name x1 p1, i1, [], 0⟩, ⟨.Name x2 p2, i2, [], 0⟩] scope pos) 0 it acc { cenv with scope := relabel scope env }) (compPost (model prg w) A E none Q acc cenv.locals) s₄) E s₃) E s₂) E s₁) E s)
    (hs : ∀ x, foldedSetIterable i1 env x = pure x := by intro _; rfl) :
    wpAny (model prg w) A (eval (.ListComp elt [⟨.Name x1 p1, i1, [], 0⟩, ⟨.Name x2 p2, i2, [], 0⟩] scope pos) env) Q E s := by
  rw [eval_ListComp]
  exact wpAny_comprehension_free (use := none) rfl hs hclos hkind hnames h
theorem assign_comp2 {elt i1 i2 : Expr} {x1 x2 y : Str} {p1 p2 py : Pos} {scope : Scope} {cl : List (Str × Addr)} {pos spos : Pos} {Q : Flow → Shared → Prop}
    (hsw : swapsWith (.ListComp elt [⟨.Name x1 p1, i1, [], 0⟩, ⟨.Name x2 p2, i2, [], 0⟩] scope pos) (some (.Name y py)) spos.line env = pure true)
    (hclos : closureFor scope env = pure cl) (hkind : scope.kind = .function) (hnames : ∀ y ∈ scope.names, y.2 = .local → scope.names.lookup y.1 = some .local)
    (h : wpAny (model prg w) A (eval i1 env) (fun xv s₁ => wpAny (model prg w) A (pyIter xv) (fun it s₂ => wpAny (model prg w) A (newList []) (fun acc s₃ =>
      wpAny (model prg w) A (newFunctionEnv scope env.globals cl [] env.qual none .none (some env)) (fun cenv s₄ =>
        codeAny (model prg w) A (.compStart (.ListComp elt [⟨.Name x1 p1, i1, [], 0⟩, ⟨.Name x2 p2, i2, [], 0⟩] scope pos) 0 it acc { cenv with scope := relabel scope env }) (compPost (model prg w) A E (some (assign (.Name y py) env)) (fun _ s' => Q .next s') acc cenv.locals) s₄) E s₃) E s₂) E s₁) E s)
    (hs : ∀ x, foldedSetIterable i1 env x = pure x := by intro _; rfl) :
    wpAny (model prg w) A (exec (.Assign [.Name y py] (.ListComp elt [⟨.Name x1 p1, i1, [], 0⟩, ⟨.Name x2 p2, i2, [], 0⟩] scope pos) spos) env) Q E s := by
  rw [exec_Assign_Name_used _ _ _ _ hsw]
  refine wpAny_bind (wpAny_standAt (wpAny_bind ?_))
  show wpAny _ A (do let _ ← comprehension (.ListComp elt [⟨.Name x1 p1, i1, [], 0⟩, ⟨.Name x2 p2, i2, [], 0⟩] scope pos) scope env _ (newList []) false (eval i1 env) (some (assign (.Name y py) env))) _ _ s
  exact wpAny_bind (wpAny_mono (wpAny_comprehension_free (use := some (assign (.Name y py) env)) (Q := fun _ s' => Q .next s') rfl hs hclos hkind hnames h) (fun _ s' hq => wpAny_pure (wpAny_pure hq)) fun _ _ e => e)
end
section
variable {w : World} {A : Around} {R : Result → Shared → Prop} {s : Shared}
/-- the inner clause, over the block's base -/
theorem innerAt {elt i1 iter : Expr} {x1 x : Str} {p1 px : Pos} {scope sc : Scope} {cl : List (Str × Addr)} {env : Env} {C : Addr} {pos : Pos} {I D : Addr} {fp wr : List Addr} {n : Nat} {P : Nat → Value → Prop} {St : Nat → Heap → Prop}
    {hb : Heap} {m₀ : Str → Option Value} {ys₀ : List Value} (W : Walks prg w A I fp wr n P St) (F₀ : Fr hb C s.heap m₀) (hbD : hb.get? D = none) (hbw : ∀ b ∈ wr, hb.get? b = none)
    (hx : (compEnvC sc cl C env).kindOf x = some .local) (hkind : sc.kind = .function) (hDC : D ≠ C) (hDf : D ∉ fp) (hCf : C ∉ fp)
    (J : Nat → List Value → (Str → Option Value) → Heap → Prop)
    (hJs : ∀ i ys m h h', J i ys m h → (∀ b o, b ≠ C → b ∉ wr → b ≠ D → h.get? b = some o → h'.get? b = some o) → J i ys m h')
    (hJl : ∀ i ys m h, J i ys m h → ys.length ≤ 100000)
    (hst : St 0 s.heap) (hacc : s.heap.PlainList D ys₀.toArray) (hj : J 0 ys₀ m₀ s.heap)
    (turn : ∀ i v ys m h tk own, i < n → P i v → J i ys m h → Fr hb C h (fun y => if y = x then some v else m y) → News hb C h own → Own hb C h own → h.PlainList D ys.toArray →
      (∀ b o, b ≠ C → b ∉ wr → b ≠ D → s.heap.get? b = some o → h.get? b = some o) →
      wpAny (model prg w) A (eval elt (compEnvC sc cl C env)) (fun y s₄ => CE C h { s with heap := h, toks := tk } (J (i + 1) (ys ++ [y])) s₄) (fun _ _ => False) { s with heap := h, toks := tk })
    (hR : ∀ h' tk m' ys, h'.Ns C m' → h'.PlainList D ys.toArray → J n ys m' h' → (∀ b o, b ≠ C → b ∉ wr → b ≠ D → s.heap.get? b = some o → h'.get? b = some o) → R (.ok .next) { s with heap := h', toks := tk }) :
    codeAny (model prg w) A (.compLoop (.ListComp elt [⟨.Name x1 p1, i1, [], 0⟩, ⟨.Name x px, iter, [], 0⟩] scope pos) 1 (.ref I) (.ref D) (compEnvC sc cl C env)) R s := by
  refine compLoopG (cenv := compEnvC sc cl C env) (ys₀ := ys₀) (ifs := []) W (fun it acc => rfl) hx (by simp [compEnvC, relabel, hkind]) hDC hDf hCf J hJs hJl hst hacc F₀.ns hj ?_ hR
  intro i v ys m h tk hi hP hJ hn hpl hk
  have ne : ∀ b o, hb.get? b = some o → b ≠ C ∧ b ∉ wr ∧ b ≠ D := fun b o e => ⟨fun q => Nat.lt_irrefl _ (Nat.lt_of_lt_of_le (q ▸ Heap.lt_size e) F₀.above), fun q => (by rw [hbw b q] at e; cases e), fun q => (by rw [q, hbD] at e; cases e)⟩
  have F : Fr hb C h (fun y => if y = x then some v else m y) := ⟨hn, fun b o e => hk b o (ne b o e).1 (ne b o e).2.1 (ne b o e).2.2 (F₀.keep b o e), F₀.above⟩
  obtain ⟨own, N, ho⟩ := own_ex hb C h
  refine wpAny_tests_nil ?_
  simp only [if_true]
  exact turn i v ys m h tk own hi hP hJ F N ho hpl hk
end
end
section
open PySem PySem.W PyProof.Rows PySem.Calls PySem.Spec
set_option maxRecDepth 100000
section
variable {w : World} {A : Around} {E : Value → Shared → Prop} {s : Shared} {env : Env} {h₀ : Heap} {body : List Stmt} {Q : Flow → Shared → Prop} {m₀ : Str → Option Value}
/-- a for of two names over a list of pairs that stood ahead of the call -/
theorem forPairs {xi xc : Str} {pk pv pt pos : Pos} {x1 : Nat} {iter : Expr} {l : Addr} {ts : List Addr} {vals : List (Value × Value)} (J : Nat → (Str → Option Value) → Prop) (hh : A.handled = none)
    (hxi : env.kindOf xi = some .local) (hxc : env.kindOf xc = some .local) (hp : (env.scope.kind == .class || (env.scope.kind == .module && env.locals != env.globals)) = false)
    (hl : h₀.IsList l (ts.map Value.ref).toArray) (hn : ts.length = vals.length) (ht : ∀ (k : Nat) (t : Addr) (v : Value × Value), ts[k]? = some t → vals[k]? = some v → h₀.IsTuple t #[v.1, v.2])
    (hi : wpAny (model prg w) A (eval iter env) (fun xv s₁ => xv = .ref l ∧ (∃ m₀ tk, ∃ h, s₁ = { s with heap := h, toks := tk } ∧ Fr h₀ env.locals h m₀ ∧ J 0 m₀)) (fun _ _ => False) s)
    (turn : ∀ i v m₁ h tk own, vals[i]? = some v → J i m₁ → Fr h₀ env.locals h (fun y => if y = xc then some v.2 else if y = xi then some v.1 else m₁ y) → News h₀ env.locals h own →
      wpAny (model prg w) A (execs body env) (SPost h₀ env.locals own (J (i + 1)) { s with heap := h, toks := tk } Q) (fun _ _ => False) { s with heap := h, toks := tk })
    (done : ∀ m₁ h tk, J vals.length m₁ → Fr h₀ env.locals h m₁ → Q .next { s with heap := h, toks := tk }) (hs : ∀ x, foldedSetIterable iter env x = pure x := by intro _; rfl) :
    wpAny (model prg w) A (exec (.For (.Tuple [.Name xi pk, .Name xc pv] x1 pt) iter body [] pos) env) Q E s := by
  refine wpAny_For (wpAny_mono hi (fun xv s₁ h₁ => ?_) fun _ _ f => f.elim) hs
  obtain ⟨rfl, m₀, tk, h, rfl, F, hj⟩ := h₁
  have hlh : h.IsList l (ts.map Value.ref).toArray := hl.at fun o e => F.keep l o e
  refine wpAny_pyIter_list hlh ?_
  have hLlt := F.ns.lt
  have hLI : env.locals ≠ h.objs.size := Nat.ne_of_lt hLlt
  have b0 : ∀ b o, h₀.get? b = some o → b ≠ env.locals ∧ b ≠ h.objs.size := fun b o e => ⟨fun q => Nat.lt_irrefl _ (Nat.lt_of_lt_of_le (q ▸ Heap.lt_size e) F.above), fun q => Nat.lt_irrefl _ (q ▸ Heap.lt_size (F.keep b o e))⟩
  refine codeAny_forLoop_any (fun k s' => ∃ h' tk' m' i, s' = { s with heap := h', toks := tk' } ∧ h'.IsListIter h.objs.size l i ∧ Fr h₀ env.locals h' m' ∧ J i m' ∧ i ≤ vals.length ∧ k = vals.length + 1 - i) ?_ (vals.length + 1)
    ⟨_, tk, m₀, 0, rfl, ⟨_, Heap.get?_push_size _ rfl, rfl, rfl⟩, F.push _, hj, Nat.zero_le _, rfl⟩
  rintro k s' ⟨H, tk', m', i, rfl, hit, F', hJ, hile, rfl⟩
  have hlH : H.IsList l (ts.map Value.ref).toArray := hl.at fun o e => F'.keep l o e
  by_cases hlt : i < vals.length
  · have hti : i < ts.length := by omega
    refine wpAny_pyNext_list_item hit hlH (x := .ref ts[i]) (by simp [hti]) fun h₁ hit₁ hs₁ => ?_
    have F₁ : Fr h₀ env.locals h₁ m' := ⟨F'.ns.sameBut hs₁ hLI, fun b o e => (hs₁.2 b (b0 b o e).2).trans (F'.keep b o e), F'.above⟩
    refine wpAny_letOwnedTupleGo_listiter hit₁ ?_
    have ht₁ : h₁.IsTuple ts[i] #[(vals[i]).1, (vals[i]).2] := (ht i ts[i] vals[i] (by simp [hti]) (by simp [hlt])).at fun o e => F₁.keep _ o e
    refine wpAny_assign_Tuple hh ht₁ rfl rfl fun h₃ hx₃ => ?_
    replace hx₃ : Heap.ExtBut h₁.objs.size h₁ h₃ := hx₃
    have up₃ : ∀ b o, h₁.get? b = some o → h₃.get? b = some o := fun b o x => hx₃ b o (Nat.ne_of_lt (Heap.lt_size x)) x
    have F₃ := Fr.up F₁ up₃
    show wpAny _ A (do holding [(vals[i]).2] (assign (.Name xi pk) env (vals[i]).1); do holding [] (assign (.Name xc pv) env (vals[i]).2); pure ()) _ _ _
    refine wpAny_bind (wpAny_holding (wpAny_assign_Name (wpAny_storeName_local hxi F₃.ns (fun h₄ hn₄ hs₄ => ?_) hp)))
    replace hs₄ : Heap.SameBut env.locals h₃ h₄ := hs₄
    have F₄ := F₃.set hn₄ hs₄
    refine wpAny_bind (wpAny_holding (wpAny_assign_Name (wpAny_storeName_local hxc F₄.ns (fun h₅ hn₅ hs₅ => wpAny_pure ?_) hp)))
    replace hs₅ : Heap.SameBut env.locals h₄ h₅ := hs₅
    have F₅ := F₄.set hn₅ hs₅
    obtain ⟨oI, hoI, hrI⟩ := hit₁
    have hI5 : h₅.get? h.objs.size = some oI := (hs₅.2 _ (Ne.symm hLI)).trans ((hs₄.2 _ (Ne.symm hLI)).trans (up₃ _ _ hoI))
    have hI0 : h₀.get? h.objs.size = none := next_is_new F
    have NI : News h₀ env.locals h₅ [(h.objs.size, oI)] := fun p hp => by rw [List.mem_singleton.mp hp]; exact ⟨hI5, Ne.symm hLI, hI0⟩
    refine wpAny_mono (turn i vals[i] m' h₅ _ _ (by simp [hlt]) hJ F₅ NI) (fun f s₃ h₆ => ?_) fun _ _ f => f.elim
    have fin : ∀ tkx, SEnd h₀ env.locals [(h.objs.size, oI)] (J (i + 1)) { s with heap := h₅, toks := tkx } s₃ → ∃ m, m < vals.length + 1 - i ∧ ∃ h' tk' m' i, s₃ = { s with heap := h', toks := tk' } ∧ h'.IsListIter h.objs.size l i ∧ Fr h₀ env.locals h' m' ∧ J i m' ∧ i ≤ vals.length ∧ m = vals.length + 1 - i := by
      rintro tkx ⟨h', tk2, m2, rfl, F6, N6, j6⟩
      exact ⟨vals.length + 1 - (i + 1), by omega, h', tk2, m2, i + 1, rfl, ⟨oI, (N6 _ (List.Mem.head _)).1, hrI⟩, F6, j6, hlt, rfl⟩
    cases f with
    | ret v => exact h₆
    | brk => exact h₆
    | cont => exact fin _ h₆
    | next => exact fin _ h₆
  · have hin : i = vals.length := by omega
    subst hin
    refine wpAny_pyNext_list_end hh hit hlH (by simp [hn]) fun h₁ he₁ => wpAny_execs_nil ?_
    exact done m' h₁ _ hJ ⟨F'.ns.at' fun o e => he₁ _ o hLI e, fun b o e => he₁ b o (b0 b o e).2 (F'.keep b o e), F'.above⟩
end
end
section
open PySem PySem.W PyProof.Rows PySem.Calls PySem.Spec
set_option maxRecDepth 100000
section
variable {w : World} {A : Around} {E : Value → Shared → Prop} {s : Shared} {env : Env} {Q : Value → Shared → Prop}
/-- a comprehension of one clause behind its iterator -/
theorem comp1N {elt iter : Expr} {x : Str} {px : Pos} {ifs : List Expr} {scope : Scope} {cl : List (Str × Addr)} {pos : Pos} {ob : Obj} {fp : List Addr} {n : Nat} {P : Nat → Value → Prop} {St : Nat → Heap → Prop}
    (W : Walks prg w A s.heap.objs.size fp [s.heap.objs.size] n P St) (hst : St 0 (s.heap.push ob)) (hfp : ∀ b ∈ fp, b ≤ s.heap.objs.size)
    (J : Addr → Addr → Nat → List Value → (Str → Option Value) → Heap → Prop)
    (hcell : ∀ y ∈ scope.names, y.2 ≠ .cell) (hkind : scope.kind = .function) (hx : scope.names.lookup x = some .local)
    (hJ0 : ∀ D C h, (∀ b o, s.heap.get? b = some o → h.get? b = some o) → J D C 0 [] (fun _ => none) h)
    (hJs : ∀ D C i ys m h h', s.heap.objs.size < D → D < C → J D C i ys m h → (∀ b o, b ≠ C → b ≠ s.heap.objs.size → b ≠ D → h.get? b = some o → h'.get? b = some o) → J D C i ys m h')
    (hJl : ∀ D C i ys m h, J D C i ys m h → ys.length ≤ 100000)
    (turn : ∀ hb D C i v ys m h tk own, (∀ b o, s.heap.get? b = some o → hb.get? b = some o) → hb.get? D = none → s.heap.objs.size < D → D < C → i < n → P i v → J D C i ys m h →
      Fr hb C h (fun y => if y = x then some v else m y) → News hb C h own → Own hb C h own → hb.get? s.heap.objs.size = none → h.PlainList D ys.toArray →
      wpAny (model prg w) A (forIn ifs true fun c r => if r = true then do let ok ← isTrue c (compEnvC scope cl C env) (eval c (compEnvC scope cl C env)); pure (ForInStep.yield ok) else pure (ForInStep.yield r))
        (fun ok s₃ => if ok = true then wpAny (model prg w) A (eval elt (compEnvC scope cl C env)) (fun y s₄ => CE C h { s with heap := h, toks := tk } (J D C (i + 1) (ys ++ [y])) s₄) (fun _ _ => False) s₃
          else CE C h { s with heap := h, toks := tk } (J D C (i + 1) ys) s₃) (fun _ _ => False) { s with heap := h, toks := tk })
    (done : ∀ D C h' tk m' ys, s.heap.objs.size < D → D < C → h'.PlainList D ys.toArray → J D C n ys m' h' → (∀ b o, s.heap.get? b = some o → h'.get? b = some o) → Q (.ref D) { s with heap := h', toks := tk }) :
    wpAny (model prg w) A (newList []) (fun acc s₃ => wpAny (model prg w) A (newFunctionEnv scope env.globals cl [] env.qual none .none (some env)) (fun cenv s₄ =>
      codeAny (model prg w) A (.compStart (.ListComp elt [⟨.Name x px, iter, ifs, 0⟩] scope pos) 0 (.ref s.heap.objs.size) acc { cenv with scope := relabel scope env }) (compPost (model prg w) A E none Q acc cenv.locals) s₄) E s₃) E { s with heap := s.heap.push ob } := by
  have ne : ∀ b o, s.heap.get? b = some o → b ∉ [s.heap.objs.size] := fun b o e q => Nat.lt_irrefl _ (List.mem_singleton.mp q ▸ Heap.lt_size e)
  have kb : ∀ b o, s.heap.get? b = some o → (hbOf { s with heap := s.heap.push ob } [s.heap.objs.size]).get? b = some o := fun b o e => hideAll_get _ (Heap.get?_push_of_some _ e) (ne b o e)
  refine comp1At (RR := fun acc C => compPost (model prg w) A E none Q acc C) W (fun D C i ys m h => (s.heap.objs.size < D ∧ D < C) ∧ J D C i ys m h) hcell hkind hx hst ?_ ?_ ?_ (fun D C i ys m h j => hJl D C i ys m h j.2) ?_ ?_
  · intro b hb
    rw [Heap.size_push]
    exact Nat.lt_succ_of_le (hfp b hb)
  · intro D C h hD hDC k
    exact ⟨⟨by have := hD; rw [Heap.size_push] at this; exact this, hDC⟩, hJ0 D C h fun b o e => k b o (ne b o e) (Heap.get?_push_of_some _ e)⟩
  · intro D C i ys m h h' j k
    exact ⟨j.1, hJs D C i ys m h h' j.1.1 j.1.2 j.2 fun b o h1 h2 h3 e => k b o h1 (fun q => h2 (List.mem_singleton.mp q)) h3 e⟩
  · intro D C i v ys m h tk own hD hDC hi hP hJ F N ho hpl
    have hD' : s.heap.objs.size < D := by have := hD; rw [Heap.size_push] at this; exact this
    refine wpAny_mono (turn _ D C i v ys m h tk own kb (fresh_of (by rw [hideAll_size, Heap.size_push]; exact hD')) hD' hDC hi hP hJ.2 F N ho (hideAll_none _ (List.mem_singleton.mpr rfl)) hpl) (fun ok s₃ q => ?_) fun _ _ f => f
    cases ok with
    | false =>
      obtain ⟨h', tk', m', e, a1, a2, a3⟩ := q
      exact ⟨h', tk', m', e, a1, a2, ⟨hD', hDC⟩, a3⟩
    | true =>
      refine wpAny_mono q (fun y s₄ q => ?_) fun _ _ f => f
      obtain ⟨h', tk', m', e, a1, a2, a3⟩ := q
      exact ⟨h', tk', m', e, a1, a2, ⟨hD', hDC⟩, a3⟩
  · intro D C h' tk m' ys hD hDC hn hpl hJ hk
    have hD' : s.heap.objs.size < D := by have := hD; rw [Heap.size_push] at this; exact this
    refine ⟨m', hn, fun h'' hs => ?_⟩
    refine done D C h'' tk m' ys hD' hDC (hpl.extBut hs.extBut (Nat.ne_of_lt hDC)) (hJs _ _ _ _ _ _ _ hD' hDC hJ.2 fun b o h1 _ _ e => hs.extBut b o h1 e) fun b o e => hs.extBut b o ?_ (hk b o (ne b o e) (Heap.get?_push_of_some _ e))
    exact fun q => Nat.lt_irrefl _ (Nat.lt_trans (Nat.lt_trans hD' hDC) (q ▸ Heap.lt_size e))
/-- a comprehension of two clauses behind its first iterator -/
theorem comp2N {elt i1 i2 : Expr} {x1 x2 : Str} {p1 p2 : Pos} {scope : Scope} {cl : List (Str × Addr)} {pos : Pos} {ob : Obj} {fp : List Addr} {n : Nat} {P : Nat → Value → Prop} {St : Nat → Heap → Prop}
    (W : Walks prg w A s.heap.objs.size fp [s.heap.objs.size] n P St) (hst : St 0 (s.heap.push ob)) (hfp : ∀ b ∈ fp, b ≤ s.heap.objs.size)
    (J : Addr → Addr → Nat → List Value → (Str → Option Value) → Heap → Prop)
    (hcell : ∀ y ∈ scope.names, y.2 ≠ .cell) (hkind : scope.kind = .function) (hx : scope.names.lookup x1 = some .local)
    (hJ0 : ∀ D C h, (∀ b o, s.heap.get? b = some o → h.get? b = some o) → J D C 0 [] (fun _ => none) h)
    (hJs : ∀ D C i ys m h h', s.heap.objs.size < D → D < C → J D C i ys m h → (∀ b o, b ≠ C → b ≠ s.heap.objs.size → b ≠ D → h.get? b = some o → h'.get? b = some o) → J D C i ys m h')
    (hfold : ∀ C x, foldedSetIterable i2 (compEnvC scope cl C env) x = pure x)
    (turn : ∀ hb D C i v ys m h tk own, (∀ b o, s.heap.get? b = some o → hb.get? b = some o) → hb.get? D = none → s.heap.objs.size < D → D < C → i < n → P i v → J D C i ys m h →
      Fr hb C h (fun y => if y = x1 then some v else m y) → News hb C h own → Own hb C h own → h.PlainList D ys.toArray →
      wpAny (model prg w) A (eval i2 (compEnvC scope cl C env)) (fun xv s₃ => wpAny (model prg w) A (pyIter xv) (fun it s₄ => ∃ I2 fp2 wr2 n2 P2 St2, it = .ref I2 ∧ Walks prg w A I2 fp2 wr2 n2 P2 St2 ∧ St2 0 s₄.heap ∧
        codeAny (model prg w) A (.compLoop (.ListComp elt [⟨.Name x1 p1, i1, [], 0⟩, ⟨.Name x2 p2, i2, [], 0⟩] scope pos) 1 (.ref I2) (.ref D) (compEnvC scope cl C env)) (fun r s₅ => r = .ok .next ∧ CD C D h { s with heap := h, toks := tk } (J D C (i + 1)) s₅) s₄)
          (fun _ _ => False) s₃) (fun _ _ => False) { s with heap := h, toks := tk })
    (done : ∀ D C h' tk m' ys, s.heap.objs.size < D → D < C → h'.PlainList D ys.toArray → J D C n ys m' h' → (∀ b o, s.heap.get? b = some o → h'.get? b = some o) → Q (.ref D) { s with heap := h', toks := tk }) :
    wpAny (model prg w) A (newList []) (fun acc s₃ => wpAny (model prg w) A (newFunctionEnv scope env.globals cl [] env.qual none .none (some env)) (fun cenv s₄ =>
      codeAny (model prg w) A (.compStart (.ListComp elt [⟨.Name x1 p1, i1, [], 0⟩, ⟨.Name x2 p2, i2, [], 0⟩] scope pos) 0 (.ref s.heap.objs.size) acc { cenv with scope := relabel scope env }) (compPost (model prg w) A E none Q acc cenv.locals) s₄) E s₃) E { s with heap := s.heap.push ob } := by
  have ne : ∀ b o, s.heap.get? b = some o → b ∉ [s.heap.objs.size] := fun b o e q => Nat.lt_irrefl _ (List.mem_singleton.mp q ▸ Heap.lt_size e)
  have kb : ∀ b o, s.heap.get? b = some o → (hbOf { s with heap := s.heap.push ob } [s.heap.objs.size]).get? b = some o := fun b o e => hideAll_get _ (Heap.get?_push_of_some _ e) (ne b o e)
  refine comp2At (RR := fun acc C => compPost (model prg w) A E none Q acc C) W (fun D C i ys m h => (s.heap.objs.size < D ∧ D < C) ∧ J D C i ys m h) hcell hkind hx hst ?_ ?_ ?_ hfold ?_ ?_
  · intro b hb
    rw [Heap.size_push]
    exact Nat.lt_succ_of_le (hfp b hb)
  · intro D C h hD hDC k
    exact ⟨⟨by have := hD; rw [Heap.size_push] at this; exact this, hDC⟩, hJ0 D C h fun b o e => k b o (ne b o e) (Heap.get?_push_of_some _ e)⟩
  · intro D C i ys m h h' j k
    exact ⟨j.1, hJs D C i ys m h h' j.1.1 j.1.2 j.2 fun b o h1 h2 h3 e => k b o h1 (fun q => h2 (List.mem_singleton.mp q)) h3 e⟩
  · intro D C i v ys m h tk own hD hDC hi hP hJ F N ho hpl
    have hD' : s.heap.objs.size < D := by have := hD; rw [Heap.size_push] at this; exact this
    refine wpAny_mono (turn _ D C i v ys m h tk own kb (fresh_of (by rw [hideAll_size, Heap.size_push]; exact hD')) hD' hDC hi hP hJ.2 F N ho hpl) (fun xv s₃ q => wpAny_mono q (fun it s₄ q => ?_) fun _ _ f => f) fun _ _ f => f
    obtain ⟨I2, fp2, wr2, n2, P2, St2, e1, e2, e3, e4⟩ := q
    refine ⟨I2, fp2, wr2, n2, P2, St2, e1, e2, e3, codeAny_mono e4 fun r s₅ q => ?_⟩
    obtain ⟨rfl, h', tk', m', ys', e, a1, a2, a3, a4⟩ := q
    exact ⟨rfl, h', tk', m', ys', e, a1, a2, a3, ⟨hD', hDC⟩, a4⟩
  · intro D C h' tk m' ys hD hDC hn hpl hJ hk
    have hD' : s.heap.objs.size < D := by have := hD; rw [Heap.size_push] at this; exact this
    refine ⟨m', hn, fun h'' hs => ?_⟩
    refine done D C h'' tk m' ys hD' hDC (hpl.extBut hs.extBut (Nat.ne_of_lt hDC)) (hJs _ _ _ _ _ _ _ hD' hDC hJ.2 fun b o h1 _ _ e => hs.extBut b o h1 e) fun b o e => hs.extBut b o ?_ (hk b o (ne b o e) (Heap.get?_push_of_some _ e))
    exact fun q => Nat.lt_irrefl _ (Nat.lt_trans (Nat.lt_trans hD' hDC) (q ▸ Heap.lt_size e))
theorem range_st0 {h : Heap} {a b : Int} {n : Nat} (hn : Builtin.Range.rangeSize a b 1 = (n : Int)) : IsRangeIter (h.push { cls := .type "range_iterator", data := .fields #[rawInt a, rawInt (Builtin.Range.rangeSize a b 1), rawInt 1] }) h.objs.size (a + ((0 : Nat) : Int) * 1) ((n : Int) - ((0 : Nat) : Int)) 1 := by
  rw [hn]
  have e1 : a + ((0 : Nat) : Int) * 1 = a := by omega
  have e2 : (n : Int) - ((0 : Nat) : Int) = n := by omega
  rw [e1, e2]
  exact Heap.get?_push_size _ rfl
end
end
section
open PySem PySem.W PyProof.Rows PySem.Calls
set_option maxRecDepth 100000
theorem fillC1 (w : World) : PySem.Challenge.rw_ph0042_01.row.prog = prg ∧ Mine.hd.heap_39 w.params = K w := by
  k_fill
  exact ⟨rfl, rfl⟩
set_option maxHeartbeats 8000000 in
theorem c_told {w : World} {A : Around} {s : Shared} {Q E : Value → Shared → Prop} {l : List Nat} {t : Tok} (C : Cx w s.heap) (R' : Rm A 10 500) (hl : 10 ∉ l) (hr : l.length ≤ 1000)
    (h : ∀ h' tk t', (∀ b o, s.heap.get? b = some o → h'.get? b = some o) → Q (.str (S (parseL l)) t') { s with heap := h', toks := tk }) :
    wpAny (model prg w) A (call (.ref 107) [.str (S l) t]) Q E s := by
  refine enter (binds := [(Str.ofString "rest", .str (S l) t)]) C (by with_unfolding_all rfl) (by with_unfolding_all rfl) (Nat.lt_of_le_of_lt (Nat.le_add_right _ _) R'.d) (BindsTo.of_eq rfl) (locs rfl) ?_ (Nat.succ_ne_zero _) rfl rfl rfl (by decide)
  intro L h₁ tk htk F N
  obtain ⟨mg, mb, T⟩ := C.t
  have X : (Mine.hd.heap_39 w.params).In s.heap := C.k
  k_steps
  refine repl (by omega) (by decide +kernel) (by rw [S_length]; omega) (by decide +kernel) ?_
  intro t1 k1
  rw [S3434, S10, rep_qq]
  k_steps
  obtain ⟨rest, hsp⟩ := split_head (R l)
  refine splitN1 F N (by decide +kernel) ?_ (by rw [S_length, sizeLine_eq]; have := R_le l; omega)
  intro l2 h2 k2 hl2 F2 N2
  rw [S34, hsp] at hl2
  obtain ⟨t2, l3, rfl, _⟩ := KSpl.cons_of hl2
  k_steps
  refine repl (by omega) (by decide +kernel) ?_ (by decide +kernel) ?_
  · have h1 : ((R l).takeWhile (fun c => c != 34)).length ≤ (R l).length := (List.takeWhile_sublist _).length_le
    have h2 := R_le l
    rw [S_length]; omega
  intro t3 k3
  rw [S34, rep_nl, parse_R l hl]
  exact h _ _ _ F2.keep
end
section
open PySem PySem.W PyProof.Rows PySem.Calls
set_option maxRecDepth 100000
local macro_rules | `(tactic| walk_at "go") => `(tactic| repeat' (first | (k_closed; walk1) | ((fail_if_success (with_reducible show (ite _ _ _ : Prop))); (fail_if_success (with_reducible show wpAny _ _ (exec (Stmt.While _ _ _ _) _) _ _ _)); (fail_if_success (with_reducible show wpAny _ _ (binaryOp Operator.Add (Value.str _ _) (Value.str _ _)) _ _ _)); (fail_if_success (with_reducible show wpAny _ _ (subscriptTail _ _ (Value.str _ _) (Value.int _ _)) _ _ _)); (fail_if_success (with_reducible show wpAny _ _ (exec (Stmt.For _ _ _ _ _) _) _ _ _)); first | walk1 | (dsimp only; walk1))))
def JP (l : List Nat) (n : Nat) (m : Str → Option Value) : Prop :=
  ∃ (k : Nat) (d : List Nat) (t1 t2 t3 t4 : Tok), m (Str.ofString "resp") = some (.str (S (50 :: 53 :: 55 :: 32 :: 34 :: l)) t1) ∧ m (Str.ofString "i") = some (.int ((k + 5 : Nat) : Int) t2) ∧ m (Str.ofString "n") = some (.int ((l.length + 5 : Nat) : Int) t3) ∧
    m (Str.ofString "dirname") = some (.str (S d) t4) ∧ k ≤ l.length ∧ n = l.length - k ∧ d ++ parseL (l.drop k) = parseL l ∧ d.length ≤ k
set_option maxHeartbeats 8000000 in
theorem c_parse {w : World} {A : Around} {s : Shared} {Q E : Value → Shared → Prop} {l : List Nat} {t : Tok} (C : Cx w s.heap) (R' : Rm A 10 500) (hr : l.length ≤ 1000)
    (h : ∀ h' tk t', (∀ b o, s.heap.get? b = some o → h'.get? b = some o) → Q (.str (S (parseL l)) t') { s with heap := h', toks := tk }) :
    wpAny (model prg w) A (call (.ref 46) [.str (S (50 :: 53 :: 55 :: 32 :: 34 :: l)) t]) Q E s := by
  refine enter (binds := [(Str.ofString "resp", .str (S (50 :: 53 :: 55 :: 32 :: 34 :: l)) t)]) C (by with_unfolding_all rfl) (by with_unfolding_all rfl) (Nat.lt_of_le_of_lt (Nat.le_add_right _ _) R'.d) (BindsTo.of_eq rfl) (locs rfl) ?_ (Nat.succ_ne_zero _) rfl rfl rfl (by decide)
  intro L h₁ tk htk F N
  obtain ⟨mg, mb, T⟩ := C.t
  have X : (Mine.hd.heap_39 w.params).In s.heap := C.k
  have hz : (S (50 :: 53 :: 55 :: 32 :: 34 :: l)).length ≤ 1048576 := by rw [S_length]; simp only [List.length_cons]; omega
  have e3 : Txt.slice (S (50 :: 53 :: 55 :: 32 :: 34 :: l)) none (some 3) = Str.ofString "257" := (slice_to _ 3 (by simp)).trans (by with_unfolding_all rfl)
  have e5 : Txt.slice (S (50 :: 53 :: 55 :: 32 :: 34 :: l)) (some 3) (some 5) = Str.ofString " \"" := (slice_mid _ 3 5 (by decide) (by simp)).trans (by with_unfolding_all rfl)
  walk_at "go"
  refine ite_neg (by rw [e3]; decide +kernel) ?_
  walk_at "go"
  refine ite_neg (by rw [e5]; decide +kernel) ?_
  walk_at "go"
  rename Fr _ _ _ _ => F
  rename News _ _ _ _ => N
  refine While_inv2 (n₀ := l.length) (fun n m news => JP l n m ∧ news = []) F N ⟨⟨0, [], _, _, _, _, rfl, rfl, rfl, rfl, Nat.zero_le _, rfl, rfl, Nat.zero_le _⟩, rfl⟩ ?_
  clear F N
  rintro n m₁ news₁ h₁ tk₁ F₁ N ⟨⟨k, d, t1, t2, t3, t4, m1, m2, m3, m4, hk, hn, hd, hdl⟩, rfl⟩
  have F := Fr.wL F₁ [(Str.ofString "resp", .str (S (50 :: 53 :: 55 :: 32 :: 34 :: l)) t1), (Str.ofString "i", .int ((k + 5 : Nat) : Int) t2), (Str.ofString "n", .int ((l.length + 5 : Nat) : Int) t3), (Str.ofString "dirname", .str (S d) t4)]
    (by intro p hp; simp only [List.mem_cons, List.not_mem_nil, or_false] at hp; rcases hp with rfl | rfl | rfl | rfl <;> assumption)
  clear F₁
  walk_at "go"
  by_cases hlt : k < l.length
  · refine ite_pos (decide_eq_true (by omega)) ?_
    walk_at "go"
    have hc : (50 :: 53 :: 55 :: 32 :: 34 :: l)[k + 5]? = some l[k] := by
      show l[k]? = _
      simp [hlt]
    refine itemS rfl hc (by simp only [List.length_cons]; omega) ?_
    walk_at "go"
    have hdrop : l.drop k = l[k] :: l.drop (k + 1) := List.drop_eq_getElem_cons hlt
    by_cases h34 : l[k] = 34
    · refine ite_pos (by rw [h34, S34, S_beq]; rfl) ?_
      walk_at "go"
      by_cases hlt2 : k + 1 < l.length
      · refine ite_neg (by simp only [decide_eq_true_eq]; omega) ?_
        walk_at "go"
        have hc2 : (50 :: 53 :: 55 :: 32 :: 34 :: l)[k + 6]? = some l[k + 1] := by
          show l[k + 1]? = _
          simp [hlt2]
        refine itemS (by omega) hc2 (by simp only [List.length_cons]; omega) ?_
        walk_at "go"
        have hdrop2 : l.drop (k + 1) = l[k + 1] :: l.drop (k + 2) := List.drop_eq_getElem_cons hlt2
        by_cases h34' : l[k + 1] = 34
        · refine ite_neg (by rw [h34', S34, S_bne]; simp) ?_
          walk_at "go"
          refine addS (by simp only [List.length_cons, List.length_nil]; omega) fun t5 tk5 => ?_
          walk_at "go"
          rename Fr _ _ _ _ => F
          rename News _ _ _ _ => N
          refine ⟨_, _, _, _, l.length - (k + 2), rfl, F, N, by omega, ⟨k + 2, d ++ [l[k]], _, _, _, _, rfl, rfl, rfl, rfl, by omega, rfl, ?_, by simp only [List.length_append, List.length_cons, List.length_nil]; omega⟩, rfl⟩
          rw [← hd, hdrop, hdrop2, h34, h34']
          simp [parseL]
        · refine ite_pos (by rw [S34, S_bne]; simp [h34']) ?_
          walk_at "go"
          have e : d = parseL l := by
            rw [← hd, hdrop, hdrop2, h34]; simp [parseL, h34']
          rename Fr _ _ _ _ => F
          show wpAny _ _ (execs _ _) _ _ _
          walk_at "go"
          subst e
          exact h _ _ _ F.keep
      · refine ite_pos (by simp only [decide_eq_true_eq]; omega) ?_
        walk_at "go"
        have e : d = parseL l := by
          have e2 : l.drop (k + 1) = [] := List.drop_eq_nil_of_le (by omega)
          rw [← hd, hdrop, e2, h34]; simp [parseL]
        rename Fr _ _ _ _ => F
        show wpAny _ _ (execs _ _) _ _ _
        walk_at "go"
        subst e
        exact h _ _ _ F.keep
    · refine ite_neg (by rw [S34, S_beq]; simp [h34]) ?_
      walk_at "go"
      refine addS (by simp only [List.length_cons, List.length_nil]; omega) fun t5 tk5 => ?_
      walk_at "go"
      rename Fr _ _ _ _ => F
      rename News _ _ _ _ => N
      refine ⟨_, _, _, _, l.length - (k + 1), rfl, F, N, by omega, ⟨k + 1, d ++ [l[k]], _, _, _, _, rfl, rfl, rfl, rfl, by omega, rfl, ?_, by simp only [List.length_append, List.length_cons, List.length_nil]; omega⟩, rfl⟩
      rw [← hd, hdrop]
      cases hq : l.drop (k + 1) with
      | nil => simp [parseL, h34]
      | cons b r => simp [parseL, h34]
  · refine ite_neg (by simp only [decide_eq_true_eq]; omega) ?_
    walk_at "go"
    have e : d = parseL l := by
      have : l.drop k = [] := List.drop_eq_nil_of_le (by omega)
      rw [this] at hd; simpa [parseL] using hd
    subst e
    exact h _ _ _ F.keep
end
section
open PySem PySem.W PyProof.Rows PySem.Calls

local macro_rules | `(tactic| walk_at "go") => `(tactic| repeat' (first | (k_closed; walk1) | ((fail_if_success (with_reducible show (ite _ _ _ : Prop))); (fail_if_success (with_reducible show wpAny _ _ (exec (Stmt.While _ _ _ _) _) _ _ _)); (fail_if_success (with_reducible show wpAny _ _ (binaryOp Operator.Add (Value.str _ _) (Value.str _ _)) _ _ _)); (fail_if_success (with_reducible show wpAny _ _ (subscriptTail _ _ (Value.str _ _) (Value.int _ _)) _ _ _)); (fail_if_success (with_reducible show wpAny _ _ (binaryOp Operator.Mult (Value.int _ _) (Value.int _ _)) _ _ _)); (fail_if_success (with_reducible show wpAny _ _ (binaryOp Operator.Pow (Value.int _ _) (Value.int _ _)) _ _ _)); (fail_if_success (with_reducible show wpAny _ _ (call (Value.ref _) _) _ _ _)); (fail_if_success (with_reducible show wpAny _ _ (eval (Expr.ListComp _ _ _ _) _) _ _ _)); (fail_if_success (with_reducible show wpAny _ _ (exec (Stmt.For _ _ _ _ _) _) _ _ _)); first | walk1 | (dsimp only; walk1))))
local macro_rules | `(tactic| walk_at "go2") => `(tactic| repeat' (first | (k_closed; walk1) | ((fail_if_success (with_reducible show (ite _ _ _ : Prop))); (fail_if_success (with_reducible show wpAny _ _ (exec (Stmt.While _ _ _ _) _) _ _ _)); (fail_if_success (with_reducible show wpAny _ _ (binaryOp Operator.Add (Value.str _ _) (Value.str _ _)) _ _ _)); (fail_if_success (with_reducible show wpAny _ _ (subscriptTail _ _ (Value.str _ _) (Value.int _ _)) _ _ _)); (fail_if_success (with_reducible show wpAny _ _ (binaryOp Operator.Mult (Value.int _ _) (Value.int _ _)) _ _ _)); (fail_if_success (with_reducible show wpAny _ _ (binaryOp Operator.Pow (Value.int _ _) (Value.int _ _)) _ _ _)); (fail_if_success (with_reducible show wpAny _ _ (call (Value.ref _) _) _ _ _)); (fail_if_success (with_reducible show wpAny _ _ (eval (Expr.ListComp _ _ _ _) _) _ _ _)); (fail_if_success (with_reducible show wpAny _ _ (getMethod (Value.ref _) _ _) _ _ _)); (fail_if_success (with_reducible show wpAny _ _ (subscriptTail _ _ (Value.ref _) _) _ _ _)); (fail_if_success (with_reducible show wpAny _ _ (exec (Stmt.For _ _ _ _ _) _) _ _ _)); first | walk1 | (dsimp only; walk1))))
local macro_rules | `(tactic| walk_at "go3") => `(tactic| repeat' (first | (k_closed; walk1) | ((fail_if_success (with_reducible show (ite _ _ _ : Prop))); (fail_if_success (with_reducible show wpAny _ _ (exec (Stmt.While _ _ _ _) _) _ _ _)); (fail_if_success (with_reducible show wpAny _ _ (binaryOp Operator.Add (Value.str _ _) (Value.str _ _)) _ _ _)); (fail_if_success (with_reducible show wpAny _ _ (subscriptTail _ _ (Value.str _ _) (Value.int _ _)) _ _ _)); (fail_if_success (with_reducible show wpAny _ _ (binaryOp Operator.Mult (Value.int _ _) (Value.int _ _)) _ _ _)); (fail_if_success (with_reducible show wpAny _ _ (binaryOp Operator.Pow (Value.int _ _) (Value.int _ _)) _ _ _)); (fail_if_success (with_reducible show wpAny _ _ (call (Value.ref _) _) _ _ _)); (fail_if_success (with_reducible show wpAny _ _ (eval (Expr.ListComp _ _ _ _) _) _ _ _)); (fail_if_success (with_reducible show wpAny _ _ (eval (Expr.Dict _ _ _) _) _ _ _)); (fail_if_success (with_reducible show wpAny _ _ (eval (Expr.DictComp _ _ _ _ _) _) _ _ _)); (fail_if_success (with_reducible show wpAny _ _ (getMethod (Value.ref _) _ _) _ _ _)); (fail_if_success (with_reducible show wpAny _ _ (subscriptTail _ _ (Value.ref _) _) _ _ _)); (fail_if_success (with_reducible show wpAny _ _ (exec (Stmt.For _ _ _ _ _) _) _ _ _)); first | walk1 | (dsimp only; walk1))))
local macro_rules | `(tactic| walk_at "eval Name") => `(tactic| ((with_reducible show wpAny _ _ (eval (Expr.Name _ _) (compEnvC _ _ _ _)) _ _ _); k_dflt (first
  | (refine' ce_local ?F ?v ?_ ?a ?b; (case a => rfl); (case b => rfl); (case F => k_asm); (case v => rfl); k_whole)
  | (refine' ce_cell ?F ?c ?o ?d ?_ ?a ?b; (case a => rfl); (case b => rfl); (case F => k_asm); (case c => rfl); (case o => k_asm); (case d => k_asm); k_whole)
  | (refine' ce_B ?F ?X ?T ?g ?u ?e ?v ?n ?_ ?a ?b; (case a => rfl); (case b => rfl); (case F => k_asm); (case X => k_asm); (case T => k_asm); (case g => rfl); (case u => rfl); (case e => k_is); (case v => boot_fast); (case n => decide); k_whole))))
section
open PySem PySem.W PyProof.Rows PySem.Calls
set_option maxRecDepth 100000
def stepA (d : Nat) (st : Int × Int) (c : Nat) : Int × Int := if c = d then (st.1 + 1, st.2) else (st.1, st.2 + st.1)
/-- how often the sign d stands ahead of another -/
def aheadF (l : List Nat) (d : Nat) : Int := (l.foldl (stepA d) (0, 0)).2
def stepP (st : Int × Int) (c : Nat) : Int × Int := if c = 34 then (st.1 + 1 + 1, st.2 + (st.1 + 1)) else (st.1 + 1, st.2)
def placesF (l : List Nat) : Int := (l.foldl stepP (0, 0)).2
theorem foldl_take {α β : Type} (f : β → α → β) (z : β) {l : List α} {i : Nat} {c : α} (h : l[i]? = some c) : (l.take (i + 1)).foldl f z = f ((l.take i).foldl f z) c := by
  rw [List.take_add_one, h]; simp
def JA (l : List Nat) (d : Nat) (i : Nat) (m : Str → Option Value) : Prop :=
  ∃ t1 t2 t3 : Tok, m (Str.ofString "ahead") = some (.int ((l.take i).foldl (stepA d) (0, 0)).1 t1) ∧ m (Str.ofString "pairs") = some (.int ((l.take i).foldl (stepA d) (0, 0)).2 t2) ∧ m (Str.ofString "leader") = some (.str (S [d]) t3)
set_option maxHeartbeats 8000000 in
theorem c_ahead {w : World} {A : Around} {s : Shared} {Q E : Value → Shared → Prop} {l : List Nat} {d : Nat} {t t' : Tok} (C : Cx w s.heap) (R' : Rm A 10 500)
    (h : ∀ h' tk t', (∀ b o, s.heap.get? b = some o → h'.get? b = some o) → Q (.int (aheadF l d) t') { s with heap := h', toks := tk }) :
    wpAny (model prg w) A (call (.ref 126) [.str (S l) t, .str (S [d]) t']) Q E s := by
  refine enter (binds := [(Str.ofString "text", .str (S l) t), (Str.ofString "leader", .str (S [d]) t')]) C (by with_unfolding_all rfl) (by with_unfolding_all rfl) (Nat.lt_of_le_of_lt (Nat.le_add_right _ _) R'.d) (BindsTo.of_eq rfl) (locs rfl) ?_ (Nat.succ_ne_zero _) rfl rfl rfl (by decide)
  intro L h₁ tk htk F N
  obtain ⟨mg, mb, T⟩ := C.t
  have X : (Mine.hd.heap_39 w.params).In s.heap := C.k
  walk_at "go"
  refine For_invV s.heap rfl rfl ?_
  walk_at "go"
  rename Fr _ _ _ _ => F
  refine iter_str (JA l d) R'.h F ⟨_, _, _, rfl, rfl, rfl⟩ ?_ ?_
  · rintro i c tc m₁ h tk own hc ⟨t1, t2, t3, m1, m2, m3⟩ F₁ N₁
    rw [← wL_eq (ps := [(Str.ofString "ahead", .int ((l.take i).foldl (stepA d) (0, 0)).1 t1), (Str.ofString "pairs", .int ((l.take i).foldl (stepA d) (0, 0)).2 t2), (Str.ofString "leader", .str (S [d]) t3)]) (m := m₁)
      (by intro p hp; simp only [List.mem_cons, List.not_mem_nil, or_false] at hp; rcases hp with rfl | rfl | rfl <;> assumption)] at F₁
    walk_at "go"
    by_cases hcd : c = d
    · refine ite_pos (by rw [hcd, S_beq]; simp) ?_
      walk_at "go"
      rename Fr _ _ _ _ => F'
      rename News _ _ _ _ => N'
      exact ⟨_, _, _, rfl, F', N', _, _, _, by rw [foldl_take _ _ hc, stepA, if_pos hcd]; rfl, by rw [foldl_take _ _ hc, stepA, if_pos hcd]; rfl, rfl⟩
    · refine ite_neg (by rw [S_beq]; simp [hcd]) ?_
      walk_at "go"
      rename Fr _ _ _ _ => F'
      rename News _ _ _ _ => N'
      exact ⟨_, _, _, rfl, F', N', _, _, _, by rw [foldl_take _ _ hc, stepA, if_neg hcd]; rfl, by rw [foldl_take _ _ hc, stepA, if_neg hcd]; rfl, rfl⟩
  · rintro m₁ h2 tk2 ⟨t1, t2, t3, m1, m2, m3⟩ F₁
    rw [← wL_eq (ps := [(Str.ofString "pairs", .int ((l.take l.length).foldl (stepA d) (0, 0)).2 t2)]) (m := m₁) (by intro p hp; simp only [List.mem_cons, List.not_mem_nil, or_false] at hp; subst hp; assumption), List.take_length] at F₁
    show wpAny _ _ (execs _ _) _ _ _
    walk_at "go"
    exact h _ _ _ F₁.keep
def JPl (l : List Nat) (i : Nat) (m : Str → Option Value) : Prop :=
  ∃ t1 t2 : Tok, m (Str.ofString "ahead") = some (.int ((l.take i).foldl stepP (0, 0)).1 t1) ∧ m (Str.ofString "places") = some (.int ((l.take i).foldl stepP (0, 0)).2 t2)
set_option maxHeartbeats 8000000 in
theorem c_places {w : World} {A : Around} {s : Shared} {Q E : Value → Shared → Prop} {l : List Nat} {t : Tok} (C : Cx w s.heap) (R' : Rm A 10 500)
    (h : ∀ h' tk t', (∀ b o, s.heap.get? b = some o → h'.get? b = some o) → Q (.int (placesF l) t') { s with heap := h', toks := tk }) :
    wpAny (model prg w) A (call (.ref 114) [.str (S l) t]) Q E s := by
  refine enter (binds := [(Str.ofString "name", .str (S l) t)]) C (by with_unfolding_all rfl) (by with_unfolding_all rfl) (Nat.lt_of_le_of_lt (Nat.le_add_right _ _) R'.d) (BindsTo.of_eq rfl) (locs rfl) ?_ (Nat.succ_ne_zero _) rfl rfl rfl (by decide)
  intro L h₁ tk htk F N
  obtain ⟨mg, mb, T⟩ := C.t
  have X : (Mine.hd.heap_39 w.params).In s.heap := C.k
  walk_at "go"
  refine For_invV s.heap rfl rfl ?_
  walk_at "go"
  rename Fr _ _ _ _ => F
  refine iter_str (JPl l) R'.h F ⟨_, _, rfl, rfl⟩ ?_ ?_
  · rintro i c tc m₁ h tk own hc ⟨t1, t2, m1, m2⟩ F₁ N₁
    rw [← wL_eq (ps := [(Str.ofString "ahead", .int ((l.take i).foldl stepP (0, 0)).1 t1), (Str.ofString "places", .int ((l.take i).foldl stepP (0, 0)).2 t2)]) (m := m₁)
      (by intro p hp; simp only [List.mem_cons, List.not_mem_nil, or_false] at hp; rcases hp with rfl | rfl <;> assumption)] at F₁
    walk_at "go"
    by_cases hcd : c = 34
    · refine ite_pos (by rw [hcd, S34, S_beq]; simp) ?_
      walk_at "go"
      rename Fr _ _ _ _ => F'
      rename News _ _ _ _ => N'
      exact ⟨_, _, _, rfl, F', N', _, _, by rw [foldl_take _ _ hc, stepP, if_pos hcd]; rfl, by rw [foldl_take _ _ hc, stepP, if_pos hcd]; rfl⟩
    · refine ite_neg (by rw [S34, S_beq]; simp [hcd]) ?_
      walk_at "go"
      rename Fr _ _ _ _ => F'
      rename News _ _ _ _ => N'
      exact ⟨_, _, _, rfl, F', N', _, _, by rw [foldl_take _ _ hc, stepP, if_neg hcd]; rfl, by rw [foldl_take _ _ hc, stepP, if_neg hcd]; rfl⟩
  · rintro m₁ h2 tk2 ⟨t1, t2, m1, m2⟩ F₁
    rw [← wL_eq (ps := [(Str.ofString "places", .int ((l.take l.length).foldl stepP (0, 0)).2 t2)]) (m := m₁) (by intro p hp; simp only [List.mem_cons, List.not_mem_nil, or_false] at hp; subst hp; assumption), List.take_length] at F₁
    show wpAny _ _ (execs _ _) _ _ _
    walk_at "go"
    exact h _ _ _ F₁.keep
end
section
open PySem PySem.W PyProof.Rows PySem.Calls
set_option maxRecDepth 100000
local macro_rules | `(tactic| walk_at "go") => `(tactic| repeat' (first | (k_closed; walk1) | ((fail_if_success (with_reducible show (ite _ _ _ : Prop))); (fail_if_success (with_reducible show wpAny _ _ (exec (Stmt.While _ _ _ _) _) _ _ _)); (fail_if_success (with_reducible show wpAny _ _ (binaryOp Operator.Add (Value.str _ _) (Value.str _ _)) _ _ _)); (fail_if_success (with_reducible show wpAny _ _ (subscriptTail _ _ (Value.str _ _) (Value.int _ _)) _ _ _)); (fail_if_success (with_reducible show wpAny _ _ (binaryOp Operator.Mult (Value.int _ _) (Value.int _ _)) _ _ _)); (fail_if_success (with_reducible show wpAny _ _ (binaryOp Operator.Pow (Value.int _ _) (Value.int _ _)) _ _ _)); (fail_if_success (with_reducible show wpAny _ _ (exec (Stmt.For _ _ _ _ _) _) _ _ _)); first | walk1 | (dsimp only; walk1))))
local macro_rules | `(tactic| walk_at "eval Name") => `(tactic| ((with_reducible show wpAny _ _ (eval (Expr.Name _ _) (compEnvC _ _ _ _)) _ _ _); k_dflt (first
  | (refine' ce_local ?F ?v ?_ ?a ?b; (case a => rfl); (case b => rfl); (case F => k_asm); (case v => rfl); k_whole)
  | (refine' ce_cell ?F ?c ?o ?d ?_ ?a ?b; (case a => rfl); (case b => rfl); (case F => k_asm); (case c => rfl); (case o => k_asm); (case d => k_asm); k_whole)
  | (refine' ce_B ?F ?X ?T ?g ?u ?e ?v ?n ?_ ?a ?b; (case a => rfl); (case b => rfl); (case F => k_asm); (case X => k_asm); (case T => k_asm); (case g => rfl); (case u => rfl); (case e => k_is); (case v => boot_fast); (case n => decide); k_whole))))
def stepW (st : Int × Int) : Int × Int := (st.2, st.2 + st.1)
def itW : Nat → Int × Int
  | 0 => (1, 1)
  | i + 1 => stepW (itW i)
def writF (n : Nat) : Int := (itW (n - 1)).2
def JW (i : Nat) (m : Str → Option Value) : Prop :=
  ∃ t1 t2 : Tok, m (Str.ofString "before") = some (.int (itW i).1 t1) ∧ m (Str.ofString "now") = some (.int (itW i).2 t2)
set_option maxHeartbeats 8000000 in
theorem c_writings {w : World} {A : Around} {s : Shared} {Q E : Value → Shared → Prop} {n : Nat} {t : Tok} (C : Cx w s.heap) (R' : Rm A 10 500) (hn : 1 ≤ n ∧ n ≤ 100)
    (h : ∀ h' tk t', (∀ b o, s.heap.get? b = some o → h'.get? b = some o) → Q (.int (writF n) t') { s with heap := h', toks := tk }) :
    wpAny (model prg w) A (call (.ref 138) [.int (n : Int) t]) Q E s := by
  refine enter (binds := [(Str.ofString "size", .int (n : Int) t)]) C (by with_unfolding_all rfl) (by with_unfolding_all rfl) (Nat.lt_of_le_of_lt (Nat.le_add_right _ _) R'.d) (BindsTo.of_eq rfl) (locs rfl) ?_ (Nat.succ_ne_zero _) rfl rfl rfl (by decide)
  intro L h₁ tk htk F N
  obtain ⟨mg, mb, T⟩ := C.t
  have X : (Mine.hd.heap_39 w.params).In s.heap := C.k
  walk_at "go"
  refine For_invV s.heap rfl rfl ?_
  walk_at "go"
  rename Fr _ _ _ _ => F
  rename IsRange _ _ _ _ _ _ _ _ => hR
  refine iter_range (n := n - 1) JW R'.h hR (small_ok (by omega) (by omega)) (by rw [rangeSize_nat]; omega) F ⟨_, _, rfl, rfl⟩ ?_ ?_
  · rintro i tc m₁ h tk own hi ⟨t1, t2, m1, m2⟩ F₁ N₁
    rw [← wL_eq (ps := [(Str.ofString "before", .int (itW i).1 t1), (Str.ofString "now", .int (itW i).2 t2)]) (m := m₁)
      (by intro p hp; simp only [List.mem_cons, List.not_mem_nil, or_false] at hp; rcases hp with rfl | rfl <;> assumption)] at F₁
    walk_at "go"
    rename Fr _ _ _ _ => F'
    rename News _ _ _ _ => N'
    exact ⟨_, _, _, rfl, F', N', _, _, rfl, rfl⟩
  · rintro m₁ h2 tk2 ⟨t1, t2, m1, m2⟩ F₁
    rw [← wL_eq (ps := [(Str.ofString "now", .int (itW (n - 1)).2 t2)]) (m := m₁) (by intro p hp; simp only [List.mem_cons, List.not_mem_nil, or_false] at hp; subst hp; assumption)] at F₁
    show wpAny _ _ (execs _ _) _ _ _
    walk_at "go"
    exact h _ _ _ F₁.keep
def itT (b : Int) : Nat → Int × Int
  | 0 => (1, 2)
  | i + 1 => ((itT b i).2, 2 * (itT b i).2 + (b ^ (1 + i) - 1) * (itT b i).1)
def togF (b : Int) (n : Nat) : Int := (itT b (n - 1)).2
def JT (b : Int) (i : Nat) (m : Str → Option Value) : Prop :=
  ∃ t1 t2 t3 : Tok, m (Str.ofString "before") = some (.int (itT b i).1 t1) ∧ m (Str.ofString "now") = some (.int (itT b i).2 t2) ∧ m (Str.ofString "base") = some (.int b t3)
set_option maxHeartbeats 8000000 in
theorem c_together {w : World} {A : Around} {s : Shared} {Q E : Value → Shared → Prop} {n : Nat} {b : Int} {t t' : Tok} (C : Cx w s.heap) (R' : Rm A 10 500) (hn : 1 ≤ n ∧ n ≤ 5) (hb : b.natAbs ≤ 1000)
    (h : ∀ h' tk t', (∀ b o, s.heap.get? b = some o → h'.get? b = some o) → Q (.int (togF b n) t') { s with heap := h', toks := tk }) :
    wpAny (model prg w) A (call (.ref 150) [.int (n : Int) t, .int b t']) Q E s := by
  refine enter (binds := [(Str.ofString "size", .int (n : Int) t), (Str.ofString "base", .int b t')]) C (by with_unfolding_all rfl) (by with_unfolding_all rfl) (Nat.lt_of_le_of_lt (Nat.le_add_right _ _) R'.d) (BindsTo.of_eq rfl) (locs rfl) ?_ (Nat.succ_ne_zero _) rfl rfl rfl (by decide)
  intro L h₁ tk htk F N
  obtain ⟨mg, mb, T⟩ := C.t
  have X : (Mine.hd.heap_39 w.params).In s.heap := C.k
  walk_at "go"
  refine For_invV s.heap rfl rfl ?_
  walk_at "go"
  rename Fr _ _ _ _ => F
  rename IsRange _ _ _ _ _ _ _ _ => hR
  refine iter_range (n := n - 1) (JT b) R'.h hR (small_ok (by omega) (by omega)) (by rw [rangeSize_nat]; omega) F ⟨_, _, _, rfl, rfl, rfl⟩ ?_ ?_
  · rintro i tc m₁ h tk own hi ⟨t1, t2, t3, m1, m2, m3⟩ F₁ N₁
    rw [← wL_eq (ps := [(Str.ofString "before", .int (itT b i).1 t1), (Str.ofString "now", .int (itT b i).2 t2), (Str.ofString "base", .int b t3)]) (m := m₁)
      (by intro p hp; simp only [List.mem_cons, List.not_mem_nil, or_false] at hp; rcases hp with rfl | rfl | rfl <;> assumption)] at F₁
    walk_at "go"
    refine mulI (.inl (by decide)) ?_
    walk_at "go"
    refine powI (k := 1 + i) (by omega) (by omega) (by omega) ?_
    walk_at "go"
    have hp := pow_lt hb (k := 1 + i) (by omega)
    refine mulI (.inl (by omega)) ?_
    walk_at "go"
    rename Fr _ _ _ _ => F'
    rename News _ _ _ _ => N'
    exact ⟨_, _, _, rfl, F', N', _, _, _, rfl, rfl, rfl⟩
  · rintro m₁ h2 tk2 ⟨t1, t2, t3, m1, m2, m3⟩ F₁
    rw [← wL_eq (ps := [(Str.ofString "now", .int (itT b (n - 1)).2 t2)]) (m := m₁) (by intro p hp; simp only [List.mem_cons, List.not_mem_nil, or_false] at hp; subst hp; assumption)] at F₁
    show wpAny _ _ (execs _ _) _ _ _
    walk_at "go"
    exact h _ _ _ F₁.keep
end
section
open PySem PySem.W PyProof.Rows PySem.Calls
set_option maxRecDepth 100000
def textsL (c : Nat) : Nat → List (List Nat)
  | 0 => [[]]
  | i + 1 => (textsL c i).flatMap fun t => [t ++ [c], t ++ [34]]
theorem textsL_len (c : Nat) : ∀ i, ∀ t ∈ textsL c i, t.length = i
  | 0, t, h => by simp [textsL] at h; simp [h]
  | i + 1, t, h => by
    simp only [textsL, List.mem_flatMap] at h
    obtain ⟨u, hu, ht⟩ := h
    have := textsL_len c i u hu
    simp at ht
    rcases ht with rfl | rfl <;> simp [this]
theorem fl_len (c : Nat) (l : List (List Nat)) : (l.flatMap fun t => [t ++ [c], t ++ [34]]).length = 2 * l.length := by
  induction l with
  | nil => rfl
  | cons a r ih => simp only [List.flatMap_cons, List.length_append, ih, List.length_cons, List.length_nil]; omega
theorem textsL_size (c : Nat) : ∀ i, (textsL c i).length = 2 ^ i
  | 0 => rfl
  | i + 1 => by rw [textsL, fl_len, textsL_size c i, Nat.pow_succ]; omega
def JX (c : Nat) (g : Heap) (L I : Addr) (i : Nat) (m : Str → Option Value) (h : Heap) : Prop :=
  ∃ a vs, m (Str.ofString "texts") = some (.ref a) ∧ a ≠ L ∧ a ≠ I ∧ h.PlainList a vs.toArray ∧ StrsAre vs ((textsL c i).map S) ∧ g.get? a = none
set_option maxHeartbeats 8000000 in
theorem c_texts {w : World} {A : Around} {s : Shared} {Q E : Value → Shared → Prop} {c n : Nat} {t t' : Tok} (C : Cx w s.heap) (R' : Rm A 10 500) (hn : n ≤ 5)
    (h : ∀ h' tk a vs, (∀ b o, s.heap.get? b = some o → h'.get? b = some o) → s.heap.get? a = none → h'.PlainList a vs.toArray → StrsAre vs ((textsL c n).map S) → Q (.ref a) { s with heap := h', toks := tk }) :
    wpAny (model prg w) A (call (.ref 100) [.str (S [c]) t, .int (n : Int) t']) Q E s := by
  refine enterC (binds := [(Str.ofString "letter", .str (S [c]) t), (Str.ofString "size", .int (n : Int) t')]) C (by with_unfolding_all rfl) (by with_unfolding_all rfl) (Nat.lt_of_le_of_lt (Nat.le_add_right _ _) R'.d) (BindsTo.of_eq rfl) rfl (by decide +kernel) ?_ rfl rfl rfl
  intro L h₁ tk cells hL F N Y
  obtain ⟨oc, rfl, dc⟩ := CellsAre.one Y
  obtain ⟨mg, mb, T⟩ := C.t
  have X : (Mine.hd.heap_39 w.params).In s.heap := C.k
  have dc : oc.data = .cell (some (.str (S [c]) t)) := dc
  walk_at "go"
  refine For_invV s.heap rfl rfl ?_
  walk_at "go"
  rename Fr _ _ _ _ => F
  rename News _ _ _ _ => N
  rename IsRange _ _ _ _ _ _ _ _ => hR
  have hcell := (N _ (List.Mem.tail _ (List.Mem.head _))).1
  refine iter_rangeH (n := n) (JX c s.heap L) R'.h hR (small_ok (by omega) (by omega)) (by rw [rangeSize_nat]; omega) F ?_ ?_ ?_ ?_
  · rintro i m h h' ⟨a, vs, h1, h2, h3, h4, h5, h6⟩ k
    exact ⟨a, vs, h1, h2, h3, h4.at fun o e => k a o h2 h3 e, h5, h6⟩
  · have hm := N _ (List.Mem.head _)
    exact ⟨_, [.str (S []) _], rfl, hm.2.1, Nat.ne_of_lt (Heap.lt_size hm.1), ⟨_, hm.1⟩, .cons _ _ .nil, hm.2.2⟩
  · rintro i tc m₁ h tk own hi ⟨a, vs, h1, h2, h3, h4, h5, h6⟩ hl hk F₁ N₁ ho
    rw [← wL_eq (ps := [(Str.ofString "texts", .ref a)]) (m := m₁) (by intro p hp; simp only [List.mem_cons, List.not_mem_nil, or_false] at hp; subst hp; assumption)] at F₁
    refine wpAny_execs_cons ?_
    refine assign_comp2 (by with_unfolding_all rfl) (by with_unfolding_all rfl) rfl (by decide) ?_
    walk_at "go"
    have ha : a < h.objs.size := by obtain ⟨_, e⟩ := h4; exact Heap.lt_size e
    have hLlt : L < h.objs.size := F₁.ns.lt
    have hvs := strs_len h5
    rw [List.length_map] at hvs
    have hcel : h.get? (L + 1) = some oc := hk _ _ (Nat.ne_of_gt (Nat.lt_succ_self L)) hcell
    have hcb : (hbOf { s with heap := h.push { cls := .type "list_iterator", data := .fields #[.ref a, .int 0 0] }, toks := tk } [h.objs.size]).get? (L + 1) = some oc :=
      hideAll_get _ (Heap.get?_push_of_some _ hcel) (by intro q; have := Heap.lt_size hcel; rw [List.mem_singleton.mp q] at this; exact Nat.lt_irrefl _ this)
    refine wpAny_pyIter_list h4.isList ?_
    refine comp2At (RR := fun acc C => compPost (model prg w) _ _ _ _ acc C) (Walks.list (R'.dh _) h.objs.size a (Nat.ne_of_lt ha) vs.toArray)
      (fun D C j ys m h => StrsAre ys ((((textsL c i).take j).flatMap fun t => [t ++ [c], t ++ [34]]).map S)) (by decide) rfl rfl
      (And.intro ⟨_, Heap.get?_push_size _ rfl, rfl, rfl⟩ (h4.isList.at fun o e => Heap.get?_push_of_some _ e)) ?_ ?_ ?_ ?_ ?_ ?_
    · intro b hb
      rw [Heap.size_push]
      rcases List.mem_cons.mp hb with q | q
      · rw [q]; exact Nat.lt_succ_self _
      · rw [List.mem_singleton.mp q]; exact Nat.lt_succ_of_lt ha
    · intro D C h' _ _ _; exact .nil
    · intro D C j ys m h h' q _; exact q
    · intro C x; rfl
    · intro D C j v ys m h' tk' own' hD hDC hj hv hys F' N' ho' hpl
      obtain ⟨x, tv, hx, rfl⟩ := strs_get h5 (by simpa using hv)
      rw [List.getElem?_map] at hx
      obtain ⟨txt, htxt, rfl⟩ := Option.map_eq_some_iff.mp hx
      have htl := textsL_len c i txt (List.mem_of_getElem? htxt)
      have kp0 := ho'.kp F'
      have hDC1 : D ≠ C := Nat.ne_of_lt hDC
      have hbD : (hbOf _ [h.objs.size]).get? D = none := fresh_of (by rw [hideAll_size]; exact hD)
      walk_at "go"
      rename Fr _ _ _ _ => FT
      rename News _ _ _ _ => NT
      have kp := kp0 _ _ _ FT NT (fun p hp => List.mem_cons_of_mem _ hp)
      have htp := NT _ (List.Mem.head _)
      have hDlt : D < C := hDC
      refine wpAny_pyIter_tuple (items := #[.str (S [c]) t, .str (S [34]) tk']) ⟨_, htp.1, rfl, _, rfl⟩ ?_
      obtain ⟨nD, hplD⟩ := id hpl
      have hDlive := kp D _ (Nat.ne_of_lt hDC) hplD
      refine ⟨_, _, _, _, _, _, rfl, Walks.tuple (R'.dh _) _ _ (Nat.ne_of_lt (Heap.lt_size htp.1)) #[.str (S [c]) t, .str (S [34]) tk'], And.intro ⟨_, Heap.get?_push_size _ rfl, rfl, rfl⟩ ⟨_, Heap.get?_push_of_some _ htp.1, rfl, _, rfl⟩, ?_⟩
      refine innerAt (x := Str.ofString "sign") (ys₀ := ys) (Walks.tuple (R'.dh _) _ _ (Nat.ne_of_lt (Heap.lt_size htp.1)) #[.str (S [c]) t, .str (S [34]) tk']) (Fr.push FT _) ?_ ?_ rfl rfl (Nat.ne_of_lt hDC) ?_ ?_
        (fun k ys m h => StrsAre ys (((((textsL c i).take j).flatMap fun t => [t ++ [c], t ++ [34]]) ++ [txt ++ [c], txt ++ [34]].take k).map S) ∧ m (Str.ofString "text") = some (.str (S txt) tv)) ?_ ?_
        (And.intro ⟨_, Heap.get?_push_size _ rfl, rfl, rfl⟩ ⟨_, Heap.get?_push_of_some _ htp.1, rfl, _, rfl⟩) ?_ ?_ ?_ ?_
      · exact hbD
      · intro b hb
        rw [List.mem_singleton.mp hb]
        exact next_is_new FT
      · intro hm
        rcases List.mem_cons.mp hm with q | q
        · exact absurd (Heap.lt_size hDlive) (q ▸ Nat.lt_irrefl _)
        · have e := hDlive
          rw [List.mem_singleton.mp q, htp.1] at e
          simp at e
      · intro hm
        rcases List.mem_cons.mp hm with q | q
        · exact absurd FT.ns.lt (q ▸ Nat.lt_irrefl _)
        · exact htp.2.1 (List.mem_singleton.mp q).symm
      · rintro k ys m h h' q _; exact q
      · rintro k ys m h ⟨q, _⟩
        have e1 := strs_len q
        rw [List.length_map] at e1
        have e2 := textsL_size c i
        have e3 : (2 : Nat) ^ i ≤ 2 ^ 5 := Nat.pow_le_pow_right (by decide) (by omega)
        have e4 : ((textsL c i).take j).length ≤ (textsL c i).length := by rw [List.length_take]; exact Nat.min_le_right _ _
        have e6 : ([txt ++ [c], txt ++ [34]].take k).length ≤ 2 := by rw [List.length_take]; exact Nat.min_le_right _ _
        rw [List.length_append, fl_len] at e1
        have e7 : (2 : Nat) ^ 5 = 32 := by decide
        omega
      · exact ⟨_, Heap.get?_push_of_some _ hDlive⟩
      · exact ⟨by simpa using hys, rfl⟩
      · rintro k v ys m h3 tk3 own3 hk3 hv3 ⟨hys3, hm3⟩ F3 N3 ho3 hpl3 hkeep3
        have kp3 := ho3.kp F3
        rw [← wL_eq (ps := [(Str.ofString "text", .str (S txt) tv)]) (m := m) (by intro p hp; simp only [List.mem_cons, List.not_mem_nil, or_false] at hp; subst hp; assumption)] at F3
        have hcase : (k = 0 ∧ v = .str (S [c]) t) ∨ (k = 1 ∧ v = .str (S [34]) tk') := by
          match k, hk3, hv3 with
          | 0, _, e => exact .inl ⟨rfl, by simpa using e.symm⟩
          | 1, _, e => exact .inr ⟨rfl, by simpa using e.symm⟩
          | k + 2, hlt, _ => exact absurd hlt (by simp)
        rcases hcase with ⟨rfl, rfl⟩ | ⟨rfl, rfl⟩
        · walk_at "go"
          refine addS (by simp only [List.length_cons, List.length_nil]; omega) fun t5 tk5 => ?_
          rename Fr _ _ _ _ => F4
          rename News _ _ _ _ => N4
          refine ⟨_, _, _, rfl, F4.ns, kp3 _ _ _ F4 N4 (fun p hp => hp), ?_, rfl⟩
          have := strs_snoc (x := S (txt ++ [c])) (t := t5) hys3
          simpa using this
        · walk_at "go"
          refine addS (by simp only [List.length_cons, List.length_nil]; omega) fun t5 tk5 => ?_
          rename Fr _ _ _ _ => F4
          rename News _ _ _ _ => N4
          refine ⟨_, _, _, rfl, F4.ns, kp3 _ _ _ F4 N4 (fun p hp => hp), ?_, rfl⟩
          have := strs_snoc (x := S (txt ++ [34])) (t := t5) hys3
          simpa using this
      · rintro h3 tk3 m3 ys3 hn3 hpl3 ⟨hys3, _⟩ hkeep3
        refine ⟨rfl, h3, tk3, m3, ys3, rfl, hn3, hpl3, ?_, ?_⟩
        · intro b o hbC hbD' e
          have e2 := kp b o hbC e
          exact hkeep3 b o hbC (fun q => Nat.lt_irrefl _ (List.mem_singleton.mp q ▸ Heap.lt_size e2)) hbD' (Heap.get?_push_of_some _ e2)
        · have e8 : (textsL c i).take (j + 1) = (textsL c i).take j ++ [txt] := by rw [List.take_add_one, htxt]; rfl
          rw [e8]
          simpa using hys3
    · intro D C h' tk' m' ys hD hDC hn hpl hys hkk
      have kk : ∀ b o, h.get? b = some o → h'.get? b = some o := fun b o e => hkk b o (fun q => Nat.lt_irrefl _ (List.mem_singleton.mp q ▸ Heap.lt_size e)) (Heap.get?_push_of_some _ e)
      have hD1 : h.objs.size < D := by have := hD; rw [Heap.size_push] at this; exact this
      have FF := Fr.up F₁ kk
      have NN := News.up N₁ kk
      show wpAny _ _ (assign _ _ _) _ _ _
      refine wpAny_assign_Name (wpAny_storeName_local rfl FF.ns (fun h₂ hn₂ hs₂ => ?_) rfl)
      have F2 := FF.set hn₂ hs₂
      have N2 := NN.set hs₂
      have hDL : D ≠ L := Nat.ne_of_gt (Nat.lt_trans hLlt hD1)
      have hCL : C ≠ L := Nat.ne_of_gt (Nat.lt_trans hLlt (Nat.lt_trans hD1 hDC))
      refine ⟨m', hn.sameBut hs₂ hCL, fun h₃ hs₃ => ?_⟩
      show wpAny _ _ (execs [] _) _ _ _
      refine wpAny_execs_nil ?_
      have hCh : h.objs.size < C := Nat.lt_trans hD1 hDC
      have neC : ∀ b o, h.get? b = some o → b ≠ C := fun b o e q => Nat.lt_irrefl _ (Nat.lt_trans hCh (q ▸ Heap.lt_size e))
      have F3 : Fr s.heap L h₃ _ := ⟨F2.ns.sameBut hs₃ (Ne.symm hCL), fun b o e => (hs₃.2 b (neC b o (F₁.keep b o e))).trans (F2.keep b o e), F2.above⟩
      have hplD : h₃.PlainList D ys.toArray := (hpl.extBut hs₂.extBut hDL).extBut hs₃.extBut (Nat.ne_of_lt hDC)
      have hsD : s.heap.get? D = none := by
        cases e : s.heap.get? D with
        | none => rfl
        | some o => exact absurd (Heap.lt_size (F₁.keep D o e)) (Nat.not_lt.mpr (Nat.le_of_lt hD1))
      refine ⟨h₃, _, _, own, rfl, F3, ?_, fun p hp => hp, D, ys, rfl, hDL, ?_, hplD, ?_, hsD⟩
      · intro p hp
        exact ⟨(hs₃.2 p.1 (neC _ _ (N₁ p hp).1)).trans (N2 p hp).1, (N2 p hp).2⟩
      · intro q
        obtain ⟨o, e⟩ := hl
        exact Nat.lt_irrefl _ (Nat.lt_trans hD1 (q ▸ Heap.lt_size e))
      · have e9 : vs.toArray.size = (textsL c i).length := by rw [List.size_toArray, hvs]
        rw [e9, List.take_length] at hys
        exact hys
  · rintro m₁ h2 tk2 ⟨a, vs, h1, h2', h3, h4, h5, h6⟩ F₁ hk
    rw [← wL_eq (ps := [(Str.ofString "texts", .ref a)]) (m := m₁) (by intro p hp; simp only [List.mem_cons, List.not_mem_nil, or_false] at hp; subst hp; assumption)] at F₁
    show wpAny _ _ (execs _ _) _ _ _
    walk_at "go"
    exact h _ _ a vs F₁.keep h6 h4 h5
end
section
open PySem PySem.W PyProof.Rows PySem.Calls
set_option maxRecDepth 100000
structure OrdAt (w : World) (h : Heap) (x : Addr) (way : Int) (dx lst t0 t1 t2 : Addr) (hs : Int) (kt kn : Nat) : Prop where
  inst : h.get? x = some (instObj 70 dx)
  dict : h.get? dx = some (dictOf [⟨hs, .str (Str.ofString "comp_select_list") kt, .ref lst⟩] kn)
  list : h.IsList lst ([t0, t1, t2].map Value.ref).toArray
  p0 : ∃ u v, h.IsTuple t0 #[.int 0 u, .int 1 v]
  p1 : ∃ u v, h.IsTuple t1 #[.int 2 u, .int way v]
  p2 : ∃ u v, h.IsTuple t2 #[.int 1 u, .int (-1) v]
theorem slt_self (l : List Nat) : ¬ decide ((S l).cps.toList < (S l).cps.toList) = true := by
  rw [S_toList]
  induction l with
  | nil => rw [StrLaws.lt_nil_nil]; decide
  | cons a r ih => rw [StrLaws.lt_cons_cons]; simp only [Nat.lt_irrefl, decide_false, Bool.false_or, beq_self_eq_true, Bool.true_and]; exact ih
theorem slt_one (c d : Nat) : (decide ((S [c]).cps.toList < (S [d]).cps.toList) = true) = (c < d) := by
  rw [S_toList, S_toList, StrLaws.lt_cons_cons, StrLaws.lt_nil_nil]; simp
def cmpF (way : Int) (c d : Nat) : Int := if c < d then -way else if d < c then way else 1
set_option maxHeartbeats 8000000 in
theorem c_compare {w : World} {A : Around} {s : Shared} {Q E : Value → Shared → Prop} {x a b dx lst t0 t1 t2 : Addr} {way hs : Int} {kt kn : Nat} {l : List Nat} {i j c d : Nat} {u1 u2 u3 u4 u5 u6 : Tok} (C : Cx w s.heap) (R' : Rm A 10 500)
    (O : OrdAt w s.heap x way dx lst t0 t1 t2 hs kt kn) (ha : s.heap.IsTuple a #[.str (S l) u1, .int (i : Int) u2, .str (S [c]) u3]) (hb : s.heap.IsTuple b #[.str (S l) u4, .int (j : Int) u5, .str (S [d]) u6]) (hij : i < j)
    (h : ∀ h' tk t', (∀ b o, s.heap.get? b = some o → h'.get? b = some o) → Q (.int (cmpF way c d) t') { s with heap := h', toks := tk }) :
    wpAny (model prg w) A (call (.ref 67) [.ref x, .ref a, .ref b]) Q E s := by
  refine enter (binds := [(Str.ofString "self", .ref x), (Str.ofString "left", .ref a), (Str.ofString "right", .ref b)]) C (by with_unfolding_all rfl) (by with_unfolding_all rfl) (Nat.lt_of_le_of_lt (Nat.le_add_right _ _) R'.d) (BindsTo.of_eq rfl) (locs rfl) ?_ (Nat.succ_ne_zero _) rfl rfl rfl (by decide)
  intro L h₁ tk htk F N
  obtain ⟨mg, mb, T⟩ := C.t
  have X : (Mine.hd.heap_39 w.params).In s.heap := C.k
  obtain ⟨v00, v01, p0⟩ := O.p0
  obtain ⟨v10, v11, p1⟩ := O.p1
  obtain ⟨v20, v21, p2⟩ := O.p2
  walk_at "go"
  refine forPairs (h₀ := s.heap) (l := lst) (ts := [t0, t1, t2]) (vals := [(.int 0 v00, .int 1 v01), (.int 2 v10, .int way v11), (.int 1 v20, .int (-1) v21)])
    (fun k m => m (Str.ofString "left") = some (.ref a) ∧ m (Str.ofString "right") = some (.ref b) ∧ k ≤ 2 ∧ (k = 2 → c = d)) (R'.dh _) rfl rfl rfl O.list rfl ?_ ?_ ?_ ?_
  · intro k t v h1 h2
    match k, h1, h2 with
    | 0, h1, h2 => cases h1; cases h2; exact p0
    | 1, h1, h2 => cases h1; cases h2; exact p1
    | 2, h1, h2 => cases h1; cases h2; exact p2
  · walk_at "go"
    rename Fr _ _ _ _ => F
    refine get_own F X ⟨F.keep _ _ O.inst, rfl, rfl, F.keep _ _ O.dict⟩ (by k_is) (by k_is) (by k_is) (by k_is) (by k_get) (by k_handed) ?_
    exact ⟨rfl, _, _, _, rfl, F, rfl, rfl, by decide, fun e => absurd e (by decide)⟩
  · rintro k v m₁ hp tk own hv ⟨m1, m2, hk2, hcd⟩ F₁ N₁
    rw [← wL_eq (ps := [(Str.ofString "left", .ref a), (Str.ofString "right", .ref b)]) (m := m₁)
      (by intro p hp; simp only [List.mem_cons, List.not_mem_nil, or_false] at hp; rcases hp with rfl | rfl <;> assumption)] at F₁
    match k, hv with
    | 0, hv =>
      cases hv
      walk_at "go"
      refine ite_neg (slt_self l) ?_
      walk_at "go"
      refine ite_neg (slt_self l) ?_
      walk_at "go"
      rename Fr _ _ _ _ => F2
      rename News _ _ _ _ => N2
      exact ⟨_, _, _, rfl, F2, N2, rfl, rfl, by decide, fun e => absurd e (by decide)⟩
    | 1, hv =>
      cases hv
      walk_at "go"
      by_cases h1 : c < d
      · refine ite_pos (by rw [slt_one]; exact h1) ?_
        walk_at "go"
        rename Fr _ _ _ _ => F2
        have e : -way = cmpF way c d := by rw [cmpF, if_pos h1]
        show Q (.int (-way) _) _
        rw [e]
        exact h _ _ _ F2.keep
      · refine ite_neg (by rw [slt_one]; exact h1) ?_
        walk_at "go"
        by_cases h2 : d < c
        · refine ite_pos (by rw [slt_one]; exact h2) ?_
          walk_at "go"
          rename Fr _ _ _ _ => F2
          have e : way = cmpF way c d := by rw [cmpF, if_neg h1, if_pos h2]
          show Q (.int way _) _
          rw [e]
          exact h _ _ _ F2.keep
        · refine ite_neg (by rw [slt_one]; exact h2) ?_
          walk_at "go"
          rename Fr _ _ _ _ => F2
          rename News _ _ _ _ => N2
          exact ⟨_, _, _, rfl, F2, N2, rfl, rfl, by decide, fun _ => by omega⟩
    | 2, hv =>
      cases hv
      walk_at "go"
      refine ite_pos (decide_eq_true (by omega)) ?_
      walk_at "go"
      rename Fr _ _ _ _ => F2
      have e : (1 : Int) = cmpF way c d := by
        have := hcd rfl
        rw [cmpF, if_neg (by omega), if_neg (by omega)]
      show Q (.int (- -1) _) _
      rw [show (- -1 : Int) = 1 from rfl, e]
      exact h _ _ _ F2.keep
  · rintro m₁ h2 tk2 ⟨m1, m2, hk2, hcd⟩ F₁
    exact absurd hk2 (by simp)
end
section
open PySem PySem.W PyProof.Rows PySem.Calls
set_option maxRecDepth 100000
theorem enterM {w : World} {A : Around} {s : Shared} {f : Addr} {args : List Value} {R : Result → Shared → Prop} {name qual : Str} {params : Arguments} {body : List Stmt} {scope : Scope}
    {dV kV doc pm cdv ct oc : Value} {an od : Option Addr} {osl : Array (Option Value)} {binds : List (Str × Value)} (as : List (Addr × Obj)) (hget : ∀ p ∈ as, s.heap.get? p.1 = some p.2)
    (C : Cx w (hideAll s.heap (as.map (·.1)))) (ho : (K w).lookup f = some ⟨oc, od, .func (fnOf name qual params body scope dV kV doc pm an cdv ct), osl⟩) (hcd : codeIn (K w) cdv qual = true) (hroom : A.depth < recursionLimit)
    (hbind : BindsTo s (fnOf name qual params body scope dV kV doc pm an cdv ct) ⟨args, []⟩ binds) (hloc : ∀ y ∈ binds, scope.names.lookup y.1 = some .local)
    (h : ∀ L h₁ tk, s.heap.objs.size ≤ L → Fr (hideAll s.heap (as.map (·.1))) L h₁ (fun y => binds.reverse.lookup y) → News (hideAll s.heap (as.map (·.1))) L h₁ as →
      wpAny (model prg w) (A.deeper (envOf qual scope L f cdv)) (execs body (envOf qual scope L f cdv))
        (fun fl s' => R (.ok (.ret (match fl with | .ret v => v | _ => .none))) s') (fun _ _ => False) { s with heap := h₁, toks := tk })
    (hco : scope.isCoroutine = false) (hgen : scope.isGenerator = false) (hk : scope.kind = .function) (hcell : ∀ x ∈ scope.names, x.2 ≠ .cell) :
    codeAny (model prg w) A (.call (.ref f) ⟨args, []⟩) R s := by
  have C' : Cx w s.heap := C.keeps fun b o e => of_hideAll _ e
  obtain ⟨mg, mb, T⟩ := C'.t
  refine codeAny_call_def (fd := fnOf name qual params body scope dV kV doc pm an cdv ct) (body := body) (binds := binds) hroom (C'.k _ _ ho) rfl T.nolimit (codeRec_of C'.k hcd) rfl hbind hcell hloc (fun h₁ hns hk₁ => ?_) hco hgen hk
  exact wpAny_mono (h s.heap.objs.size h₁ _ (Nat.le_refl _) ⟨hns, fun b o e => hk₁ b o (of_hideAll _ e), Nat.le_of_eq (hideAll_size _ _)⟩
    (fun p hp => ⟨hk₁ _ _ (hget p hp), Nat.ne_of_lt (Heap.lt_size (hget p hp)), hideAll_none _ (List.mem_map_of_mem hp)⟩)) (fun fl s' x => x) fun _ _ x => x.elim
set_option maxHeartbeats 8000000 in
theorem c_make {w : World} {A : Around} {s : Shared} {Q E : Value → Shared → Prop} {h₀ : Heap} {L lst : Addr} {m : Str → Option Value} {news : List (Addr × Obj)} (C : Cx w h₀) (R' : Rm A 10 500) (F : Fr h₀ L s.heap m) (N : News h₀ L s.heap news)
    (h : ∀ x dx h' tk hs kt, Fr h₀ L h' m → News h₀ L h' ((x, instObj 70 dx) :: (dx, dictOf [⟨hs, .str (Str.ofString "comp_select_list") kt, .ref lst⟩] 1) :: news) → Q (.ref x) { s with heap := h', toks := tk }) :
    wpAny (model prg w) A (call (.ref 70) [.ref lst]) Q E s := by
  have X : (Mine.hd.heap_39 w.params).In h₀ := C.k
  refine call_cls F X N (by k_is) (by k_is) (by k_is) ?_
  intro x dx h' F' N' l1 l2
  have hx := N' _ (List.Mem.head _)
  have hd := N' _ (List.Mem.tail _ (List.Mem.head _))
  have C' : Cx w (hideAll h' [x, dx]) := C.keeps fun b o e => hideAll_get _ (F'.keep b o e) fun q => by
    rcases List.mem_cons.mp q with q | q
    · rw [q, hx.2.2] at e; cases e
    · rw [List.mem_singleton.mp q, hd.2.2] at e; cases e
  refine enterM (binds := [(Str.ofString "self", .ref x), (Str.ofString "comp_select_list", .ref lst)]) [(x, instObj 70 dx), (dx, dictOf [] 0)] ?_ C' (by with_unfolding_all rfl) (by with_unfolding_all rfl) ?_ (BindsTo.of_eq rfl) (locs rfl) ?_ rfl rfl rfl (by decide)
  · intro p hp
    rcases List.mem_cons.mp hp with q | q
    · rw [q]; exact hx.1
    · rw [List.mem_singleton.mp q]; exact hd.1
  · have := R'.d
    simp only [depth_under_make]; omega
  intro L2 h₁ tk hL2 F2 N2
  obtain ⟨mg, mb, T⟩ := C'.t
  have X2 : (Mine.hd.heap_39 w.params).In (hideAll h' [x, dx]) := C'.k
  have l2' : dx < x := l2
  walk_at "go"
  rename Fr _ _ _ _ => F3
  rename News _ _ _ _ => N3
  refine set_dict F3 X2 N3 (InstAt.of_news N3 (List.Mem.head _) (List.Mem.tail _ (List.Mem.head _))) rfl (by k_is) (by k_is) (by k_is) (by k_is) (by k_get) (by k_put) (Upd.tail (Nat.ne_of_gt l2') (Upd.head (by intro p hp; cases hp))) (Nat.le_of_ble_eq_true rfl) ?_
  intro h4 F4 N4
  show wpAny _ _ (execs [] _) _ _ _
  refine wpAny_execs_nil ?_
  refine ⟨rfl, ?_⟩
  have kp : ∀ b o, b ≠ x → b ≠ dx → h'.get? b = some o → h4.get? b = some o := fun b o h1 h2 e => F4.keep b o (hideAll_get _ e (by
    intro q
    rcases List.mem_cons.mp q with q | q
    · exact h1 q
    · exact h2 (List.mem_singleton.mp q)))
  have FF : Fr h₀ L h4 m := ⟨F'.ns.at' fun o e => kp _ o (Ne.symm hx.2.1) (Ne.symm hd.2.1) e, fun b o e => kp b o (fun q => by rw [q, hx.2.2] at e; cases e) (fun q => by rw [q, hd.2.2] at e; cases e) (F'.keep b o e), F'.above⟩
  have hx4 := N4 _ (List.Mem.head _)
  have hd4 := N4 _ (List.Mem.tail _ (List.Mem.head _))
  have NN : ∀ o1 o2, h4.get? x = some o1 → h4.get? dx = some o2 → News h₀ L h4 ((x, o1) :: (dx, o2) :: news) := by
    intro o1 o2 e1 e2 p hp
    rcases List.mem_cons.mp hp with q | q
    · rw [q]; exact ⟨e1, hx.2⟩
    · rcases List.mem_cons.mp q with q | q
      · rw [q]; exact ⟨e2, hd.2⟩
      · have hN := N' p (List.mem_cons_of_mem _ (List.mem_cons_of_mem _ q))
        have hlt := l1 p q
        exact ⟨kp _ _ (Nat.ne_of_lt (Nat.lt_trans hlt l2)) (Nat.ne_of_lt hlt) hN.1, hN.2⟩
  exact h x dx h4 _ _ _ FF (NN _ _ hx4.1 hd4.1)
end
section
open PySem PySem.W PyProof.Rows PySem.Calls
set_option maxRecDepth 100000
/-- all that stands beyond the base, the frame and some addresses apart -/
theorem rest_ex (h₀ : Heap) (L : Addr) (h : Heap) (as : List Addr) : ∃ rest, News h₀ L h rest ∧ (∀ p ∈ rest, p.1 ∉ as) ∧ (∀ b o, b ≠ L → b ∉ as → h₀.get? b = none → h.get? b = some o → (b, o) ∈ rest) := by
  obtain ⟨own, N, ho⟩ := own_ex h₀ L h
  refine ⟨own.filter (fun p => decide (p.1 ∉ as)), fun p hp => N p (List.mem_filter.mp hp).1, fun p hp => by simpa using (List.mem_filter.mp hp).2, fun b o h1 h2 h3 e => List.mem_filter.mpr ⟨ho b o h1 h3 e, by simpa using h2⟩⟩
def RowAt (h : Heap) (a : Addr) (l : List Nat) (k : Nat) : Prop := ∃ u1 u2 u3 c, l[k]? = some c ∧ h.IsTuple a #[.str (S l) u1, .int (k : Int) u2, .str (S [c]) u3]
theorem RowAt.at {h h' : Heap} {a : Addr} {l : List Nat} {k : Nat} (x : RowAt h a l k) (e : ∀ o, h.get? a = some o → h'.get? a = some o) : RowAt h' a l k :=
  let ⟨u1, u2, u3, c, hc, ht⟩ := x; ⟨u1, u2, u3, c, hc, ht.at e⟩
theorem row_of {h : Heap} {a : Addr} {l : List Nat} {k c : Nat} {u1 u2 u3 : Tok} {e : Int} {n : Nat} (hg : h.get? a = some { cls := .type "tuple", data := .seq #[.str (S l) u1, .int e u2, .str (S [c]) u3] n }) (he : e = (k : Int)) (hc : l[k]? = some c) : RowAt h a l k := by
  subst he
  exact ⟨u1, u2, u3, c, hc, _, hg, rfl, _, rfl⟩
theorem ne_data {h : Heap} {a b : Addr} {o o' : Obj} (e1 : h.get? a = some o) (e2 : h.get? b = some o') (hd : o.data ≠ o'.data) : a ≠ b := fun q => hd (by rw [q, e2] at e1; cases e1; rfl)
def ansRow (way : Int) (l : List Nat) (j : Nat) : List Int := (List.range j).map fun k => cmpF way (l.getD k 0) (l.getD j 0)
def ansL (way : Int) (l : List Nat) : List Int := (List.range l.length).flatMap (ansRow way l)
theorem Rm.deep {A : Around} {d u d' u' : Nat} (R : Rm A d u) (hd : d' + 1 ≤ d) (hu : u' + 3 ≤ u) (env : Env) : Rm (A.deeper env) d' u' :=
  ⟨R.h, by have := R.d; show A.depth + 1 + d' < _; omega, by have := R.u; show A.units + 3 + u' < _; omega⟩
theorem g0 {L b : Nat} (h : L + 1 + 1 + 1 < b) : b ≠ L := by omega
theorem g123 {L b : Nat} (h : L + 1 + 1 + 1 < b) : b ∉ [L + 1, L + 1 + 1, L + 1 + 1 + 1] := by simp; omega
theorem g4 {a b L D : Nat} (h1 : b < a) (h2 : a ≤ L) (h3 : L + 1 + 1 + 1 < D) (h4 : D ≤ b) : False := by omega
theorem ints_snoc {vs : List Value} {xs : List Int} {x : Int} {t : Tok} (h : IntsAre vs xs) : IntsAre (vs ++ [.int x t]) (xs ++ [x]) := by
  induction h with
  | nil => exact .cons _ _ .nil
  | cons y t _ ih => exact .cons _ _ ih
theorem ans_len (way : Int) (l : List Nat) : ∀ j, ((List.range j).flatMap (ansRow way l)).length ≤ j * j
  | 0 => Nat.le_refl _
  | j + 1 => by
    have ih := ans_len way l j
    rw [List.range_succ, List.flatMap_append, List.length_append]
    have : ([j].flatMap (ansRow way l)).length = j := by simp [ansRow]
    rw [this]
    have : (j + 1) * (j + 1) = j * j + 2 * j + 1 := by rw [Nat.add_mul, Nat.mul_add]; omega
    omega
theorem OrdAt.up {w : World} {h h' : Heap} {x dx lst t0 t1 t2 : Addr} {way hs : Int} {kt kn : Nat} (O : OrdAt w h x way dx lst t0 t1 t2 hs kt kn) (k : ∀ b o, h.get? b = some o → h'.get? b = some o) : OrdAt w h' x way dx lst t0 t1 t2 hs kt kn :=
  ⟨k _ _ O.inst, k _ _ O.dict, O.list.at fun o e => k _ o e, let ⟨u, v, p⟩ := O.p0; ⟨u, v, p.at fun o e => k _ o e⟩, let ⟨u, v, p⟩ := O.p1; ⟨u, v, p.at fun o e => k _ o e⟩, let ⟨u, v, p⟩ := O.p2; ⟨u, v, p.at fun o e => k _ o e⟩⟩
theorem a02 (L : Nat) : L ≠ L + 1 + 1 := by omega
theorem a03 (L : Nat) : L ≠ L + 1 + 1 + 1 := by omega
theorem a12 (L : Nat) : L + 1 ≠ L + 1 + 1 := by omega
theorem a13 (L : Nat) : L + 1 ≠ L + 1 + 1 + 1 := by omega
theorem a23 (L : Nat) : L + 1 + 1 ≠ L + 1 + 1 + 1 := by omega
theorem a32 (L : Nat) : L + 1 + 1 + 1 ≠ L + 1 + 1 := by omega
set_option maxHeartbeats 8000000 in
theorem c_answers {w : World} {A : Around} {s : Shared} {Q E : Value → Shared → Prop} {l : List Nat} {way : Int} {t t' : Tok} (C : Cx w s.heap) (R' : Rm A 20 1000) (hl : l.length ≤ 5)
    (h : ∀ h' tk a vs, (∀ b o, s.heap.get? b = some o → h'.get? b = some o) → s.heap.get? a = none → h'.PlainList a vs.toArray → IntsAre vs (ansL way l) → Q (.ref a) { s with heap := h', toks := tk }) :
    wpAny (model prg w) A (call (.ref 119) [.str (S l) t, .int way t']) Q E s := by
  refine enterC (binds := [(Str.ofString "text", .str (S l) t), (Str.ofString "way", .int way t')]) C (by with_unfolding_all rfl) (by with_unfolding_all rfl) (Nat.lt_of_le_of_lt (Nat.le_add_right _ _) R'.d) (BindsTo.of_eq rfl) rfl (by decide +kernel) ?_ rfl rfl rfl
  intro L h₁ tk cells hL F N Y
  obtain ⟨o3, o2, o1, rfl, d3, d2, d1⟩ := CellsAre.three Y
  clear Y
  have d1 : o1.data = .cell (some (.str (S l) t)) := d1
  have d2 : o2.data = .cell none := d2
  have d3 : o3.data = .cell none := d3
  obtain ⟨mg, mb, T⟩ := C.t
  have X : (Mine.hd.heap_39 w.params).In s.heap := C.k
  have CX : Cx w s.heap := C
  refine wpAny_execs_cons ?_
  refine wpAny_Assign_Name ?_
  refine eval_comp1 (by with_unfolding_all rfl) rfl (by decide) ?_
  have hz : (S l).length ≤ 1048576 := by rw [S_length]; omega
  walk_at "go"
  rename Fr _ _ _ _ => F1
  rename News _ _ _ _ => N1
  rename IsRange _ _ _ _ _ _ _ _ => hR
  rw [S_length] at hR
  have hc1 := (N1 _ (List.Mem.tail _ (List.Mem.tail _ (List.Mem.head _)))).1
  refine wpAny_pyIter_range hR (small_ok (by omega) (by omega)) ?_
  refine comp1N (n := l.length) (Walks.range (R'.dh _) _ 0 1 l.length) (range_st0 (by rw [rangeSize_nat]; omega)) (by simp)
    (fun D C i ys m h => ys.length = i ∧ i ≤ l.length ∧ ∀ k, k < i → ∃ a, ys[k]? = some (.ref a) ∧ D < a ∧ a ≠ C ∧ RowAt h a l k) (by decide) rfl rfl ?_ ?_ ?_ ?_ ?_
  · intro D C h _; exact ⟨rfl, Nat.zero_le _, fun k hk => absurd hk (Nat.not_lt_zero _)⟩
  · rintro D C i ys m h h' hID hDC ⟨h1, h2, h3⟩ kk
    refine ⟨h1, h2, fun k hk => ?_⟩
    obtain ⟨a, e1, e2, e3, e4⟩ := h3 k hk
    exact ⟨a, e1, e2, e3, e4.at fun o e => kk a o e3 (Nat.ne_of_gt (Nat.lt_trans hID e2)) (Nat.ne_of_gt e2) e⟩
  · rintro D C i ys m h ⟨h1, h2, h3⟩
    omega
  · rintro hb D C i v ys m h tk own khb hbD hID hDC hi ⟨tc, rfl⟩ ⟨j1, j2, j3⟩ F2 N2 ho hbI hpl
    refine wpAny_tests_nil ?_
    refine ite_pos rfl ?_
    have kp0 := ho.kp F2
    have hcb : hb.get? (L + 1) = some o1 := khb _ _ hc1
    obtain ⟨nD, hplD⟩ := id hpl
    have hDown := ho D _ (Nat.ne_of_lt hDC) hbD hplD
    walk_at "go"
    have hli : l[i]? = some l[i] := by simp [hi]
    refine itemS (k := i) (by omega) hli (by omega) ?_
    walk_at "go"
    rename Fr _ _ _ _ => FT
    rename News _ _ _ _ => NT
    rename (∀ p ∈ own, _) => l1
    have kp := kp0 _ _ _ FT NT (fun p hp => List.mem_cons_of_mem _ hp)
    have htp := NT _ (List.Mem.head _)
    refine ⟨_, _, _, rfl, FT.ns, kp, ?_⟩
    refine ⟨by simp [j1], hi, fun k hk => ?_⟩
    by_cases hki : k < i
    · obtain ⟨a, e1, e2, e3, e4⟩ := j3 k hki
      exact ⟨a, by rw [List.getElem?_append_left (by omega)]; exact e1, e2, e3, e4.at fun o e => kp a o e3 e⟩
    · have hki' : k = ys.length := by omega
      exact ⟨_, by rw [hki']; simp, l1 _ hDown, htp.2.1, row_of htp.1 (by omega) (by rw [hki', j1]; exact hli)⟩
  · intro D C h' tk m' ys hID hDC hpl hJ hk
    obtain ⟨j1, _, j3⟩ := hJ
    have F2 := Fr.up F1 hk
    have c1 := News.up N1 hk
    obtain ⟨rest, NR, hRa, hRm⟩ := rest_ex s.heap L h' [L + 1, L + 1 + 1, L + 1 + 1 + 1]
    have hc2 := c1 _ (List.Mem.tail _ (List.Mem.head _))
    have hc1' := c1 _ (List.Mem.tail _ (List.Mem.tail _ (List.Mem.head _)))
    have hc3 := c1 _ (List.Mem.head _)
    have hDh : D < h'.objs.size := by obtain ⟨_, e⟩ := hpl; exact Heap.lt_size e
    have hLD : L + 1 + 1 + 1 < D := by
      have := Heap.lt_size (N1 _ (List.Mem.head _)).1
      exact Nat.lt_trans this hID
    refine wpAny_storeName_cell rfl rfl rfl ⟨_, hc2.1, d2⟩ fun h3 hv hs => ?_
    have hs : Heap.SameBut (L + 1 + 1) h' h3 := hs
    obtain ⟨o2', ho2', d2'⟩ := hv
    have kp3 : ∀ b o, b ≠ L + 1 + 1 → h'.get? b = some o → h3.get? b = some o := fun b o hb e => (hs.2 b hb).trans e
    have F3 : Fr s.heap L h3 _ := ⟨F2.ns.sameBut hs (a02 L), fun b o e => kp3 b o (fun q => by have h0 := hc2.2.2; rw [← q, e] at h0; cases h0) (F2.keep b o e), F2.above⟩
    have N3 : News s.heap L h3 ((L + 1 + 1 + 1, o3) :: (L + 1 + 1, o2') :: (L + 1, o1) :: rest) := by
      intro p hp
      rcases List.mem_cons.mp hp with q | hp
      · rw [q]; exact ⟨kp3 _ _ (a32 L) hc3.1, hc3.2⟩
      rcases List.mem_cons.mp hp with q | hp
      · rw [q]; exact ⟨ho2', hc2.2⟩
      rcases List.mem_cons.mp hp with q | hp
      · rw [q]; exact ⟨kp3 _ _ (a12 L) hc1'.1, hc1'.2⟩
      · exact ⟨kp3 _ _ (fun q => hRa p hp (by rw [q]; simp)) (NR p hp).1, (NR p hp).2⟩
    clear c1 N1 F1 F2 NR
    walk_at "go"
    rename Fr _ _ _ _ => F4
    rename News _ _ _ _ => N4
    refine c_make CX (R'.deep (by decide) (by decide) _) F4 N4 ?_
    intro x dx h5 tk5 hs5 kt5 F5 N5
    have ex := N5 _ (List.Mem.head _)
    have edx := N5 _ (List.Mem.tail _ (List.Mem.head _))
    have el := N5 _ (List.Mem.tail _ (List.Mem.tail _ (List.Mem.head _)))
    have et2 := N5 _ (List.Mem.tail _ (List.Mem.tail _ (List.Mem.tail _ (List.Mem.head _))))
    have et1 := N5 _ (List.Mem.tail _ (List.Mem.tail _ (List.Mem.tail _ (List.Mem.tail _ (List.Mem.head _)))))
    have et0 := N5 _ (List.Mem.tail _ (List.Mem.tail _ (List.Mem.tail _ (List.Mem.tail _ (List.Mem.tail _ (List.Mem.head _))))))
    have ec3 := N5 _ (List.Mem.tail _ (List.Mem.tail _ (List.Mem.tail _ (List.Mem.tail _ (List.Mem.tail _ (List.Mem.tail _ (List.Mem.head _)))))))
    have ec2 := N5 _ (List.Mem.tail _ (List.Mem.tail _ (List.Mem.tail _ (List.Mem.tail _ (List.Mem.tail _ (List.Mem.tail _ (List.Mem.tail _ (List.Mem.head _))))))))
    have eR : ∀ p ∈ rest, h5.get? p.1 = some p.2 ∧ p.1 ≠ L ∧ s.heap.get? p.1 = none := fun p hp => N5 p (by simp [hp])
    clear N5 N4 F4
    refine wpAny_storeName_cell rfl rfl rfl ⟨_, ec3.1, d3⟩ fun h6 hv6 hs6 => ?_
    have hs6 : Heap.SameBut (L + 1 + 1 + 1) h5 h6 := hs6
    obtain ⟨o3', ho3', d3'⟩ := hv6
    have kp6 : ∀ b o, b ≠ L + 1 + 1 + 1 → h5.get? b = some o → h6.get? b = some o := fun b o hb e => (hs6.2 b hb).trans e
    have F6 : Fr s.heap L h6 _ := ⟨F5.ns.sameBut hs6 (a03 L), fun b o e => kp6 b o (fun q => by have h0 := ec3.2.2; rw [← q, e] at h0; cases h0) (F5.keep b o e), F5.above⟩
    have nd : ∀ {o : Obj}, (o.data = .cell none → False) → o.data ≠ o3.data := fun f q => f (q.trans d3)
    obtain ⟨lst, t0, t1, t2, O⟩ : ∃ lst t0 t1 t2, OrdAt w h6 x way dx lst t0 t1 t2 hs5 kt5 1 :=
      ⟨_, _, _, _, kp6 _ _ (ne_data ex.1 ec3.1 (nd fun q => by cases q)) ex.1, kp6 _ _ (ne_data edx.1 ec3.1 (nd fun q => by cases q)) edx.1,
        ⟨_, kp6 _ _ (ne_data el.1 ec3.1 (nd fun q => by cases q)) el.1, rfl, _, rfl⟩,
        ⟨_, _, _, kp6 _ _ (ne_data et0.1 ec3.1 (nd fun q => by cases q)) et0.1, rfl, _, rfl⟩,
        ⟨_, _, _, kp6 _ _ (ne_data et1.1 ec3.1 (nd fun q => by cases q)) et1.1, rfl, _, rfl⟩,
        ⟨_, _, _, kp6 _ _ (ne_data et2.1 ec3.1 (nd fun q => by cases q)) et2.1, rfl, _, rfl⟩⟩
    have hcell2 : h6.get? (L + 1 + 1) = some o2' := kp6 _ _ (a23 L) ec2.1
    have kr : ∀ b o, L + 1 + 1 + 1 < b → s.heap.get? b = none → h'.get? b = some o → h6.get? b = some o := fun b o hb hsb e => by
      have hm := eR _ (hRm b o (g0 hb) (g123 hb) hsb e)
      exact kp6 _ _ (Nat.ne_of_gt hb) hm.1
    have fr0 : ∀ b, D ≤ b → s.heap.get? b = none := fun b hb => by
      cases e : s.heap.get? b with
      | none => rfl
      | some o => exact (g4 (Heap.lt_size e) F6.above hLD hb).elim
    have hpl6 : h6.PlainList D ys.toArray := hpl.at fun o e => kr D o hLD (fr0 D (Nat.le_refl _)) e
    have rows6 : ∀ k, k < l.length → ∃ a, ys[k]? = some (.ref a) ∧ RowAt h6 a l k := fun k hk => by
      obtain ⟨a, e1, e2, e3, e4⟩ := j3 k hk
      exact ⟨a, e1, e4.at fun o e => kr a o (Nat.lt_trans hLD e2) (fr0 a (Nat.le_of_lt e2)) e⟩
    have N6 : News s.heap L h6 [(L + 1 + 1 + 1, o3'), (L + 1 + 1, o2')] := by
      intro p hp
      rcases List.mem_cons.mp hp with q | hp
      · rw [q]; exact ⟨ho3', ec3.2⟩
      · rw [List.mem_singleton.mp hp]; exact ⟨hcell2, ec2.2⟩
    have ks6 : ∀ b o, s.heap.get? b = some o → h6.get? b = some o := F6.keep
    clear eR ex edx el et0 et1 et2 ec2 ec3 F5 hRm hRa
    show wpAny _ _ (execs _ _) _ _ _
    refine wpAny_execs_cons ?_
    refine wpAny_Return_some ?_
    refine eval_comp2 (by with_unfolding_all rfl) rfl (by decide) ?_
    have hil : h6.IsList D ys.toArray := hpl6.isList
    walk_at "go"
    refine Calls.call_len_list hil (by rw [List.size_toArray, j1]; omega) ?_
    rw [List.size_toArray, j1]
    walk_at "go"
    rename Fr _ _ _ _ => F7
    rename News _ _ _ _ => N7
    rename IsRange _ _ _ _ _ _ _ _ => hR7
    rename (∀ b o, _ → _) => kp7
    refine wpAny_pyIter_range hR7 (small_ok (by omega) (by omega)) ?_
    refine comp2N (n := l.length) (Walks.range (R'.dh _) _ 0 1 l.length) (range_st0 (by rw [rangeSize_nat]; omega)) (by simp)
      (fun D C j ys m h => IntsAre ys ((List.range j).flatMap (ansRow way l))) (by decide) rfl rfl ?_ ?_ (fun _ _ => rfl) ?_ ?_
    · intro D C h _; exact .nil
    · intro D C j ys m h h' _ _ q _; exact q
    · rintro hb D2 C2 j v ys2 m h7 tk7 own7 khb hbD hID7 hDC7 hj ⟨tc, rfl⟩ hints F8 N8 ho8 hpl8
      have kp80 := ho8.kp F8
      have k6b : ∀ b o, h6.get? b = some o → hb.get? b = some o := fun b o e => khb _ _ (kp7 _ _ e)
      have hcb3 := k6b _ _ ho3'
      have hcb2 := k6b _ _ hcell2
      have CXb : Cx w hb := CX.keeps fun b o e => k6b _ _ (ks6 b o e)
      obtain ⟨mgb, mbb, Tb⟩ := CXb.t
      have Xb : (Mine.hd.heap_39 w.params).In hb := CXb.k
      have hDC8 : D2 ≠ C2 := Nat.ne_of_lt hDC7
      walk_at "go"
      rename Fr _ _ _ _ => FT
      rename News _ _ _ _ => NT
      rename IsRange _ _ _ _ _ _ _ _ => hRT
      have kp := kp80 _ _ _ FT NT (fun p hp => hp)
      obtain ⟨nD, hplD⟩ := id hpl8
      have hDlive := kp D2 _ hDC8 hplD
      refine wpAny_pyIter_range hRT (small_ok (by omega) (by omega)) ?_
      refine ⟨_, _, _, _, _, _, rfl, Walks.range (R'.dh _) _ 0 1 j, range_st0 (by rw [rangeSize_nat]; omega), ?_⟩
      refine innerAt (x := Str.ofString "first") (ys₀ := ys2) (Walks.range (R'.dh _) _ 0 1 j) (Fr.push FT _) hbD ?_ rfl rfl hDC8 ?_ ?_
        (fun k ys m h => IntsAre ys (((List.range j).flatMap (ansRow way l)) ++ (List.range k).map fun k => cmpF way (l.getD k 0) (l.getD j 0)) ∧ (k ≤ j ∧ ∃ tj, m (Str.ofString "later") = some (.int (j : Int) tj)) ∧ ys.length ≤ 1000) ?_ ?_
        (range_st0 (by rw [rangeSize_nat]; omega)) ?_ ?_ ?_ ?_
      · intro b hb
        rw [List.mem_singleton.mp hb]
        exact next_is_new FT
      · intro hm
        exact absurd (Heap.lt_size hDlive) (List.mem_singleton.mp hm ▸ Nat.lt_irrefl _)
      · intro hm
        exact absurd FT.ns.lt (List.mem_singleton.mp hm ▸ Nat.lt_irrefl _)
      · intro k ys m h h' q _; exact q
      · rintro k ys m h ⟨_, _, q⟩; omega
      · exact ⟨_, Heap.get?_push_of_some _ hDlive⟩
      · have e1 := hints.length
        have e2 := ans_len way l j
        have e3 : j * j ≤ 5 * 5 := Nat.mul_le_mul (by omega) (by omega)
        refine ⟨by simpa using hints, ⟨Nat.zero_le _, tc, ?_⟩, by omega⟩
        rw [if_pos rfl]
        congr 2
        omega
      · rintro k v ys3 m3 h9 tk9 own9 hk9 ⟨tv, rfl⟩ ⟨hi3, ⟨hkj, tj, hm3⟩, hy3⟩ F9 N9 ho9 hpl9 hkeep9
        have kp90 := ho9.kp F9
        rw [← wL_eq (ps := [(Str.ofString "later", .int (j : Int) tj)]) (m := m3) (by intro p hp; simp only [List.mem_cons, List.not_mem_nil, or_false] at hp; subst hp; assumption)] at F9
        obtain ⟨ra, ea, va⟩ := rows6 k (by omega)
        obtain ⟨rb, eb, vb⟩ := rows6 j (by omega)
        obtain ⟨u1, u2, u3, ca, hca, ta⟩ := va
        obtain ⟨w1, w2, w3, cb, hcb, tb⟩ := vb
        walk_at "go2"
        rename Fr _ _ _ _ => FA
        refine method_inst FA Xb ⟨FA.keep _ _ (k6b _ _ O.inst), rfl, rfl, FA.keep _ _ (k6b _ _ O.dict)⟩ (by k_is) (by k_is) (by k_is) (by k_get) ?_
        walk_at "go2"
        refine item_listL (hil.at fun o e => FA.keep _ _ (k6b _ _ e)) (by omega) (by omega) (show ys[((0 : Int) + (k : Int) * 1).toNat]? = some (.ref ra) by rw [show ((0 : Int) + (k : Int) * 1).toNat = k by omega]; exact ea) ?_
        walk_at "go2"
        refine item_listL (hil.at fun o e => FA.keep _ _ (k6b _ _ e)) (by omega) (by omega) (show ys[((j : Int)).toNat]? = some (.ref rb) by rw [Int.toNat_natCast]; exact eb) ?_
        walk_at "go2"
        have k69 : ∀ b o, h6.get? b = some o → h9.get? b = some o := fun b o e => FA.keep _ _ (k6b _ _ e)
        refine c_compare (l := l) (i := k) (j := j) (CXb.keeps FA.keep) (R'.deep (by decide) (by decide) _) (O.up k69) (ta.at fun o e => k69 _ _ e) (tb.at fun o e => k69 _ _ e) (by omega) ?_
        intro h10 tk10 t10 hk10
        refine ⟨h10, tk10, _, rfl, (Fr.up FA hk10).ns, fun b o _ e => hk10 b o e, ?_, ⟨by omega, tj, rfl⟩, ?_⟩
        · have e := ints_snoc (x := cmpF way ca cb) (t := t10) hi3
          rw [List.range_succ, List.map_append, ← List.append_assoc]
          have e1 : l.getD k 0 = ca := by rw [List.getD_eq_getElem?_getD, hca]; rfl
          have e2 : l.getD j 0 = cb := by rw [List.getD_eq_getElem?_getD, hcb]; rfl
          simp only [List.map_cons, List.map_nil, e1, e2] at e ⊢
          exact e
        · have e1 := hi3.length
          have e2 := ans_len way l j
          have e3 : j * j ≤ 5 * 5 := Nat.mul_le_mul (by omega) (by omega)
          simp only [List.length_append, List.length_map, List.length_range, List.length_cons, List.length_nil] at e1 ⊢
          omega
      · rintro h9 tk9 m9 ys9 hn9 hpl9 ⟨hi9, _, _⟩ hk9
        refine ⟨rfl, h9, tk9, m9, ys9, rfl, hn9, hpl9, ?_, ?_⟩
        · intro b o hbC hbD' e
          have e2 := kp b o hbC e
          exact hk9 b o hbC (fun q => Nat.lt_irrefl _ (List.mem_singleton.mp q ▸ Heap.lt_size e2)) hbD' (Heap.get?_push_of_some _ e2)
        · rw [List.range_succ, List.flatMap_append]
          simpa [ansRow] using hi9
    · intro D2 C2 h8 tk8 m8 ys8 hID8 hDC8 hpl8 hJ8 hk8
      refine h h8 tk8 D2 ys8 (fun b o e => hk8 _ _ (kp7 _ _ (ks6 b o e))) ?_ hpl8 hJ8
      cases e : s.heap.get? D2 with
      | none => rfl
      | some o => exact absurd (Heap.lt_size (kp7 _ _ (ks6 _ _ e))) (Nat.not_lt.mpr (Nat.le_of_lt hID8))
end
section
open PySem PySem.W PyProof.Rows PySem.Calls
set_option maxRecDepth 100000
/-- a dict of ints by ints, what it holds -/
def DT (w : World) (h : Heap) (a : Addr) (D : List (Int × Int)) : Prop := ∃ vals : List (Int × Int × Tok), vals.map (fun v => (v.1, v.2.1)) = D ∧ h.DictOf (intKind prg w) a (intPairs vals)
theorem DT.at {w : World} {h h' : Heap} {a : Addr} {D : List (Int × Int)} (x : DT w h a D) (k : ∀ o, h.get? a = some o → h'.get? a = some o) : DT w h' a D :=
  let ⟨vals, e, o, es, ep, ho, r⟩ := x; ⟨vals, e, o, es, ep, k o ho, r⟩
def marksL (l : List Nat) : Nat := (l.filter (fun c => c == 34)).length
structure Ent where
  n1 : Int
  n2 : Int
  n3 : Int
  n4 : Int
  D : List (Int × Int)
def EntAt (w : World) (h : Heap) (a : Addr) (e : Ent) : Prop := ∃ d u1 u2 u3 u4, (d == sysModules) = false ∧ h.IsTuple a #[.int e.n1 u1, .int e.n2 u2, .int e.n3 u3, .int e.n4 u4, .ref d] ∧ DT w h d e.D
def entF (l name : List Nat) (c : Nat) (b : Int) (p : Nat) : Ent :=
  if StrLaws.dbl 34 name = l then ⟨1, 1, b ^ (placesF name).toNat, if name.take 1 = [c] then b ^ (placesF name).toNat else 0, [((marksL l : Nat), b ^ p)]⟩
  else ⟨1, 0, 0, 0, [((marksL l : Nat), b ^ p)]⟩
section
variable {w : World} {A : Around} {E : Value → Shared → Prop} {s : Shared} {env : Env} {Q : Value → Shared → Prop} {h₀ : Heap} {L : Addr} {m : Str → Option Value} {news : List (Addr × Obj)}
theorem dict_one {ke ve : Expr} {pos : Pos} (F : Fr h₀ L s.heap m) (N : News h₀ L s.heap news)
    (h : ∀ d h₁, L < d → Fr h₀ L h₁ m → News h₀ L h₁ ((d, emptyDict) :: news) →
      wpAny (model prg w) A (eval ke env) (fun kv s₁ => wpAny (model prg w) A (eval ve env) (fun vv s₂ => ∃ k t x u h2 tk2, kv = .int k t ∧ vv = .int x u ∧ s₂ = { s with heap := h2, toks := tk2 } ∧ Fr h₀ L h2 m ∧ News h₀ L h2 ((d, emptyDict) :: news) ∧
        ∀ h3 tk3 od, Fr h₀ L h3 m → News h₀ L h3 ((d, od) :: news) → DT w h3 d [(k, x)] → Q (.ref d) { s with heap := h3, toks := tk3 }) E s₁) E { s with heap := h₁ }) :
    wpAny (model prg w) A (eval (.Dict [some ke] [ve] pos) env) Q E s := by
  refine wpAny_Dict_pairs (knd := intKind prg w) (pairs := [(eval ke env, do let x ← eval ve env; standAt pos; pure x)]) rfl (by simp) (by simp) ?_
  have ne : ∀ p ∈ news, p.1 ≠ s.heap.objs.size := fun p hp => Nat.ne_of_lt (Heap.lt_size (N p hp).1)
  refine evalPairs_cons (wpAny_mono (h s.heap.objs.size _ F.ns.lt (F.push _) (N.push F _)) (fun kv s₁ q => wpAny_bind (wpAny_mono q (fun vv s₂ q => ?_) fun _ _ e => e)) fun _ _ e => e)
  refine wpAny_bind (wpAny_standAt (wpAny_pure (evalPairs_nil ?_)))
  obtain ⟨k, t, x, u, h2, tk2, rfl, rfl, rfl, F2, N2, hq⟩ := q
  have hd := N2 _ (List.Mem.head _)
  refine ⟨[(k, .int x u)], ⟨intKind_is _ _ _ _, rfl, trivial⟩, ⟨_, #[], 0, hd.1, ⟨rfl, rfl, rfl⟩, rfl, (fun e he => by simp at he), .nil, .nil⟩, fun h3 hD hs => ?_⟩
  have hs : Heap.SameBut s.heap.objs.size h2 h3 := hs
  obtain ⟨od, es, ep, ho, r⟩ := id hD
  have F3 : Fr h₀ L h3 m := ⟨F2.ns.sameBut hs (Ne.symm hd.2.1), fun b o e => (hs.2 b (fun q => by have h0 := hd.2.2; rw [← q, e] at h0; cases h0)).trans (F2.keep b o e), F2.above⟩
  refine hq h3 _ od F3 ?_ ⟨[(k, x, u)], rfl, hD⟩
  intro p hp
  rcases List.mem_cons.mp hp with q | q
  · rw [q]; exact ⟨ho, hd.2⟩
  · have hp := N2 p (List.mem_cons_of_mem _ q)
    exact ⟨(hs.2 _ (ne p q)).trans hp.1, hp.2⟩
end
theorem stepP_nonneg : ∀ (l : List Nat) (st : Int × Int), 0 ≤ st.1 → 0 ≤ st.2 → 0 ≤ (l.foldl stepP st).2
  | [], _, _, h => h
  | c :: r, st, h1, h2 => by
    rw [List.foldl_cons]
    refine stepP_nonneg r _ ?_ ?_ <;> (unfold stepP; split <;> dsimp only <;> omega)
theorem stepP_le : ∀ (l : List Nat) (st : Int × Int), (l.foldl stepP st).1 ≤ st.1 + 2 * l.length ∧ (0 ≤ st.1 → (l.foldl stepP st).2 ≤ st.2 + l.length * (st.1 + 2 * l.length))
  | [], st => by simp
  | c :: r, st => by
    rw [List.foldl_cons]
    obtain ⟨h1, h2⟩ := stepP_le r (stepP st c)
    have e1 : (stepP st c).1 ≤ st.1 + 2 := by unfold stepP; split <;> dsimp only <;> omega
    have e0 : 0 ≤ st.1 → 0 ≤ (stepP st c).1 := by intro; unfold stepP; split <;> dsimp only <;> omega
    have e2 : 0 ≤ st.1 → (stepP st c).2 ≤ st.2 + (st.1 + 1) := by intro; unfold stepP; split <;> dsimp only <;> omega
    simp only [List.length_cons]
    refine ⟨by push_cast; omega, fun h0 => ?_⟩
    have h3 := h2 (e0 h0)
    have e3 := e2 h0
    have hm : (r.length : Int) * ((stepP st c).1 + 2 * r.length) ≤ r.length * (st.1 + 2 * ((r.length : Int) + 1)) := Int.mul_le_mul_of_nonneg_left (by omega) (by omega)
    push_cast
    have : ((r.length : Int) + 1) * (st.1 + 2 * (r.length + 1)) = r.length * (st.1 + 2 * (r.length + 1)) + (st.1 + 2 * (r.length + 1)) := by rw [Int.add_mul, Int.one_mul]
    omega
theorem places_bd {l : List Nat} (hl : l.length ≤ 10) : 0 ≤ placesF l ∧ placesF l ≤ 200 := by
  refine ⟨stepP_nonneg l _ (Int.le_refl _) (Int.le_refl _), ?_⟩
  have h := (stepP_le l (0, 0)).2 (Int.le_refl _)
  unfold placesF
  have h1 : (l.length : Int) * (0 + 2 * l.length) ≤ 10 * (0 + 2 * 10) := Int.mul_le_mul (by omega) (by omega) (by omega) (by omega)
  simp only [] at h
  omega
theorem Cx.ne1 {w : World} {h h' : Heap} {L d : Addr} {m : Str → Option Value} (C : Cx w h) (F : Fr h L h' m) (hd : L < d) : (d == sysModules) = false := by
  have h1 : ∃ o, (K w).lookup 46 = some o := ⟨_, by with_unfolding_all rfl⟩
  obtain ⟨o, ho⟩ := h1
  have h2 := Heap.lt_size (C.k _ _ ho)
  refine beq_eq_false_iff_ne.mpr fun q => ?_
  subst q
  have h3 : h.objs.size < sysModules := Nat.lt_of_le_of_lt F.above hd
  exact absurd (Nat.lt_trans h2 h3) (by decide)
theorem slice1 (l : List Nat) : Txt.slice (S l) none (some 1) = S (l.take 1) := by
  cases l with
  | nil => decide +kernel
  | cons a r => exact slice_to (a :: r) 1 (by simp)
theorem DT.news {w : World} {h₀ h h' : Heap} {L d : Addr} {D : List (Int × Int)} {od : Obj} {n2 : List (Addr × Obj)} (x : DT w h d D) (g : h.get? d = some od) (N' : News h₀ L h' n2) (m2 : (d, od) ∈ n2) : DT w h' d D :=
  x.at fun o e => by rw [g] at e; cases e; exact (N' _ m2).1
theorem join_int {w : World} {A : Around} {E : Value → Shared → Prop} {s : Shared} {env : Env} {c : Prop} [Decidable c] {e1 e2 : Expr} {K : Value → Shared → Prop} {x : Int}
    (h1 : c → ∀ K' : Value → Shared → Prop, (∀ t tk, K' (.int x t) { s with toks := tk }) → wpAny (model prg w) A (eval e1 env) K' E s)
    (h2 : ¬ c → ∀ K' : Value → Shared → Prop, (∀ t tk, K' (.int x t) { s with toks := tk }) → wpAny (model prg w) A (eval e2 env) K' E s)
    (h : ∀ t tk, K (.int x t) { s with toks := tk }) : if c then wpAny (model prg w) A (eval e1 env) K E s else wpAny (model prg w) A (eval e2 env) K E s := by
  by_cases hc : c
  · rw [if_pos hc]; exact h1 hc K h
  · rw [if_neg hc]; exact h2 hc K h
set_option maxHeartbeats 8000000 in
theorem c_entry {w : World} {A : Around} {s : Shared} {Q E : Value → Shared → Prop} {l name : List Nat} {c p : Nat} {b : Int} {t1 t2 t3 t4 t5 : Tok} (C : Cx w s.heap) (R' : Rm A 20 1000) (hl : l.length ≤ 5) (hname : name.length ≤ 10) (hb : b.natAbs ≤ 1000) (hp : p ≤ 1000)
    (h : ∀ h' tk a, (∀ b o, s.heap.get? b = some o → h'.get? b = some o) → s.heap.get? a = none → EntAt w h' a (entF l name c b p) → Q (.ref a) { s with heap := h', toks := tk }) :
    wpAny (model prg w) A (call (.ref 131) [.str (S l) t1, .str (S name) t2, .str (S [c]) t3, .int b t4, .int (p : Int) t5]) Q E s := by
  refine enter (binds := [(Str.ofString "text", .str (S l) t1), (Str.ofString "name", .str (S name) t2), (Str.ofString "letter", .str (S [c]) t3), (Str.ofString "base", .int b t4), (Str.ofString "pairs", .int (p : Int) t5)]) C (by with_unfolding_all rfl) (by with_unfolding_all rfl) (Nat.lt_of_le_of_lt (Nat.le_add_right _ _) R'.d) (BindsTo.of_eq rfl) (locs rfl) ?_ (Nat.succ_ne_zero _) rfl rfl rfl (by decide)
  intro L h₁ tk htk F N
  obtain ⟨mg, mb, T⟩ := C.t
  have X : (Mine.hd.heap_39 w.params).In s.heap := C.k
  have CX : Cx w s.heap := C
  walk_at "go2"
  refine wpAny_with_toks (n := 1) htk ?_
  refine eval_comp1 (by with_unfolding_all rfl) rfl (by decide) ?_
  walk_at "go2"
  rename Fr _ _ _ _ => F1
  refine wpAny_pyIter_str fun o St hW hst => ?_
  refine comp1N (n := l.length) (hW _ (R'.dh _)) hst (by simp) (fun D C i ys m h => ys.length = marksL (l.take i)) (by decide) rfl rfl ?_ ?_ ?_ ?_ ?_
  · intro D C h _; rfl
  · intro D C i ys m h h' _ _ q _; exact q
  · intro D C i ys m h q
    have : marksL (l.take i) ≤ (l.take i).length := List.length_filter_le _ _
    have : (l.take i).length ≤ l.length := by rw [List.length_take]; exact Nat.min_le_right _ _
    omega
  · rintro hb D C i v ys m h tk own khb hbD hID hDC hi ⟨cc, tc, hcc, rfl⟩ hJ F2 N2 ho hbI hpl
    have hcc' : l[i]? = some cc := by simpa [S] using hcc
    have kp0 := ho.kp F2
    refine wpAny_tests_one ?_
    walk_at "go2"
    have e8 : l.take (i + 1) = l.take i ++ [cc] := by rw [List.take_add_one, hcc']; rfl
    by_cases h34 : cc = 34
    · refine ite_pos (by rw [h34]; decide +kernel) ?_
      walk_at "go2"
      rename Fr _ _ _ _ => FA
      rename News _ _ _ _ => NA
      refine ⟨_, _, _, rfl, FA.ns, kp0 _ _ _ FA NA (fun p hp => hp), ?_⟩
      rw [e8]
      simp only [marksL, List.filter_append, List.length_append, hJ, h34]
      rfl
    · refine ite_neg (by show ¬ (S [cc] == _) = true; rw [S34, S_beq]; simp [h34]) ?_
      rename Fr _ _ _ _ => FA
      rename News _ _ _ _ => NA
      refine ⟨_, _, _, rfl, FA.ns, kp0 _ _ _ FA NA (fun p hp => hp), ?_⟩
      rw [e8]
      simp [marksL, List.filter_append, hJ, h34]
  · intro D C h' tk' m' ys hID hDC hpl hJ hk htk'
    have htk' : 0 < tk' := htk'
    have F2 := Fr.up F1 hk
    have N2 : News s.heap L h' [] := News.nil
    have hil := hpl.isList
    clear F1
    rw [List.take_length] at hJ
    have hmk : marksL l ≤ l.length := List.length_filter_le _ _
    walk_at "go2"
    refine Calls.call_len_list hil (by rw [List.size_toArray, hJ]; omega) ?_
    rw [List.size_toArray, hJ]
    walk1
    refine wpAny_execs_cons ?_
    walk_at "go2"
    refine repl ⟨Nat.succ_pos _, Nat.lt_succ_self _⟩ (by decide +kernel) (by rw [S_length]; omega) (by decide +kernel) ?_
    intro tr kr
    have hdb : Txt.replace (S name) (Str.ofString "\"") (Str.ofString "\"\"") = S (StrLaws.dbl 34 name) := by
      rw [S34, S3434]
      exact S_of (StrLaws.replace_double (S name) 34)
    rw [hdb]
    walk_at "go3"
    by_cases heq : StrLaws.dbl 34 name = l
    · refine ite_neg (by rw [S_bne, heq]; simp) ?_
      walk_at "go3"
      rename Fr _ _ _ _ => F3
      rename News _ _ _ _ => N3
      have CX3 := CX.keeps F3.keep
      refine c_places CX3 (R'.deep (by decide) (by decide) _) ?_
      intro h4 tk4 t4' k4
      have F4 := Fr.up F3 k4
      have N4 := News.up N3 k4
      clear F3 N3
      obtain ⟨hp1, hp2⟩ := places_bd hname
      refine powI (k := (placesF name).toNat) (by omega) (by omega) (by omega) ?_
      have hszn : (S name).length ≤ sizeLine := by rw [S_length, sizeLine_eq]; omega
      walk_at "go3"
      rw [slice1]
      refine join_int (x := if name.take 1 = [c] then b ^ (placesF name).toNat else 0) ?_ ?_ ?_
      · intro hc K' hK
        have hc : name.take 1 = [c] := by rw [S_beq] at hc; simpa using hc
        rw [if_pos hc] at hK
        walk_at "go3"
        exact hK _ _
      · intro hc K' hK
        have hc : ¬ name.take 1 = [c] := by rw [S_beq] at hc; simpa using hc
        rw [if_neg hc] at hK
        walk_at "go3"
        exact hK _ _
      intro t7 tk7
      walk_at "go3"
      rename Fr _ _ _ _ => F3
      rename News _ _ _ _ => N3
      refine dict_one F3 N3 ?_
      intro d h5 hLd F5 N5
      walk_at "go3"
      refine powI rfl (by omega) (by omega) ?_
      refine ⟨_, _, _, _, _, _, rfl, rfl, rfl, F5, N5, ?_⟩
      intro h6 tk6 od F6 N6 hD
      have hd6 := (N6 _ (List.Mem.head _)).1
      walk_at "go3"
      rename Fr _ _ _ _ => F7
      rename News _ _ _ _ => N7
      refine h _ _ _ F7.keep (N7 _ (List.Mem.head _)).2.2 ?_
      have e : entF l name c b p = ⟨1, 1, b ^ (placesF name).toNat, if name.take 1 = [c] then b ^ (placesF name).toNat else 0, [((marksL l : Nat), b ^ p)]⟩ := if_pos heq
      rw [e]
      exact ⟨d, _, _, _, _, CX.ne1 F7 hLd, ⟨_, (N7 _ (List.Mem.head _)).1, rfl, _, rfl⟩, hD.news hd6 N7 (List.Mem.tail _ (List.Mem.head _))⟩
    · refine ite_pos (by rw [S_bne]; simpa using heq) ?_
      walk_at "go3"
      rename Fr _ _ _ _ => F3
      rename News _ _ _ _ => N3
      refine dict_one F3 N3 ?_
      intro d h5 hLd F5 N5
      walk_at "go3"
      refine powI rfl (by omega) (by omega) ?_
      refine ⟨_, _, _, _, _, _, rfl, rfl, rfl, F5, N5, ?_⟩
      intro h6 tk6 od F6 N6 hD
      have hd6 := (N6 _ (List.Mem.head _)).1
      walk_at "go3"
      rename Fr _ _ _ _ => F7
      rename News _ _ _ _ => N7
      have e : entF l name c b p = ⟨1, 0, 0, 0, [((marksL l : Nat), b ^ p)]⟩ := if_neg heq
      refine h _ _ _ F7.keep (N7 _ (List.Mem.head _)).2.2 ?_
      rw [e]
      exact ⟨d, _, _, _, _, CX.ne1 F7 hLd, ⟨_, (N7 _ (List.Mem.head _)).1, rfl, _, rfl⟩, hD.news hd6 N7 (List.Mem.tail _ (List.Mem.head _))⟩
end
section
open PySem PySem.W PyProof.Rows PySem.Calls
set_option maxRecDepth 100000
def ObjD (w : World) (o : Obj) (X : List (Int × Int)) : Prop := ∃ vals : List (Int × Int × Tok), vals.map (fun v => (v.1, v.2.1)) = X ∧ o.IsDictOf (intKind prg w) (intPairs vals)
theorem DT.obj {w : World} {h : Heap} {d : Addr} {X : List (Int × Int)} (x : DT w h d X) : ∃ o, h.get? d = some o ∧ ObjD w o X := by
  obtain ⟨vals, e, q⟩ := x
  obtain ⟨o, ho, q⟩ := Heap.dictOf_iff.mp q
  exact ⟨o, ho, vals, e, q⟩
theorem ObjD.dt {w : World} {h : Heap} {d : Addr} {X : List (Int × Int)} {o : Obj} (x : ObjD w o X) (ho : h.get? d = some o) : DT w h d X := by
  obtain ⟨vals, e, q⟩ := x
  exact ⟨vals, e, Heap.dictOf_iff.mpr ⟨o, ho, q⟩⟩
def putI (X : List (Int × Int)) (k v : Int) : List (Int × Int) := if X.any (fun p => decide (p.1 = k)) then X.map (fun p => if p.1 = k then (p.1, v) else p) else X ++ [(k, v)]
def getI (X : List (Int × Int)) (k : Int) : Option Int := (X.find? fun p => decide (p.1 = k)).map (·.2)
theorem stored_ints (vals : List (Int × Int × Tok)) (k v : Int) (t : Tok) : ∃ vals', intPairs vals' = stored (intPairs vals) k (.int v t) ∧ vals'.map (fun v => (v.1, v.2.1)) = putI (vals.map fun v => (v.1, v.2.1)) k v := by
  unfold stored putI
  have e1 : ((intPairs vals).any fun kv => decide (kv.1 = k)) = vals.any (fun x => decide (x.1 = k)) := by simp [intPairs, List.any_map, Function.comp_def]
  have e2 : ((vals.map fun v => (v.1, v.2.1)).any fun p => decide (p.1 = k)) = vals.any (fun x => decide (x.1 = k)) := by simp [List.any_map, Function.comp_def]
  rw [e1, e2]
  cases vals.any (fun x => decide (x.1 = k)) with
  | true =>
    refine ⟨vals.map (fun x => if x.1 = k then (x.1, v, t) else x), ?_, ?_⟩
    · simp only [intPairs, List.map_map, if_true]
      refine List.map_congr_left fun x _ => ?_
      simp only [Function.comp]
      split <;> rfl
    · simp only [List.map_map, if_true]
      refine List.map_congr_left fun x _ => ?_
      simp only [Function.comp]
      split <;> rfl
  | false => exact ⟨vals ++ [(k, v, t)], by simp [intPairs], by simp⟩
theorem putI_len (X : List (Int × Int)) (k v : Int) : (putI X k v).length ≤ X.length + 1 := by unfold putI; split <;> simp
section
variable {w : World} {A : Around} {E : Value → Shared → Prop} {s : Shared} {env : Env} {h₀ : Heap} {L D : Addr} {m : Str → Option Value} {rest : List (Addr × Obj)} {od : Obj} {X : List (Int × Int)}
theorem set_int {k v : Int} {tk tv : Tok} {Q : Unit → Shared → Prop} (F : Fr h₀ L s.heap m) (N : News h₀ L s.heap (rest ++ [(D, od)])) (hne : ∀ p ∈ rest, p.1 ≠ D) (hod : ObjD w od X) (hX : X.length ≤ 1000)
    (h : ∀ h' od' t', Fr h₀ L h' m → News h₀ L h' (rest ++ [(D, od')]) → ObjD w od' (putI X k v) → Q () { s with heap := h', toks := t' }) :
    wpAny (model prg w) A (setItem (.ref D) (.int k tk) (.int v tv)) Q E s := by
  have hd := N (D, od) (List.mem_append_right _ (List.Mem.head _))
  obtain ⟨vals, e, q⟩ := hod
  have hlen : (intPairs vals).length = X.length := by rw [← e]; simp [intPairs]
  refine wpAny_setItem_pairs (knd := intKind prg w) (kvs := intPairs vals) (intKind_is _ _ _ _) (Heap.dictOf_iff.mpr ⟨od, hd.1, q⟩) ?_ (by rw [hlen, sizeLine_eq]; omega)
  intro h' hD hs
  obtain ⟨od', ho', q'⟩ := Heap.dictOf_iff.mp hD
  obtain ⟨vals', e1, e2⟩ := stored_ints vals k v tv
  refine h h' od' _ ⟨F.ns.sameBut hs (Ne.symm hd.2.1), fun b o e => (hs.2 b (fun q => by have h0 := hd.2.2; rw [← q, e] at h0; cases h0)).trans (F.keep b o e), F.above⟩ ?_ ⟨vals', by rw [e2, e], by rw [e1]; exact q'⟩
  intro p hp
  rcases List.mem_append.mp hp with r | r
  · have := N p (List.mem_append_left _ r)
    exact ⟨(hs.2 _ (hne p r)).trans this.1, this.2⟩
  · rw [List.mem_singleton.mp r]
    exact ⟨ho', hd.2⟩
theorem valueAt_ints {vals : List (Int × Int × Tok)} {k : Int} : (valueAt (intPairs vals) k).isSome = (getI (vals.map fun v => (v.1, v.2.1)) k).isSome ∧ ∀ x, getI (vals.map fun v => (v.1, v.2.1)) k = some x → ∃ t, valueAt (intPairs vals) k = some (.int x t) := by
  rw [valueAt_intPairs]
  unfold getI
  rw [List.find?_map]
  have e : ((fun p : Int × Int => decide (p.1 = k)) ∘ fun v : Int × Int × Tok => (v.1, v.2.1)) = fun x => decide (x.1 = k) := rfl
  rw [e]
  cases vals.find? (fun x => decide (x.1 = k)) with
  | none => exact ⟨rfl, fun x h => by cases h⟩
  | some x => exact ⟨rfl, fun y h => by cases h; exact ⟨x.2.2, rfl⟩⟩
theorem in_int {k : Int} {t : Tok} {Q : Value → Shared → Prop} (hd : s.heap.get? D = some od) (hS : (D == sysModules) = false) (hod : ObjD w od X) (h : Q (.bool (getI X k).isSome) { s with toks := s.toks + 1 }) :
    wpAny (model prg w) A (compareOp .In (.int k t) (.ref D)) Q E s := by
  obtain ⟨vals, e, q⟩ := hod
  subst e
  refine wpAny_in_of (knd := intKind prg w) (k := k) (intKind_is _ _ _ _) hS (Heap.dictOf_iff.mpr ⟨od, hd, q⟩).mapOf ?_
  rw [valueAt_ints.1]
  exact h
theorem get_int {k x : Int} {t : Tok} {Q : Value → Shared → Prop} (hd : s.heap.get? D = some od) (hod : ObjD w od X) (hx : getI X k = some x) (h : ∀ u, Q (.int x u) { s with toks := s.toks + 1 }) :
    wpAny (model prg w) A (getItem (.ref D) (.int k t)) Q E s := by
  obtain ⟨vals, e, q⟩ := hod
  subst e
  obtain ⟨u, hu⟩ := valueAt_ints.2 x hx
  exact wpAny_getItem_of (knd := intKind prg w) (k := k) (intKind_is _ _ _ _) (Heap.dictOf_iff.mpr ⟨od, hd, q⟩).mapOf hu (h u)
theorem isInt_ex {k : Int} {key : Value} (h : (intKind prg w).is k key = true) : ∃ t, key = .int k t := by
  cases key with
  | int x t =>
    have h : (Value.isInt k (.int x t)) = true := h
    simp [Value.isInt] at h
    exact ⟨t, by rw [h]⟩
  | _ => cases h
/-- a for of two names over the items of a dict that stood ahead of the call, a dict of this call changing in it -/
theorem forItems {xk xv : Str} {pk pv pt pos apos cpos : Pos} {x1 : Nat} {o : Expr} {body : List Stmt} {d : Addr} {Y : List (Int × Int)} {Q : Flow → Shared → Prop} (J : Nat → (Str → Option Value) → List (Int × Int) → Prop)
    (hh : A.handled = none) (hxk : env.kindOf xk = some .local) (hxv : env.kindOf xv = some .local) (hp : (env.scope.kind == .class || (env.scope.kind == .module && env.locals != env.globals)) = false)
    (hd0 : DT w h₀ d Y) (hdS : (d == sysModules) = false) (F : Fr h₀ env.locals s.heap m) (N : News h₀ env.locals s.heap [(D, od)]) (hod : ObjD w od X) (h0 : J 0 m X)
    (hbase : attributeBase o "items" env (eval o env) = eval o env) (hline : (apos.endLine == cpos.line) = true)
    (ho : ∀ Q', Q' (.ref d) s → wpAny (model prg w) A (eval o env) Q' (fun _ _ => False) s)
    (turn : ∀ (i : Nat) (k v : Int) (t tt : Tok) m₁ h g dr tk os od₁ own X₁, Y[i]? = some (k, v) → J i m₁ X₁ → ObjD w od₁ X₁ → (∀ p ∈ own, p.1 ≠ D) → Fr h₀ env.locals h (fun y => if y = xv then some (.int v t) else if y = xk then some (.int k tt) else m₁ y) →
      News h₀ env.locals h (own ++ [(D, od₁)]) → wpAny (model prg w) A (execs body env) (fun f s₂ => f = .next ∧ ∃ h' tk' m' od' X', s₂ = ⟨h', g, dr, tk', os⟩ ∧ Fr h₀ env.locals h' m' ∧ News h₀ env.locals h' (own ++ [(D, od')]) ∧ ObjD w od' X' ∧ J (i + 1) m' X') (fun _ _ => False) ⟨h, g, dr, tk, os⟩)
    (done : ∀ m₁ h tk od₁ X₁, J Y.length m₁ X₁ → ObjD w od₁ X₁ → Fr h₀ env.locals h m₁ → News h₀ env.locals h [(D, od₁)] → Q .next { s with heap := h, toks := tk })
    (hs : ∀ x, foldedSetIterable (.Call (.Attribute o "items" apos) [] [] cpos) env x = pure x := by intro _; rfl) :
    wpAny (model prg w) A (exec (.For (.Tuple [.Name xk pk, .Name xv pv] x1 pt) (.Call (.Attribute o "items" apos) [] [] cpos) body [] pos) env) Q E s := by
  obtain ⟨vals, eY, hdo⟩ := hd0
  have hdo1 : s.heap.DictOf (intKind prg w) d (intPairs vals) := by
    obtain ⟨o, es, ep, ho, r⟩ := hdo
    exact ⟨o, es, ep, F.keep _ _ ho, r⟩
  have hD := N _ (List.Mem.head _)
  obtain ⟨o', es, ep, ho', r⟩ := id hdo
  have hdL : d ≠ env.locals := fun q => Nat.lt_irrefl _ (Nat.lt_of_lt_of_le (q ▸ Heap.lt_size ho') F.above)
  have hdD : d ≠ D := fun q => by have := hD.2.2; rw [← q, ho'] at this; cases this
  have hm : s.heap.DictAt (intKind prg w) d (intPairs vals) ep := ⟨o', es, F.keep _ _ ho', r⟩
  refine wpAny_For (wpAny_mono (wpAny_Call_items (E := fun _ _ => False) hdS hdo1 hbase hline ho (Q := fun v s₁ => v = .ref s.heap.objs.size ∧ s₁ = { s with heap := s.heap.push { cls := .type "dict_items", data := .fields #[.ref d] } }) ⟨rfl, rfl⟩) ?_ fun _ _ f => f.elim) hs
  rintro v s₁ ⟨rfl, rfl⟩
  refine wpAny_pyIter_items (knd := intKind prg w) (d := d) (kvs := intPairs vals) (ep := ep) ⟨_, Heap.get?_push_size _ rfl, rfl, rfl⟩ (hm.push _) ?_
  have hsz : (s.heap.push { cls := .type "dict_items", data := .fields #[.ref d] }).objs.size = s.heap.objs.size + 1 := Heap.size_push ..
  have hlen : (intPairs vals).length = Y.length := by rw [← eY]; simp [intPairs]
  have hitn : ∀ b ob, s.heap.get? b = some ob → b ≠ (s.heap.push { cls := .type "dict_items", data := .fields #[.ref d] }).objs.size := fun b ob e => by rw [hsz]; exact Nat.ne_of_lt (Nat.lt_succ_of_lt (Heap.lt_size e))
  refine codeAny_forLoop_items_frU (h₀ := h₀) (knd := intKind prg w) (d := d) (kvs := intPairs vals) (ep := ep) (m := m) (news := [(D, od)]) (R := fun r s' => match r with | .ok f => Q f s' | .error e => cameBackBy (model prg w) A env E e s') hh hxk hxv hp ?_ hdL ?_ ?_ ?_
    (Heap.get?_push_size _ rfl) ((hm.push _).push _) ((F.push _).push _) (News.up N fun b o e => Heap.get?_push_of_some _ (Heap.get?_push_of_some _ e)) (fun i m₁ news₁ => ∃ od₁ X₁, news₁ = [(D, od₁)] ∧ ObjD w od₁ X₁ ∧ J i m₁ X₁) ⟨od, X, rfl, hod, h0⟩ ?_ ?_
  · show (s.heap.push _).objs.size ≠ env.locals
    rw [hsz]; exact Nat.ne_of_gt (Nat.lt_succ_of_lt F.ns.lt)
  · exact hitn _ _ (F.keep _ _ ho')
  · cases q : h₀.get? (s.heap.push { cls := .type "dict_items", data := .fields #[.ref d] }).objs.size with
    | none => rfl
    | some z => exact absurd rfl (hitn _ _ (F.keep _ _ q))
  · intro p hp
    rw [List.mem_singleton.mp hp, List.mem_singleton]
    exact hitn _ _ hD.1
  · rintro i k v key m₁ news₁ s₁ own hv hkey ⟨od₁, X₁, rfl, hod₁, hJ⟩ hnw hown hm₁ F₁ N₁
    obtain ⟨tt, rfl⟩ : ∃ tt, key = .int k tt := isInt_ex hkey
    have hv' : ∃ y t, Y[i]? = some (k, y) ∧ v = .int y t := by
      simp only [intPairs, List.getElem?_map, Option.map_eq_some_iff] at hv
      obtain ⟨x, hx, e⟩ := hv
      cases e
      exact ⟨x.2.1, x.2.2, by rw [← eY, List.getElem?_map, hx]; rfl, rfl⟩
    obtain ⟨y, t, hy, rfl⟩ := hv'
    obtain ⟨h, g, dr, tk, os⟩ := s₁
    refine wpAny_mono (turn i k y t tt m₁ h g dr tk os od₁ own X₁ hy hJ hod₁ ?_ F₁ N₁) ?_ fun _ _ f => f.elim
    · intro p hp q
      rcases List.mem_cons.mp (hown p hp) with r | r
      · exact hitn _ _ hD.1 (q ▸ r)
      · exact hdD ((List.mem_singleton.mp r) ▸ q)
    · rintro f s₂ ⟨rfl, h', tk', m', od', X', rfl, F', N', hod', hJ'⟩
      refine ⟨rfl, h', tk', m', [(D, od')], rfl, F', N', ?_, od', X', rfl, hod', hJ'⟩
      intro p hp
      rw [List.mem_singleton.mp hp, List.mem_singleton]
      exact hitn _ _ hD.1
  · rintro h' tk m' news' F' N' _ ⟨od₁, X₁, rfl, hod₁, hJ⟩
    exact done m' h' tk od₁ X₁ (hlen ▸ hJ) hod₁ F' N'
end
end
section
open PySem PySem.W PyProof.Rows PySem.Calls
set_option maxRecDepth 100000
def addStep (X : List (Int × Int)) (p : Int × Int) : List (Int × Int) := match getI X p.1 with | some x => putI X p.1 (x + p.2) | none => putI X p.1 p.2
def addC (T U : List (Int × Int)) : List (Int × Int) := U.foldl addStep (T.foldl (fun X p => putI X p.1 p.2) [])
theorem fold_len1a : ∀ (l X : List (Int × Int)), (l.foldl (fun X p => putI X p.1 p.2) X).length ≤ X.length + l.length
  | [], X => by simp
  | p :: r, X => by
    rw [List.foldl_cons]
    have := fold_len1a r (putI X p.1 p.2)
    have := putI_len X p.1 p.2
    simp only [List.length_cons]
    omega
theorem fold_len1 {l : List (Int × Int)} {n : Nat} (h : l.length ≤ n) : (l.foldl (fun X p => putI X p.1 p.2) []).length ≤ n := by
  have := fold_len1a l []
  simp only [List.length_nil] at this
  omega
theorem addStep_len (X : List (Int × Int)) (p : Int × Int) : (addStep X p).length ≤ X.length + 1 := by unfold addStep; split <;> exact putI_len ..
theorem fold_len2 : ∀ (l X : List (Int × Int)), (l.foldl addStep X).length ≤ X.length + l.length
  | [], X => by simp
  | p :: r, X => by
    rw [List.foldl_cons]
    have := fold_len2 r (addStep X p)
    have := addStep_len X p
    simp only [List.length_cons]
    omega
set_option maxHeartbeats 8000000 in
theorem c_callers {w : World} {A : Around} {s : Shared} {Q E : Value → Shared → Prop} {a b : Addr} {T U : List (Int × Int)} (C : Cx w s.heap) (R' : Rm A 10 500) (ha : DT w s.heap a T) (hb : DT w s.heap b U) (haS : (a == sysModules) = false) (hbS : (b == sysModules) = false) (hT : T.length ≤ 100) (hU : U.length ≤ 100)
    (hfin : ∀ h' tk d, (∀ b o, s.heap.get? b = some o → h'.get? b = some o) → s.heap.get? d = none → (d == sysModules) = false → DT w h' d (addC T U) → Q (.ref d) { s with heap := h', toks := tk }) :
    wpAny (model prg w) A (call (.ref 88) [.ref a, .ref b]) Q E s := by
  refine enter (binds := [(Str.ofString "target", .ref a), (Str.ofString "source", .ref b)]) C (by with_unfolding_all rfl) (by with_unfolding_all rfl) (Nat.lt_of_le_of_lt (Nat.le_add_right _ _) R'.d) (BindsTo.of_eq rfl) (locs rfl) ?_ (Nat.succ_ne_zero _) rfl rfl rfl (by decide)
  intro L h₁ tk htk F N
  obtain ⟨mg, mb, TT⟩ := C.t
  have XX : (Mine.hd.heap_39 w.params).In s.heap := C.k
  walk_at "go3"
  walk1
  walk_at "go3"
  rename Fr _ _ _ _ => F1
  rename News _ _ _ _ => N1
  rename Obj.IsDictOf (intKind prg w) _ [] => hi
  rename (_ == sysModules) = false => hDS
  rename Addr => D
  have hod : ObjD w _ [] := ⟨[], rfl, hi⟩
  rename Obj.IsDictOf (PySem.strKind prg w) _ [] => hstr
  clear hstr hi
  refine forItems (Y := T) (D := D) (fun i m X => X = (T.take i).foldl (fun X p => putI X p.1 p.2) [] ∧ m (Str.ofString "new_callers") = some (.ref D) ∧ m (Str.ofString "source") = some (.ref b)) R'.h rfl rfl rfl ha haS F1 N1 hod ⟨rfl, rfl, rfl⟩ rfl rfl ?_ ?_ ?_
  · intro Q' hQ'
    walk_at "go3"
    exact hQ'
  · rintro i k v t tt m₁ h g dr tk os od own X hy ⟨eX, m1, m2⟩ hod hown F₁ N₁
    rw [← wL_eq (ps := [(Str.ofString "new_callers", .ref D), (Str.ofString "source", .ref b)]) (m := m₁) (by intro p hp; simp only [List.mem_cons, List.not_mem_nil, or_false] at hp; rcases hp with rfl | rfl <;> assumption)] at F₁
    walk_at "go3"
    refine set_int F₁ N₁ hown hod (by rw [eX]; exact fold_len1 (Nat.le_trans (List.length_take_le' _ _) (Nat.le_trans hT (by decide)))) ?_
    intro h2 od2 tk2 F2 N2 hod2
    show wpAny _ _ (execs _ _) _ _ _
    refine wpAny_execs_nil ⟨rfl, h2, _, _, od2, _, rfl, F2, N2, hod2, ?_, rfl, rfl⟩
    rw [eX, List.take_add_one, hy, List.foldl_append]
    rfl
  · rintro m₁ h tk od X ⟨eX, m1, m2⟩ hod F₁ N₁
    rw [← wL_eq (ps := [(Str.ofString "new_callers", .ref D), (Str.ofString "source", .ref b)]) (m := m₁) (by intro p hp; simp only [List.mem_cons, List.not_mem_nil, or_false] at hp; rcases hp with rfl | rfl <;> assumption)] at F₁
    rw [List.take_length] at eX
    show wpAny _ _ (execs _ _) _ _ _
    walk_at "go3"
    have hXl : X.length ≤ 100 := by rw [eX]; exact fold_len1 hT
    refine forItems (Y := U) (D := D) (fun i m Z => Z = (U.take i).foldl addStep X ∧ m (Str.ofString "new_callers") = some (.ref D)) R'.h rfl rfl rfl hb hbS F₁ N₁ hod ⟨rfl, rfl⟩ rfl rfl ?_ ?_ ?_
    · intro Q' hQ'
      walk_at "go3"
      exact hQ'
    · rintro i k v t tt m₁ h g dr tk os od own Z hy ⟨eZ, m1⟩ hod hown F₁ N₁
      rw [← wL_eq (ps := [(Str.ofString "new_callers", .ref D)]) (m := m₁) (by intro p hp; simp only [List.mem_cons, List.not_mem_nil, or_false] at hp; subst hp; assumption)] at F₁
      have hZl : Z.length ≤ 1000 := by
        rw [eZ]
        have := fold_len2 (U.take i) X
        have := List.length_take_le' i U
        omega
      have hD1 := (N₁ _ (List.mem_append_right _ (List.Mem.head _))).1
      have eS : ∀ Z', Z' = addStep Z (k, v) → Z' = (U.take (i + 1)).foldl addStep X := fun Z' e => by rw [e, eZ, List.take_add_one, hy, List.foldl_append]; rfl
      walk_at "go3"
      refine in_int hD1 hDS hod ?_
      walk_at "go3"
      cases hg : getI Z k with
      | none =>
        refine ite_neg (by simp) ?_
        walk_at "go3"
        refine set_int F₁ N₁ hown hod hZl ?_
        intro h2 od2 tk2 F2 N2 hod2
        show wpAny _ _ (execs _ _) _ _ _
        refine wpAny_execs_nil ?_
        show wpAny _ _ (execs _ _) _ _ _
        refine wpAny_execs_nil ⟨rfl, h2, _, _, od2, _, rfl, F2, N2, hod2, eS _ ?_, rfl⟩
        unfold addStep
        rw [hg]
      | some x =>
        refine ite_pos (by simp) ?_
        walk_at "go3"
        refine get_int hD1 hod hg ?_
        intro u
        walk_at "go3"
        refine set_int F₁ N₁ hown hod hZl ?_
        intro h2 od2 tk2 F2 N2 hod2
        show wpAny _ _ (execs _ _) _ _ _
        refine wpAny_execs_nil ?_
        show wpAny _ _ (execs _ _) _ _ _
        refine wpAny_execs_nil ?_
        show wpAny _ _ (execs _ _) _ _ _
        refine wpAny_execs_nil ⟨rfl, h2, _, _, od2, _, rfl, F2, N2, hod2, eS _ ?_, rfl⟩
        unfold addStep
        rw [hg]
    · rintro m₁ h tk od Z ⟨eZ, m1⟩ hod F₁ N₁
      rw [← wL_eq (ps := [(Str.ofString "new_callers", .ref D)]) (m := m₁) (by intro p hp; simp only [List.mem_cons, List.not_mem_nil, or_false] at hp; subst hp; assumption)] at F₁
      rw [List.take_length] at eZ
      show wpAny _ _ (execs _ _) _ _ _
      walk_at "go3"
      refine hfin _ _ D F₁.keep (N₁ _ (List.Mem.head _)).2.2 hDS ?_
      have := hod.dt (N₁ _ (List.Mem.head _)).1
      rw [eZ, eX] at this
      exact this
end
section
open PySem PySem.W PyProof.Rows PySem.Calls
set_option maxRecDepth 100000
section
variable {w : World} {A : Around} {E : Value → Shared → Prop} {s : Shared} {env : Env} {h₀ : Heap} {x : Str} {body : List Stmt} {m₀ : Str → Option Value}
theorem call_vals {o : Expr} {apos pos : Pos} {d : Addr} {kvs : List (Int × Value)} {Q : Value → Shared → Prop} (hdS : (d == sysModules) = false) (hm : s.heap.DictOf (intKind prg w) d kvs)
    (hbase : attributeBase o "values" env (eval o env) = eval o env) (hline : (apos.endLine == pos.line) = true)
    (ho : ∀ Q', Q' (.ref d) s → wpAny (model prg w) A (eval o env) Q' E s)
    (hQ : Q (.ref s.heap.objs.size) { s with heap := s.heap.push { cls := .type "dict_values", data := .fields #[.ref d] } }) :
    wpAny (model prg w) A (eval (.Call (.Attribute o "values" apos) [] [] pos) env) Q E s := by
  refine wpAny_Call_method (T := "dict") (id := "dict.values") hbase rfl hline F.plainAttrs_dict F.slot_dict_values F.type_dict_values (ho _ ⟨hm.typeIs, hm.mapOf.noDict, ?_⟩)
  show wpAny _ _ (callWith pos (.builtin "dict.values") [.ref d] [] []) Q E s
  exact method_meetsIn F.slot_dict_values F.entry_dict_values rfl (PySem.evalArgs_none ⟨rfl, hm.typeIs, F.args_dict_values_1 _, _, meets_dict_values (intKind prg w) d hdS, ⟨kvs, hm⟩, hQ⟩)
theorem iter_vals {Q : Flow → Shared → Prop} {v d : Addr} {Y : List (Int × Int)} (J : Nat → (Str → Option Value) → Prop) (hh : A.handled = none) (hv : s.heap.IsValuesView v d) (hd : DT w h₀ d Y) (F : Fr h₀ env.locals s.heap m₀) (hj : J 0 m₀)
    (turn : ∀ i k y t m₁ h tk own, Y[i]? = some (k, y) → J i m₁ → Fr h₀ env.locals h (fun y' => if y' = x then some (.int y t) else m₁ y') → News h₀ env.locals h own →
      wpAny (model prg w) A (execs body env) (SPost h₀ env.locals own (J (i + 1)) { s with heap := h, toks := tk } Q) E { s with heap := h, toks := tk })
    (done : ∀ m₁ h tk, J Y.length m₁ → Fr h₀ env.locals h m₁ → Q .next { s with heap := h, toks := tk }) :
    wpAny (model prg w) A (pyIter (.ref v)) (fun it s₂ => LoopAtV prg w A h₀ env x body Q E it s₂) E s := by
  obtain ⟨vals, eY, o', es, ep, ho', r⟩ := hd
  have hm : s.heap.DictAt (intKind prg w) d (intPairs vals) ep := ⟨o', es, F.keep _ _ ho', r⟩
  have hlen : (intPairs vals).length = Y.length := by rw [← eY]; simp [intPairs]
  refine wpAny_pyIter_values hv hm ?_
  have hne : d ≠ s.heap.objs.size := Nat.ne_of_lt hm.lt_size
  refine loopS J (Walks.dictValues (knd := intKind prg w) hh s.heap.objs.size d hne (intPairs vals) ep) ?_ ?_ ⟨⟨_, Heap.get?_push_size _ rfl, rfl, rfl⟩, hm.push _⟩ (F.push _) hj ?_ ?_
  · intro q
    rcases List.mem_cons.mp q with e | q
    · exact absurd F.ns.lt (e ▸ Nat.lt_irrefl _)
    · exact absurd F.above (by rw [List.mem_singleton.mp q]; exact Nat.not_le_of_lt (Heap.lt_size ho'))
  · intro b' hb
    rw [List.mem_singleton.mp hb]
    exact next_is_new F
  · rintro i v m₁ h tk own hi ⟨k, hx⟩ hJ F₁ N₁
    simp only [intPairs, List.getElem?_map, Option.map_eq_some_iff] at hx
    obtain ⟨z, hz, e⟩ := hx
    cases e
    exact turn i _ _ _ m₁ h tk own (by rw [← eY, List.getElem?_map, hz]; rfl) hJ F₁ N₁
  · intro m₁ h tk hJ F₁
    exact done m₁ h tk (hlen ▸ hJ) F₁
end
def sumV (X : List (Int × Int)) : Int := (X.map (·.2)).sum
theorem dictOf_keepF {w : World} {h h' : Heap} {a : Addr} {kvs : List (Int × Value)} (x : h.DictOf (intKind prg w) a kvs) (k : ∀ b o, h.get? b = some o → h'.get? b = some o) : h'.DictOf (intKind prg w) a kvs :=
  let ⟨o, es, ep, ho, r⟩ := x; ⟨o, es, ep, k _ _ ho, r⟩
set_option maxHeartbeats 8000000 in
theorem c_count {w : World} {A : Around} {s : Shared} {Q E : Value → Shared → Prop} {a : Addr} {T : List (Int × Int)} (C : Cx w s.heap) (R' : Rm A 10 500) (ha : DT w s.heap a T) (haS : (a == sysModules) = false)
    (hfin : ∀ h' tk t', (∀ b o, s.heap.get? b = some o → h'.get? b = some o) → Q (.int (sumV T) t') { s with heap := h', toks := tk }) :
    wpAny (model prg w) A (call (.ref 95) [.ref a]) Q E s := by
  refine enter (binds := [(Str.ofString "callers", .ref a)]) C (by with_unfolding_all rfl) (by with_unfolding_all rfl) (Nat.lt_of_le_of_lt (Nat.le_add_right _ _) R'.d) (BindsTo.of_eq rfl) (locs rfl) ?_ (Nat.succ_ne_zero _) rfl rfl rfl (by decide)
  intro L h₁ tk htk F N
  obtain ⟨mg, mb, TT⟩ := C.t
  have XX : (Mine.hd.heap_39 w.params).In s.heap := C.k
  walk_at "go3"
  refine For_invV s.heap rfl rfl ?_
  rename Fr _ _ _ _ => F1
  have had := ha
  obtain ⟨vals, eY, hdo⟩ := ha
  refine call_vals haS (dictOf_keepF (w := w) hdo F1.keep) rfl rfl ?_ ?_
  · intro Q' hQ'
    walk_at "go3"
    exact hQ'
  · refine iter_vals (Y := T) (d := a) (fun i m => ∃ t, m (Str.ofString "nc") = some (.int (sumV (T.take i)) t)) R'.h ⟨_, Heap.get?_push_size _ rfl, rfl, rfl⟩ had (F1.push _) ⟨_, rfl⟩ ?_ ?_
    · rintro i k y t m₁ h tk own hy ⟨u, m1⟩ F₁ N₁
      rw [← wL_eq (ps := [(Str.ofString "nc", .int (sumV (T.take i)) u)]) (m := m₁) (by intro p hp; simp only [List.mem_cons, List.not_mem_nil, or_false] at hp; subst hp; assumption)] at F₁
      walk_at "go3"
      rename Fr _ _ _ _ => F'
      rename News _ _ _ _ => N'
      have e : sumV (T.take (i + 1)) = sumV (T.take i) + y := by
        rw [List.take_add_one, hy]
        simp [sumV]
      exact ⟨_, _, _, rfl, F', N', _, by rw [e]; rfl⟩
    · rintro m₁ h tk ⟨u, m1⟩ F₁
      rw [List.take_length] at m1
      rw [← wL_eq (ps := [(Str.ofString "nc", .int (sumV T) u)]) (m := m₁) (by intro p hp; simp only [List.mem_cons, List.not_mem_nil, or_false] at hp; subst hp; assumption)] at F₁
      show wpAny _ _ (execs _ _) _ _ _
      walk_at "go3"
      exact hfin _ _ _ F₁.keep
end
section
open PySem PySem.W PyProof.Rows PySem.Calls
set_option maxRecDepth 100000
section
variable {w : World} {A : Around} {E : Value → Shared → Prop} {s : Shared} {env : Env} {h₀ : Heap} {m : Str → Option Value} {news : List (Addr × Obj)}
theorem unpack5 {x1 x2 x3 x4 x5 : Str} {p1 p2 p3 p4 p5 pt : Pos} {c : Nat} {b : Addr} {v1 v2 v3 v4 v5 : Value} {Q : Unit → Shared → Prop} (hh : A.handled = none) (ht : s.heap.IsTuple b #[v1, v2, v3, v4, v5])
    (k1 : env.kindOf x1 = some .local) (k2 : env.kindOf x2 = some .local) (k3 : env.kindOf x3 = some .local) (k4 : env.kindOf x4 = some .local) (k5 : env.kindOf x5 = some .local)
    (hp : (env.scope.kind == .class || (env.scope.kind == .module && env.locals != env.globals)) = false)
    (F : Fr h₀ env.locals s.heap m) (N : News h₀ env.locals s.heap news)
    (h : ∀ h' tk, Fr h₀ env.locals h' (fun y => if y = x5 then some v5 else if y = x4 then some v4 else if y = x3 then some v3 else if y = x2 then some v2 else if y = x1 then some v1 else m y) → News h₀ env.locals h' news → Q () { s with heap := h', toks := tk }) :
    wpAny (model prg w) A (assign (.Tuple [.Name x1 p1, .Name x2 p2, .Name x3 p3, .Name x4 p4, .Name x5 p5] c pt) env (.ref b)) Q E s := by
  refine wpAny_assign_Tuple hh ht rfl rfl fun h₃ hx₃ => ?_
  replace hx₃ : Heap.ExtBut s.heap.objs.size s.heap h₃ := hx₃
  have up₃ : ∀ b o, s.heap.get? b = some o → h₃.get? b = some o := fun b o x => hx₃ b o (Nat.ne_of_lt (Heap.lt_size x)) x
  have F₃ := Fr.up F up₃
  have N₃ := News.up N up₃
  show wpAny _ A (do holding [v2, v3, v4, v5] (assign (.Name x1 p1) env v1); do holding [v3, v4, v5] (assign (.Name x2 p2) env v2); do holding [v4, v5] (assign (.Name x3 p3) env v3); do holding [v5] (assign (.Name x4 p4) env v4); do holding [] (assign (.Name x5 p5) env v5); pure ()) _ _ _
  refine wpAny_bind (wpAny_holding (wpAny_assign_Name (wpAny_storeName_local k1 F₃.ns (fun h₄ hn₄ hs₄ => ?_) hp)))
  have F₄ := F₃.set hn₄ hs₄
  have N₄ := N₃.set hs₄
  refine wpAny_bind (wpAny_holding (wpAny_assign_Name (wpAny_storeName_local k2 F₄.ns (fun h₅ hn₅ hs₅ => ?_) hp)))
  have F₅ := F₄.set hn₅ hs₅
  have N₅ := N₄.set hs₅
  refine wpAny_bind (wpAny_holding (wpAny_assign_Name (wpAny_storeName_local k3 F₅.ns (fun h₆ hn₆ hs₆ => ?_) hp)))
  have F₆ := F₅.set hn₆ hs₆
  have N₆ := N₅.set hs₆
  refine wpAny_bind (wpAny_holding (wpAny_assign_Name (wpAny_storeName_local k4 F₆.ns (fun h₇ hn₇ hs₇ => ?_) hp)))
  have F₇ := F₆.set hn₇ hs₇
  have N₇ := N₆.set hs₇
  refine wpAny_bind (wpAny_holding (wpAny_assign_Name (wpAny_storeName_local k5 F₇.ns (fun h₈ hn₈ hs₈ => wpAny_pure ?_) hp)))
  exact h h₈ _ (F₇.set hn₈ hs₈) (N₇.set hs₈)
end
def EntN (w : World) (h₀ h : Heap) (a : Addr) (e : Ent) : Prop := ∃ d u1 u2 u3 u4, h₀.get? d = none ∧ (d == sysModules) = false ∧ h.IsTuple a #[.int e.n1 u1, .int e.n2 u2, .int e.n3 u3, .int e.n4 u4, .ref d] ∧ DT w h d e.D
def addE (t e : Ent) : Ent := ⟨e.n1 + t.n1, e.n2 + t.n2, e.n3 + t.n3, e.n4 + t.n4, addC t.D e.D⟩
set_option maxHeartbeats 8000000 in
theorem c_add {w : World} {A : Around} {s : Shared} {Q E : Value → Shared → Prop} {a b : Addr} {t e : Ent} (C : Cx w s.heap) (R' : Rm A 20 1000) (ha : EntAt w s.heap a t) (hb : EntAt w s.heap b e) (hT : t.D.length ≤ 100) (hU : e.D.length ≤ 100)
    (hfin : ∀ h' tk d, (∀ b o, s.heap.get? b = some o → h'.get? b = some o) → s.heap.get? d = none → EntN w s.heap h' d (addE t e) → Q (.ref d) { s with heap := h', toks := tk }) :
    wpAny (model prg w) A (call (.ref 81) [.ref a, .ref b]) Q E s := by
  refine enter (binds := [(Str.ofString "target", .ref a), (Str.ofString "source", .ref b)]) C (by with_unfolding_all rfl) (by with_unfolding_all rfl) (Nat.lt_of_le_of_lt (Nat.le_add_right _ _) R'.d) (BindsTo.of_eq rfl) (locs rfl) ?_ (Nat.succ_ne_zero _) rfl rfl rfl (by decide)
  intro L h₁ tk htk F N
  obtain ⟨mg, mb, TT⟩ := C.t
  have XX : (Mine.hd.heap_39 w.params).In s.heap := C.k
  have CX : Cx w s.heap := C
  obtain ⟨da, u1, u2, u3, u4, haS, hta, hda⟩ := ha
  obtain ⟨db, v1, v2, v3, v4, hbS, htb, hdb⟩ := hb
  walk_at "go3"
  rename Fr _ _ _ _ => F1
  rename News _ _ _ _ => N1
  refine unpack5 R'.h (htb.at fun o e => F1.keep _ _ e) rfl rfl rfl rfl rfl rfl F1 N1 ?_
  intro h2 tk2 F2 N2
  walk_at "go3"
  rename Fr _ _ _ _ => F3
  rename News _ _ _ _ => N3
  refine unpack5 R'.h (hta.at fun o e => F3.keep _ _ e) rfl rfl rfl rfl rfl rfl F3 N3 ?_
  intro h4 tk4 F4 N4
  walk_at "go3"
  rename Fr _ _ _ _ => F5
  rename News _ _ _ _ => N5
  refine c_callers (CX.keeps F5.keep) (R'.deep (by decide) (by decide) _) (hda.at fun o e => F5.keep _ _ e) (hdb.at fun o e => F5.keep _ _ e) haS hbS hT hU ?_
  intro h6 tk6 d k6 hd6 hdS hD6
  have F6 := Fr.up F5 k6
  have N6 := News.up N5 k6
  have hd0 : s.heap.get? d = none := by
    cases q : s.heap.get? d with
    | none => rfl
    | some o => have := F5.keep _ _ q; rw [hd6] at this; cases this
  have hdL : d ≠ L := fun q => by
    obtain ⟨o, es, ep, e, _⟩ := F5.ns
    rw [q] at hd6
    exact absurd (hd6.symm.trans e) (by simp)
  obtain ⟨od, hod, _⟩ := hD6.obj
  have N7 : News s.heap L h6 [(d, od)] := fun p hp => by rw [List.mem_singleton.mp hp]; exact ⟨hod, hdL, hd0⟩
  clear F5 N5 N6
  walk_at "go3"
  rename Fr _ _ _ _ => F8
  rename News _ _ _ _ => N8
  refine hfin _ _ _ F8.keep (N8 _ (List.Mem.head _)).2.2 ?_
  exact ⟨d, _, _, _, _, hd0, hdS, ⟨_, (N8 _ (List.Mem.head _)).1, rfl, _, rfl⟩, hD6.news hod N8 (List.Mem.tail _ (List.Mem.head _))⟩
end
section
open PySem PySem.W PyProof.Rows PySem.Calls
set_option maxRecDepth 100000
section
variable {w : World} {A : Around} {E : Value → Shared → Prop} {s : Shared} {env : Env} {h₀ : Heap} {x : Str} {body : List Stmt} {m₀ : Str → Option Value}
theorem iter_tup {Q : Flow → Shared → Prop} {b : Addr} {vs : List Value} (J : Nat → (Str → Option Value) → Prop) (hh : A.handled = none) (hl : s.heap.IsTuple b vs.toArray) (hbL : b ≠ env.locals) (F : Fr h₀ env.locals s.heap m₀) (hj : J 0 m₀)
    (turn : ∀ i v m₁ h tk own, vs[i]? = some v → J i m₁ → Fr h₀ env.locals h (fun y' => if y' = x then some v else m₁ y') → News h₀ env.locals h own →
      wpAny (model prg w) A (execs body env) (SPost h₀ env.locals own (J (i + 1)) { s with heap := h, toks := tk } Q) E { s with heap := h, toks := tk })
    (done : ∀ m₁ h tk, J vs.length m₁ → Fr h₀ env.locals h m₁ → Q .next { s with heap := h, toks := tk }) :
    wpAny (model prg w) A (pyIter (.ref b)) (fun it s₂ => LoopAtV prg w A h₀ env x body Q E it s₂) E s := by
  have hlt : b < s.heap.objs.size := by obtain ⟨o, ho, _⟩ := hl; exact Heap.lt_size ho
  refine wpAny_pyIter_tuple hl ?_
  refine loopS J (Walks.tuple hh s.heap.objs.size b (Nat.ne_of_lt hlt) vs.toArray) ?_ ?_ (And.intro ⟨_, Heap.get?_push_size _ rfl, rfl, rfl⟩ (hl.at fun o e => Heap.get?_push_of_some _ e)) (F.push _) hj ?_ ?_
  · intro q
    rcases List.mem_cons.mp q with e | q
    · exact absurd F.ns.lt (e ▸ Nat.lt_irrefl _)
    · exact hbL (List.mem_singleton.mp q).symm
  · intro b' hb
    rw [List.mem_singleton.mp hb]
    exact next_is_new F
  · rintro i v m₁ h tk own hi hv hJ F₁ N₁
    exact turn i v m₁ h tk own (by simpa using hv) hJ F₁ N₁
  · intro m₁ h tk hJ F₁
    exact done m₁ h tk (by simpa using hJ) F₁
end
section
variable {w : World} {A : Around} {E : Value → Shared → Prop} {s : Shared} {D : Addr} {X : List (Int × Int)} {od : Obj}
theorem sub_int {value slice : Expr} {k x : Int} {t : Tok} {Q : Value → Shared → Prop} (hd : s.heap.get? D = some od) (hod : ObjD w od X) (hx : getI X k = some x) (h : ∀ u, Q (.int x u) { s with toks := s.toks + 1 })
    (hs : subscripted slice false (.ref D) (.int k t) = operate [.ref D, .int k t] (getItem (.ref D) (.int k t)) := by with_unfolding_all rfl) (hg : ∀ r, letTemporaryGo value (.ref D) r = pure () := by intro _; with_unfolding_all rfl) :
    wpAny (model prg w) A (subscriptTail value slice (.ref D) (.int k t)) Q E s := by
  have hT : s.TypeIs (.ref D) "dict" := by
    obtain ⟨vals, e, q⟩ := hod
    exact (Heap.dictOf_iff.mpr ⟨od, hd, q⟩ : s.heap.DictOf (intKind prg w) D (intPairs vals)).typeIs
  exact subscriptTail_ops hT (PySem.F.slot_dict_getitem).lookup (get_int hd hod hx h) hs hg
end
def turnE (t more : Int) : Nat := ((t * (5 * t + 1 - 4 * more)).fdiv 2).toNat
def turnK (n t more : Int) : Int := (n - 5 * t).fdiv 2 + more
def turnStep (T : List (Int × Int)) (n b more : Int) (r t : Int) : Int := match getI T (turnK n t more) with
  | some x => if t = 0 then r + b ^ (turnE t more) * x else r - b ^ (turnE t more) * x
  | none => r
def turnsF (T : List (Int × Int)) (n b more : Int) : Int := [-1, 0, 1].foldl (turnStep T n b more) 0
theorem turn_none {T : List (Int × Int)} {n b more r t : Int} (hg : getI T ((n - 5 * t).fdiv 2 + more) = none) : turnStep T n b more r t = r := by
  unfold turnStep turnK; rw [hg]
theorem turn_zero {T : List (Int × Int)} {n b more r t x : Int} (hg : getI T ((n - 5 * t).fdiv 2 + more) = some x) (h0 : t = 0) : turnStep T n b more r t = r + b ^ (turnE t more) * x := by
  unfold turnStep turnK; rw [hg]; exact if_pos h0
theorem turn_one {T : List (Int × Int)} {n b more r t x : Int} (hg : getI T ((n - 5 * t).fdiv 2 + more) = some x) (h0 : ¬ t = 0) : turnStep T n b more r t = r - b ^ (turnE t more) * x := by
  unfold turnStep turnK; rw [hg]; exact if_neg h0
set_option maxHeartbeats 1000000 in
theorem c_turns {w : World} {A : Around} {s : Shared} {Q E : Value → Shared → Prop} {a : Addr} {T : List (Int × Int)} {n : Nat} {b more : Int} {t1 t2 t3 : Tok} (C : Cx w s.heap) (R' : Rm A 10 500) (ha : DT w s.heap a T) (haS : (a == sysModules) = false) (hn : n ≤ 5) (hb : b.natAbs ≤ 1000) (hm : more = 0 ∨ more = 1)
    (hfin : ∀ h' tk t', (∀ b o, s.heap.get? b = some o → h'.get? b = some o) → Q (.int (turnsF T n b more) t') { s with heap := h', toks := tk }) :
    wpAny (model prg w) A (call (.ref 157) [.ref a, .int (n : Int) t1, .int b t2, .int more t3]) Q E s := by
  refine enter (binds := [(Str.ofString "table", .ref a), (Str.ofString "size", .int (n : Int) t1), (Str.ofString "base", .int b t2), (Str.ofString "more", .int more t3)]) C (by with_unfolding_all rfl) (by with_unfolding_all rfl) (Nat.lt_of_le_of_lt (Nat.le_add_right _ _) R'.d) (BindsTo.of_eq rfl) (locs rfl) ?_ (Nat.succ_ne_zero _) rfl rfl rfl (by decide)
  intro L h₁ tk htk F N
  obtain ⟨mg, mb, TT⟩ := C.t
  have XX : (Mine.hd.heap_39 w.params).In s.heap := C.k
  walk_at "go3"
  refine For_invV s.heap rfl rfl ?_
  walk_at "go3"
  rename Fr _ _ _ _ => F1
  rename News _ _ _ _ => N1
  have htp := N1 _ (List.Mem.head _)
  refine iter_tup (fun i m => ∃ t t1 t2 t3 , m (Str.ofString "result") = some (.int (([-1, 0, 1].take i).foldl (turnStep T n b more) 0) t) ∧ m (Str.ofString "table") = some (.ref a) ∧ m (Str.ofString "size") = some (.int (n : Int) t1) ∧ m (Str.ofString "base") = some (.int b t2) ∧ m (Str.ofString "more") = some (.int more t3)) R'.h
    (vs := [.int (-1) _, .int 0 _, .int 1 _]) ⟨_, htp.1, rfl, _, rfl⟩ htp.2.1 F1 ⟨_, _, _, _, rfl, rfl, rfl, rfl, rfl⟩ ?_ ?_
  · rintro i v m₁ h tk own hv ⟨u, u1, u2, u3, m1, m2, m3, m4, m5⟩ F₁ N₁
    obtain ⟨t, ut, ht, rfl, ht2⟩ : ∃ t ut, ([-1, 0, 1] : List Int)[i]? = some t ∧ v = .int t ut ∧ (t = -1 ∨ t = 0 ∨ t = 1) := by
      match i, hv with
      | 0, e => exact ⟨-1, _, rfl, by simpa using e.symm, .inl rfl⟩
      | 1, e => exact ⟨0, _, rfl, by simpa using e.symm, .inr (.inl rfl)⟩
      | 2, e => exact ⟨1, _, rfl, by simpa using e.symm, .inr (.inr rfl)⟩
      | i + 3, e => simp at e
    have eS : ([-1, 0, 1].take (i + 1)).foldl (turnStep T n b more) 0 = turnStep T n b more (([-1, 0, 1].take i).foldl (turnStep T n b more) 0) t := by
      rw [List.take_add_one, ht, List.foldl_append]; rfl
    dsimp only
    generalize ([-1, 0, 1].take (i + 1)).foldl (turnStep T n b more) 0 = z at eS ⊢
    generalize ([-1, 0, 1].take i).foldl (turnStep T n b more) 0 = r0 at m1 eS
    rw [← wL_eq (ps := [(Str.ofString "result", .int r0 u), (Str.ofString "table", .ref a), (Str.ofString "size", .int (n : Int) u1), (Str.ofString "base", .int b u2), (Str.ofString "more", .int more u3)]) (m := m₁)
      (by intro p hp; simp only [List.mem_cons, List.not_mem_nil, or_false] at hp; rcases hp with rfl | rfl | rfl | rfl | rfl <;> assumption)] at F₁
    walk_at "go3"
    refine mulI (.inl (by decide)) ?_
    walk_at "go3"
    have hda := (ha.at fun o e => F₁.keep _ _ e)
    rename Fr _ _ _ _ => F2
    obtain ⟨od, hod0, hod⟩ := ha.obj
    refine in_int (F2.keep _ _ hod0) haS hod ?_
    walk_at "go3"
    cases hg : getI T ((n - 5 * t : Int).fdiv 2 + more) with
    | none =>
      refine ite_neg (by simp) ?_
      walk_at "go3"
      rename Fr _ _ _ _ => F'
      rename News _ _ _ _ => N'
      have e := (eS.trans (turn_none hg)).symm
      subst e
      exact ⟨_, _, _, rfl, F', N', _, _, _, _, rfl, rfl, rfl, rfl, rfl⟩
    | some x =>
      refine ite_pos (by simp) ?_
      walk_at "go3"
      refine mulI (.inl (by decide)) ?_
      walk_at "go3"
      refine mulI (.inl (by decide)) ?_
      walk_at "go3"
      refine mulI (.inl (by rcases ht2 with rfl | rfl | rfl <;> decide)) ?_
      walk_at "go3"
      have hE : (t * (5 * t + 1 - 4 * more)).fdiv 2 = (turnE t more : Nat) ∧ turnE t more ≤ 6 := by rcases ht2 with rfl | rfl | rfl <;> rcases hm with rfl | rfl <;> decide
      refine powI (k := turnE t more) hE.1 (by omega) (by omega) ?_
      walk_at "go3"
      rename Fr _ _ _ _ => F3
      refine sub_int (F3.keep _ _ hod0) hod hg ?_
      intro u5
      walk_at "go3"
      have hpw := pow_lt hb hE.2
      refine mulI (.inl (by omega)) ?_
      walk_at "go3"
      have e : z = if t = 0 then r0 + b ^ (turnE t more) * x else r0 - b ^ (turnE t more) * x := by
        by_cases h0 : t = 0
        · rw [if_pos h0]; exact eS.trans (turn_zero hg h0)
        · rw [if_neg h0]; exact eS.trans (turn_one hg h0)
      refine join_int (x := if t = 0 then r0 + b ^ (turnE t more) * x else r0 - b ^ (turnE t more) * x) ?_ ?_ ?_
      · intro hc K' hK
        rw [if_pos (by simpa using hc)] at hK
        walk_at "go3"
        exact hK _ _
      · intro hc K' hK
        rw [if_neg (by simpa using hc)] at hK
        walk_at "go3"
        exact hK _ _
      intro t7 tk7
      rw [← e]
      walk_at "go3"
      rename Fr _ _ _ _ => F'
      rename News _ _ _ _ => N'
      exact ⟨_, _, _, rfl, F', N', _, _, _, _, rfl, rfl, rfl, rfl, rfl⟩
  · rintro m₁ h tk ⟨u, u1, u2, u3, m1, m2, m3, m4, m5⟩ F₁
    rw [← wL_eq (ps := [(Str.ofString "result", .int (turnsF T n b more) u)]) (m := m₁) (by intro p hp; simp only [List.mem_cons, List.not_mem_nil, or_false] at hp; subst hp; assumption)] at F₁
    show wpAny _ _ (execs _ _) _ _ _
    walk_at "go3"
    exact hfin _ _ _ F₁.keep
end
section
open PySem PySem.W PyProof.Rows PySem.Calls
set_option maxRecDepth 100000
theorem loopCell {w : World} {A : Around} {s : Shared} {env : Env} {E : Value → Shared → Prop} {Q : Flow → Shared → Prop} {I : Addr} {fp wr : List Addr} {n : Nat} {P : Nat → Value → Prop} {St : Nat → Heap → Prop} (W : Walks prg w A I fp wr n P St) {x : Str} {px : Pos} {body : List Stmt} {c : Addr}
    (hk : env.scope.kind = .function) (hl : env.kindOf x = some .cell) (hc : env.cells.lookup x = some c) (J : Nat → Heap → Prop) (hst : St 0 s.heap) (hj : J 0 s.heap) (hcf : c ∉ fp) (hlive : ∀ i h, St i h → ∀ b ∈ wr, ∃ o, h.get? b = some o)
    (hJc : ∀ i h, J i h → ∃ v, h.IsCell c v) (hJs : ∀ i h h', J i h → (∀ b o, b ∉ wr → h.get? b = some o → h'.get? b = some o) → J i h')
    (turn : ∀ i v h₁ h tk, i < n → P i v → J i h₁ → h.IsCell c (some v) → Heap.SameBut c h₁ h → (∀ b ∈ wr, ∃ o, h.get? b = some o) →
      wpAny (model prg w) A (execs body env) (fun f s₂ => f = .next ∧ ∃ h' tk', s₂ = { s with heap := h', toks := tk' } ∧ (∀ b ∈ fp, ∀ o, h.get? b = some o → h'.get? b = some o) ∧ J (i + 1) h') (fun _ _ => False) { s with heap := h, toks := tk })
    (done : ∀ h tk, J n h → Q .next { s with heap := h, toks := tk }) :
    codeAny (model prg w) A (.forLoop (.Name x px) (.ref I) body [] env) (fun r s' => match r with | .ok f => Q f s' | .error e => cameBackBy (model prg w) A env E e s') s := by
  refine codeAny_forLoop_any (fun k s' => ∃ h' tk' i, s' = { s with heap := h', toks := tk' } ∧ St i h' ∧ J i h' ∧ i ≤ n ∧ k = n + 1 - i) ?_ (n + 1) ⟨s.heap, s.toks, 0, rfl, hst, hj, Nat.zero_le _, rfl⟩
  rintro k s' ⟨H, tk, i, rfl, hst', hJ, hi, rfl⟩
  have hcw : c ∉ wr := fun h => hcf (W.sub _ h)
  by_cases hlt : i < n
  · refine W.item i _ _ _ hlt hst' fun v h₁ tk₁ hPv hst₁ hk₁ => ?_
    refine wpAny_of_eq (show letOwnedTupleGo (.Name x px) (.ref I) v = pure () from rfl) ?_
    have hJ₁ : J i h₁ := hJs _ _ _ hJ hk₁
    obtain ⟨v₀, hv₀⟩ := hJc _ _ hJ₁
    refine wpAny_assign_Name (wpAny_storeName_cell hk hl hc hv₀ fun h₂ hv hs => ?_)
    refine wpAny_mono (turn i v h₁ h₂ _ hlt hPv hJ₁ hv hs fun b hb => by obtain ⟨o, e⟩ := hlive _ _ hst₁ b hb; exact ⟨o, hs.extBut b o (fun q => hcw (q ▸ hb)) e⟩) (fun f s₂ q => ?_) fun _ _ f => f.elim
    obtain ⟨rfl, h', tk', rfl, hfp, hJ'⟩ := q
    refine ⟨n + 1 - (i + 1), by omega, h', tk', i + 1, rfl, ?_, hJ', hlt, rfl⟩
    exact W.frame _ _ _ hst₁ fun b hb o e => hfp b hb o (hs.extBut b o (fun q => hcf (q ▸ hb)) e)
  · have hin : i = n := by omega
    subst hin
    exact W.done _ _ _ hst' fun h₁ tk₁ hk₁ => wpAny_execs_nil (done h₁ tk₁ (hJs _ _ _ hJ hk₁))
theorem i4 {L I : Nat} (h : L + 1 + 1 + 1 < I) : L ≠ I ∧ L + 1 ≠ I ∧ L + 1 + 1 ≠ I ∧ L + 1 + 1 + 1 ≠ I := by omega
theorem ints_get {vs : List Value} {xs : List Int} (h : IntsAre vs xs) : ∀ {k : Nat}, k < xs.length → ∃ t, vs[k]? = some (.int (xs.getD k 0) t) := by
  induction h with
  | nil => intro k e; simp at e
  | cons y t _ ih =>
    intro k e
    cases k with
    | zero => exact ⟨t, rfl⟩
    | succ k => obtain ⟨t', e'⟩ := ih (k := k) (by simpa using e); exact ⟨t', by simpa using e'⟩
theorem ints_next {vs : List Value} {f : Nat → Int} {k : Nat} {x : Int} {t : Tok} (h : IntsAre vs ((List.range k).map f)) (e : x = f k) : IntsAre (vs ++ [.int x t]) ((List.range (k + 1)).map f) := by
  rw [List.range_succ, List.map_append, e]
  exact ints_snoc h
theorem i5 {L I D : Nat} (h : L + 1 + 1 + 1 < I) (h' : I < D) : L + 1 + 1 ≠ D ∧ L + 1 + 1 + 1 < D := by omega
theorem i6 {N L I D : Nat} (h0 : N ≤ L) (h : L + 1 + 1 + 1 < I) (h' : I < D) : N ≤ D := by omega
def elF (b : Int) (T : List Int) (i k : Nat) : Int := (if k ≤ i then b ^ k * T.getD k 0 else 0) + (if 0 < k then T.getD (k - 1) 0 else 0)
section
variable {w : World} {A : Around} {env : Env}
/-- a dict comprehension of one clause; the new dict stands beyond all that stood -/
theorem eval_dcomp {K : Type} [DecidableEq K] {s : Shared} {E : Value → Shared → Prop} {kx vx iter : Expr} {x : Str} {px : Pos} {scope : Scope} {cl : List (Str × Addr)} {pos : Pos} {Q : Value → Shared → Prop} (knd : KeyKind prg w K) (FK : Value → K → Prop) (FV : Value → Value → Prop)
    (hclos : closureFor scope env = pure cl) (hcell : ∀ y ∈ scope.names, y.2 ≠ .cell) (hkind : scope.kind = .function)
    (hnames : ∀ y ∈ scope.names, y.2 = .local → scope.names.lookup y.1 = some .local) (hx : scope.names.lookup x = some .local)
    (h : wpAny (model prg w) A (eval iter env) (fun xv s₁ => wpAny (model prg w) A (pyIter xv) (fun it s₂ => ∃ I fp wr n P St, it = .ref I ∧ Walks prg w A I fp wr n P St ∧ n ≤ sizeLine ∧ St 0 s₂.heap ∧ (∀ b ∈ fp, b < s₂.heap.objs.size) ∧
      (∀ C i v s₃ m₃ E', P i v → s₃.heap.Ns C m₃ → m₃ x = some v → (∀ b o, b ∉ wr → s₂.heap.get? b = some o → s₃.heap.get? b = some o) →
        wpAny (model prg w) A (eval kx (compEnvC scope cl C env)) (fun key s₄ => (∃ k, knd.is k key = true ∧ FK v k) ∧ Keeps s₃ s₄) E' s₃) ∧
      (∀ C i v s₃ m₃ E', P i v → s₃.heap.Ns C m₃ → m₃ x = some v → (∀ b o, b ∉ wr → s₂.heap.get? b = some o → s₃.heap.get? b = some o) →
        wpAny (model prg w) A (eval vx (compEnvC scope cl C env)) (fun y s₄ => FV v y ∧ Keeps s₃ s₄) E' s₃) ∧
      (∀ D h' tk kvs (vs : List Value), s₂.heap.objs.size ≤ D → h'.DictOf knd D kvs → vs.length = n → (∀ j v, vs[j]? = some v → P j v) → StoredAll FK FV vs kvs →
        (∀ b o, b ∉ wr → s₂.heap.get? b = some o → h'.get? b = some o) → Q (.ref D) { s₂ with heap := h', toks := tk })) E s₁) E s)
    (hs : ∀ x, foldedSetIterable iter env x = pure x := by intro _; rfl) :
    wpAny (model prg w) A (eval (.DictComp kx vx [⟨.Name x px, iter, [], 0⟩] scope pos) env) Q E s := by
  rw [arm_eval_DictComp]
  refine wpAny_comprehension_free (use := none) rfl hs hclos hkind hnames (wpAny_mono h (fun xv s₁ h₁ => wpAny_mono h₁ (fun it s₂ h₂ => ?_) fun _ _ e => e) fun _ _ e => e)
  obtain ⟨I, fp, wr, n, P, St, rfl, W, hsz, hst, hfp, hkey, hval, hQ⟩ := h₂
  refine wpAny_newObj_type (wpAny_newFunctionEnv hcell (by intro y hy; simp at hy) (fun h₁ hns₁ hsb₁ => ?_) hkind)
  dsimp only at hns₁ hsb₁ ⊢
  have hnew : (s₂.heap.push { cls := .type "dict", dict := none, data := .dict #[] }).DictOf knd s₂.heap.objs.size [] := Heap.DictOf.new s₂.heap
  generalize hH2 : s₂.heap.push { cls := .type "dict", dict := none, data := .dict #[] } = H2 at hns₁ hsb₁ hnew ⊢
  have hC : H2.objs.size = s₂.heap.objs.size + 1 := by rw [← hH2, Heap.size_push]
  have hDC : s₂.heap.objs.size ≠ H2.objs.size := by rw [hC]; exact Nat.ne_of_lt (Nat.lt_succ_self _)
  have below : ∀ b, b < s₂.heap.objs.size → b ≠ H2.objs.size ∧ b ≠ s₂.heap.objs.size := fun b hb => ⟨by rw [hC]; exact Nat.ne_of_lt (Nat.lt_succ_of_lt hb), Nat.ne_of_lt hb⟩
  have hDf : s₂.heap.objs.size ∉ fp := fun hm => Nat.lt_irrefl _ (hfp _ hm)
  have hCf : H2.objs.size ∉ fp := fun hm => by have := hfp _ hm; rw [hC] at this; exact Nat.lt_irrefl _ (Nat.lt_of_succ_lt this)
  have old : ∀ b o, s₂.heap.get? b = some o → h₁.get? b = some o := fun b o e => hsb₁.extBut b o (below b (Heap.lt_size e)).1 (Heap.get?_push_of_some _ (hH2 ▸ Heap.get?_push_of_some _ e))
  have hacc : h₁.DictOf knd s₂.heap.objs.size [] := hnew.at fun o e => hsb₁.extBut _ _ hDC (Heap.get?_push_of_some _ e)
  have hst₁ : St 0 h₁ := W.frame _ _ _ hst fun b _ o e => old b o e
  have loop : ∀ s₃ : Shared, s₃ = { s₂ with heap := h₁, toks := s₂.toks + ([] : List (Str × Value)).length } →
      codeAny (model prg w) A (.compLoop (.DictComp kx vx [⟨.Name x px, iter, [], 0⟩] scope pos) 0 (.ref I) (.ref s₂.heap.objs.size) (compEnvC scope cl H2.objs.size env))
        (compPost (model prg w) A E none Q (.ref s₂.heap.objs.size) H2.objs.size) s₃ := by
    rintro s₃ rfl
    have up : ∀ (s₃ : Shared), (∀ b o, b ≠ H2.objs.size → b ∉ wr → b ≠ s₂.heap.objs.size → h₁.get? b = some o → s₃.heap.get? b = some o) → ∀ b o, b ∉ wr → s₂.heap.get? b = some o → s₃.heap.get? b = some o :=
      fun s₃ hk b o hbf e => hk b o (below b (Heap.lt_size e)).1 hbf (below b (Heap.lt_size e)).2 (old b o e)
    refine codeAny_compLoop_walkD (hsz := hsz) (knd := knd) (cenv := compEnvC scope cl H2.objs.size env) W (fun _ => true) FK FV (lookup_relabel_local hx) (by simp [compEnvC, relabel, hkind]) hDC hDf hCf hst₁ hacc hns₁
      (fun i v s₃ m₃ hv hn hm hk => wpAny_tests_nil ⟨rfl, s₃.heap, s₃.toks, rfl, fun _ _ e => e⟩)
      (fun i v s₃ m₃ hv _ hn hm hk => hkey _ i v s₃ m₃ _ hv hn hm (up s₃ hk))
      (fun i v s₃ m₃ hv _ hn hm hk => hval _ i v s₃ m₃ _ hv hn hm (up s₃ hk)) fun h' tk m' kvs vs hn ha hlen hP hF hk => ?_
    refine ⟨m', hn, fun h'' hs'' => ?_⟩
    have hs'' : Heap.SameBut H2.objs.size h' h'' := hs''
    have hF : StoredAll FK FV vs kvs := by rw [List.filter_eq_self.mpr (by simp)] at hF; exact hF
    refine hQ _ h'' tk kvs vs (Nat.le_refl _) (ha.extBut hs''.extBut hDC) hlen hP hF fun b o hbf e => hs''.extBut b o (below b (Heap.lt_size e)).1 (up { s₂ with heap := h' } hk b o hbf e)
  exact codeAny_compStart_dict (loop _ rfl) (W.self 0 _ _ _ hst₁ (loop _ rfl))
end
theorem walks_lt {w : World} {A : Around} {I : Addr} {fp wr : List Addr} {n : Nat} {P : Nat → Value → Prop} {St : Nat → Heap → Prop} (W : Walks prg w A I fp wr n P St) : Walks prg w A I fp wr n (fun i v => i < n ∧ P i v) St where
  sub := W.sub
  frame := W.frame
  item := fun i s Q E hi st hQ => W.item i s Q E hi st fun v h' tk hP => hQ v h' tk ⟨hi, hP⟩
  done := W.done
  self := W.self
theorem stored_tab {n : Nat} {f : Nat → Int} {vs : List Value} {kvs : List (Int × Value)} (h : StoredAll (fun v (k : Int) => ∃ t, v = Value.int k t) (fun v y => ∃ (k : Nat) (t u : Tok), v = Value.int (k : Int) t ∧ y = Value.int (f k) u) vs kvs) :
    (∀ (j : Nat) (v : Value), vs[j]? = some v → j < n ∧ ∃ t, v = Value.int ((0 : Int) + (j : Int) * 1) t) → ∃ vals : List (Int × Int × Tok), vals.map (fun v => (v.1, v.2.1)) = (List.range vs.length).map (fun (k : Nat) => ((k : Int), f k)) ∧ kvs = intPairs vals := by
  induction h with
  | nil => intro _; exact ⟨[], rfl, rfl⟩
  | @snoc l kvs v k y hl hk hy ih =>
    intro hP
    obtain ⟨vals, e1, rfl⟩ := ih fun j v e => hP j v (by rw [List.getElem?_append_left (List.getElem?_eq_some_iff.mp e).1]; exact e)
    obtain ⟨t, rfl⟩ := hk
    obtain ⟨-, t', e2⟩ := hP l.length (.int k t) (by simp)
    obtain ⟨k', t2, u, e3, rfl⟩ := hy
    injection e2 with e2
    injection e3 with e3
    have e4 : k' = l.length := by omega
    subst e4
    obtain ⟨vals', e5, e6⟩ := stored_ints vals k (f l.length) u
    refine ⟨vals', ?_, e5.symm⟩
    rw [e6, e1, e3, List.length_append, List.length_singleton, List.range_succ, List.map_append]
    unfold putI
    rw [if_neg]
    · rfl
    · simp
      intro x hx
      omega
def rowF (b : Int) : Nat → List Int
  | 0 => [1]
  | i + 1 => (List.range (i + 2)).map (elF b (rowF b i) i)
def marksF (b : Int) (n : Nat) : List (Int × Int) := (List.range (n + 1)).map fun (k : Nat) => ((k : Int), (rowF b n).getD k 0)
theorem rowF_len (b : Int) : ∀ i, (rowF b i).length = i + 1
  | 0 => rfl
  | i + 1 => by simp [rowF]
set_option maxHeartbeats 2000000 in
theorem c_marks {w : World} {A : Around} {s : Shared} {Q E : Value → Shared → Prop} {n : Nat} {b : Int} {t1 t2 : Tok} (C : Cx w s.heap) (R' : Rm A 20 1000) (hn : n ≤ 5) (hb : b.natAbs ≤ 1000)
    (hfin : ∀ h' tk d, (∀ b o, s.heap.get? b = some o → h'.get? b = some o) → s.heap.get? d = none → (d == sysModules) = false → DT w h' d (marksF b n) → Q (.ref d) { s with heap := h', toks := tk }) :
    wpAny (model prg w) A (call (.ref 143) [.int (n : Int) t1, .int b t2]) Q E s := by
  refine enterC (binds := [(Str.ofString "size", .int (n : Int) t1), (Str.ofString "base", .int b t2)]) C (by with_unfolding_all rfl) (by with_unfolding_all rfl) (Nat.lt_of_le_of_lt (Nat.le_add_right _ _) R'.d) (BindsTo.of_eq rfl) rfl (by decide +kernel) ?_ rfl rfl rfl
  intro L h₁ tk cells hL F N Y
  obtain ⟨o3, o2, o1, rfl, d3, d2, d1⟩ := CellsAre.three Y
  clear Y
  have d1 : o1.data = .cell (some (.int b t2)) := d1
  have d2 : o2.data = .cell none := d2
  have d3 : o3.data = .cell none := d3
  obtain ⟨mg, mb, T⟩ := C.t
  have X : (Mine.hd.heap_39 w.params).In s.heap := C.k
  have CX : Cx w s.heap := C
  walk_at "go3"
  refine wpAny_For ?_
  walk_at "go3"
  rename Fr _ _ _ _ => F1
  rename News _ _ _ _ => N1
  rename IsRange _ _ _ _ _ _ _ _ => hR
  rename (_ = Data.cell (some (Value.ref _))) => d2'
  have el := N1 _ (List.Mem.head _)
  have ec3 := N1 _ (List.Mem.tail _ (List.Mem.head _))
  have ec2 := N1 _ (List.Mem.tail _ (List.Mem.tail _ (List.Mem.head _)))
  have ec1 := N1 _ (List.Mem.tail _ (List.Mem.tail _ (List.Mem.tail _ (List.Mem.head _))))
  have n1 := ec1.2
  have n2 := ec2.2
  have n3 := ec3.2
  rename (L + 1 + 1 + 1 < _ ∧ _) => hlt
  obtain ⟨hlt, -, -⟩ := hlt
  refine wpAny_pyIter_range hR (small_ok (by omega) (by omega)) ?_
  have ne3 : ∀ b o, s.heap.get? b = some o → b ≠ L + 1 + 1 + 1 := fun b o e q => by have h0 := n3.2; rw [← q] at h0; exact absurd (h0.symm.trans e) (by simp)
  have ne2 : ∀ b o, s.heap.get? b = some o → b ≠ L + 1 + 1 := fun b o e q => by have h0 := n2.2; rw [← q] at h0; exact absurd (h0.symm.trans e) (by simp)
  rename Heap => h₂
  have hI : L + 1 + 1 + 1 < h₂.objs.size := Heap.lt_size ec3.1
  obtain ⟨I, hIe⟩ : ∃ I, I = h₂.objs.size := ⟨_, rfl⟩
  have hI' : L + 1 + 1 + 1 < I := hIe ▸ hI
  have hIn : s.heap.get? I = none := hIe ▸ next_is_new F1
  let J : Nat → Heap → Prop := fun i H => ∃ a vs o2' o3' m, Fr s.heap L H m ∧ m (Str.ofString "size") = some (.int (n : Int) t1) ∧ H.get? (L + 1) = some o1 ∧ H.get? (L + 1 + 1) = some o2' ∧ o2'.data = .cell (some (.ref a)) ∧ H.get? (L + 1 + 1 + 1) = some o3' ∧ (∃ v, o3'.data = .cell v) ∧
    H.PlainList a vs.toArray ∧ IntsAre vs (rowF b i) ∧ s.heap.get? a = none ∧ L + 1 + 1 + 1 < a ∧ a ≠ I ∧ i ≤ n
  refine loopCell (n := n) (Walks.range (R'.dh _) _ 0 1 n) (c := L + 1 + 1 + 1) ?_ ?_ ?_ J ?_ ?_ ?_ ?_ ?_ ?_ ?_ ?_
  · rfl
  · rfl
  · rfl
  · exact range_st0 (by rw [rangeSize_nat]; omega)
  · exact ⟨_, [.int 1 _], _, _, _, F1.push _, rfl, Heap.get?_push_of_some _ ec1.1, Heap.get?_push_of_some _ ec2.1, d2', Heap.get?_push_of_some _ ec3.1, ⟨_, d3⟩, ⟨_, Heap.get?_push_of_some _ el.1⟩, .cons _ _ .nil, el.2.2, hlt, hIe ▸ Nat.ne_of_lt (Heap.lt_size el.1), Nat.zero_le _⟩
  · intro hm
    exact Nat.ne_of_lt hI (List.mem_singleton.mp hm)
  · intro i h hst b hb
    rw [List.mem_singleton.mp hb]
    exact ⟨_, hst⟩
  · rintro i H ⟨a, vs, o2', o3', m, j1, j2, j3, j4, j5, j6, ⟨v, j7⟩, j8⟩
    exact ⟨v, o3', j6, j7⟩
  · rintro i H H' ⟨a, vs, o2', o3', m, j1, j2, j3, j4, j5, j6, j7, j8, j9, j10, j11, j12, j13⟩ k
    have k' : ∀ b o, b ≠ I → H.get? b = some o → H'.get? b = some o := fun b o hb e => k b o (fun q => hb (hIe ▸ List.mem_singleton.mp q)) e
    refine ⟨a, vs, o2', o3', m, ⟨j1.ns.at' fun o e => k' _ o ?_ e, fun b o e => k' b o ?_ (j1.keep b o e), j1.above⟩, j2, k' _ _ ?_ j3, k' _ _ ?_ j4, j5, k' _ _ ?_ j6, j7, j8.at fun o e => k' _ o j12 e, j9, j10, j11, j12, j13⟩
    · rw [hIe]; exact (i4 hI).1
    · exact fun q => by rw [q, hIn] at e; cases e
    · rw [hIe]; exact (i4 hI).2.1
    · rw [hIe]; exact (i4 hI).2.2.1
    · rw [hIe]; exact (i4 hI).2.2.2
  · rintro i v H1 h tk3 hi ⟨tv, rfl⟩ ⟨a, vs, o2', o3', m, j1, j2, j3, j4, j5, j6, j7, j8, j9, j10, j11, j12, j13⟩ hv hs hlv
    have hs : Heap.SameBut (L + 1 + 1 + 1) H1 h := hs
    obtain ⟨o3n, e3, d3n⟩ := hv
    rw [show (0 : Int) + (i : Int) * 1 = (i : Int) by omega] at d3n
    have kp : ∀ b o, b ≠ L + 1 + 1 + 1 → H1.get? b = some o → h.get? b = some o := fun b o hb e => (hs.2 b hb).trans e
    have F2 : Fr s.heap L h m := ⟨j1.ns.sameBut hs (a03 L), fun b o e => kp b o (ne3 b o e) (j1.keep b o e), j1.above⟩
    have G2 := And.intro F2.ns (And.intro F2.keep F2.above)
    obtain ⟨rest, NR, hRa, hRm⟩ := rest_ex s.heap L h [L + 1, L + 1 + 1, L + 1 + 1 + 1]
    have e1 := kp _ _ (a13 L) j3
    have e2 := kp _ _ (a23 L) j4
    have j8 := j8.at fun o e => kp a o (Nat.ne_of_gt j11) e
    have N3 : News s.heap L h ((L + 1 + 1 + 1, o3n) :: (L + 1 + 1, o2') :: (L + 1, o1) :: rest) := by
      intro p hp
      rcases List.mem_cons.mp hp with q | hp
      · rw [q]; exact ⟨e3, n3⟩
      rcases List.mem_cons.mp hp with q | hp
      · rw [q]; exact ⟨e2, n2⟩
      rcases List.mem_cons.mp hp with q | hp
      · rw [q]; exact ⟨e1, n1⟩
      · exact NR p hp
    clear NR F1 N1 el ec1 ec2 ec3
    refine wpAny_execs_cons ?_
    refine wpAny_Assign_Name ?_
    refine eval_comp1 (by with_unfolding_all rfl) rfl (by decide) ?_
    walk_at "go3"
    rename Fr _ _ _ _ => F4
    rename News _ _ _ _ => N4
    rename IsRange _ _ _ _ _ _ _ _ => hR4
    rename (∀ b o, _ → _) => kp4
    refine wpAny_pyIter_range hR4 (small_ok (by omega) (by omega)) ?_
    refine comp1N (n := i + 2) (Walks.range (R'.dh _) _ 0 1 (i + 2)) (range_st0 (by rw [rangeSize_nat]; omega)) (by simp)
      (fun D C k ys m h => IntsAre ys ((List.range k).map (elF b (rowF b i) i)) ∧ k ≤ i + 2) (by decide) rfl rfl ?_ ?_ ?_ ?_ ?_
    · intro D C h _; exact ⟨.nil, Nat.zero_le _⟩
    · intro D C k ys m h h' _ _ q _; exact q
    · rintro D C k ys m h ⟨q1, q2⟩
      have := q1.length
      rw [List.length_map, List.length_range] at this
      omega
    · rintro hb' D C k v ys m' h5 tk5 own khb hbD hID hDC hk ⟨tc, rfl⟩ ⟨q1, q2⟩ F5 N5 ho hbI hpl
      refine wpAny_tests_nil ?_
      refine ite_pos rfl ?_
      rw [show (0 : Int) + (k : Int) * 1 = (k : Int) by omega] at F5
      have kp5 := ho.kp F5
      have hc1 : hb'.get? (L + 1) = some o1 := khb _ _ (kp4 _ _ e1)
      have hc2 : hb'.get? (L + 1 + 1) = some o2' := khb _ _ (kp4 _ _ e2)
      have hc3 : hb'.get? (L + 1 + 1 + 1) = some o3n := khb _ _ (kp4 _ _ e3)
      have CXb : Cx w hb' := CX.keeps fun b o e => khb _ _ (F4.keep _ _ e)
      obtain ⟨mgb, mbb, Tb⟩ := CXb.t
      have Xb : (Mine.hd.heap_39 w.params).In hb' := CXb.k
      have hlk : h5.IsList a vs.toArray := j8.isList.at fun o e => F5.keep _ _ (khb _ _ (kp4 _ _ e))
      walk_at "go3"
      have hrl := rowF_len b i
      refine join_int (x := if k ≤ i then b ^ k * (rowF b i).getD k 0 else 0) ?_ ?_ ?_
      · intro hc K' hK
        have hki : k ≤ i := by simpa using hc
        rw [if_pos hki] at hK
        walk_at "go3"
        refine powI rfl (by omega) (by omega) ?_
        walk_at "go3"
        obtain ⟨tx, htx⟩ := ints_get j9 (k := k) (by omega)
        refine item_listL (hlk.at fun o e => e) (by omega) (by omega) (show vs[((k : Int)).toNat]? = _ by rw [Int.toNat_natCast]; exact htx) ?_
        walk_at "go3"
        have hpw := pow_lt hb (k := k) (by omega)
        exact mulI (.inl (by omega)) (hK _ _)
      · intro hc K' hK
        rw [if_neg (by simpa using hc)] at hK
        walk_at "go3"
        exact hK _ _
      intro t6 tk6
      walk_at "go3"
      refine join_int (x := if 0 < k then (rowF b i).getD (k - 1) 0 else 0) ?_ ?_ ?_
      · intro hc K' hK
        have h0 : 0 < k := by simpa using hc
        rw [if_pos h0] at hK
        walk_at "go3"
        obtain ⟨ty, hty⟩ := ints_get j9 (k := k - 1) (by omega)
        exact item_listL (hlk.at fun o e => e) (by omega) (by omega) (show vs[((k : Int) - 1).toNat]? = _ by rw [show ((k : Int) - 1).toNat = k - 1 by omega]; exact hty) (hK _ _)
      · intro hc K' hK
        rw [if_neg (by simpa using hc)] at hK
        walk_at "go3"
        exact hK _ _
      intro t7 tk7
      walk_at "go3"
      rename Fr _ _ _ _ => FA
      rename News _ _ _ _ => NA
      exact ⟨_, _, _, rfl, FA.ns, kp5 _ _ _ FA NA (fun p hp => hp), ints_next q1 rfl, hk⟩
    · intro D C h5 tk5 m' ys hID hDC hpl hJ hk
      have k5 : ∀ b o, h.get? b = some o → h5.get? b = some o := fun b o e => hk _ _ (kp4 _ _ e)
      obtain ⟨oI, hoI⟩ := hlv _ (List.mem_singleton.mpr rfl)
      have hoI : h.get? h₂.objs.size = some oI := hoI
      have hID2 : I < D := Nat.lt_trans (hIe ▸ Heap.lt_size (kp4 _ _ hoI)) hID
      refine wpAny_storeName_cell rfl rfl rfl ⟨_, k5 _ _ e2, j5⟩ fun h6 hv6 hs6 => ?_
      have hs6 : Heap.SameBut (L + 1 + 1) h5 h6 := hs6
      obtain ⟨o2n, e2n, d2n⟩ := hv6
      have k6 : ∀ b o, b ≠ L + 1 + 1 → h.get? b = some o → h6.get? b = some o := fun b o hb e => (hs6.2 b hb).trans (k5 b o e)
      show wpAny _ _ (execs [] _) _ _ _
      refine wpAny_execs_nil ⟨rfl, h6, _, rfl, ?_, ?_⟩
      · intro b hb o e
        refine k6 b o ?_ e
        have hb : b = h₂.objs.size := List.mem_singleton.mp hb
        rw [hb, ← hIe]
        exact Ne.symm (i4 hI').2.2.1
      · have F6 : Fr s.heap L h6 m := ⟨(Fr.up ⟨G2.1, G2.2.1, G2.2.2⟩ k5).ns.sameBut hs6 (a02 L), fun b o e => k6 b o (ne2 b o e) (G2.2.1 b o e), G2.2.2⟩
        exact ⟨D, ys, o2n, o3n, m, F6, j2, k6 _ _ (a12 L) e1, e2n, d2n, k6 _ _ (a32 L) e3, ⟨_, d3n⟩, hpl.extBut hs6.extBut (Ne.symm (i5 hI' hID2).1), hJ.1, fresh_of (i6 G2.2.2 hI' hID2), (i5 hI' hID2).2, Nat.ne_of_gt hID2, hi⟩
  · rintro h tk3 ⟨a, vs, o2', o3', m, j1, j2, j3, j4, j5, j6, j7, j8, j9, j10, j11, j12, j13⟩
    obtain ⟨rest, NR, hRa, hRm⟩ := rest_ex s.heap L h [L + 1, L + 1 + 1, L + 1 + 1 + 1]
    have N3 : News s.heap L h ((L + 1 + 1 + 1, o3') :: (L + 1 + 1, o2') :: (L + 1, o1) :: rest) := by
      intro p hp
      rcases List.mem_cons.mp hp with q | hp
      · rw [q]; exact ⟨j6, n3⟩
      rcases List.mem_cons.mp hp with q | hp
      · rw [q]; exact ⟨j4, n2⟩
      rcases List.mem_cons.mp hp with q | hp
      · rw [q]; exact ⟨j3, n1⟩
      · exact NR p hp
    clear NR F1 N1 el ec1 ec2 ec3
    rw [← wL_eq (ps := [(Str.ofString "size", .int (n : Int) t1)]) (m := m) (by intro p hp; simp only [List.mem_cons, List.not_mem_nil, or_false] at hp; subst hp; assumption)] at j1
    have G3 := j1.keep
    show wpAny _ _ (execs _ _) _ _ _
    walk_at "go3"
    refine eval_dcomp (intKind prg w) (fun v k => ∃ t, v = .int k t) (fun v y => ∃ (k : Nat) (t u : Tok), v = .int (k : Int) t ∧ y = .int ((rowF b n).getD k 0) u) (by with_unfolding_all rfl) (by decide) rfl (by decide) rfl ?_
    walk_at "go3"
    rename Fr _ _ _ _ => F4
    rename News _ _ _ _ => N4
    rename IsRange _ _ _ _ _ _ _ _ => hR4
    rename (∀ b o, _ → _) => kp4
    refine wpAny_pyIter_range hR4 (small_ok (by omega) (by omega)) ?_
    refine ⟨_, _, _, n + 1, _, _, rfl, walks_lt (Walks.range (R'.dh _) _ 0 1 (n + 1)), by rw [sizeLine_eq]; omega, range_st0 (by rw [rangeSize_nat]; omega), ?_, ?_, ?_, ?_⟩
    · intro b hb
      rw [List.mem_singleton.mp hb, Heap.size_push]
      exact Nat.lt_succ_self _
    · rintro C' i v s₃ m₃ E' ⟨hi, tv, rfl⟩ hn' hm hk
      exact wpAny_Name (wpAny_loadName_local rfl rfl hn' hm ⟨⟨_, intKind_is _ _ _ _, _, rfl⟩, s₃.heap, s₃.toks, rfl, fun _ _ e => e⟩) (by decide)
    · rintro C' i v s₃ m₃ E' ⟨hi, tv, rfl⟩ hn' hm hk
      have k3 : ∀ b o, h.get? b = some o → s₃.heap.get? b = some o := fun b o e => hk b o (fun q => Nat.lt_irrefl _ (List.mem_singleton.mp q ▸ Heap.lt_size (kp4 _ _ e))) (Heap.get?_push_of_some _ (kp4 _ _ e))
      refine Subscript_ ?_
      refine wpAny_Name (wpAny_loadName_cell rfl rfl rfl ⟨o2', k3 _ _ j4, j5⟩ ?_) (by decide)
      refine wpAny_Name (wpAny_loadName_local rfl rfl hn' hm ?_) (by decide)
      have hrl := rowF_len b n
      obtain ⟨tx, htx⟩ := ints_get j9 (k := i) (by omega)
      refine item_listL (j8.isList.at fun o e => k3 _ _ e) (by omega) (by omega) (show vs[((0 : Int) + (i : Int) * 1).toNat]? = _ by rw [show ((0 : Int) + (i : Int) * 1).toNat = i by omega]; exact htx) ?_
      exact ⟨⟨i, _, _, by congr 1; omega, rfl⟩, s₃.heap, s₃.toks, rfl, fun _ _ e => e⟩
    · intro D h' tk' kvs vs' hD hdo hlen hP hst hk
      have k3 : ∀ b o, h.get? b = some o → h'.get? b = some o := fun b o e => hk b o (fun q => Nat.lt_irrefl _ (List.mem_singleton.mp q ▸ Heap.lt_size (kp4 _ _ e))) (Heap.get?_push_of_some _ (kp4 _ _ e))
      rw [Heap.size_push] at hD
      have hLD : L < D := Nat.lt_of_lt_of_le F4.ns.lt (Nat.le_of_succ_le hD)
      obtain ⟨vals, ev, rfl⟩ := stored_tab hst hP
      refine hfin h' tk' D (fun b o e => k3 b o (G3 b o e)) (fresh_of (Nat.le_trans F4.above (Nat.le_of_lt hLD))) (CX.ne1 F4 hLD) ⟨vals, ?_, hdo⟩
      rw [ev, hlen]
      rfl
end
section
set_option maxRecDepth 100000
open PySem
/-- the count of the answers -1 -/
def cntF (xs : List Int) : Nat := (xs.filter (fun x => x == -1)).length
def stepE (c : Nat) (b way : Int) (tl : List Nat) (F : Ent) (l : List Nat) : Ent := addE F (entF l (parseL (l ++ 34 :: tl)) c b (cntF (ansL way l)))
def zeroE : Ent := ⟨0, 0, 0, 0, []⟩
def leadF (way : Int) (c : Nat) : Nat := if way = 1 then 34 else c
/-- renaming the letter -/
def ren (c₀ c x : Nat) : Nat := if x = c₀ then c else x
abbrev rn (c₀ c : Nat) (l : List Nat) : List Nat := l.map (ren c₀ c)
section
variable {f : Nat → Nat}
theorem parse_ren : ∀ l : List Nat, (∀ x ∈ l, f x = 34 ↔ x = 34) → f 34 = 34 → parseL (l.map f) = (parseL l).map f
  | [], _, _ => rfl
  | [a], h, h34 => by
    have ha := h a (List.mem_cons_self ..)
    by_cases h1 : a = 34
    · subst h1; simp [parseL, h34]
    · have h2 : ¬ f a = 34 := fun e => h1 (ha.mp e)
      simp [parseL, h1, h2]
  | a :: b :: r, h, h34 => by
    have ha := h a (List.mem_cons_self ..)
    have hb := h b (List.mem_cons_of_mem _ (List.mem_cons_self ..))
    have i1 := parse_ren (b :: r) (fun x hx => h x (List.mem_cons_of_mem _ hx)) h34
    have i2 := parse_ren r (fun x hx => h x (List.mem_cons_of_mem _ (List.mem_cons_of_mem _ hx))) h34
    by_cases h1 : a = 34
    · subst h1
      by_cases h2 : b = 34
      · subst h2; simp [parseL, h34, i2]
      · have h3 : ¬ f b = 34 := fun e => h2 (hb.mp e)
        simp [parseL, h34, h2, h3]
    · have h2 : ¬ f a = 34 := fun e => h1 (ha.mp e)
      have e1 : parseL (a :: b :: r) = a :: parseL (b :: r) := by rw [parseL, if_neg h1]
      have e2 : parseL (f a :: f b :: r.map f) = f a :: parseL (f b :: r.map f) := by rw [parseL, if_neg h2]
      rw [e1, List.map_cons, List.map_cons, e2, List.map_cons, ← i1, List.map_cons]
termination_by l => l.length
theorem dbl_ren : ∀ l : List Nat, (∀ x ∈ l, f x = 34 ↔ x = 34) → StrLaws.dbl 34 (l.map f) = (StrLaws.dbl 34 l).map f
  | [], _ => rfl
  | a :: r, h => by
    have ha := h a (List.mem_cons_self ..)
    have i1 := dbl_ren r fun x hx => h x (List.mem_cons_of_mem _ hx)
    rw [List.map_cons, StrLaws.dbl, StrLaws.dbl, i1]
    by_cases h1 : a = 34
    · rw [if_pos h1, if_pos (ha.mpr h1)]; simp
    · rw [if_neg h1, if_neg (fun e => h1 (ha.mp e))]; simp
theorem stepP_ren (l : List Nat) (h : ∀ x ∈ l, f x = 34 ↔ x = 34) : ∀ st, (l.map f).foldl stepP st = l.foldl stepP st := by
  induction l with
  | nil => intro st; rfl
  | cons a r ih =>
    intro st
    have ha := h a (List.mem_cons_self ..)
    rw [List.map_cons, List.foldl_cons, List.foldl_cons, ih (fun x hx => h x (List.mem_cons_of_mem _ hx))]
    congr 1
    unfold stepP
    by_cases h1 : a = 34
    · rw [if_pos h1, if_pos (ha.mpr h1)]
    · rw [if_neg h1, if_neg (fun e => h1 (ha.mp e))]
theorem places_ren (l : List Nat) (h : ∀ x ∈ l, f x = 34 ↔ x = 34) : placesF (l.map f) = placesF l := by
  unfold placesF; rw [stepP_ren l h]
theorem marks_ren : ∀ (l : List Nat), (∀ x ∈ l, f x = 34 ↔ x = 34) → marksL (l.map f) = marksL l
  | [], _ => rfl
  | a :: r, h => by
    have ha := h a (List.mem_cons_self ..)
    have i1 := marks_ren r fun x hx => h x (List.mem_cons_of_mem _ hx)
    unfold marksL at i1 ⊢
    rw [List.map_cons]
    by_cases h1 : a = 34
    · have h2 : f a = 34 := ha.mpr h1
      rw [h1] at h2
      simp [h1, h2, i1]
    · have h2 : ¬ f a = 34 := fun e => h1 (ha.mp e)
      simp only [List.filter_cons, beq_eq_false_iff_ne.mpr h1, beq_eq_false_iff_ne.mpr h2]
      simpa using i1
theorem stepA_ren (l : List Nat) (d : Nat) (h : ∀ x ∈ l, f x = f d ↔ x = d) : ∀ st, (l.map f).foldl (stepA (f d)) st = l.foldl (stepA d) st := by
  induction l with
  | nil => intro st; rfl
  | cons a r ih =>
    intro st
    have ha := h a (List.mem_cons_self ..)
    rw [List.map_cons, List.foldl_cons, List.foldl_cons, ih (fun x hx => h x (List.mem_cons_of_mem _ hx))]
    congr 1
    unfold stepA
    by_cases h1 : a = d
    · rw [if_pos h1, if_pos (ha.mpr h1)]
    · rw [if_neg h1, if_neg (fun e => h1 (ha.mp e))]
theorem ans_ren (way : Int) (l : List Nat) (h : ∀ x ∈ l, ∀ y ∈ l, (f x < f y ↔ x < y)) : ansL way (l.map f) = ansL way l := by
  unfold ansL
  rw [List.length_map]
  have key : ∀ j, j < l.length → ansRow way (l.map f) j = ansRow way l j := by
    intro j hj
    unfold ansRow
    refine List.map_congr_left fun k hk => ?_
    have hk : k < j := List.mem_range.mp hk
    have e : ∀ i, i < l.length → (l.map f).getD i 0 = f (l.getD i 0) ∧ l.getD i 0 ∈ l := fun i hi => by
      rw [List.getD_eq_getElem?_getD, List.getD_eq_getElem?_getD, List.getElem?_map]
      rw [List.getElem?_eq_getElem hi]
      exact ⟨rfl, List.getElem_mem hi⟩
    obtain ⟨e1, m1⟩ := e k (by omega)
    obtain ⟨e2, m2⟩ := e j hj
    rw [e1, e2]
    unfold cmpF
    have q1 := h _ m1 _ m2
    have q2 := h _ m2 _ m1
    by_cases c1 : l.getD k 0 < l.getD j 0
    · rw [if_pos c1, if_pos (q1.mpr c1)]
    · rw [if_neg c1, if_neg (fun e => c1 (q1.mp e))]
      by_cases c2 : l.getD j 0 < l.getD k 0
      · rw [if_pos c2, if_pos (q2.mpr c2)]
      · rw [if_neg c2, if_neg (fun e => c2 (q2.mp e))]
  have go : ∀ xs : List Nat, (∀ j ∈ xs, j < l.length) → xs.flatMap (ansRow way (l.map f)) = xs.flatMap (ansRow way l) := by
    intro xs
    induction xs with
    | nil => intro _; rfl
    | cons j r ih =>
      intro hh
      rw [List.flatMap_cons, List.flatMap_cons, key j (hh j (List.mem_cons_self ..)), ih fun i hi => hh i (List.mem_cons_of_mem _ hi)]
  exact go _ fun j hj => List.mem_range.mp hj
end
theorem texts_ren (c₀ c : Nat) (h : c₀ ≠ 34) : ∀ n, textsL c n = (textsL c₀ n).map (rn c₀ c)
  | 0 => rfl
  | n + 1 => by
    rw [textsL, textsL, texts_ren c₀ c h n, List.flatMap_map, List.map_flatMap]
    congr 1
    funext t
    have e : ren c₀ c 34 = 34 := if_neg (Ne.symm h)
    have e2 : ren c₀ c c₀ = c := if_pos rfl
    simp [rn, e, e2]
/-- polynomials: their numbers, the lowest first -/
def ev (b : Int) : List Int → Int
  | [] => 0
  | a :: r => a + b * ev b r
def padd : List Int → List Int → List Int
  | [], q => q
  | p, [] => p
  | a :: p, c :: q => (a + c) :: padd p q
def mono (k : Nat) : List Int := List.replicate k 0 ++ [1]
theorem ev_padd (b : Int) : ∀ p q, ev b (padd p q) = ev b p + ev b q
  | [], q => by simp [padd, ev]
  | a :: p, [] => by simp [padd, ev]
  | a :: p, c :: q => by
    rw [padd, ev, ev, ev, ev_padd b p q, Int.mul_add]
    omega
theorem ev_mono (b : Int) : ∀ k, ev b (mono k) = b ^ k
  | 0 => by simp [mono, ev]
  | k + 1 => by
    have e : mono (k + 1) = 0 :: mono k := by simp [mono, List.replicate_succ]
    rw [e, ev, ev_mono b k, Int.pow_succ, Int.zero_add, Int.mul_comm]
structure EntP where
  n1 : Int
  n2 : Int
  n3 : List Int
  n4 : List Int
  D : List (Int × List Int)
abbrev evD (b : Int) (D : List (Int × List Int)) : List (Int × Int) := D.map fun p => (p.1, ev b p.2)
def evE (b : Int) (E : EntP) : Ent := ⟨E.n1, E.n2, ev b E.n3, ev b E.n4, evD b E.D⟩
def putP (X : List (Int × List Int)) (k : Int) (v : List Int) : List (Int × List Int) := if X.any (fun p => decide (p.1 = k)) then X.map (fun p => if p.1 = k then (p.1, v) else p) else X ++ [(k, v)]
def getP (X : List (Int × List Int)) (k : Int) : Option (List Int) := (X.find? fun p => decide (p.1 = k)).map (·.2)
theorem put_ev (b : Int) (X : List (Int × List Int)) (k : Int) (v : List Int) : putI (evD b X) k (ev b v) = evD b (putP X k v) := by
  unfold putI putP
  have e : (evD b X).any (fun p => decide (p.1 = k)) = X.any (fun p => decide (p.1 = k)) := by simp [evD, List.any_map, Function.comp_def]
  rw [e]
  cases X.any (fun p => decide (p.1 = k)) with
  | true =>
    simp only [if_true, evD, List.map_map]
    refine List.map_congr_left fun p _ => ?_
    simp only [Function.comp]
    split <;> rfl
  | false => simp [evD]
theorem get_ev (b : Int) (X : List (Int × List Int)) (k : Int) : getI (evD b X) k = (getP X k).map (ev b) := by
  unfold getI getP
  rw [List.find?_map]
  have e : ((fun p : Int × Int => decide (p.1 = k)) ∘ fun p : Int × List Int => (p.1, ev b p.2)) = fun p => decide (p.1 = k) := rfl
  rw [e]
  cases X.find? (fun p => decide (p.1 = k)) <;> rfl
def stepPo (X : List (Int × List Int)) (p : Int × List Int) : List (Int × List Int) := match getP X p.1 with | some x => putP X p.1 (padd x p.2) | none => putP X p.1 p.2
theorem step_ev (b : Int) (X : List (Int × List Int)) (p : Int × List Int) : addStep (evD b X) (p.1, ev b p.2) = evD b (stepPo X p) := by
  unfold addStep stepPo
  rw [get_ev]
  cases getP X p.1 with
  | none => exact put_ev b X p.1 p.2
  | some x =>
    show putI (evD b X) p.1 (ev b x + ev b p.2) = _
    rw [← ev_padd]
    exact put_ev b X p.1 _
def addP (T U : List (Int × List Int)) : List (Int × List Int) := U.foldl stepPo (T.foldl (fun X p => putP X p.1 p.2) [])
theorem add_ev (b : Int) (T U : List (Int × List Int)) : addC (evD b T) (evD b U) = evD b (addP T U) := by
  unfold addC addP
  have h1 : ∀ (l X : List (Int × List Int)), (evD b l).foldl (fun X p => putI X p.1 p.2) (evD b X) = evD b (l.foldl (fun X p => putP X p.1 p.2) X) := by
    intro l
    induction l with
    | nil => intro X; rfl
    | cons p r ih => intro X; show (evD b r).foldl (fun X p => putI X p.1 p.2) (putI (evD b X) p.1 (ev b p.2)) = _; rw [put_ev]; exact ih _
  have h2 : ∀ (l X : List (Int × List Int)), (evD b l).foldl addStep (evD b X) = evD b (l.foldl stepPo X) := by
    intro l
    induction l with
    | nil => intro X; rfl
    | cons p r ih => intro X; show (evD b r).foldl addStep (addStep (evD b X) (p.1, ev b p.2)) = _; rw [step_ev]; exact ih _
  rw [← h2]
  congr 1
  exact h1 T []
def addEP (t e : EntP) : EntP := ⟨e.n1 + t.n1, e.n2 + t.n2, padd e.n3 t.n3, padd e.n4 t.n4, addP t.D e.D⟩
theorem addE_ev (b : Int) (t e : EntP) : addE (evE b t) (evE b e) = evE b (addEP t e) := by
  unfold addE evE addEP
  simp only [ev_padd, add_ev]
def entP (l name : List Nat) (c p : Nat) : EntP :=
  if StrLaws.dbl 34 name = l then ⟨1, 1, mono (placesF name).toNat, if name.take 1 = [c] then mono (placesF name).toNat else [], [((marksL l : Nat), mono p)]⟩
  else ⟨1, 0, [], [], [((marksL l : Nat), mono p)]⟩
theorem ent_ev (l name : List Nat) (c p : Nat) (b : Int) : entF l name c b p = evE b (entP l name c p) := by
  unfold entF entP
  by_cases h : StrLaws.dbl 34 name = l
  · rw [if_pos h, if_pos h]
    by_cases h1 : name.take 1 = [c]
    · rw [if_pos h1, if_pos h1]; simp [evE, ev_mono]
    · rw [if_neg h1, if_neg h1]; simp [evE, ev_mono, ev]
  · rw [if_neg h, if_neg h]; simp [evE, ev_mono, ev]
def stepEP (c : Nat) (way : Int) (tl : List Nat) (F : EntP) (l : List Nat) : EntP := addEP F (entP l (parseL (l ++ 34 :: tl)) c (cntF (ansL way l)))
theorem fold_ev (c : Nat) (b way : Int) (tl : List Nat) : ∀ (ls : List (List Nat)) (E : EntP), ls.foldl (stepE c b way tl) (evE b E) = evE b (ls.foldl (stepEP c way tl) E)
  | [], _ => rfl
  | l :: r, E => by
    rw [List.foldl_cons, List.foldl_cons, ← fold_ev c b way tl r]
    congr 1
    unfold stepE stepEP
    rw [ent_ev, addE_ev]
theorem add_len (T U : List (Int × Int)) : (addC T U).length ≤ T.length + U.length := by
  unfold addC
  have h1 := fold_len2 U (T.foldl (fun X p => putI X p.1 p.2) [])
  have h2 := fold_len1 (l := T) (Nat.le_refl _)
  omega
theorem ent_len (l name : List Nat) (c p : Nat) (b : Int) : (entF l name c b p).D.length = 1 := by unfold entF; split <;> rfl
theorem stepE_len (c : Nat) (b way : Int) (tl : List Nat) (F : Ent) (l : List Nat) : (stepE c b way tl F l).D.length ≤ F.D.length + 1 := by
  unfold stepE addE
  have h := add_len F.D (entF l (parseL (l ++ 34 :: tl)) c b (cntF (ansL way l))).D
  rw [ent_len] at h
  exact h
theorem fold_lenE (c : Nat) (b way : Int) (tl : List Nat) : ∀ (ls : List (List Nat)) (F : Ent), (ls.foldl (stepE c b way tl) F).D.length ≤ F.D.length + ls.length
  | [], F => by simp
  | l :: r, F => by
    rw [List.foldl_cons]
    have h1 := fold_lenE c b way tl r (stepE c b way tl F l)
    have h2 := stepE_len c b way tl F l
    simp only [List.length_cons]
    omega
theorem parse_le : ∀ l : List Nat, (parseL l).length ≤ l.length
  | [] => Nat.le_refl _
  | [a] => by unfold parseL; split <;> simp
  | a :: b :: r => by
    have i1 := parse_le (b :: r)
    have i2 := parse_le r
    unfold parseL
    split
    · split
      · simp only [List.length_cons] at *; omega
      · simp
    · simp only [List.length_cons] at *; omega
termination_by l => l.length
theorem cnt_le (xs : List Int) : cntF xs ≤ xs.length := List.length_filter_le _ _
theorem cnt_snoc (xs : List Int) (x : Int) : cntF (xs ++ [x]) = cntF xs + (if x = -1 then 1 else 0) := by
  unfold cntF
  rw [List.filter_append, List.length_append]
  by_cases h : x = -1
  · simp [h]
  · simp [h]
end
section
set_option maxRecDepth 100000
open PySem
def shiftP (k : Nat) (p : List Int) : List Int := List.replicate k 0 ++ p
theorem ev_shift (b : Int) (p : List Int) : ∀ k, ev b (shiftP k p) = b ^ k * ev b p
  | 0 => by simp [shiftP]
  | k + 1 => by
    have e : shiftP (k + 1) p = 0 :: shiftP k p := by simp [shiftP, List.replicate_succ]
    rw [e, ev, ev_shift b p k, Int.pow_succ, Int.zero_add, Int.mul_comm (b ^ k) b, Int.mul_assoc]
def negP (p : List Int) : List Int := p.map (fun a => -a)
theorem ev_neg (b : Int) : ∀ p, ev b (negP p) = - ev b p
  | [] => rfl
  | a :: r => by
    show -a + b * ev b (negP r) = -(a + b * ev b r)
    rw [ev_neg b r, Int.mul_neg]
    omega
def trimP : List Int → List Int
  | [] => []
  | a :: r => match trimP r with
    | [] => if a = 0 then [] else [a]
    | q => a :: q
theorem ev_trim (b : Int) : ∀ p, ev b (trimP p) = ev b p
  | [] => rfl
  | a :: r => by
    have ih := ev_trim b r
    rw [trimP, ev, ← ih]
    cases h : trimP r with
    | nil =>
      dsimp only
      by_cases h0 : a = 0
      · rw [if_pos h0]; simp [ev, h0]
      · rw [if_neg h0]; simp [ev]
    | cons x q => rfl
theorem ev_eq (b : Int) {p q : List Int} (h : trimP p = trimP q) : ev b p = ev b q := by rw [← ev_trim b p, h, ev_trim]
def turnSP (T : List (Int × List Int)) (n more : Int) (r : List Int) (t : Int) : List Int := match getP T (turnK n t more) with
  | some x => if t = 0 then padd r (shiftP (turnE t more) x) else padd r (negP (shiftP (turnE t more) x))
  | none => r
def turnsP (T : List (Int × List Int)) (n more : Int) : List Int := [-1, 0, 1].foldl (turnSP T n more) []
theorem turn_ev (b : Int) (T : List (Int × List Int)) (n more : Int) (r : List Int) (t : Int) : turnStep (evD b T) n b more (ev b r) t = ev b (turnSP T n more r t) := by
  unfold turnStep turnSP
  rw [get_ev]
  cases getP T (turnK n t more) with
  | none => rfl
  | some x =>
    dsimp only [Option.map]
    by_cases h0 : t = 0
    · rw [if_pos h0, if_pos h0, ev_padd, ev_shift]
    · rw [if_neg h0, if_neg h0, ev_padd, ev_neg, ev_shift, Int.sub_eq_add_neg]
theorem turns_ev (b : Int) (T : List (Int × List Int)) (n more : Int) : turnsF (evD b T) n b more = ev b (turnsP T n more) := by
  unfold turnsF turnsP
  simp only [List.foldl_cons, List.foldl_nil]
  have h0 : (0 : Int) = ev b [] := rfl
  rw [h0, turn_ev, turn_ev, turn_ev]
def togP : Nat → List Int × List Int
  | 0 => ([1], [2])
  | i + 1 => ((togP i).2, padd (padd (togP i).2 (togP i).2) (padd (shiftP (1 + i) (togP i).1) (negP (togP i).1)))
theorem tog_ev (b : Int) : ∀ i, itT b i = (ev b (togP i).1, ev b (togP i).2)
  | 0 => by simp [itT, togP, ev]
  | i + 1 => by
    rw [itT, togP, tog_ev b i]
    simp only [ev_padd, ev_shift, ev_neg]
    congr 1
    rw [Int.sub_mul, Int.one_mul]
    omega
def sumP (D : List (Int × List Int)) : List Int := D.foldr (fun p r => padd p.2 r) []
theorem sum_ev (b : Int) : ∀ D : List (Int × List Int), sumV (evD b D) = ev b (sumP D)
  | [] => rfl
  | p :: r => by
    have ih := sum_ev b r
    unfold sumV at ih ⊢
    show ev b p.2 + ((evD b r).map (·.2)).sum = ev b (padd p.2 (sumP r))
    rw [ih, ev_padd]
def elP (T : List (List Int)) (i k : Nat) : List Int := padd (if k ≤ i then shiftP k (T.getD k []) else []) (if 0 < k then T.getD (k - 1) [] else [])
def rowP : Nat → List (List Int)
  | 0 => [[1]]
  | i + 1 => (List.range (i + 2)).map (elP (rowP i) i)
def marksP (n : Nat) : List (Int × List Int) := (List.range (n + 1)).map fun (k : Nat) => ((k : Int), (rowP n).getD k [])
theorem getD_ev (b : Int) (T : List (List Int)) (k : Nat) : (T.map (ev b)).getD k 0 = ev b (T.getD k []) := by
  rw [List.getD_eq_getElem?_getD, List.getD_eq_getElem?_getD, List.getElem?_map]
  cases T[k]? <;> rfl
theorem row_ev (b : Int) : ∀ i, rowF b i = (rowP i).map (ev b)
  | 0 => by simp [rowF, rowP, ev]
  | i + 1 => by
    rw [rowF, rowP, row_ev b i, List.map_map]
    refine List.map_congr_left fun k _ => ?_
    simp only [Function.comp]
    unfold elF elP
    rw [ev_padd, getD_ev, getD_ev]
    congr 1
    · by_cases h : k ≤ i
      · rw [if_pos h, if_pos h, ev_shift]
      · rw [if_neg h, if_neg h]; rfl
    · by_cases h : 0 < k
      · rw [if_pos h, if_pos h]
      · rw [if_neg h, if_neg h]; rfl
theorem marks_ev (b : Int) (n : Nat) : marksF b n = evD b (marksP n) := by
  unfold marksF marksP evD
  rw [List.map_map]
  refine List.map_congr_left fun k _ => ?_
  simp only [Function.comp]
  rw [row_ev, getD_ev]
def zeroP : EntP := ⟨0, 0, [], [], []⟩
def totP (c₀ n : Nat) (way : Int) (tl : List Nat) : EntP := (textsL c₀ n).foldl (stepEP c₀ way tl) zeroP
def okP (n : Nat) (E : EntP) : Bool :=
  decide (E.n1 = 2 ^ n) && decide (E.n2 = writF n) && decide (trimP E.n3 = trimP (turnsP E.D n 0)) && decide (trimP E.n4 = trimP (turnsP E.D n 1)) && decide (trimP (sumP E.D) = trimP (togP (n - 1)).2) &&
    decide (E.D.length = n + 1) && E.D.all (fun p => match getP (marksP n) p.1 with | some q => decide (trimP q = trimP p.2) | none => false)
theorem ok3 : ∀ c₀ ∈ [35, 97], ∀ way ∈ [(1 : Int), -1], ∀ tl ∈ [[], [32, 97], [32, 34]], okP 3 (totP c₀ 3 way tl) = true := by decide +kernel
theorem ok4 : ∀ c₀ ∈ [35, 97], ∀ way ∈ [(1 : Int), -1], ∀ tl ∈ [[], [32, 97], [32, 34]], okP 4 (totP c₀ 4 way tl) = true := by decide +kernel
theorem ok5 : ∀ c₀ ∈ [35, 97], ∀ way ∈ [(1 : Int), -1], ∀ tl ∈ [[], [32, 97], [32, 34]], okP 5 (totP c₀ 5 way tl) = true := by decide +kernel
def okT (c₀ : Nat) (way : Int) (l : List Nat) : Bool := decide (((cntF (ansL way l) : Nat) : Int) = aheadF l (leadF way c₀)) && decide ((ansL way l).sum = ((ansL way l).length : Int) - 2 * ((cntF (ansL way l) : Nat) : Int))
theorem okt : ∀ n ∈ [3, 4, 5], ∀ c₀ ∈ [35, 97], ∀ way ∈ [(1 : Int), -1], ∀ l ∈ textsL c₀ n, okT c₀ way l = true := by decide +kernel
end
section
set_option maxRecDepth 100000
open PySem
theorem parse_mem : ∀ l : List Nat, ∀ x ∈ parseL l, x ∈ l
  | [], _, h => h
  | [a], x, h => by
    unfold parseL at h
    split at h
    · simp at h
    · exact h
  | a :: b :: r, x, h => by
    have i1 := parse_mem (b :: r) x
    have i2 := parse_mem r x
    unfold parseL at h
    split at h
    · rename_i ha
      split at h
      · rcases List.mem_cons.mp h with q | q
        · rw [q, ← ha]; exact List.mem_cons_self ..
        · exact List.mem_cons_of_mem _ (List.mem_cons_of_mem _ (i2 q))
      · simp at h
    · rcases List.mem_cons.mp h with q | q
      · rw [q]; exact List.mem_cons_self ..
      · exact List.mem_cons_of_mem _ (i1 q)
termination_by l => l.length
theorem dbl_mem : ∀ l : List Nat, ∀ x ∈ StrLaws.dbl 34 l, x ∈ l
  | [], _, h => h
  | a :: r, x, h => by
    have i1 := dbl_mem r x
    unfold StrLaws.dbl at h
    split at h
    · rcases List.mem_cons.mp h with q | h
      · rw [q]; exact List.mem_cons_self ..
      rcases List.mem_cons.mp h with q | h
      · rw [q]; exact List.mem_cons_self ..
      · exact List.mem_cons_of_mem _ (i1 h)
    · rcases List.mem_cons.mp h with q | h
      · rw [q]; exact List.mem_cons_self ..
      · exact List.mem_cons_of_mem _ (i1 h)
theorem texts_mem (c : Nat) : ∀ n, ∀ l ∈ textsL c n, ∀ x ∈ l, x = c ∨ x = 34
  | 0, l, h, x, hx => by simp [textsL] at h; subst h; simp at hx
  | n + 1, l, h, x, hx => by
    simp only [textsL, List.mem_flatMap] at h
    obtain ⟨u, hu, ht⟩ := h
    have ih := texts_mem c n u hu x
    simp at ht
    rcases ht with rfl | rfl
    · rcases List.mem_append.mp hx with q | q
      · exact ih q
      · exact .inl (by simpa using q)
    · rcases List.mem_append.mp hx with q | q
      · exact ih q
      · exact .inr (by simpa using q)
theorem map_inj_on {f : Nat → Nat} (P : Nat → Prop) (hi : ∀ x y, P x → P y → f x = f y → x = y) : ∀ {a b : List Nat}, (∀ x ∈ a, P x) → (∀ x ∈ b, P x) → a.map f = b.map f → a = b := by
  intro a
  induction a with
  | nil => intro b _ _ h; cases b with
    | nil => rfl
    | cons y r => simp at h
  | cons x r ih =>
    intro b ha hb h
    cases b with
    | nil => simp at h
    | cons y q =>
      simp only [List.map_cons, List.cons.injEq] at h
      rw [hi x y (ha x (List.mem_cons_self ..)) (hb y (List.mem_cons_self ..)) h.1, ih (fun z hz => ha z (List.mem_cons_of_mem _ hz)) (fun z hz => hb z (List.mem_cons_of_mem _ hz)) h.2]
/-- the signs at hand -/
def Sg (x : Nat) : Prop := x = 35 ∨ x = 34 ∨ x = 32 ∨ x = 97
theorem tl_sg {tl : List Nat} (h : tl ∈ [[], [32, 97], [32, 34]]) : ∀ x ∈ tl, Sg x ∧ x ≠ 35 := by
  intro x hx
  simp only [List.mem_cons, List.not_mem_nil, or_false] at h
  rcases h with rfl | rfl | rfl
  · simp at hx
  · simp at hx; rcases hx with rfl | rfl <;> (unfold Sg; omega)
  · simp at hx; rcases hx with rfl | rfl <;> (unfold Sg; omega)
section
variable {c : Nat} {tl l : List Nat} {b way : Int}
theorem ren_inj (h1 : c ≠ 32) (h2 : c ≠ 34) (h3 : c ≠ 97) : ∀ x y, Sg x → Sg y → ren 35 c x = ren 35 c y → x = y := by
  intro x y hx hy
  unfold Sg at hx hy
  unfold ren
  rcases hx with rfl | rfl | rfl | rfl <;> rcases hy with rfl | rfl | rfl | rfl <;> simp <;> omega
theorem ren_34 (h2 : c ≠ 34) (x : Nat) : ren 35 c x = 34 ↔ x = 34 := by
  unfold ren
  by_cases h : x = 35
  · rw [if_pos h]; omega
  · rw [if_neg h]
theorem step_ren (hc : 35 ≤ c) (h3 : c ≠ 97) (htl : tl ∈ [[], [32, 97], [32, 34]]) (hl : ∀ x ∈ l, x = 35 ∨ x = 34) (F : Ent) : stepE c b way tl F (rn 35 c l) = stepE 35 b way tl F l := by
  have h2 : c ≠ 34 := by omega
  have h1 : c ≠ 32 := by omega
  have hf := ren_34 (c := c) h2
  have f34 : ren 35 c 34 = 34 := (hf 34).mpr rfl
  have htl' := tl_sg htl
  have et : tl.map (ren 35 c) = tl := by
    conv => rhs; rw [← List.map_id tl]
    refine List.map_congr_left fun x hx => ?_
    exact if_neg (htl' x hx).2
  have e0 : rn 35 c l ++ 34 :: tl = (l ++ 34 :: tl).map (ren 35 c) := by rw [List.map_append, List.map_cons, f34, et]
  have sgl : ∀ x ∈ l, Sg x := fun x hx => by rcases hl x hx with q | q <;> (unfold Sg; omega)
  have sga : ∀ x ∈ l ++ 34 :: tl, Sg x := by
    intro x hx
    rcases List.mem_append.mp hx with q | q
    · exact sgl x q
    · rcases List.mem_cons.mp q with q | q
      · unfold Sg; omega
      · exact (htl' x q).1
  have e1 : parseL (rn 35 c l ++ 34 :: tl) = (parseL (l ++ 34 :: tl)).map (ren 35 c) := by rw [e0]; exact parse_ren _ (fun x _ => hf x) f34
  have ea : ansL way (rn 35 c l) = ansL way l := by
    refine ans_ren way l ?_
    intro x hx y hy
    unfold ren
    rcases hl x hx with rfl | rfl <;> rcases hl y hy with rfl | rfl <;> simp <;> omega
  unfold stepE
  congr 1
  rw [e1, ea]
  generalize hN : parseL (l ++ 34 :: tl) = N
  have sgN : ∀ x ∈ N, Sg x := fun x hx => sga x (parse_mem _ x (hN ▸ hx))
  have inj := ren_inj (c := c) h1 h2 h3
  have c1 : StrLaws.dbl 34 (N.map (ren 35 c)) = rn 35 c l ↔ StrLaws.dbl 34 N = l := by
    rw [dbl_ren N fun x _ => hf x]
    exact ⟨map_inj_on Sg inj (fun x hx => sgN x (dbl_mem _ x hx)) sgl, fun h => by rw [h]⟩
  have c2 : (N.map (ren 35 c)).take 1 = [c] ↔ N.take 1 = [35] := by
    have e35 : [c] = [35].map (ren 35 c) := by simp [ren]
    rw [← List.map_take, e35]
    exact ⟨map_inj_on Sg inj (fun x hx => sgN x (List.mem_of_mem_take hx)) (fun x hx => by simp at hx; unfold Sg; omega), fun h => by rw [h]⟩
  have e3 : placesF (N.map (ren 35 c)) = placesF N := places_ren N fun x _ => hf x
  have e4 : marksL (rn 35 c l) = marksL l := marks_ren l fun x _ => hf x
  unfold entF
  rw [e3, e4]
  by_cases q : StrLaws.dbl 34 N = l
  · rw [if_pos q, if_pos (c1.mpr q)]
    by_cases q2 : N.take 1 = [35]
    · rw [if_pos q2, if_pos (c2.mpr q2)]
    · rw [if_neg q2, if_neg fun h => q2 (c2.mp h)]
  · rw [if_neg q, if_neg fun h => q (c1.mp h)]
theorem fold_ren (hc : 35 ≤ c) (h3 : c ≠ 97) (htl : tl ∈ [[], [32, 97], [32, 34]]) : ∀ (ls : List (List Nat)) (F : Ent), (∀ l ∈ ls, ∀ x ∈ l, x = 35 ∨ x = 34) → (ls.map (rn 35 c)).foldl (stepE c b way tl) F = ls.foldl (stepE 35 b way tl) F
  | [], _, _ => rfl
  | l :: r, F, h => by
    rw [List.map_cons, List.foldl_cons, List.foldl_cons, step_ren hc h3 htl (h l (List.mem_cons_self ..)), fold_ren hc h3 htl r _ fun l hl => h l (List.mem_cons_of_mem _ hl)]
def goodE (b : Int) (n : Nat) (E : Ent) : Prop := E.n1 = 2 ^ n ∧ E.n2 = writF n ∧ E.n3 = turnsF E.D n b 0 ∧ E.n4 = turnsF E.D n b 1 ∧ sumV E.D = togF b n ∧ E.D.length = n + 1 ∧ ∀ p ∈ E.D, getI (marksF b n) p.1 = some p.2
theorem good_of {n : Nat} {E : EntP} (h : okP n E = true) : goodE b n (evE b E) := by
  unfold okP at h
  simp only [Bool.and_eq_true, decide_eq_true_eq, List.all_eq_true] at h
  obtain ⟨⟨⟨⟨⟨⟨h1, h2⟩, h3⟩, h4⟩, h5⟩, h6⟩, h7⟩ := h
  refine ⟨h1, h2, ?_, ?_, ?_, ?_, ?_⟩
  · show ev b E.n3 = turnsF (evD b E.D) n b 0
    rw [turns_ev]; exact ev_eq b h3
  · show ev b E.n4 = turnsF (evD b E.D) n b 1
    rw [turns_ev]; exact ev_eq b h4
  · show sumV (evD b E.D) = (itT b (n - 1)).2
    rw [sum_ev, tog_ev]; exact ev_eq b h5
  · show (evD b E.D).length = n + 1
    rw [evD, List.length_map]; exact h6
  · intro p hp
    obtain ⟨q, hq, rfl⟩ := List.mem_map.mp hp
    have h := h7 q hq
    rw [marks_ev, get_ev]
    dsimp only
    cases hg : getP (marksP n) q.1 with
    | none => rw [hg] at h; cases h
    | some x =>
      rw [hg] at h
      have h : trimP x = trimP q.2 := by simpa using h
      show some (ev b x) = some (ev b q.2)
      rw [ev_eq b h]
theorem plain {n : Nat} (hn1 : 3 ≤ n) (hn2 : n ≤ 5) (hw : way = 1 ∨ way = -1) (hc : 35 ≤ c) (htl : tl ∈ [[], [32, 97], [32, 34]]) : goodE b n ((textsL c n).foldl (stepE c b way tl) zeroE) := by
  have hw' : way ∈ [(1 : Int), -1] := by rcases hw with rfl | rfl <;> simp
  have ez : zeroE = evE b zeroP := rfl
  have hok : ∀ c₀ ∈ [35, 97], okP n (totP c₀ n way tl) = true := fun c₀ h0 => by
    have hn : n = 3 ∨ n = 4 ∨ n = 5 := by omega
    rcases hn with rfl | rfl | rfl
    · exact ok3 c₀ h0 way hw' tl htl
    · exact ok4 c₀ h0 way hw' tl htl
    · exact ok5 c₀ h0 way hw' tl htl
  by_cases h3 : c = 97
  · subst h3
    rw [ez, fold_ev]
    exact good_of (hok 97 (by simp))
  · rw [texts_ren 35 c (by decide) n, fold_ren hc h3 htl _ _ (texts_mem 35 n), ez, fold_ev]
    exact good_of (hok 35 (by simp))
theorem plainT {n : Nat} (hn1 : 3 ≤ n) (hn2 : n ≤ 5) (hw : way = 1 ∨ way = -1) (hc : 35 ≤ c) (hl : l ∈ textsL c n) : ((cntF (ansL way l) : Nat) : Int) = aheadF l (leadF way c) ∧ (ansL way l).sum = ((ansL way l).length : Int) - 2 * ((cntF (ansL way l) : Nat) : Int) := by
  have hw' : way ∈ [(1 : Int), -1] := by rcases hw with rfl | rfl <;> simp
  have hn : n ∈ [3, 4, 5] := by simp; omega
  have key : ∀ l₀ ∈ textsL 35 n, ((cntF (ansL way (rn 35 c l₀)) : Nat) : Int) = aheadF (rn 35 c l₀) (leadF way c) ∧ (ansL way (rn 35 c l₀)).sum = ((ansL way (rn 35 c l₀)).length : Int) - 2 * ((cntF (ansL way (rn 35 c l₀)) : Nat) : Int) := by
    intro l₀ h0
    have h := okt n hn 35 (by simp) way hw' l₀ h0
    unfold okT at h
    simp only [Bool.and_eq_true, decide_eq_true_eq] at h
    have hm := texts_mem 35 n l₀ h0
    have ea : ansL way (rn 35 c l₀) = ansL way l₀ := by
      refine ans_ren way l₀ ?_
      intro x hx y hy
      unfold ren
      rcases hm x hx with rfl | rfl <;> rcases hm y hy with rfl | rfl <;> simp <;> omega
    have el : leadF way c = ren 35 c (leadF way 35) := by
      unfold leadF
      rcases hw with rfl | rfl <;> simp [ren]
    have eh : aheadF (rn 35 c l₀) (leadF way c) = aheadF l₀ (leadF way 35) := by
      unfold aheadF
      rw [el, stepA_ren l₀ (leadF way 35)]
      intro x hx
      have hl35 : leadF way 35 = 34 ∨ leadF way 35 = 35 := by unfold leadF; rcases hw with rfl | rfl <;> simp
      unfold ren
      rcases hm x hx with rfl | rfl <;> rcases hl35 with q | q <;> rw [q] <;> simp <;> omega
    rw [ea, eh]
    exact h
  rw [texts_ren 35 c (by decide) n] at hl
  obtain ⟨l₀, h0, rfl⟩ := List.mem_map.mp hl
  exact key l₀ h0
end
end
section
open PySem PySem.W PyProof.Rows PySem.Calls
set_option maxRecDepth 100000
section
variable {w : World} {A : Around} {E : Value → Shared → Prop} {s : Shared}
theorem sliceApplied_2 {sl : Addr} {u : Tok} {Q : Int × Int × Nat → Shared → Prop} (hs : s.heap.IsSliceOf sl .none (.int 2 u) .none) (h : Q ((0 : Int), 1, 2) s) :
    wpAny (model prg w) A (Builtin.Slice.sliceApplied (.ref sl) (pure ((5 : Nat) : Int))) Q E s := by
  obtain ⟨os, hos, hcs, hds⟩ := id hs
  unfold Builtin.Slice.sliceApplied Builtin.Slice.sliceFields
  refine wpAny_bind (wpAny_bind (wpAny_field hos hds (x := .none) rfl (wpAny_bind (wpAny_field hos hds (x := .int 2 u) rfl (wpAny_bind (wpAny_field hos hds (x := .none) rfl (wpAny_pure ?_)))))))
  refine wpAny_bind (slicePart_none ?_)
  show wpAny _ _ (if ((1 : Int) == 0) = true then _ else _) _ _ s
  rw [if_neg (by decide)]
  refine wpAny_bind (slicePart_none (wpAny_bind (slicePart_int (wpAny_bind (wpAny_pure ?_)))))
  have e : Builtin.Slice.sliceAdjust none (some (2 : Int)) 1 ((5 : Nat) : Int) = ((0 : Int), (2 : Int)) := by decide
  have e2 : Builtin.Slice.slicePlaces (0 : Int) (2 : Int) 1 = 2 := by decide
  show wpAny _ _ (match Builtin.Slice.sliceAdjust none (some (2 : Int)) 1 ((5 : Nat) : Int) with | (lo, hi) => pure (lo, (1 : Int), Builtin.Slice.slicePlaces lo hi 1)) _ _ s
  rw [e]
  show wpAny _ _ (pure ((0 : Int), (1 : Int), Builtin.Slice.slicePlaces (0 : Int) (2 : Int) 1)) _ _ s
  rw [e2]
  exact wpAny_pure h
theorem getItem_to2 {t sl : Addr} {v1 v2 v3 v4 v5 : Value} {u : Tok} {Q : Value → Shared → Prop} (ht : IsTup s.heap t #[v1, v2, v3, v4, v5]) (hs : s.heap.IsSliceOf sl .none (.int 2 u) .none)
    (h : Q (.ref s.heap.objs.size) { s with heap := s.heap.push { cls := .type "tuple", data := .seq #[v1, v2] } }) : wpAny (model prg w) A (getItem (.ref t) (.ref sl)) Q E s := by
  obtain ⟨os, hos, hcs, hds⟩ := id hs
  have hTs : s.TypeIs (.ref sl) "slice" := ⟨os, hos, hcs⟩
  unfold getItem
  try with_reducible refine wpAny_holding ?_
  first | refine wpAny_bind (wpAny_pure ?_) | skip
  refine wpAny_bind (wpAny_sequenceKey ht.typeIs (by decide) ?_)
  refine wpAny_bind (wpAny_callSpecial?_slot (name := Str.ofString "__getitem__") ht.typeIs slot_tuple_getitem
    (wpAny_call_entry slot_tuple_getitem ht.typeIs entry_tuple_getitem ?_ (args_tuple_getitem _ _)))
  show wpAny _ _ (Builtin.Tuple.tupleItemsOf (.ref t) >>= _) _ _ s
  refine wpAny_bind (tupleItemsOf_ ht ?_)
  refine wpAny_bind (wpAny_typeOf hTs ?_)
  rw [if_pos (by decide)]
  refine wpAny_bind (sliceApplied_2 hs ?_)
  show wpAny _ _ (if ((0 : Int) == 0 && (1 : Int) == 1 && (2 : Nat) == 5) = true then _ else _) _ _ s
  rw [if_neg (by decide)]
  have e : ((List.range 2).filterMap fun (k : Nat) => #[v1, v2, v3, v4, v5][((0 : Int) + (k : Int) * 1).toNat]?).toArray = #[v1, v2] := rfl
  have hok : sizeOk (.seq #[v1, v2]) := by show 2 ≤ sizeLine; rw [sizeLine_eq]; decide
  rw [e]
  first
    | exact wpAny_bind (m := Builtin.Tuple.tupleExact _) (wpAny_newObj_type (wpAny_pure ⟨_, rfl, wpAny_pure h⟩) hok)
    | exact wpAny_bind (m := Builtin.Tuple.tupleExact _) (wpAny_newObj_type (wpAny_bind (wpAny_pure (wpAny_pure ⟨_, rfl, wpAny_pure h⟩))) hok)
    | exact wpAny_bind (wpAny_bind (m := Builtin.Tuple.tupleExact _) (wpAny_newObj_type (wpAny_pure (wpAny_pure ⟨_, rfl, wpAny_pure h⟩)) hok))
    | exact wpAny_bind (wpAny_bind (m := Builtin.Tuple.tupleExact _) (wpAny_newObj_type (wpAny_pure ⟨_, rfl, wpAny_pure h⟩) hok))
theorem sub_to2 {value slice : Expr} {t L : Addr} {h₀ : Heap} {m : Str → Option Value} {own : List (Addr × Obj)} {v1 v2 v3 v4 v5 : Value} {u : Tok} {Q E : Value → Shared → Prop} (F : Fr h₀ L s.heap m) (N : News h₀ L s.heap own) (ht : s.heap.IsTuple t #[v1, v2, v3, v4, v5])
    (h : ∀ h' tp, Fr h₀ L h' m → News h₀ L h' ((tp, { cls := .type "tuple", data := .seq #[v1, v2] }) :: own) → Q (.ref tp) { s with heap := h' })
    (hs : subscripted slice false (.ref t) (.ref s.heap.objs.size) = operate [.ref s.heap.objs.size, .ref t] (getItem (.ref t) (.ref s.heap.objs.size)) := by with_unfolding_all rfl)
    (hg : ∀ r, letTemporaryGo value (.ref t) r = pure () := by intro _; with_unfolding_all rfl) :
    wpAny (model prg w) A (subscriptTail value slice (.ref t) (.ref s.heap.objs.size)) Q E { s with heap := s.heap.push { cls := .type "slice", data := .fields #[.none, .int 2 u, .none] } } := by
  have ht' : IsTup (s.heap.push { cls := .type "slice", data := .fields #[.none, .int 2 u, .none] }) t #[v1, v2, v3, v4, v5] := ht.at fun _ e => Heap.get?_push_of_some _ e
  refine subscriptTail_ops (s := { s with heap := s.heap.push { cls := .type "slice", data := .fields #[.none, .int 2 u, .none] } }) ht'.typeIs slot_tuple_getitem.lookup
    (getItem_to2 ht' (Heap.IsSliceOf.new ..) ?_) hs hg
  have F1 := F.push { cls := .type "slice", data := .fields #[.none, .int 2 u, .none] }
  exact h _ _ (F1.push _) (News.push F1 (News.up N fun _ _ e => Heap.get?_push_of_some _ e) _)
theorem ne_tup2 {l l2 : Addr} {x1 x2 y1 y2 : Int} {t1 t2 t3 t4 : Tok} {Q E : Value → Shared → Prop} (hl : s.heap.IsTuple l #[.int x1 t1, .int x2 t2]) (hb : s.heap.IsTuple l2 #[.int y1 t3, .int y2 t4]) (hu : A.units < cLine) (e1 : x1 = y1) (e2 : x2 = y2) (h : Q (.bool false) s) :
    wpAny (model prg w) A (compareOp .NotEq (.ref l) (.ref l2)) Q E s := by
  subst e1 e2
  have ee : ∀ (x : Int) (t u : Tok), SeqAt.EqAt A.in1 s (.int x t) (.int x u) true := fun x t u => by
    have := SeqAt.EqAt.int_int (A := A.in1) (s := s) x t x u
    simpa [PyData.eqv] using this
  have k := SeqAt.RcNeAt.tuples (A := A) (e := fun _ => true) hl hb hu (fun j h1 h2 => by
    match j, h1 with
    | 0, _ => exact ee _ _ _
    | 1, _ => exact ee _ _ _
    | j + 2, h => exact absurd h (by simp))
  exact k prg w E Q h
theorem int_hits {vU : List (Int × Int × Tok)} : ∀ vs : List (Int × Int × Tok), (∀ p ∈ vs, getI (vU.map fun v => (v.1, v.2.1)) p.1 = some p.2.1) → KeqHits A s (intPairs vU) (intPairs vs) true
  | [], _ => .nil
  | p :: r, h => by
    obtain ⟨t, ht⟩ := valueAt_ints.2 _ (h p (List.mem_cons_self ..))
    have ee : SeqAt.EqAt A s (.int p.2.1 p.2.2) (.int p.2.1 t) true := by
      have := SeqAt.EqAt.int_int (A := A) (s := s) p.2.1 p.2.2 p.2.1 t
      rw [beq_self_eq_true] at this
      exact this
    exact KeqHits.hit (e := true) (b := true) ht ee (int_hits r fun q hq => h q (List.mem_cons_of_mem _ hq))
theorem ne_dict {a b : Addr} {T U : List (Int × Int)} {Q E : Value → Shared → Prop} (ha : (a == sysModules) = false) (hb : (b == sysModules) = false) (da : DT w s.heap a T) (db : DT w s.heap b U) (hu : A.units < cLine) (hl : T.length = U.length)
    (hall : ∀ p ∈ T, getI U p.1 = some p.2) (h : Q (.bool false) s) : wpAny (model prg w) A (compareOp .NotEq (.ref a) (.ref b)) Q E s := by
  obtain ⟨vT, rfl, dT⟩ := da
  obtain ⟨vU, rfl, dU⟩ := db
  refine keq_ne ha hb dT dU hu (fun _ => int_hits vT fun p hp => hall (p.1, p.2.1) (List.mem_map.mpr ⟨p, hp, rfl⟩)) ?_
  have e : (intPairs vT).length = (intPairs vU).length := by simpa [intPairs] using hl
  rw [e, beq_self_eq_true]
  exact h
theorem item_tup5 {value slice : Expr} {t : Addr} {l : List Value} {i : Int} {k : Nat} {u : Tok} {x : Value} {Q E : Value → Shared → Prop} (hi : i = (k : Int)) (ht : s.heap.IsTuple t l.toArray) (hk : k < l.length) (hl : l.length ≤ 100) (hx : l[k]? = some x) (h : Q x s)
    (hs : subscripted slice false (.ref t) (.int i u) = operate [.ref t, .int i u] (getItem (.ref t) (.int i u)) := by with_unfolding_all rfl) :
    wpAny (model prg w) A (subscriptTail value slice (.ref t) (.int i u)) Q E s := by
  subst hi
  refine item_tupleT (l := l) (j := k) ht (by omega) (by omega) ?_ hx h hs
  unfold seqIndex?
  simp
  omega
end
end
section
open PySem PySem.W PyProof.Rows PySem.Calls
set_option maxRecDepth 100000
section
variable {w : World} {A : Around} {E : Value → Shared → Prop} {s : Shared} {env : Env}
theorem item_listT {value slice : Expr} {a : Addr} {l : List Value} {k : Int} {u : Tok} {x : Value} {Q : Value → Shared → Prop} (hl : s.heap.IsList a l.toArray) (h0 : 0 ≤ k) (hfit : k < 2 ^ 63) (hx : l[k.toNat]? = some x) (h : Q x s)
    (hs : subscripted slice false (.ref a) (.int k u) = operate [.ref a, .int k u] (getItem (.ref a) (.int k u)) := by with_unfolding_all rfl) :
    wpAny (model prg w) A (subscriptTail value slice (.ref a) (.int k u)) Q E s :=
  tail_any hl.typeIs slot_list_getitem.lookup (wpAny_getItem_list hl h0 hfit (by simpa using hx) h) hs
theorem join_str {c : Prop} [Decidable c] {e1 e2 : Expr} {K : Value → Shared → Prop} {x : Str}
    (h1 : c → ∀ K' : Value → Shared → Prop, (∀ t tk, K' (.str x t) { s with toks := tk }) → wpAny (model prg w) A (eval e1 env) K' E s)
    (h2 : ¬ c → ∀ K' : Value → Shared → Prop, (∀ t tk, K' (.str x t) { s with toks := tk }) → wpAny (model prg w) A (eval e2 env) K' E s)
    (h : ∀ t tk, K (.str x t) { s with toks := tk }) : if c then wpAny (model prg w) A (eval e1 env) K E s else wpAny (model prg w) A (eval e2 env) K E s := by
  by_cases hc : c
  · rw [if_pos hc]; exact h1 hc K h
  · rw [if_neg hc]; exact h2 hc K h
end
theorem len_listK {w : World} {A : Around} {E : Value → Shared → Prop} {s : Shared} {l : Addr} {vs : List Value} {k : Nat} {Q : Value → Shared → Prop} (hl : s.heap.IsList l vs.toArray) (hk : vs.length = k) (hb : k ≤ 100000) (h : Q (.int (k : Int) (s.toks + 1)) { s with toks := s.toks + 1 + 1 }) :
    wpAny (model prg w) A (call (.builtin "len") [.ref l]) Q E s := by
  subst hk
  exact Calls.call_len_list hl (by rw [List.size_toArray]; omega) (by rw [List.size_toArray]; exact h)
theorem fmod_bd (a : Int) {m : Int} (hm : 0 < m) : 0 ≤ a.fmod m ∧ a.fmod m < m := ⟨Int.fmod_nonneg_of_pos a hm, Int.fmod_lt_of_pos a hm⟩
theorem size_ex (k : Nat) (t1 t2 t3 : Tok) : ∃ (n : Nat) (t : Tok), [Value.int 4 t1, .int 3 t2, .int 5 t3][((k : Int).fmod 3).toNat]? = some (.int (n : Int) t) ∧ 3 ≤ n ∧ n ≤ 5 := by
  have h := fmod_bd (k : Int) (m := 3) (by decide)
  obtain ⟨j, hj⟩ : ∃ j, j = ((k : Int).fmod 3).toNat := ⟨_, rfl⟩
  rw [← hj]
  match j, (by omega : j < 3) with
  | 0, _ => exact ⟨4, _, rfl, by decide, by decide⟩
  | 1, _ => exact ⟨3, _, rfl, by decide, by decide⟩
  | 2, _ => exact ⟨5, _, rfl, by decide, by decide⟩
theorem tail_ex (k : Int) (t1 t2 t3 : Tok) : ∃ (l : List Nat) (t : Tok), [Value.str "" t1, .str " a" t2, .str " \"" t3][(k.fmod 3).toNat]? = some (.str (S l) t) ∧ l ∈ [[], [32, 97], [32, 34]] := by
  have h := fmod_bd k (m := 3) (by decide)
  obtain ⟨j, hj⟩ : ∃ j, j = (k.fmod 3).toNat := ⟨_, rfl⟩
  rw [← hj]
  have e0 : ("" : Str) = S [] := by decide +kernel
  have e1 : (" a" : Str) = S [32, 97] := by decide +kernel
  have e2 : (" \"" : Str) = S [32, 34] := by decide +kernel
  rw [e0, e1, e2]
  match j, (by omega : j < 3) with
  | 0, _ => exact ⟨[], _, rfl, by simp⟩
  | 1, _ => exact ⟨[32, 97], _, rfl, by simp⟩
  | 2, _ => exact ⟨[32, 34], _, rfl, by simp⟩
def JCst (n : Nat) (b : Int) (c : Nat) (tl : List Nat) (way : Int) (m : Str → Option Value) : Prop := ∃ t1 t2 t3 t4 t5 t6, m (Str.ofString "size") = some (.int (n : Int) t1) ∧ m (Str.ofString "base") = some (.int b t2) ∧ m (Str.ofString "letter") = some (.str (S [c]) t3) ∧
  m (Str.ofString "tail") = some (.str (S tl) t4) ∧ m (Str.ofString "way") = some (.int way t5) ∧ m (Str.ofString "leader") = some (.str (S [leadF way c]) t6)
def JF (w : World) (L I : Addr) (E : Ent) (m : Str → Option Value) (h : Heap) : Prop := ∃ fa d u1 u2 u3 u4, m (Str.ofString "found") = some (.ref fa) ∧ fa ≠ L ∧ fa ≠ I ∧ d ≠ L ∧ d ≠ I ∧ (d == sysModules) = false ∧
  h.IsTuple fa #[.int E.n1 u1, .int E.n2 u2, .int E.n3 u3, .int E.n4 u4, .ref d] ∧ DT w h d E.D
theorem JF.cast {w : World} {L I : Addr} {E E' : Ent} {m : Str → Option Value} {h : Heap} (e : E = E') (x : JF w L I E m h) : JF w L I E' m h := e ▸ x
def JLaw (w : World) (L : Addr) (n : Nat) (b : Int) (c : Nat) (tl : List Nat) (way : Int) (I : Addr) (i : Nat) (m : Str → Option Value) (h : Heap) : Prop :=
  JCst n b c tl way m ∧ JF w L I (((textsL c n).take i).foldl (stepE c b way tl) zeroE) m h
local macro_rules | `(tactic| walk_at "go4") => `(tactic| repeat' (first | (k_closed; walk1) | ((fail_if_success (with_reducible show (ite _ _ _ : Prop))); (fail_if_success (with_reducible show wpAny _ _ (call (Value.builtin _) [Value.ref _]) _ _ _)); (fail_if_success (with_reducible show wpAny _ _ (exec (Stmt.While _ _ _ _) _) _ _ _)); (fail_if_success (with_reducible show wpAny _ _ (binaryOp Operator.Add (Value.str _ _) (Value.str _ _)) _ _ _)); (fail_if_success (with_reducible show wpAny _ _ (subscriptTail _ _ (Value.str _ _) (Value.int _ _)) _ _ _)); (fail_if_success (with_reducible show wpAny _ _ (binaryOp Operator.Mult (Value.int _ _) (Value.int _ _)) _ _ _)); (fail_if_success (with_reducible show wpAny _ _ (binaryOp Operator.Pow (Value.int _ _) (Value.int _ _)) _ _ _)); (fail_if_success (with_reducible show wpAny _ _ (call (Value.ref _) _) _ _ _)); (fail_if_success (with_reducible show wpAny _ _ (eval (Expr.ListComp _ _ _ _) _) _ _ _)); (fail_if_success (with_reducible show wpAny _ _ (eval (Expr.Dict _ _ _) _) _ _ _)); (fail_if_success (with_reducible show wpAny _ _ (eval (Expr.DictComp _ _ _ _ _) _) _ _ _)); (fail_if_success (with_reducible show wpAny _ _ (getMethod (Value.ref _) _ _) _ _ _)); (fail_if_success (with_reducible show wpAny _ _ (subscriptTail _ _ (Value.ref _) _) _ _ _)); (fail_if_success (with_reducible show wpAny _ _ (exec (Stmt.For _ _ _ _ _) _) _ _ _)); first | walk1 | (dsimp only; walk1))))
theorem law_good {s s' : Shared} {L : Addr} {m : Str → Option Value} {cl : Str → Option Addr} {mean : ExcName → Option Value} {ns : List Int} (F : Fr s.heap L s'.heap m) (hg : s'.gens = #[]) (hos : s'.os = s.os) :
    GoodW PySem.Challenge.rw_ph0042_01.row.claim cl mean [ofPy (PyData.list (ns.map PyData.int))] s (.ok (.ret (.bool true))) s' := by
  refine goodW_bool F hg (raisesW_false ?_) ?_ hos
  · wrow_none_raised
  · wrow_post
/-- the law's end: True, what stood kept -/
def LEnd (s : Shared) (f : Flow) (s' : Shared) : Prop := f = .ret (.bool true) ∧ ∃ m, Fr s.heap s.heap.objs.size s'.heap m ∧ s'.gens = s.gens ∧ s'.os = s.os
set_option maxHeartbeats 8000000 in
theorem law_holds : PySem.Challenge.rw_ph0042_01.Holds := Mine.hd (by
  k_go0
  with_reducible rename Top _ _ _ _ _ _ => TT
  with_reducible rename Frag.In _ _ => KX
  with_reducible rename Heap.IsList _ _ _ => hL
  with_reducible rename IntsAre _ _ => hI
  with_reducible rename Fr _ _ _ _ => F
  with_reducible rename News _ _ _ _ => N
  with_reducible rename (¬ ((63 : Nat) : Int) < _) => hlen
  with_reducible rename Ground _ _ _ _ _ _ _ _ _ => z1
  with_reducible rename Glob _ _ _ _ _ _ _ _ => z2
  with_reducible rename Tables _ _ _ _ => z3
  with_reducible rename TopE _ _ _ _ => z4
  with_reducible rename TopW _ _ _ => z5
  with_reducible rename BMod _ _ _ _ _ => z6
  with_reducible rename Heap.CodeRec _ _ _ => z7
  with_reducible rename Below _ _ _ _ => z8
  have C : Cx _ _ := ⟨KX, _, _, topRead_of TT⟩
  have R' : Rm callerA 100 5000 := ⟨rfl, by decide, by decide⟩
  obtain ⟨mg, mb, T⟩ := C.t
  with_reducible rename World => w
  with_reducible rename Shared => s
  have X : (Mine.hd.heap_39 w.params).In s.heap := C.k
  have CX : Cx w s.heap := C
  with_reducible rename List Int => ns
  clear z1 z2 z3 z4 z5 z6 z8 TT KX C
  have hgens : s.gens = #[] := by assumption
  refine wpAny_mono (Q := LEnd s) (E := fun _ _ => False) ?_ ?_ (fun _ _ e => e.elim)
  rotate_left
  · rintro f s' ⟨rfl, m, Fm, hg', hos'⟩
    exact law_good Fm (hg'.trans hgens) hos'
  walk_at "go3"
  with_reducible rename News _ _ _ _ => N1
  have el := N1 _ (List.Mem.head _)
  obtain ⟨n, tn, hx, hn1, hn2⟩ := size_ex ns.length _ _ _
  have hm := fmod_bd (ns.length : Int) (m := 3) (by decide)
  refine item_listT (l := [.int 4 _, .int 3 _, .int 5 _]) ⟨_, el.1, rfl, _, rfl⟩ hm.1 (by omega) hx ?_
  clear el hx
  walk_at "go3"
  with_reducible rename News _ _ _ _ => N1
  have el := N1 _ (List.Mem.head _)
  obtain ⟨tl, tt, hx, htl⟩ := tail_ex ns.sum _ _ _
  have hm3 := fmod_bd ns.sum (m := 3) (by decide)
  refine item_listT (l := [.str "" _, .str " a" _, .str " \"" _]) ⟨_, el.1, rfl, _, rfl⟩ hm3.1 (by omega) hx ?_
  clear el hx
  walk_at "go3"
  refine mulI (.inl (by decide)) ?_
  walk_at "go3"
  have hb1 := fmod_bd (ns.sum + 1003) (m := 2001) (by decide)
  have hc1 := fmod_bd ns.sum (m := 50000) (by decide)
  have hw1 := fmod_bd ns.sum (m := 2) (by decide)
  refine join_str (x := S [if 1 - 2 * ns.sum.fmod 2 = 1 then 34 else (35 + ns.sum.fmod 50000).toNat]) ?_ ?_ ?_
  · intro hc K' hK
    walk_at "go3"
    have e := hK
    rw [if_pos (by simpa using hc)] at e
    rw [← S34] at e
    exact e _ _
  · intro hc K' hK
    walk_at "go3"
    have e := hK
    rw [if_neg (by simpa using hc)] at e
    exact e _ _
  intro t5 tk5
  walk_at "go3"
  walk1
  walk_at "go3"
  refine For_invV s.heap rfl rfl ?_
  walk_at "go3"
  with_reducible rename Fr _ _ _ _ => F2
  with_reducible rename News _ _ _ _ => N2
  with_reducible rename (_ == sysModules) = false => hDS
  with_reducible rename Obj.IsDictOf (intKind prg w) _ [] => hod
  obtain ⟨c, hc⟩ : ∃ c, c = (35 + ns.sum.fmod 50000).toNat := ⟨_, rfl⟩
  obtain ⟨b, hb⟩ : ∃ b, b = (ns.sum + 1003).fmod 2001 - 1000 := ⟨_, rfl⟩
  obtain ⟨way, hway⟩ : ∃ way, way = 1 - 2 * ns.sum.fmod 2 := ⟨_, rfl⟩
  have hc35 : 35 ≤ c := by omega
  have hb' : b.natAbs ≤ 1000 := by omega
  have hw' : way = 1 ∨ way = -1 := by omega
  refine c_texts (c := (35 + ns.sum.fmod 50000).toNat) (n := n) (CX.keeps F2.keep) (R'.deep (by decide) (by decide) _) hn2 ?_
  intro h3 tk3 la vs k3 hla hpl hvs
  rw [← hc] at hvs
  have hlaL : la ≠ s.heap.objs.size := fun q => by
    obtain ⟨o, es, ep, e, _⟩ := F2.ns
    rw [q] at hla
    exact absurd (hla.symm.trans e) (by simp)
  have F3 := Fr.up F2 k3
  have N3 := News.up N2 k3
  have ht := N3 _ (List.Mem.head _)
  have hd := N3 _ (List.Mem.tail _ (List.Mem.head _))
  dsimp only
  refine iter_listH (vs := vs) (JLaw w s.heap.objs.size n b c tl way) R'.h hpl.isList hlaL F3 ?_ ?_ ?_ ?_
  · rintro i m h h' ⟨j1, fa, d, u1, u2, u3, u4, j2, j3, j4, j5, j6, j7, j8, j9⟩ k
    exact ⟨j1, fa, d, u1, u2, u3, u4, j2, j3, j4, j5, j6, j7, j8.at fun o e => k fa o j3 j4 e, j9.at fun o e => k d o j5 j6 e⟩
  · refine ⟨⟨_, _, _, _, _, _, rfl, by rw [hb]; rfl, by rw [hc]; rfl, rfl, by rw [hway]; rfl, by rw [hway, hc]; rfl⟩, _, _, _, _, _, _, rfl, ht.2.1, Nat.ne_of_lt (Heap.lt_size ht.1), hd.2.1, Nat.ne_of_lt (Heap.lt_size hd.1), hDS, ⟨_, ht.1, rfl, _, rfl⟩, [], rfl, Heap.dictOf_iff.mpr ⟨_, hd.1, hod⟩⟩
  · rintro i v m₁ h tk own hv ⟨⟨t1, t2, t3, t4, t5, t6, m1, m2, m3, m4, m5, m6⟩, fa, d, u1, u2, u3, u4, m7, q1, q2, q3, q4, hdS, htup, hdt⟩ hlive hk F₁ N₁ ho
    obtain ⟨x, tv, hx, rfl⟩ := strs_get hvs hv
    rw [List.getElem?_map] at hx
    obtain ⟨txt, htxt, rfl⟩ := Option.map_eq_some_iff.mp hx
    have htm := List.mem_of_getElem? htxt
    have hlen := textsL_len c n txt htm
    have htll : tl.length ≤ 2 := by
      simp only [List.mem_cons, List.not_mem_nil, or_false] at htl
      rcases htl with rfl | rfl | rfl <;> decide
    have kp0 := ho.kp F₁
    have hEs : ((textsL c n).take (i + 1)).foldl (stepE c b way tl) zeroE = stepE c b way tl (((textsL c n).take i).foldl (stepE c b way tl) zeroE) txt := by
      rw [List.take_add_one, htxt, List.foldl_append]; rfl
    have hDl : (((textsL c n).take i).foldl (stepE c b way tl) zeroE).D.length ≤ 32 := by
      have e1 := fold_lenE c b way tl ((textsL c n).take i) zeroE
      have e2 := List.length_take_le' i (textsL c n)
      rw [textsL_size] at e2
      have e3 : (2 : Nat) ^ n ≤ 2 ^ 5 := Nat.pow_le_pow_right (by decide) hn2
      have e4 : (2 : Nat) ^ 5 = 32 := by decide
      have e5 : zeroE.D.length = 0 := rfl
      omega
    have hplain := plainT hn1 hn2 hw' hc35 htm
    generalize ((textsL c n).take i).foldl (stepE c b way tl) zeroE = E1 at hEs hDl htup hdt
    rw [← wL_eq (ps := [(Str.ofString "size", .int (n : Int) t1), (Str.ofString "base", .int b t2), (Str.ofString "letter", .str (S [c]) t3), (Str.ofString "tail", .str (S tl) t4), (Str.ofString "way", .int way t5), (Str.ofString "leader", .str (S [leadF way c]) t6), (Str.ofString "found", .ref fa)]) (m := m₁)
      (by intro p hp; simp only [List.mem_cons, List.not_mem_nil, or_false] at hp; rcases hp with rfl | rfl | rfl | rfl | rfl | rfl | rfl <;> assumption)] at F₁
    have hIL : h3.objs.size ≠ s.heap.objs.size := Nat.ne_of_gt F3.ns.lt
    clear F2 N2 F3 N3 ht hd
    walk_at "go3"
    refine addS (a := [50, 53, 55, 32, 34]) (b := txt) (by simp only [List.length_cons, List.length_nil]; omega) fun t7 tk7 => ?_
    walk_at "go3"
    refine addS (b := [34]) (by simp only [List.length_cons, List.length_nil, List.length_append]; omega) fun t8 tk8 => ?_
    walk_at "go3"
    refine addS (b := tl) (by simp only [List.length_cons, List.length_nil, List.length_append]; omega) fun t9 tk9 => ?_
    walk_at "go3"
    with_reducible rename Fr _ _ _ _ => F5
    with_reducible rename News _ _ _ _ => N5
    refine c_parse (l := (txt ++ [34]) ++ tl) (CX.keeps F5.keep) (R'.deep (by decide) (by decide) _) (by simp only [List.length_cons, List.length_nil, List.length_append]; omega) ?_
    intro h6 tk6 t10 k6
    have F6 := Fr.up F5 k6
    have N6 := News.up N5 k6
    clear F5 N5
    walk_at "go3"
    with_reducible rename Fr _ _ _ _ => F7
    with_reducible rename News _ _ _ _ => N7
    refine c_answers (CX.keeps F7.keep) (R'.deep (by decide) (by decide) _) (by omega) ?_
    intro h8 tk11 a8 vs8 k8 ha8 hpl8 hi8
    have F8 := Fr.up F7 k8
    have N8 := News.up N7 k8
    obtain ⟨n8, hp8⟩ := id hpl8
    have ha8L : a8 ≠ s.heap.objs.size := fun q => by
      obtain ⟨o, es, ep, e, _⟩ := F7.ns
      rw [q] at ha8
      exact absurd (ha8.symm.trans e) (by simp)
    have ha8n : s.heap.get? a8 = none := by
      cases e : s.heap.get? a8 with
      | none => rfl
      | some o => exact absurd (ha8.symm.trans (F7.keep _ _ e)) (by simp)
    have N9 : News s.heap s.heap.objs.size h8 ((a8, _) :: own) := fun p hp => by
      rcases List.mem_cons.mp hp with q | q
      · rw [q]; exact ⟨hp8, ha8L, ha8n⟩
      · exact N8 p q
    have hal : (ansL way txt).length ≤ 25 := by
      have e1 := ans_len way txt txt.length
      have e2 : txt.length * txt.length ≤ 5 * 5 := Nat.mul_le_mul (by omega) (by omega)
      show ((List.range txt.length).flatMap (ansRow way txt)).length ≤ 25
      omega
    have hvl : vs8.length = (ansL way txt).length := hi8.length
    clear F7 N7 N8 hpl8
    walk_at "go3"
    refine eval_comp1 (by with_unfolding_all rfl) rfl (by decide) ?_
    walk_at "go3"
    with_reducible rename Fr _ _ _ _ => F10
    with_reducible rename News _ _ _ _ => N10
    have hil : Heap.IsList _ a8 vs8.toArray := ⟨_, (N10 _ (List.Mem.head _)).1, rfl, _, rfl⟩
    have halt := Heap.lt_size (N10 _ (List.Mem.head _)).1
    refine wpAny_pyIter_list hil ?_
    refine comp1N (n := vs8.toArray.size) (Walks.list (R'.dh _) _ a8 (Nat.ne_of_lt halt) vs8.toArray) ⟨⟨_, Heap.get?_push_size _ rfl, rfl, rfl⟩, hil.push _⟩ ?_
      (fun D C k ys m h => ys.length = cntF ((ansL way txt).take k)) (by decide) rfl rfl ?_ ?_ ?_ ?_ ?_
    · intro q hq
      rcases List.mem_cons.mp hq with e | e
      · rw [e]; exact Nat.le_refl _
      · rw [List.mem_singleton.mp e]; exact Nat.le_of_lt halt
    · intro D C h _; rfl
    · intro D C k ys m h h' _ _ q _; exact q
    · intro D C k ys m h q
      have := cnt_le ((ansL way txt).take k)
      have := List.length_take_le' k (ansL way txt)
      omega
    · rintro hb2 D C k v ys m h11 tk12 own11 khb hbD hID hDC hk11 hv11 hJ F11 N11 ho11 hbI hpl11
      have hkl : k < (ansL way txt).length := by rw [← hvl]; simpa using hk11
      obtain ⟨tx, htx⟩ := ints_get hi8 hkl
      have hve : v = .int ((ansL way txt).getD k 0) tx := by
        have e : vs8[k]? = some v := by simpa using hv11
        rw [htx] at e
        exact (Option.some.inj e).symm
      have e8 : (ansL way txt).take (k + 1) = (ansL way txt).take k ++ [(ansL way txt).getD k 0] := by
        rw [List.take_add_one, List.getD_eq_getElem?_getD, List.getElem?_eq_getElem hkl]; rfl
      subst hve
      have kp11 := ho11.kp F11
      refine wpAny_tests_one ?_
      walk_at "go3"
      by_cases h1 : (ansL way txt).getD k 0 = -1
      · refine ite_pos (by rw [h1]; rfl) ?_
        walk_at "go3"
        with_reducible rename Fr _ _ _ _ => FA
        with_reducible rename News _ _ _ _ => NA
        refine ⟨_, _, _, rfl, FA.ns, kp11 _ _ _ FA NA (fun p hp => hp), ?_⟩
        rw [e8, cnt_snoc, if_pos h1, List.length_append, hJ]
        rfl
      · refine ite_neg (by simpa using h1) ?_
        with_reducible rename Fr _ _ _ _ => FA
        with_reducible rename News _ _ _ _ => NA
        refine ⟨_, _, _, rfl, FA.ns, kp11 _ _ _ FA NA (fun p hp => hp), ?_⟩
        rw [e8, cnt_snoc, if_neg h1, hJ]
        rfl
    intro D C h12 tk13 m' ys hID hDC hpl12 hJ12 hk12
    have F12 := Fr.up F10 hk12
    have N12 := News.up N10 hk12
    have hil12 : Unit → Heap.IsList _ D ys.toArray := fun _ => hpl12.isList
    clear hil hpl12
    rw [List.size_toArray, hvl, List.take_length] at hJ12
    clear F10 N10
    have hcl := cnt_le (ansL way txt)
    walk_at "go4"
    refine len_listK (hil12 ()) hJ12 (by omega) ?_
    walk_at "go3"
    refine addS (b := [34]) (by simp only [List.length_cons, List.length_nil]; omega) fun t15 tk15 => ?_
    walk_at "go3"
    refine addS (b := tl) (by simp only [List.length_cons, List.length_nil, List.length_append]; omega) fun t16 tk16 => ?_
    walk_at "go3"
    with_reducible rename Fr _ _ _ _ => F15
    with_reducible rename News _ _ _ _ => N15
    have hno10 : 10 ∉ (txt ++ [34]) ++ tl := by
      have e1 := texts_mem c n txt htm 10
      intro q
      rcases List.mem_append.mp q with q | q
      · rcases List.mem_append.mp q with q | q
        · have := e1 q; omega
        · simp at q
      · have := tl_sg htl 10 q; unfold Sg at this; omega
    refine c_told (l := (txt ++ [34]) ++ tl) (CX.keeps F15.keep) (R'.deep (by decide) (by decide) _) hno10 (by simp only [List.length_cons, List.length_nil, List.length_append]; omega) ?_
    intro h16 tk17 t17 k16
    have F16 := Fr.up F15 k16
    have N16 := News.up N15 k16
    clear F15 N15
    walk_at "go3"
    refine ite_neg (by simp) ?_
    walk_at "go3"
    with_reducible rename Fr _ _ _ _ => F17
    with_reducible rename News _ _ _ _ => N17
    refine c_ahead (CX.keeps F17.keep) (R'.deep (by decide) (by decide) _) ?_
    intro h18 tk18 t18 k18
    have F18 := Fr.up F17 k18
    have N18 := News.up N17 k18
    clear F17 N17
    walk_at "go3"
    refine ite_neg (by rw [hplain.1]; simp) ?_
    walk_at "go3"
    refine mulI (.inl (by decide)) ?_
    walk_at "go3"
    refine ite_neg (by rw [hplain.2]; simp) ?_
    walk_at "go3"
    with_reducible rename Fr _ _ _ _ => F19
    with_reducible rename News _ _ _ _ => N19
    have hnl : (parseL ((txt ++ [34]) ++ tl)).length ≤ 10 := by
      have e1 := parse_le ((txt ++ [34]) ++ tl)
      simp only [List.length_cons, List.length_nil, List.length_append] at e1
      omega
    refine c_entry (p := cntF (ansL way txt)) (CX.keeps F19.keep) (R'.deep (by decide) (by decide) _) (by omega) hnl hb' (by omega) ?_
    intro h20 tk20 ea k20 hea hEA
    have F20 := Fr.up F19 k20
    have N20 := News.up N19 k20
    clear F19 N19
    walk_at "go3"
    have kp20 := kp0 _ _ _ F20 N20 (fun p hp => List.mem_cons_of_mem _ hp)
    have fr20 : ∀ z, h20.get? z = none → z ≠ s.heap.objs.size ∧ z ≠ h3.objs.size ∧ s.heap.get? z = none := fun z hz => by
      refine ⟨fun q => ?_, fun q => ?_, ?_⟩
      · obtain ⟨o, es, ep, e, _⟩ := F20.ns
        rw [q] at hz
        exact absurd (hz.symm.trans e) (by simp)
      · obtain ⟨o, e⟩ := hlive
        rw [q] at hz
        exact absurd (hz.symm.trans (kp20 _ _ hIL e)) (by simp)
      · cases e : s.heap.get? z with
        | none => rfl
        | some o => exact absurd (hz.symm.trans (F20.keep _ _ e)) (by simp)
    have hEq : ((textsL c n).take (i + 1)).foldl (stepE c b way tl) zeroE = addE E1 (entF txt (parseL ((txt ++ [34]) ++ tl)) c b (cntF (ansL way txt))) := by
      rw [hEs, List.append_assoc]; rfl
    refine c_add (t := E1) (CX.keeps F20.keep) (R'.deep (by decide) (by decide) _) ⟨d, _, _, _, _, hdS, htup.at fun o e => kp20 _ _ q1 e, hdt.at fun o e => kp20 _ _ q3 e⟩ hEA (by omega) (by rw [ent_len]; decide) ?_
    rintro h21 tk21 fa2 k21 hfa2 ⟨d2, v1, v2, v3, v4, hd2, hd2S, ⟨ot, hot, htr⟩, hdt2⟩
    obtain ⟨od2, hod2, hod2'⟩ := hdt2.obj
    have F21 := Fr.up F20 k21
    have N21 := News.up N20 k21
    have N22 : News s.heap s.heap.objs.size h21 ((fa2, ot) :: (d2, od2) :: (a8, _) :: own) := fun p hp => by
      rcases List.mem_cons.mp hp with q | hp
      · rw [q]; exact ⟨hot, (fr20 _ hfa2).1, (fr20 _ hfa2).2.2⟩
      rcases List.mem_cons.mp hp with q | hp
      · rw [q]; exact ⟨hod2, (fr20 _ hd2).1, (fr20 _ hd2).2.2⟩
      exact N21 p hp
    clear F20 N20 N21
    walk_at "go3"
    with_reducible rename Fr _ _ _ _ => F23
    with_reducible rename News _ _ _ _ => N23
    have e1 := (N23 _ (List.Mem.head _)).1
    have e2 := (N23 _ (List.Mem.tail _ (List.Mem.head _))).1
    dsimp only
    refine ⟨_, _, _, _, rfl, F23, N23, fun p hp => List.mem_cons_of_mem _ (List.mem_cons_of_mem _ (List.mem_cons_of_mem _ hp)), ⟨_, _, _, _, _, _, rfl, rfl, rfl, rfl, rfl, rfl⟩, JF.cast hEq.symm ⟨fa2, d2, v1, v2, v3, v4, rfl, (fr20 _ hfa2).1, (fr20 _ hfa2).2.1, (fr20 _ hd2).1, (fr20 _ hd2).2.1, hd2S, ⟨ot, e1, htr⟩, hod2'.dt e2⟩⟩
  · rintro m₁ h tk ⟨⟨t1, t2, t3, t4, t5, t6, m1, m2, m3, m4, m5, m6⟩, fa, d, u1, u2, u3, u4, m7, q1, q2, q3, q4, hdS, htup, hdt⟩ F₁ hk
    have hvl : vs.length = (textsL c n).length := by rw [strs_len hvs, List.length_map]
    have hgood := plain (b := b) hn1 hn2 hw' hc35 htl
    rw [hvl, List.take_length] at htup hdt
    generalize (textsL c n).foldl (stepE c b way tl) zeroE = E1 at htup hdt hgood
    obtain ⟨g1, g2, g3, g4, g5, g6, g7⟩ := hgood
    obtain ⟨own, N₁, ho⟩ := own_ex s.heap s.heap.objs.size h
    have kp0 := ho.kp F₁
    rw [← wL_eq (ps := [(Str.ofString "size", .int (n : Int) t1), (Str.ofString "base", .int b t2), (Str.ofString "found", .ref fa)]) (m := m₁)
      (by intro p hp; simp only [List.mem_cons, List.not_mem_nil, or_false] at hp; rcases hp with rfl | rfl | rfl <;> assumption)] at F₁
    clear F2 N2 F3 N3 ht hd
    dsimp only
    walk_at "go3"
    with_reducible rename Fr _ _ _ _ => F30
    with_reducible rename News _ _ _ _ => N30
    refine sub_to2 (t := fa) F30 N30 (htup.at fun o e => kp0 _ _ _ F30 N30 (fun p hp => hp) fa o q1 e) ?_
    intro h31 tp F31 N31
    clear F30 N30
    walk_at "go3"
    refine powI (a := 2) (k := n) rfl (by omega) (by decide) ?_
    walk_at "go3"
    with_reducible rename Fr _ _ _ _ => F32
    with_reducible rename News _ _ _ _ => N32
    refine c_writings (n := n) (CX.keeps F32.keep) (R'.deep (by decide) (by decide) _) ⟨by omega, by omega⟩ ?_
    intro h33 tk33 t33 k33
    have F33 := Fr.up F32 k33
    have N33 := News.up N32 k33
    clear F32 N32
    walk_at "go3"
    refine ite_neg (by rw [g1, g2]; simp) ?_
    walk_at "go3"
    with_reducible rename Fr _ _ _ _ => F34
    with_reducible rename News _ _ _ _ => N34
    have kp34 := kp0 _ _ _ F34 N34 (fun p hp => by simp [hp])
    refine item_tup5 (k := 4) (l := [_, _, _, _, _]) rfl (htup.at fun o e => kp34 _ _ q1 e) (by simp) (by simp) rfl ?_
    walk_at "go3"
    with_reducible rename Fr _ _ _ _ => F35
    with_reducible rename News _ _ _ _ => N35
    refine c_marks (n := n) (b := b) (CX.keeps F35.keep) (R'.deep (by decide) (by decide) _) hn2 hb' ?_
    intro h36 tk36 d2 k36 hd2 hd2S hdt2
    have kp36 : ∀ z o, z ≠ s.heap.objs.size → h.get? z = some o → h36.get? z = some o := fun z o hz e => k36 _ _ (kp0 _ _ _ F35 N35 (fun p hp => by simp [hp]) z o hz e)
    have F36 := Fr.up F35 k36
    have N36 : News s.heap s.heap.objs.size h36 own := fun p hp => (News.up N35 k36) p (by simp [hp])
    clear F35 N35
    have hml : (marksF b n).length = n + 1 := by simp [marksF]
    walk_at "go3"
    have hun : ∀ env, (callerA.deeper env).units < cLine := fun env => Nat.lt_of_le_of_lt (Nat.le_add_right _ _) (R'.deep (d' := 10) (u' := 500) (by decide) (by decide) env).u
    refine ne_dict hdS hd2S (hdt.at fun o e => kp36 _ _ q3 e) hdt2 (hun _) (by rw [g6, hml]) g7 ?_
    walk_at "go3"
    with_reducible rename Fr _ _ _ _ => F37
    with_reducible rename News _ _ _ _ => N37
    refine item_tup5 (k := 4) (l := [_, _, _, _, _]) rfl (htup.at fun o e => kp0 _ _ _ F37 N37 (fun p hp => by simp [hp]) _ _ q1 e) (by simp) (by simp) rfl ?_
    walk_at "go3"
    with_reducible rename Fr _ _ _ _ => F38
    with_reducible rename News _ _ _ _ => N38
    refine c_count (CX.keeps F38.keep) (R'.deep (by decide) (by decide) _) (hdt.at fun o e => kp0 _ _ _ F38 N38 (fun p hp => by simp [hp]) _ _ q3 e) hdS ?_
    intro h39 tk39 t39 k39
    have F39 := Fr.up F38 k39
    have N39 := News.up N38 k39
    clear F38 N38
    walk_at "go3"
    with_reducible rename Fr _ _ _ _ => F40
    with_reducible rename News _ _ _ _ => N40
    refine c_together (n := n) (b := b) (CX.keeps F40.keep) (R'.deep (by decide) (by decide) _) ⟨by omega, hn2⟩ hb' ?_
    intro h41 tk41 t41 k41
    have F41 := Fr.up F40 k41
    have N41 := News.up N40 k41
    clear F40 N40
    walk_at "go3"
    refine ite_neg (by rw [g5]; simp) ?_
    walk_at "go3"
    with_reducible rename Fr _ _ _ _ => F42
    with_reducible rename News _ _ _ _ => N42
    refine item_tup5 (k := 2) (l := [_, _, _, _, _]) rfl (htup.at fun o e => kp0 _ _ _ F42 N42 (fun p hp => by simp [hp]) _ _ q1 e) (by simp) (by simp) rfl ?_
    walk_at "go3"
    with_reducible rename Fr _ _ _ _ => F43
    with_reducible rename News _ _ _ _ => N43
    refine item_tup5 (k := 4) (l := [_, _, _, _, _]) rfl (htup.at fun o e => kp0 _ _ _ F43 N43 (fun p hp => by simp [hp]) _ _ q1 e) (by simp) (by simp) rfl ?_
    walk_at "go3"
    with_reducible rename Fr _ _ _ _ => F44
    with_reducible rename News _ _ _ _ => N44
    refine c_turns (n := n) (b := b) (more := 0) (CX.keeps F44.keep) (R'.deep (by decide) (by decide) _) (hdt.at fun o e => kp0 _ _ _ F44 N44 (fun p hp => by simp [hp]) _ _ q3 e) hdS hn2 hb' (by decide) ?_
    intro h45 tk45 t45 k45
    have F45 := Fr.up F44 k45
    have N45 := News.up N44 k45
    clear F44 N44
    walk_at "go3"
    refine ite_pos (by rw [g3]; simp) ?_
    walk_at "go3"
    with_reducible rename Fr _ _ _ _ => F46
    with_reducible rename News _ _ _ _ => N46
    refine item_tup5 (k := 3) (l := [_, _, _, _, _]) rfl (htup.at fun o e => kp0 _ _ _ F46 N46 (fun p hp => by simp [hp]) _ _ q1 e) (by simp) (by simp) rfl ?_
    walk_at "go3"
    with_reducible rename Fr _ _ _ _ => F47
    with_reducible rename News _ _ _ _ => N47
    refine item_tup5 (k := 4) (l := [_, _, _, _, _]) rfl (htup.at fun o e => kp0 _ _ _ F47 N47 (fun p hp => by simp [hp]) _ _ q1 e) (by simp) (by simp) rfl ?_
    walk_at "go3"
    with_reducible rename Fr _ _ _ _ => F48
    with_reducible rename News _ _ _ _ => N48
    refine c_turns (n := n) (b := b) (more := 1) (CX.keeps F48.keep) (R'.deep (by decide) (by decide) _) (hdt.at fun o e => kp0 _ _ _ F48 N48 (fun p hp => by simp [hp]) _ _ q3 e) hdS hn2 hb' (by decide) ?_
    intro h49 tk49 t49 k49
    have F49 := Fr.up F48 k49
    have N49 := News.up N48 k49
    clear F48 N48
    walk_at "go3"
    have e49 : (E1.n4 == turnsF E1.D (n : Int) b 1) = true := by rw [g4]; simp
    exact ⟨by rw [e49], _, F49, rfl, rfl⟩)
end
end
end Mine
theorem PySem.Challenge.cw_ph0042_01_holds : PySem.Challenge.rw_ph0042_01.Holds :=
  Mine.law_holds
