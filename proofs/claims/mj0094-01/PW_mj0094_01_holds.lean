import PyProof.Rows.All
import Wide.All
import OpenK.AllK
import Wide.FinOn
import PySem.Challenge.RW_mj0094_01
set_option Elab.async false
section -- Top1
open PySem PySem.W PyProof.Rows
set_option Elab.async false
namespace Mine
set_option maxRecDepth 100000
set_option maxHeartbeats 8000000
open_top hd for PySem.Challenge.rw_mj0094_01
end Mine
end -- Top1

section -- Base
open PySem PySem.W PySem.Calls PyProof.Rows
set_option Elab.async false
set_option maxRecDepth 100000
namespace Mine

noncomputable abbrev prg : Program := PySem.Challenge.rw_mj0094_01.row.prog
noncomputable abbrev vw : Program := Mine.hd.view_39
noncomputable abbrev lse : List Str := looseW Mine.hd.view_39 []

structure OkH (w : World) (mg mb : Str → Option Value) (h : Heap) : Prop where
  K : (Mine.hd.heap_39 w.params).In h
  T : TopRead vw lse mg mb h
  M : ∃ bm ob, BMod h mainGlobals mg bm ob

theorem OkH.keeps {w : World} {mg mb : Str → Option Value} {h h' : Heap} (O : OkH w mg mb h) (k : ∀ b o, h.get? b = some o → h'.get? b = some o) : OkH w mg mb h' :=
  ⟨O.K.keeps k, O.T.keeps k, let ⟨bm, ob, M⟩ := O.M; ⟨bm, ob, M.keeps k⟩⟩

structure Room (A : Around) (n : Nat) : Prop where
  handled : A.handled = none
  depth : A.depth + n < recursionLimit
  units : A.units + 8 * n + 200 < cLine

theorem Room.deeper {A : Around} {n : Nat} (R : Room A (n + 1)) (env : Env) : Room (A.deeper env) n :=
  ⟨R.handled, by have := R.depth; show A.depth + 1 + n < _; omega, by have := R.units; show A.units + 3 + 8 * n + 200 < _; omega⟩

theorem enter {w : World} {mg mb : Str → Option Value} {A : Around} {s : Shared} {Q E : Value → Shared → Prop} {n : Nat} (O : OkH w mg mb s.heap) (R : Room A n)
    {name qual : Str} {params : Arguments} {body : List Stmt} {scope : Scope} {dV kV doc pm cdv ct oc : Value} {an od : Option Addr} {osl : Array (Option Value)} {f : Addr} {args : List Value} {binds : List (Str × Value)}
    (ho : (Mine.hd.heap_39 w.params).lookup f = some ⟨oc, od, .func (fnOf name qual params body scope dV kV doc pm an cdv ct), osl⟩) (hcd : codeIn (Mine.hd.heap_39 w.params) cdv qual = true)
    (hbind : BindsTo s (fnOf name qual params body scope dV kV doc pm an cdv ct) ⟨args, []⟩ binds) (hloc : ∀ y ∈ binds, scope.names.lookup y.1 = some .local)
    (h : ∀ h₁, Fr s.heap s.heap.objs.size h₁ (fun y => binds.reverse.lookup y) → News s.heap s.heap.objs.size h₁ [] →
      wpAny (model prg w) (A.deeper (envOf qual scope s.heap.objs.size f cdv)) (execs body (envOf qual scope s.heap.objs.size f cdv))
        (fun fl s' => Q (match fl with | .ret v => v | _ => .none) s') (fun _ _ => False)
        { s with heap := h₁, toks := s.toks + binds.length })
    (hco : scope.isCoroutine = false) (hgen : scope.isGenerator = false) (hk : scope.kind = .function)
    (hcell : ∀ x ∈ scope.names, x.2 ≠ .cell) :
    wpAny (model prg w) A (call (.ref f) args) Q E s := by
  refine wpAny_call ?_
  refine codeAny_call_def (fd := fnOf name qual params body scope dV kV doc pm an cdv ct) (body := body) (binds := binds) (by have := R.depth; omega) (O.K _ _ ho) rfl O.T.nolimit (codeRec_of O.K hcd) rfl hbind hcell hloc (fun h₁ hns hk₁ => ?_) hco hgen hk
  exact wpAny_mono (h h₁ ⟨hns, hk₁, Nat.le_refl _⟩ News.nil) (fun _ _ x => x) (fun _ _ x => x.elim)


section
variable {prog : Program} {w : World} {A : Around} {E : Value → Shared → Prop} {s : Shared} {Q : Value → Shared → Prop}
theorem ne_nil {a b : Addr} {items : Array Value} (ha : s.heap.IsList a items) (hb : s.heap.IsList b #[]) (hu : A.units < cLine) (h : Q (.bool (!decide (items.size = 0))) s) :
    wpAny (model prog w) A (compareOp .NotEq (.ref a) (.ref b)) Q E s := by
  by_cases hz : items.size = 0
  · rw [decide_eq_true hz] at h
    have := SeqAt.RcNeAt.lists (A := A) (e := fun _ => true) ha hb (by simpa using hz) hu (fun i hi => absurd hi (by omega))
    refine this prog w E Q ?_
    simpa [hz] using h
  · rw [decide_eq_false hz] at h
    exact SeqAt.RcNeAt.lists_lengths (A := A) ha hb (by simpa using hz) hu prog w E Q h
end
end Mine
end -- Base

section -- Base2
open PySem PySem.W PySem.Calls PyProof.Rows PySem.Spec
set_option Elab.async false
set_option maxRecDepth 100000
namespace Mine

theorem enterC {w : World} {mg mb : Str → Option Value} {A : Around} {s : Shared} {Q E : Value → Shared → Prop} {n : Nat} (O : OkH w mg mb s.heap) (R : Room A n)
    {name qual : Str} {params : Arguments} {body : List Stmt} {scope : Scope} {dV kV doc pm cdv ct oc : Value} {an od : Option Addr} {osl : Array (Option Value)} {f : Addr} {args : List Value} {binds : List (Str × Value)}
    (ho : (Mine.hd.heap_39 w.params).lookup f = some ⟨oc, od, .func (fnOf name qual params body scope dV kV doc pm an cdv ct), osl⟩) (hcd : codeIn (Mine.hd.heap_39 w.params) cdv qual = true)
    (hbind : BindsTo s (fnOf name qual params body scope dV kV doc pm an cdv ct) ⟨args, []⟩ binds) 
    (hkind : (binds.all fun y => scope.names.lookup y.1 == some .local || scope.names.lookup y.1 == some .cell) = true)
    (hnd : ((cellsFrom 0 scope.names []).map (·.1)).Nodup)
    (h : ∀ h₁ tk cells, Fr s.heap s.heap.objs.size h₁ (bindL (envOfC qual scope s.heap.objs.size f cdv).kindOf binds fun _ => none) → News s.heap s.heap.objs.size h₁ cells →
      CellsAre (bindC (envOfC qual scope s.heap.objs.size f cdv).kindOf binds fun _ => none) (cellsFrom (s.heap.objs.size + 1) scope.names []) cells →
      wpAny (model prg w) (A.deeper (envOfC qual scope s.heap.objs.size f cdv)) (execs body (envOfC qual scope s.heap.objs.size f cdv))
        (fun fl s' => Q (match fl with | .ret v => v | _ => .none) s') (fun _ _ => False)
        { s with heap := h₁, toks := tk })
    (hco : scope.isCoroutine = false) (hgen : scope.isGenerator = false) (hk : scope.kind = .function) :
    wpAny (model prg w) A (call (.ref f) args) Q E s := by
  refine wpAny_call ?_
  refine codeAny_call_function (by have := R.depth; omega) (O.K _ _ ho) rfl hco hgen rfl (codeRec_of O.K hcd) (hbind _ _ _ _ ?_)
  refine wpAny_newFunctionEnv_cells hk (kindsX hkind _) fun env' he s' x => ?_
  subst he
  refine ⟨O.T.nolimit.keeps x.toInCall.keep, codeAny_func ?_⟩
  obtain ⟨h₁, tk, rfl, _⟩ := x.done
  have hk₁ := x.toInCall.keep
  obtain ⟨cells, NC, Y⟩ := Cl.news (h₀ := s.heap) (Nat.le_refl _) fun n c hm => ⟨x.cell n c (lookup_of_mem_nodup (cellsFrom_names scope.names 0 (s.heap.objs.size + 1) [] [] rfl ▸ hnd) hm), x.above n c hm⟩
  exact wpAny_mono (h h₁ tk cells ⟨x.toInCall.ns, hk₁, Nat.le_refl _⟩ NC Y) (fun fl s' hl => hl) fun _ _ y => y.elim
end Mine
end -- Base2

section -- Lst
open PySem PySem.W PySem.Calls PyProof.Rows PySem.Builtin PySem.Builtin.Str
set_option Elab.async false
set_option maxRecDepth 100000
namespace Mine

/-- where the pattern stands -/
def occL (p : List Nat) : Nat → Nat → List Nat → List Nat
  | _, _, [] => []
  | i, k + 1, _ :: r => occL p (i + 1) k r
  | i, 0, c :: r => if p.isPrefixOf (c :: r) then i :: occL p (i + 1) (p.length - 1) r else occL p (i + 1) 0 r
/-- the pieces between -/
def spL (p : List Nat) : Nat → List Nat → List Nat → List (List Nat)
  | _, cur, [] => [cur]
  | k + 1, cur, _ :: r => spL p k cur r
  | 0, cur, c :: r => if p.isPrefixOf (c :: r) then cur :: spL p (p.length - 1) [] r else spL p 0 (cur ++ [c]) r
/-- the pattern replaced -/
def rpL (p z : List Nat) : Nat → List Nat → List Nat
  | _, [] => []
  | k + 1, _ :: r => rpL p z k r
  | 0, c :: r => if p.isPrefixOf (c :: r) then z ++ rpL p z (p.length - 1) r else c :: rpL p z 0 r

theorem pre_iff (p l : List Nat) : p.isPrefixOf l = true ↔ l.take p.length = p := by
  rw [List.isPrefixOf_iff_prefix]
  constructor
  · rintro ⟨r, rfl⟩; simp
  · intro h; exact ⟨l.drop p.length, by have := List.take_append_drop p.length l; rw [h] at this; exact this⟩

theorem pre_len {p l : List Nat} (h : p.isPrefixOf l = true) : p.length ≤ l.length := by
  rw [List.isPrefixOf_iff_prefix] at h; exact h.length_le

theorem occ_list (x y : Str) (hy : 1 ≤ y.length) : ∀ (l pre : List Nat) (acc : Array Nat) (free : Nat), x.cps.toList = pre ++ l → acc.size ≤ pre.length →
    (forIn (List.range' pre.length (l.length + 1)) (acc, free) (StrLaws.occBody x y x.length (x.length + 1))).run.fst.toList = acc.toList ++ occL y.cps.toList pre.length (free - pre.length) l
  | [], pre, acc, free, hx, ha => by
    have hL : x.length = pre.length := by have := congrArg List.length hx; simpa [Str.length] using this
    rw [List.length_nil, List.range'_succ, List.range'_zero, List.forIn_cons]
    unfold StrLaws.occBody
    rw [if_neg (by intro h; have := h.1.2; omega)]
    simp [occL]
  | c :: r, pre, acc, free, hx, ha => by
    have hL : x.length = pre.length + (r.length + 1) := by have := congrArg List.length hx; simpa [Str.length] using this
    have hx' : x.cps.toList = (pre ++ [c]) ++ r := by rw [hx]; simp
    have ih := fun a f h => occ_list x y hy r (pre ++ [c]) a f hx' h
    have hlen : (pre ++ [c]).length = pre.length + 1 := by simp
    rw [hlen] at ih
    rw [List.length_cons, List.range'_succ, List.forIn_cons]
    unfold StrLaws.occBody
    have hyl : y.cps.toList.length = y.length := by simp [Str.length]
    have hsub : subAt x y pre.length = true ↔ y.cps.toList.isPrefixOf (c :: r) = true := by
      rw [StrLaws.subAt_eq, beq_iff_eq, pre_iff, hx, hyl]
      simp
    by_cases hf : free ≤ pre.length
    · have e0 : free - pre.length = 0 := by omega
      rw [e0]
      by_cases hp : y.cps.toList.isPrefixOf (c :: r) = true
      · have hl := pre_len hp
        rw [hyl] at hl
        simp only [List.length_cons] at hl
        rw [if_pos ⟨⟨⟨by show acc.size < _; omega, hf⟩, by omega⟩, hsub.mpr hp⟩]
        have := ih (acc.push pre.length) (pre.length + y.length) (by simp; omega)
        refine this.trans ?_
        simp only [occL]
        rw [if_pos hp, hyl, show pre.length + y.length - (pre.length + 1) = y.length - 1 by omega]
        simp
      · rw [if_neg (fun h => hp (hsub.mp h.2))]
        have := ih acc free (by omega)
        refine this.trans ?_
        simp only [occL]
        rw [if_neg hp, show free - (pre.length + 1) = 0 by omega]
    · rw [if_neg (fun h => hf h.1.1.2)]
      have := ih acc free (by omega)
      refine this.trans ?_
      obtain ⟨k, hk⟩ : ∃ k, free - pre.length = k + 1 := ⟨free - pre.length - 1, by omega⟩
      rw [hk]
      simp only [occL]
      rw [show free - (pre.length + 1) = k by omega]

theorem occ_all (x y : Str) (hy : 1 ≤ y.length) : occurrences x y 0 x.length (x.length + 1) = occL y.cps.toList 0 0 x.cps.toList := by
  rw [StrLaws.occ_eq]
  have := occ_list x y hy x.cps.toList [] #[] 0 rfl (Nat.zero_le _)
  have e : x.cps.toList.length = x.length := by simp [Str.length]
  rw [e] at this
  simpa using this

theorem parts_list (x : Str) (p : List Nat) (hp : 1 ≤ p.length) : ∀ (l pre : List Nat) (a : Nat), x.cps.toList = pre ++ l →
    (StrLaws.partsFrom x p.length a (occL p pre.length (a - pre.length) l)).map (fun z => z.cps.toList) = spL p (a - pre.length) ((pre.drop a)) l
  | [], pre, a, hx => by
    have hL : x.length = pre.length := by have := congrArg List.length hx; simpa [Str.length] using this
    simp only [occL, spL, StrLaws.partsFrom, List.map_cons, List.map_nil, StrLaws.strSub_toList]
    rw [hx, hL]
    simp only [List.append_nil]
    rw [List.take_of_length_le (by simp)]
  | c :: r, pre, a, hx => by
    have hx' : x.cps.toList = (pre ++ [c]) ++ r := by rw [hx]; simp
    have ih := fun a => parts_list x p hp r (pre ++ [c]) a hx'
    have hlen : (pre ++ [c]).length = pre.length + 1 := by simp
    rw [hlen] at ih
    by_cases hf : a ≤ pre.length
    · have e0 : a - pre.length = 0 := by omega
      rw [e0]
      simp only [occL, spL]
      by_cases hq : p.isPrefixOf (c :: r) = true
      · rw [if_pos hq, if_pos hq]
        show (strSub x a pre.length :: StrLaws.partsFrom x p.length (pre.length + p.length) _).map _ = _
        rw [List.map_cons]
        have := ih (pre.length + p.length)
        rw [show pre.length + p.length - (pre.length + 1) = p.length - 1 by omega] at this
        rw [this, StrLaws.strSub_toList, hx]
        congr 1
        · rw [List.drop_append_of_le_length hf, List.take_append_of_le_length (by simp), List.take_of_length_le (by simp)]
        · congr 1
          rw [List.drop_of_length_le (by simp; omega)]
      · rw [if_neg hq, if_neg hq]
        have := ih a
        rw [show a - (pre.length + 1) = 0 by omega] at this
        rw [this, List.drop_append_of_le_length hf]
    · obtain ⟨k, hk⟩ : ∃ k, a - pre.length = k + 1 := ⟨a - pre.length - 1, by omega⟩
      rw [hk]
      simp only [occL, spL]
      have := ih a
      rw [show a - (pre.length + 1) = k by omega] at this
      rw [this, List.drop_of_length_le (by simp; omega), List.drop_of_length_le (by omega)]

theorem occL_nil_sp (p : List Nat) : ∀ (l : List Nat) (i : Nat) (cur : List Nat), occL p i 0 l = [] → spL p 0 cur l = [cur ++ l]
  | [], _, _, _ => by simp [spL]
  | c :: r, i, cur, h => by
    simp only [occL] at h
    by_cases hq : p.isPrefixOf (c :: r) = true
    · rw [if_pos hq] at h; cases h
    · rw [if_neg hq] at h
      simp only [spL]
      rw [if_neg hq, occL_nil_sp p r _ _ h]; simp

theorem occL_short (p : List Nat) : ∀ (l : List Nat) (i : Nat), l.length < p.length → occL p i 0 l = []
  | [], _, _ => rfl
  | c :: r, i, h => by
    simp only [occL]
    rw [if_neg (fun hq => absurd (pre_len hq) (by omega)), occL_short p r _ (by simp at h; omega)]

theorem split_list (x y : Str) (hy : 1 ≤ y.length) (hk : Builtin.Str.strKind y = 1) : (Txt.split x y).map (fun z => z.cps.toList) = spL y.cps.toList 0 [] x.cps.toList := by
  have hyl : y.cps.toList.length = y.length := by simp [Str.length]
  have hxl : x.cps.toList.length = x.length := by simp [Str.length]
  have hkx : 1 ≤ Builtin.Str.strKind x := by unfold Builtin.Str.strKind; split; exact Nat.le_refl _; split <;> decide
  unfold Txt.split
  split
  · rename_i h
    rw [hk] at h
    simp only [Bool.or_eq_true, decide_eq_true_eq] at h
    have h1 : x.length < y.length := by omega
    have := occL_short y.cps.toList x.cps.toList 0 (by omega)
    rw [occL_nil_sp _ _ _ _ this]; simp
  · split
    · rename_i h
      rw [occ_all x y hy] at h
      rw [occL_nil_sp _ _ 0 _ (List.isEmpty_iff.mp h)]; simp
    · rw [occ_all x y hy, StrLaws.partsBetween_eq, ← hyl]
      have := parts_list x y.cps.toList (by omega) x.cps.toList [] 0 rfl
      simpa using this

theorem join_toList (z : Str) : ∀ l : List Str, (Str.join z l).cps.toList = List.intercalate z.cps.toList (l.map fun a => a.cps.toList)
  | [] => rfl
  | [a] => by simp [Str.join, List.intercalate]
  | a :: b :: r => by
    have ih := join_toList z (b :: r)
    show (a ++ z ++ Str.join z (b :: r)).cps.toList = _
    simp only [Str.cps_append, Array.toList_append]
    rw [ih]
    simp [List.intercalate]

theorem icalate_cons (z a : List Nat) {l : List (List Nat)} (h : l ≠ []) : List.intercalate z (a :: l) = a ++ z ++ List.intercalate z l := by
  cases l with
  | nil => exact absurd rfl h
  | cons b r => simp [List.intercalate]
theorem spL_ne (p : List Nat) : ∀ (l : List Nat) (k : Nat) (cur : List Nat), spL p k cur l ≠ []
  | [], _, _ => by simp [spL]
  | c :: r, k + 1, cur => by simp only [spL]; exact spL_ne p r k cur
  | c :: r, 0, cur => by
    simp only [spL]
    split
    · simp
    · exact spL_ne p r 0 _

theorem spL_rp (p z : List Nat) : ∀ (l : List Nat) (k : Nat) (cur : List Nat), List.intercalate z (spL p k cur l) = cur ++ rpL p z k l
  | [], _, cur => by simp [spL, rpL, List.intercalate]
  | c :: r, k + 1, cur => by simp only [spL, rpL]; exact spL_rp p z r k cur
  | c :: r, 0, cur => by
    simp only [spL, rpL]
    split
    · rw [icalate_cons _ _ (spL_ne p r _ _), spL_rp p z r _ []]; simp
    · rw [spL_rp p z r 0 _]; simp

theorem occL_nil_rp (p z l : List Nat) (i : Nat) (h : occL p i 0 l = []) : rpL p z 0 l = l := by
  have := spL_rp p z l 0 []
  rw [occL_nil_sp p l i [] h] at this
  simpa [List.intercalate] using this.symm

theorem replace_list (x y z : Str) (hy : 1 ≤ y.length) : (Txt.replace x y z).cps.toList = rpL y.cps.toList z.cps.toList 0 x.cps.toList := by
  have hyl : y.cps.toList.length = y.length := by simp [Str.length]
  unfold Txt.replace
  have e : (y.length == 0) = false := by rw [beq_eq_false_iff_ne]; omega
  rw [e, Bool.false_and, Bool.or_false, occ_all x y hy]
  split
  · rename_i h
    rw [occL_nil_rp _ _ _ 0 (List.isEmpty_iff.mp h)]
  · rw [StrLaws.glued_eq_join, join_toList, StrLaws.partsBetween_eq, ← hyl]
    have := parts_list x y.cps.toList (by omega) x.cps.toList [] 0 rfl
    have e2 : (fun a : Str => a.cps.toList) = (fun z : Str => z.cps.toList) := rfl
    simp only [List.length_nil, Nat.sub_zero, List.drop_nil] at this
    rw [this, spL_rp]; simp

theorem rpL_one (c z : Nat) : ∀ l : List Nat, rpL [c] [z] 0 l = l.map fun k => if k = c then z else k
  | [] => rfl
  | k :: r => by
    simp only [rpL, List.map_cons]
    by_cases h : k = c
    · subst h; rw [if_pos rfl, if_pos (by simp [List.isPrefixOf])]; simp [rpL_one k z r]
    · rw [if_neg h, if_neg (by simp [List.isPrefixOf]; exact fun e => h e.symm), rpL_one c z r]
theorem replace_one_list (x : Str) (c z : Nat) : (Txt.replace x ⟨#[c]⟩ ⟨#[z]⟩).cps.toList = x.cps.toList.map fun k => if k = c then z else k := by
  rw [replace_list _ _ _ (Nat.le_refl _)]; exact rpL_one c z _
end Mine
end -- Lst

section -- Fdl
open PySem PySem.W PySem.Calls PyProof.Rows
set_option Elab.async false
set_option maxRecDepth 100000
namespace Mine

def stepD (c : Nat) (r : List Nat) : List Nat :=
  if c = 45 then (match r with | [] => [] | d :: r' => if d = 45 then d :: r' else 45 :: d :: r') else c :: r
def Fd (l : List Nat) : List Nat := l.foldr stepD []
theorem Fd_append (u v : List Nat) : Fd (u ++ v) = u.foldr stepD (Fd v) := List.foldr_append
theorem Fd_cons (c : Nat) (v : List Nat) : Fd (c :: v) = stepD c (Fd v) := rfl
theorem stepD_ne {c : Nat} (h : c ≠ 45) (r : List Nat) : stepD c r = c :: r := if_neg h
theorem stepD_nil : stepD 45 [] = [] := rfl
theorem stepD_45 (r : List Nat) : stepD 45 (45 :: r) = 45 :: r := rfl
theorem stepD_other {d : Nat} (h : d ≠ 45) (r : List Nat) : stepD 45 (d :: r) = 45 :: d :: r := by
  unfold stepD; rw [if_pos rfl]; simp only [if_neg h]
theorem stepD_idem (X : List Nat) : stepD 45 (stepD 45 X) = stepD 45 X := by
  match X with
  | [] => rfl
  | d :: r =>
    by_cases h : d = 45
    · subst h; rw [stepD_45, stepD_45]
    · rw [stepD_other h, stepD_45]

/-- two dashes made one -/
def dd (l : List Nat) : List Nat := rpL [45, 45] [45] 0 l
theorem dd_nil : dd [] = [] := rfl
theorem dd_hit (r : List Nat) : dd (45 :: 45 :: r) = 45 :: dd r := rfl
theorem dd_one (a : Nat) : dd [a] = [a] := by
  unfold dd; simp only [rpL]; rw [if_neg (by simp [List.isPrefixOf])]
theorem dd_miss {a b : Nat} (h : ¬ (a = 45 ∧ b = 45)) (r : List Nat) : dd (a :: b :: r) = a :: dd (b :: r) := by
  unfold dd
  rw [show rpL [45, 45] [45] 0 (a :: b :: r) = if [45, 45].isPrefixOf (a :: b :: r) then [45] ++ rpL [45, 45] [45] ([45, 45].length - 1) (b :: r) else a :: rpL [45, 45] [45] 0 (b :: r) from rfl]
  rw [if_neg]
  simp only [List.isPrefixOf, Bool.and_eq_true, beq_iff_eq, not_and]
  intro h1 h2
  exact absurd ⟨h1.symm, h2.symm⟩ h

theorem dd_len : ∀ l : List Nat, (dd l).length ≤ l.length
  | [] => Nat.le_refl _
  | [a] => by rw [dd_one]; exact Nat.le_refl _
  | a :: b :: r => by
    by_cases h : a = 45 ∧ b = 45
    · obtain ⟨rfl, rfl⟩ := h
      rw [dd_hit]; have := dd_len r; simp only [List.length_cons]; omega
    · rw [dd_miss h]; have := dd_len (b :: r); simp only [List.length_cons] at this ⊢; omega
theorem dd_lt : ∀ l : List Nat, dd l ≠ l → (dd l).length < l.length
  | [], h => absurd rfl h
  | [a], h => absurd (dd_one a) h
  | a :: b :: r, h => by
    by_cases q : a = 45 ∧ b = 45
    · obtain ⟨rfl, rfl⟩ := q
      rw [dd_hit]; have := dd_len r; simp only [List.length_cons]; omega
    · rw [dd_miss q] at h ⊢
      have := dd_lt (b :: r) (fun e => h (by rw [e])); simp only [List.length_cons] at this ⊢; omega
theorem Fd_dd : ∀ l : List Nat, Fd (dd l) = Fd l
  | [] => rfl
  | [a] => by rw [dd_one]
  | a :: b :: r => by
    by_cases h : a = 45 ∧ b = 45
    · obtain ⟨rfl, rfl⟩ := h
      rw [dd_hit, Fd_cons, Fd_cons, Fd_cons, Fd_dd r, stepD_idem]
    · rw [dd_miss h, Fd_cons, Fd_cons a, Fd_dd (b :: r)]

def Nd : List Nat → Prop
  | [] => True
  | [_] => True
  | a :: b :: r => ¬ (a = 45 ∧ b = 45) ∧ Nd (b :: r)
theorem Nd_of : ∀ l : List Nat, dd l = l → Nd l
  | [], _ => trivial
  | [_], _ => trivial
  | a :: b :: r, h => by
    by_cases q : a = 45 ∧ b = 45
    · exfalso
      obtain ⟨rfl, rfl⟩ := q
      rw [dd_hit] at h
      have h1 := dd_len r
      have h2 := congrArg List.length h
      simp only [List.length_cons] at h2; omega
    · rw [dd_miss q] at h
      exact ⟨q, Nd_of (b :: r) (List.cons.inj h).2⟩
theorem Nd_snoc : ∀ (l : List Nat) (c : Nat), Nd (l ++ [c]) → Nd l
  | [], _, _ => trivial
  | [_], _, _ => trivial
  | _ :: b :: r, c, h => ⟨h.1, Nd_snoc (b :: r) c h.2⟩
theorem Fd_Nd : ∀ l : List Nat, Nd l → (∀ r, l ≠ r ++ [45]) → Fd l = l
  | [], _, _ => rfl
  | [a], _, h => by
    have : a ≠ 45 := fun e => h [] (by rw [e]; rfl)
    exact stepD_ne this _
  | a :: b :: r, hn, h => by
    have ih := Fd_Nd (b :: r) hn.2 (fun q e => h (a :: q) (by rw [e]; rfl))
    rw [Fd_cons, ih]
    by_cases ha : a = 45
    · subst ha
      exact stepD_other (fun e => hn.1 ⟨rfl, e⟩) r
    · exact stepD_ne ha _
theorem Fd_snoc (l : List Nat) : Fd (l ++ [45]) = Fd l := by
  rw [Fd_append]; rfl
theorem Fd_idem : ∀ l : List Nat, Fd (Fd l) = Fd l
  | [] => rfl
  | c :: r => by
    have ih := Fd_idem r
    rw [Fd_cons]
    by_cases h : c = 45
    · subst h
      match hX : Fd r with
      | [] => rfl
      | d :: q =>
        rw [hX] at ih
        by_cases hd : d = 45
        · subst hd; rw [stepD_45]; exact ih
        · rw [stepD_other hd, Fd_cons, ih, stepD_other hd]
    · rw [stepD_ne h, Fd_cons, ih, stepD_ne h]

/-- the pieces between dashes: none holds one -/
theorem sp_free : ∀ (l cur : List Nat), 45 ∉ cur → ∀ q ∈ spL [45] 0 cur l, 45 ∉ q
  | [], cur, h, q, hq => by
    rw [show spL [45] 0 cur [] = [cur] from rfl, List.mem_singleton] at hq; rw [hq]; exact h
  | c :: r, cur, h, q, hq => by
    simp only [spL] at hq
    split at hq
    · rcases List.mem_cons.mp hq with rfl | hq
      · exact h
      · exact sp_free r [] (by simp) q hq
    · rename_i hc
      refine sp_free r (cur ++ [c]) ?_ q hq
      intro hm
      rcases List.mem_append.mp hm with hm | hm
      · exact h hm
      · exact hc (by rw [← List.mem_singleton.mp hm]; rfl)
def neL (l : List Nat) : Bool := !l.isEmpty
theorem foldr_free : ∀ (cur X : List Nat), 45 ∉ cur → cur.foldr stepD X = cur ++ X
  | [], _, _ => rfl
  | c :: r, X, h => by
    have h1 : c ≠ 45 := fun e => h (by rw [e]; exact List.mem_cons_self ..)
    rw [List.foldr_cons, foldr_free r X fun m => h (List.mem_cons_of_mem _ m), stepD_ne h1]; rfl
def leadD (l : List Nat) (ps : List (List Nat)) : List Nat := if l.head? = some 45 ∧ ps ≠ [] then [45] else []
theorem icalate_one (z a : List Nat) : List.intercalate z [a] = a := by simp [List.intercalate]
theorem icalate_head {z : List Nat} {ps : List (List Nat)} (h : ps ≠ []) (hne : ∀ q ∈ ps, q ≠ [] ∧ 45 ∉ q) : ∃ d r, List.intercalate z ps = d :: r ∧ d ≠ 45 := by
  match ps, h with
  | q :: qs, _ =>
    obtain ⟨h1, h2⟩ := hne q (List.mem_cons_self ..)
    match q, h1 with
    | d :: r, _ =>
      have hd : d ≠ 45 := fun e => h2 (by rw [e]; exact List.mem_cons_self ..)
      match qs with
      | [] => exact ⟨d, r, icalate_one _ _, hd⟩
      | b :: t => exact ⟨d, _, icalate_cons z (d :: r) (by simp), hd⟩
theorem head_free {cur : List Nat} (h : 45 ∉ cur) (hc : cur ≠ []) (l : List Nat) : (cur ++ l).head? ≠ some 45 := by
  match cur, hc with
  | d :: r, _ =>
    intro e
    have : d = 45 := by simpa using e
    exact h (by rw [this]; exact List.mem_cons_self ..)
theorem Fd_pieces : ∀ (l cur : List Nat), 45 ∉ cur → Fd (cur ++ l) = leadD (cur ++ l) ((spL [45] 0 cur l).filter neL) ++ List.intercalate [45] ((spL [45] 0 cur l).filter neL)
  | [], cur, h => by
    rw [show spL [45] 0 cur [] = [cur] from rfl, List.append_nil]
    by_cases hc : cur = []
    · subst hc; rfl
    · have hf : [cur].filter neL = [cur] := by
        rw [List.filter_cons_of_pos (by unfold neL; cases cur; exact absurd rfl hc; rfl)]; rfl
      rw [hf, icalate_one]
      have := foldr_free cur [] h
      rw [List.append_nil] at this
      unfold leadD
      rw [if_neg (fun e => by have := head_free h hc []; rw [List.append_nil] at this; exact this e.1)]
      exact this
  | c :: r, cur, h => by
    by_cases hc : c = 45
    · subst hc
      rw [show spL [45] 0 cur (45 :: r) = cur :: spL [45] 0 [] r from rfl]
      have ih := Fd_pieces r [] (by simp)
      rw [List.nil_append] at ih
      rw [Fd_append, foldr_free cur _ h, Fd_cons]
      have hfree : ∀ q ∈ (spL [45] 0 [] r).filter neL, q ≠ [] ∧ 45 ∉ q := fun q hq => by
        obtain ⟨h1, h2⟩ := List.mem_filter.mp hq
        refine ⟨fun e => ?_, sp_free r [] (by simp) q h1⟩
        rw [e] at h2; cases h2
      by_cases hp : (spL [45] 0 [] r).filter neL = []
      · rw [hp] at ih
        have e0 : Fd r = [] := by
          rw [ih]; unfold leadD; rw [if_neg (fun e => e.2 rfl)]; rfl
        rw [e0, stepD_nil, List.append_nil]
        by_cases hcu : cur = []
        · subst hcu
          rw [List.filter_cons_of_neg (by simp [neL]), hp]
          unfold leadD; rw [if_neg (fun e => e.2 rfl)]; rfl
        · rw [List.filter_cons_of_pos (by unfold neL; cases cur; exact absurd rfl hcu; rfl), hp, icalate_one]
          unfold leadD
          rw [if_neg (fun e => head_free h hcu _ e.1)]; rfl
      · obtain ⟨d, q, hJ, hd⟩ := icalate_head (z := [45]) hp hfree
        have e1 : stepD 45 (Fd r) = 45 :: d :: q := by
          rw [ih, hJ]; unfold leadD
          split
          · exact stepD_45 _
          · exact stepD_other hd _
        rw [e1]
        by_cases hcu : cur = []
        · subst hcu
          rw [List.filter_cons_of_neg (by simp [neL]), hJ]
          unfold leadD; rw [if_pos ⟨rfl, hp⟩]; rfl
        · rw [List.filter_cons_of_pos (by unfold neL; cases cur; exact absurd rfl hcu; rfl), icalate_cons _ _ hp, hJ]
          unfold leadD
          rw [if_neg (fun e => head_free h hcu _ e.1)]
          simp
    · rw [show spL [45] 0 cur (c :: r) = if [45].isPrefixOf (c :: r) then cur :: spL [45] ([45].length - 1) [] r else spL [45] 0 (cur ++ [c]) r from rfl]
      rw [if_neg (by simp [List.isPrefixOf]; exact fun e => hc e.symm)]
      have := Fd_pieces r (cur ++ [c]) (by
        intro hm
        rcases List.mem_append.mp hm with hm | hm
        · exact h hm
        · exact hc (List.mem_singleton.mp hm).symm)
      simpa using this
end Mine
end -- Fdl

section -- Toks
open PySem PySem.W PySem.Calls PyProof.Rows
set_option Elab.async false
set_option maxRecDepth 100000
namespace Mine
theorem runs_toks {M : Model} {Γ : Ctx} {p : Pos} {t : Sem Fin} {fs : List Frame} {s : Shared} {e : End} {s' : Shared} (h : Runs M Γ p t fs s e s') : s.toks ≤ s'.toks := by
  induction h with
  | done | raise | yield => exact Nat.le_refl _
  | again _ _ ih | rule _ ih | «at» _ ih | load _ _ ih | update _ _ ih | loadIfAlive _ ih | point _ ih | alloc _ ih | ask _ ih | choose _ _ ih | os _ ih | handled _ ih | genState _ _ ih | stack _ ih | thread _ ih | newGen _ ih => exact ih
  | fresh _ ih => exact Nat.le_trans (Nat.le_succ _) ih
  | call _ _ ih1 ih2 => exact Nat.le_trans ih1 ih2
  | callSusp _ ih => exact ih
  | resumeFresh _ _ _ _ ih1 ih2 => exact Nat.le_trans ih1 ih2
  | resumeSuspended _ _ _ _ ih1 ih2 => exact Nat.le_trans ih1 ih2
  | resumeJustStarted _ _ _ ih | resumeThrowFresh _ _ ih | resumeRunning _ _ ih | resumeFinished _ _ ih => exact ih
  | segRet _ _ ih1 ih2 => exact Nat.le_trans ih1 ih2
  | segGen _ _ ih1 ih2 => exact Nat.le_trans ih1 ih2
  | segSuspOut _ _ ih => exact ih
  | segSuspGen _ _ _ _ ih1 ih2 => exact Nat.le_trans ih1 ih2
theorem wakes_toks {M : Model} {Γ : Ctx} {p : Pos} {g : Nat} {r : Resume} {s : Shared} {res : GenResult} {s' : Shared} (h : Wakes M Γ p g r s res s') : s.toks ≤ s'.toks := by
  unfold Wakes at h
  split at h
  · exact h.elim
  · split at h
    · obtain ⟨e₁, s₁, h1, _, _, rfl⟩ := h; exact (show (s.setGen g GenState.running).toks ≤ s₁.toks from runs_toks h1)
    · rw [h.2]; exact Nat.le_refl _
    · rw [h.2]; exact Nat.le_refl _
  · obtain ⟨e₁, s₁, h1, _, _, rfl⟩ := h; exact (show (s.setGen g GenState.running).toks ≤ s₁.toks from runs_toks h1)
  · rw [h.2]; exact Nat.le_refl _
  · rw [h.2]; exact Nat.le_refl _
theorem wp_toks {X : Type} (M : Model) (Γ : Ctx) (t : Sem X) (Q : X → Pos → Shared → Prop) (E : Value → Pos → Shared → Prop) (n : Nat) (p : Pos) (s : Shared) (hn : n ≤ s.toks)
    (h : Sem.wp M Γ t (fun a p' s' => n ≤ s'.toks → Q a p' s') E p s) : Sem.wp M Γ t Q E p s := by
  revert h hn
  induction t generalizing p s with
  | pure x => exact fun hn h => h hn
  | raise v => exact fun _ h => h
  | unsupported | finish | yield | fork | await | register => exact fun _ => id
  | fresh k ih => exact fun hn h => ih _ _ _ (Nat.le_trans hn (Nat.le_succ _)) h
  | rule _ k ih | «at» _ k ih | alloc _ k ih | loadIfAlive _ k ih | point _ k ih | ask k ih | os _ _ k ih | handled _ k ih | newGen _ k ih | stack k ih | thread k ih => exact fun hn h => ih _ _ _ hn h
  | load a _ k ih | genState a k ih => exact fun hn ⟨o, ho, h⟩ => ⟨o, ho, ih _ _ _ hn h⟩
  | update a _ f k ih | choose _ _ k ih => exact fun hn ⟨ha, h⟩ => ⟨ha, ih _ _ _ hn h⟩
  | call c h g l k ih => exact fun hn ⟨r, s', hr, hR⟩ => ⟨r, s', hr, ih _ _ _ (Nat.le_trans hn (runs_toks hr)) hR⟩
  | resume g r l k ih => exact fun hn ⟨res, s', hw, h⟩ => ⟨res, s', hw, ih _ _ _ (Nat.le_trans hn (wakes_toks hw)) h⟩
theorem wpAny_toks {α : Type} {M : Model} {A : Around} {t : Sem α} {Q : α → Shared → Prop} {E : Value → Shared → Prop} {s : Shared} (n : Nat) (hn : n ≤ s.toks) (h : wpAny M A t (fun v s' => n ≤ s'.toks → Q v s') E s) : wpAny M A t Q E s :=
  fun Γ p hΓ => wp_toks M Γ t _ _ n p s hn (h Γ p hΓ)
end Mine
end -- Toks

section -- Toks2
open PySem PySem.W PySem.Calls PyProof.Rows
set_option Elab.async false
set_option maxRecDepth 100000
namespace Mine
theorem gen_tk {α : Type} {M : Model} {A : Around} {t : Sem α} {Q : α → Shared → Prop} {E : Value → Shared → Prop} {h : Heap} {g : Array GenState} {d : Drawn} {n : Nat} {os : OsState} (hn : 0 < n)
    (H : ∀ tk, 0 < tk → wpAny M A t Q E ⟨h, g, d, tk, os⟩) : wpAny M A t Q E ⟨h, g, d, n, os⟩ := H n hn
section
variable {prog : Program} {w : World} {A : Around} {E : Value → Shared → Prop} {s : Shared}
theorem replaceP {x y z : Str} {t u v : Tok} {Q : Value → Shared → Prop} (hu : u ≠ 0) (hv : v ≠ 0) (huv : u ≠ v) (hyz : (y == z) = false) (hx : x.length ≤ 1048576) (hz : z.length ≤ 14) (hs : 0 < s.toks)
    (hq : ∀ t' k, 0 < k → Q (.str (Txt.replace x y z) t') { s with toks := k }) : wpAny (model prog w) A (call (.builtin "str.replace") [.str x t, .str y u, .str z v]) Q E s :=
  wpAny_toks 1 hs (SC.replaceW hu hv huv hyz hx hz fun t' k hk => hq t' k hk)

def StepP (h₀ : Heap) (L : Addr) (s : Shared) (J : Nat → (Str → Option Value) → List (Addr × Obj) → Prop) (Q : Flow → Shared → Prop) (n : Nat) (f : Flow) (s₃ : Shared) : Prop :=
  match f with
  | .next | .cont => ∃ h' tk m₂ news₂ n', s₃ = { s with heap := h', toks := tk } ∧ 0 < tk ∧ Fr h₀ L h' m₂ ∧ News h₀ L h' news₂ ∧ n' < n ∧ J n' m₂ news₂
  | .brk => Q .next s₃
  | .ret v => Q (.ret v) s₃
theorem While_pos {Q : Flow → Shared → Prop} {env : Env} {h₀ : Heap} {L : Addr} {test : Expr} {body : List Stmt} {pos : Pos} {m : Str → Option Value} {news : List (Addr × Obj)} (J : Nat → (Str → Option Value) → List (Addr × Obj) → Prop) {n₀ : Nat}
    (F : Fr h₀ L s.heap m) (N : News h₀ L s.heap news) (hp : 0 < s.toks) (hJ : J n₀ m news)
    (turn : ∀ n m₁ news₁ h₁ tk₁, Fr h₀ L h₁ m₁ → News h₀ L h₁ news₁ → 0 < tk₁ → J n m₁ news₁ →
      wpAny (model prog w) A (isTrue test env (eval test env)) (fun b s₂ =>
        if b = true then wpAny (model prog w) A (execs body env) (StepP h₀ L s J Q n) E s₂ else Q .next s₂) E { s with heap := h₁, toks := tk₁ })
    (hE : PassesOwn (model prog w) A env E := by passes_own) :
    wpAny (model prog w) A (exec (.While test body [] pos) env) Q E s := by
  refine wpAny_While (codeAny_whileLoop (fun n s' => ∃ h₁ tk₁ m₁ news₁, s' = { s with heap := h₁, toks := tk₁ } ∧ 0 < tk₁ ∧ Fr h₀ L h₁ m₁ ∧ News h₀ L h₁ news₁ ∧ J n m₁ news₁) ?_ n₀ ⟨s.heap, s.toks, m, news, rfl, hp, F, N, hJ⟩)
  rintro n s' ⟨h₁, tk₁, m₁, news₁, rfl, p₁, F₁, N₁, J₁⟩
  refine wpAny_mono (turn n m₁ news₁ h₁ tk₁ F₁ N₁ p₁ J₁) (fun b s₂ h₂ => ?_) hE
  cases b
  · exact wpAny_execs_nil h₂
  · refine wpAny_mono (Q := StepP h₀ L s J Q n) h₂ (fun f s₃ h₃ => ?_) hE
    match f, h₃ with
    | .next, ⟨h', tk, m₂, news₂, n', e, p₂, F₂, N₂, hn, J₂⟩ => exact ⟨n', hn, h', tk, m₂, news₂, e, p₂, F₂, N₂, J₂⟩
    | .cont, ⟨h', tk, m₂, news₂, n', e, p₂, F₂, N₂, hn, J₂⟩ => exact ⟨n', hn, h', tk, m₂, news₂, e, p₂, F₂, N₂, J₂⟩
    | .brk, h => exact h
    | .ret v, h => exact h
end
end Mine
end -- Toks2

section -- Repl0
open PySem PySem.W PySem.Calls PyProof.Rows
set_option Elab.async false
set_option maxRecDepth 100000
namespace Mine
theorem join_len_eq {y z : Str} (h : z.length = y.length) : ∀ l : List Str, (Str.join z l).length = (Str.join y l).length
  | [] => rfl
  | [_] => rfl
  | a :: b :: r => by
    have ih := join_len_eq h (b :: r)
    show (a ++ z ++ Str.join z (b :: r)).length = (a ++ y ++ Str.join y (b :: r)).length
    simp only [Str.length_append, ih, h]
theorem one_of {y : Str} (h : y.length = 1) : ∃ c, y = { cps := #[c] } := by
  obtain ⟨⟨l⟩⟩ := y
  match l, h with
  | [c], _ => exact ⟨c, rfl⟩
theorem lr (x : Str) {y z : Str} (hy : y.length = 1) (hz : z.length = 1) : (Txt.replace x y z).length = x.length := by
  obtain ⟨c, rfl⟩ := one_of hy
  rw [StrLaws.replace_one, join_len_eq (y := { cps := #[c] }) (by rw [hz, hy]), StrLaws.join_split]
end Mine
end -- Repl0

section -- Filt
open PySem PySem.W PySem.Calls PyProof.Rows PySem.Spec
set_option Elab.async false
set_option maxRecDepth 100000
namespace Mine

theorem slot_filter_next : Slot "filter" "__next__" "filter.__next__" :=
  .of (owner := "filter") (n := "__next__") (by rw [typeLookup_type, builtinLookup_eq_fast]; kernel_rfl) (by decide +kernel) (by decide +kernel) (by decide +kernel)
    (by first | exact .inl (by decide +kernel) | exact .inr (by decide +kernel)) (by rw [isSubtype_type]; kernel_rfl)
theorem slot_filter_iter : Slot "filter" "__iter__" "filter.__iter__" :=
  .of (owner := "filter") (n := "__iter__") (by rw [typeLookup_type, builtinLookup_eq_fast]; kernel_rfl) (by decide +kernel) (by decide +kernel) (by decide +kernel)
    (by first | exact .inl (by decide +kernel) | exact .inr (by decide +kernel)) (by rw [isSubtype_type]; kernel_rfl)
theorem slot_filter_init : Slot "filter" "__init__" "object.__init__" :=
  .of (owner := "object") (n := "__init__") (by rw [typeLookup_type, builtinLookup_eq_fast]; kernel_rfl) (by decide +kernel) (by decide +kernel) (by decide +kernel)
    (by first | exact .inl (by decide +kernel) | exact .inr (by decide +kernel)) (by rw [isSubtype_type]; kernel_rfl)
theorem owner_filter : Manifest.owners.lookup (String.ofList ['r', 'e', 't', 'l', 'i', 'f'].reverse) = some Manifest.sig_filter := by kernel_rfl
theorem args_filter_next (a : Value) : argsOk "filter.__next__" ⟨[a], []⟩ := by
  unfold argsOk; rw [signature?_of (id := "filter.__next__") (n := ['_', '_', 't', 'x', 'e', 'n', '_', '_']) (o := ['r', 'e', 't', 'l', 'i', 'f']) (by kernel_rfl) owner_filter]; kernel_rfl
theorem args_filter_iter (a : Value) : argsOk "filter.__iter__" ⟨[a], []⟩ := by
  unfold argsOk; rw [signature?_of (id := "filter.__iter__") (n := ['_', '_', 'r', 'e', 't', 'i', '_', '_']) (o := ['r', 'e', 't', 'l', 'i', 'f']) (by kernel_rfl) owner_filter]; kernel_rfl
theorem entry_filter_next : entryFor table "filter.__next__" = some Builtin.«filter.__next__» := entryFor_of_tree (by kernel_rfl)
theorem entry_filter_new : entryFor table "filter.__new__" = some Builtin.«filter.__new__» := entryFor_of_tree (by kernel_rfl)
theorem entry_filter_iter : entryFor table "filter.__iter__" = some Builtin.«dict_keyiterator.__iter__» :=
  entryFor_alias (id' := "dict_keyiterator.__iter__") (by kernel_rfl) (by first | rfl | decide +kernel | (unfold String.splitOn; simp +decide [String.splitOnAux])) (by decide +kernel) (by kernel_rfl)
theorem mro_filter : mroOf (.type "filter") = pure [.type "filter", .type "object"] := by rw [mroOf_type]; kernel_rfl
theorem lookup_filter_new : typeLookup (.type "filter") "__new__" = pure (some (.builtin "filter.__new__")) := by rw [typeLookup_type, builtinLookup_eq_fast]; kernel_rfl
theorem called_filter : TypeCalled "filter" "filter.__new__" "object.__init__" :=
  ⟨by decide +kernel, by decide +kernel, ⟨_, _, mro_filter⟩, madeBy_type mro_filter lookup_filter_new (by decide +kernel), by decide +kernel, by rw [isSubtype_type]; kernel_rfl, slot_filter_init⟩
theorem typeCall_filter (a b : Value) : checkTypeCall "filter" ⟨[a, b], []⟩ = pure () := by kernel_rfl
theorem newCall_filter (a b : Value) : checkBuiltinCall "filter.__new__" ⟨[.type "filter", a, b], []⟩ = pure () := by kernel_rfl
theorem sub_filter : isSubtype (.type "filter") (.type "filter") = pure true := by rw [isSubtype_type]; kernel_rfl
theorem args_object_init_3 (a b c : Value) : argsOk "object.__init__" ⟨[a, b, c], []⟩ := by
  unfold argsOk; rw [signature?_of (id := "object.__init__") (n := ['_', '_', 't', 'i', 'n', 'i', '_', '_']) (o := ['t', 'c', 'e', 'j', 'b', 'o']) (by kernel_rfl) PySem.F.owner_object]; kernel_rfl

abbrev filtObj (it : Addr) : Obj := { cls := .type "filter", dict := none, data := .fields #[.builtin "len", .ref it], slots := #[] }
abbrev tupIt (t : Addr) (i : Nat) : Obj := { cls := .type "tuple_iterator", data := .fields #[.ref t, .int i 0] }

theorem meets_filter_new (t : Addr) (items : Array Value) :
    Meets (Builtin.«filter.__new__» ⟨[.type "filter", .builtin "len", .ref t], []⟩) (fun _ R s => s.heap.IsTuple t items ∧
      R (.ok (.ret (.ref (s.heap.push (tupIt t 0)).objs.size))) { s with heap := (s.heap.push (tupIt t 0)).push (filtObj s.heap.objs.size) }) :=
  .of_wp fun prog w A R s h => by
    obtain ⟨hp, g, d, tk, os⟩ := s
    obtain ⟨hl, h⟩ := h
    have hsub := sub_filter
    wp_walk using wpAny_pyIter_tuple hl
    exact ⟨_, rfl, h⟩
end Mine
end -- Filt

section -- Filt2
open PySem PySem.W PySem.Calls PyProof.Rows PySem.Spec
set_option Elab.async false
set_option maxRecDepth 100000
namespace Mine

section
variable {prog : Program} {w : World} {A : Around} {E : Value → Shared → Prop} {s : Shared}

theorem call_filter {t : Addr} {items : Array Value} {Q : Value → Shared → Prop} (ht : s.heap.IsTuple t items)
    (h : Q (.ref (s.heap.objs.size + 1)) { s with heap := (s.heap.push (tupIt t 0)).push (filtObj s.heap.objs.size) }) :
    wpAny (model prog w) A (call (.type "filter") [.builtin "len", .ref t]) Q E s := by
  refine callType_new called_filter (by decide) (typeCall_filter _ _) (newCall_filter _ _) (fun obj => args_object_init_3 obj _ _) entry_filter_new (meets_filter_new t items) ⟨ht, ?_⟩
  have hz : (s.heap.push (tupIt t 0)).objs.size = s.heap.objs.size + 1 := Heap.size_push ..
  have he : ((s.heap.push (tupIt t 0)).push (filtObj s.heap.objs.size)).get? (s.heap.objs.size + 1) = some (filtObj s.heap.objs.size) := by
    have := Heap.get?_push_size (s.heap.push (tupIt t 0)) (o := filtObj s.heap.objs.size) rfl
    rw [hz] at this; exact this
  show _ ∧ _
  rw [hz]
  exact ⟨⟨_, he, rfl⟩, h⟩

theorem nextTup_item {it t : Addr} {i : Nat} {items : Array Value} {x : Value} {Q : Option Value → Shared → Prop} (hit : s.heap.IsTupleIter it t i)
    (ht : s.heap.IsTuple t items) (hx : items[i]? = some x)
    (hQ : ∀ h', h'.IsTupleIter it t (i + 1) → Heap.SameBut it s.heap h' → Q (some x) { s with heap := h' }) :
    wpAny (model prog w) A (callSpecial? (.ref it) "__next__") Q E s := by
  obtain ⟨o, ho, hc, hd⟩ := id hit
  obtain ⟨ol, hol, _, nl, hdl⟩ := ht
  refine wpAny_callSpecial?_slot (name := Str.ofString "__next__") hit.typeIs PySem.F.slot_tuple_iterator_next
    (wpAny_call_entry PySem.F.slot_tuple_iterator_next hit.typeIs PySem.F.entry_tuple_iterator_next ?_ (PySem.F.args_tuple_iterator_next_1 _))
  show wpAny _ _ (field (.ref it) 0 >>= _) _ _ s
  refine wpAny_bind (wpAny_field ho hd (x := .ref t) rfl ?_)
  show wpAny _ _ (if (Value.ref t == Value.none) = true then _ else _) _ _ s
  rw [if_neg (show ¬ ((Value.ref t == Value.none) = true) from Bool.false_ne_true)]
  show wpAny _ _ (field (.ref it) 1 >>= _) _ _ s
  refine wpAny_bind (wpAny_field ho hd (x := .int i 0) rfl ?_)
  show wpAny _ _ (seqItems? (.ref t) >>= _) _ _ s
  refine wpAny_bind (wpAny_seqItems hol hdl ?_)
  simp only [Int.toNat_natCast, hx]
  refine wpAny_bind (wpAny_setField ho hd (by simp) (wpAny_pure ⟨x, rfl, (hQ _ ?_ (Heap.SameBut.update ..))⟩))
  exact ⟨_, Heap.get?_update_self _ ho (Obj.isFreed_of_fields (Obj.data_mapFields hd _)), (Obj.cls_mapFields ..).trans hc, by
    rw [Obj.data_mapFields hd]; simp [rawInt]⟩

theorem nextTup_end {it t : Addr} {i : Nat} {items : Array Value} {Q : Option Value → Shared → Prop} (hh : A.handled = none)
    (hit : s.heap.IsTupleIter it t i) (ht : s.heap.IsTuple t items) (hx : items[i]? = none)
    (hE : ∀ h' e, Heap.ExtBut it s.heap h' → (∃ o, h'.get? e = some o ∧ o.cls = .type "StopIteration") → E (.ref e) { s with heap := h' }) : wpAny (model prog w) A (callSpecial? (.ref it) "__next__") Q E s := by
  obtain ⟨o, ho, hc, hd⟩ := id hit
  obtain ⟨ol, hol, _, nl, hdl⟩ := ht
  refine wpAny_callSpecial?_slot (name := Str.ofString "__next__") hit.typeIs PySem.F.slot_tuple_iterator_next
    (wpAny_call_entry PySem.F.slot_tuple_iterator_next hit.typeIs PySem.F.entry_tuple_iterator_next ?_ (PySem.F.args_tuple_iterator_next_1 _))
  show wpAny _ _ (field (.ref it) 0 >>= _) _ _ s
  refine wpAny_bind (wpAny_field ho hd (x := .ref t) rfl ?_)
  show wpAny _ _ (if (Value.ref t == Value.none) = true then _ else _) _ _ s
  rw [if_neg (show ¬ ((Value.ref t == Value.none) = true) from Bool.false_ne_true)]
  show wpAny _ _ (field (.ref it) 1 >>= _) _ _ s
  refine wpAny_bind (wpAny_field ho hd (x := .int i 0) rfl ?_)
  show wpAny _ _ (seqItems? (.ref t) >>= _) _ _ s
  refine wpAny_bind (wpAny_seqItems hol hdl ?_)
  simp only [Int.toNat_natCast, hx]
  refine wpAny_bind (wpAny_rule (wpAny_bind (wpAny_setField ho hd (by simp) ?_)))
  show wpAny _ _ (newExc (.type "StopIteration") [] >>= _) _ _ _
  refine wpAny_bind ?_
  simp only [newExc, newTuple]
  refine wpAny_bind (wpAny_newObj_type ?_ (by size_fits))
  refine wpAny_bind (m := firstArgMember _ _) (wpAny_of_eq (a := Value.none) (by first | rfl | (simp only [firstArgMember]; rfl)) ?_)
  refine wpAny_newObj_type ?_ (by size_fits)
  simp only [raiseNew]
  refine wpAny_bind (wpAny_handled ?_)
  first | rw [show A.in1.handled = none from hh] | rw [hh]
  refine wpAny_bind (wpAny_pure (wpAny_throw ?_))
  exact hE _ _ (((Heap.SameBut.update ..).extBut.push _).push _) ⟨_, Heap.get?_push_size _ rfl, rfl⟩
end

theorem codeAny_loop_builtin {prog : Program} {w : World} {A : Around} {s : Shared} {id : String} {args : Args} {b : Builtin} {R : Result → Shared → Prop} (hq : plainId id = true) (hb : entryFor table id = some b) (I : Nat → Shared → Prop)
    (turn : ∀ n s, I n s → wpAny (model prog w) A.in1 (b args) (fun fin s' => match fin with | .done f => R (.ok f) s' | .again c' => c' = .builtin id args ∧ ∃ m, m < n ∧ I m s') (fun e s' => R (.error e) s') s)
    (n : Nat) (h : I n s) : codeAny (model prog w) A (.builtin id args) R s := by
  refine codeAny_loop (plainId_quiet hq args) I (fun n s hI => ?_) n h
  rw [Around.under_plainId hq args]
  show wpAny _ _ (match entryFor table id with | some b => b args | none => unsupported ((withoutEnding? id "#data").getD id)) _ _ s
  rw [hb]; exact turn n s hI

def nz (x : Str) : Bool := decide (¬ x.length = 0)
structure FiltAt (I J t : Addr) (vs : List Value) (ts : List Str) (i : Nat) (h : Heap) : Prop where
  obj : h.get? I = some (filtObj J)
  pos : ∃ k, h.IsTupleIter J t k ∧ ((ts.take k).filter nz).length = i ∧ k ≤ ts.length
  tup : h.IsTuple t vs.toArray

section
variable {prog : Program} {w : World} {A : Around} {E : Value → Shared → Prop} {s : Shared}
theorem filt_code {I J t : Addr} {vs : List Value} {ts : List Str} {k : Nat} {R : Result → Shared → Prop} (hh : A.handled = none) (hIJ : I ≠ J) (htJ : t ≠ J) (hi : StrsAre vs ts) (hsm : ∀ x ∈ ts, x.length ≤ 1000)
    (ho : s.heap.get? I = some (filtObj J)) (hk : s.heap.IsTupleIter J t k) (ht : s.heap.IsTuple t vs.toArray) (hle : k ≤ ts.length)
    (hR : ∀ j x tk h' tk', k ≤ j → ts[j]? = some x → nz x = true → (∀ i, k ≤ i → i < j → ∀ y, ts[i]? = some y → nz y = false) → h'.IsTupleIter J t (j + 1) → Heap.ExtBut J s.heap h' → R (.ok (.ret (.str x tk))) { s with heap := h', toks := tk' })
    (hN : ∀ e h' tk', (∀ i, k ≤ i → ∀ y, ts[i]? = some y → nz y = false) → Heap.ExtBut J s.heap h' → (∃ o, h'.get? e = some o ∧ o.cls = .type "StopIteration") → R (.error (.ref e)) { s with heap := h', toks := tk' }) :
    codeAny (model prog w) A (.builtin "filter.__next__" ⟨[.ref I], []⟩) R s := by
  refine codeAny_loop_builtin slot_filter_next.plain entry_filter_next (fun m s' => ∃ h' tk' j, s' = { s with heap := h', toks := tk' } ∧ k ≤ j ∧ j ≤ ts.length ∧ m = ts.length - j ∧ h'.IsTupleIter J t j ∧ Heap.ExtBut J s.heap h' ∧ (∀ i, k ≤ i → i < j → ∀ y, ts[i]? = some y → nz y = false)) ?_ (ts.length - k)
    ⟨s.heap, s.toks, k, rfl, Nat.le_refl _, hle, rfl, hk, fun _ _ _ e => e, fun i h1 h2 => absurd h2 (Nat.not_lt.mpr h1)⟩
  rintro m s' ⟨h₁, tk₁, j, rfl, hkj, hjl, rfl, hj, hx, hall⟩
  have ho₁ : h₁.get? I = some (filtObj J) := hx _ _ hIJ ho
  have ht₁ : h₁.IsTuple t vs.toArray := ht.extBut hx htJ
  show wpAny _ _ (field (.ref I) 0 >>= _) _ _ _
  refine wpAny_bind (wpAny_field ho₁ rfl (x := .builtin "len") rfl ?_)
  refine wpAny_bind (wpAny_field ho₁ rfl (x := .ref J) rfl ?_)
  cases hv : ts[j]? with
  | none =>
    have hn : vs.toArray[j]? = none := by
      have : ts.length ≤ j := by simpa using hv
      simp only [List.getElem?_toArray]
      exact List.getElem?_eq_none (by rw [hi.length]; exact this)
    refine wpAny_bind (nextTup_end (by exact hh) hj ht₁ hn fun h' e he hst => ?_)
    refine hN e h' tk₁ (fun i h1 y hy => ?_) (fun b o hb q => he b o hb (hx b o hb q)) hst
    by_cases h2 : i < j
    · exact hall i h1 h2 y hy
    · have h3 : ts.length ≤ j := by simpa using hv
      have h4 : i < ts.length := (List.getElem?_eq_some_iff.mp hy).1
      omega
  | some x =>
    have hjlt : j < ts.length := (List.getElem?_eq_some_iff.mp hv).1
    obtain ⟨u, hu⟩ := hi.get j x hv
    refine wpAny_bind (nextTup_item hj ht₁ (x := .str x u) (by simpa using hu) fun h₂ hj₂ hs₂ => ?_)
    have hx₂ : Heap.ExtBut J s.heap h₂ := fun b o hb q => hs₂.extBut b o hb (hx b o hb q)
    have hxl := hsm x (List.mem_of_getElem? hv)
    refine wpAny_bind (wpAny_holding ?_)
    rw [if_neg (by decide +kernel)]
    refine wpAny_bind (len_str (by omega) ?_)
    refine wpAny_holding (PyProof.Rows.truthy_int ?_)
    cases hz : nz x with
    | true =>
      have hb : ((x.length : Int) != 0) = true := by
        have : ¬ x.length = 0 := of_decide_eq_true hz
        simpa using this
      rw [hb, if_pos rfl]
      exact wpAny_pure (hR j x u h₂ _ hkj hv hz hall hj₂ hx₂)
    | false =>
      have hb : ((x.length : Int) != 0) = false := by
        have : ¬ ¬ x.length = 0 := of_decide_eq_false hz
        simpa using this
      rw [hb, if_neg Bool.false_ne_true]
      refine wpAny_pure ⟨rfl, ts.length - (j + 1), by omega, h₂, _, j + 1, rfl, by omega, hjlt, rfl, hj₂, hx₂, fun i h1 h2 y hy => ?_⟩
      by_cases h3 : i < j
      · exact hall i h1 h3 y hy
      · have h4 : i = j := by omega
        subst h4
        rw [hv] at hy; cases hy; exact hz

theorem take_len {ts : List Str} {k j : Nat} {x : Str} (hkj : k ≤ j) (hx : ts[j]? = some x) (hz : nz x = true) (hall : ∀ i, k ≤ i → i < j → ∀ y, ts[i]? = some y → nz y = false) :
    (ts.take (j + 1)).filter nz = (ts.take k).filter nz ++ [x] := by
  obtain ⟨d, rfl⟩ : ∃ d, j = k + d := ⟨j - k, by omega⟩
  rw [List.take_add_one, hx, List.filter_append]
  have e1 : (Option.some x).toList.filter nz = [x] := by simp [hz]
  rw [e1]
  congr 1
  clear hx e1
  induction d with
  | zero => rfl
  | succ d ih =>
    have ih := ih (by omega) (fun i h1 h2 y hy => hall i h1 (by omega) y hy)
    rw [← Nat.add_assoc, List.take_add_one, List.filter_append, ih]
    cases hq : ts[k + d]? with
    | none => simp
    | some y => simp [hall (k + d) (by omega) (by omega) y hq]
theorem take_all {ts : List Str} {k : Nat} (hall : ∀ i, k ≤ i → ∀ y, ts[i]? = some y → nz y = false) : (ts.take k).filter nz = ts.filter nz := by
  have e : ts.filter nz = (ts.take k).filter nz ++ (ts.drop k).filter nz := by rw [← List.filter_append, List.take_append_drop]
  have e2 : (ts.drop k).filter nz = [] := by
    rw [List.filter_eq_nil_iff]
    intro y hy
    obtain ⟨i, hi, rfl⟩ := List.getElem_of_mem hy
    have : ts[k + i]? = some (ts.drop k)[i] := by
      rw [List.getElem_drop]; exact List.getElem?_eq_getElem _
    rw [hall (k + i) (by omega) _ this]; exact Bool.false_ne_true
  rw [e, e2, List.append_nil]

theorem Walks_filter {I J t : Addr} {vs : List Value} {ts : List Str} (hh : A.handled = none) (hIJ : I ≠ J) (htJ : t ≠ J) (hi : StrsAre vs ts) (hsm : ∀ x ∈ ts, x.length ≤ 1000) :
    Walks prog w A I [I, J, t] [J] (ts.filter nz).length (fun i v => ∃ x u, (ts.filter nz)[i]? = some x ∧ v = .str x u) (FiltAt I J t vs ts) where
  sub := fun b hb => by rw [List.mem_singleton.mp hb]; exact .tail _ (.head _)
  frame := fun i h h' st hk => by
    obtain ⟨ho, ⟨k, hk1, hk2, hk3⟩, ht⟩ := st
    refine ⟨hk I (.head _) _ ho, ⟨k, ?_, hk2, hk3⟩, ?_⟩
    · obtain ⟨o, e, r⟩ := hk1; exact ⟨o, hk J (.tail _ (.head _)) o e, r⟩
    · obtain ⟨o, e, r⟩ := ht; exact ⟨o, hk t (.tail _ (.tail _ (.head _))) o e, r⟩
  item := fun i s Q E hlt st hQ => by
    obtain ⟨ho, ⟨k, hk1, hk2, hk3⟩, ht⟩ := st
    have hT : s.TypeIs (.ref I) "filter" := ⟨_, ho, rfl⟩
    unfold pyNext
    refine wpAny_bind (wpAny_attempt (wpAny_callSpecial?_slot (name := Str.ofString "__next__") hT slot_filter_next (wpAny_call (codeAny_call_builtin_code (plainId_quiet slot_filter_next.plain _) (slot_filter_next.check _ _ _ _ _ _ _ _ hT (args_filter_next _) ?_)))))
    refine filt_code hh hIJ htJ hi hsm ho hk1 ht hk3 (fun j x tk h' tk' hkj hx hz hall hj' he => ?_) fun e h' tk' hall he hst => ?_
    · have e1 := take_len hkj hx hz hall
      have hpre : (ts.filter nz)[i]? = some x := by
        have e2 : ts.filter nz = (ts.take (j + 1)).filter nz ++ (ts.drop (j + 1)).filter nz := by rw [← List.filter_append, List.take_append_drop]
        rw [e2, e1, List.append_assoc, List.getElem?_append_right (by omega), hk2, Nat.sub_self]; rfl
      refine wpAny_pure (hQ (.str x tk) h' tk' ⟨x, tk, hpre, rfl⟩ ⟨he _ _ hIJ ho, ⟨j + 1, hj', by rw [e1, List.length_append, hk2]; rfl, (List.getElem?_eq_some_iff.mp hx).1⟩, ht.extBut he htJ⟩ fun b o hb q => he b o (fun q' => hb (q' ▸ List.mem_singleton.mpr rfl)) q)
    · rw [take_all hall] at hk2; omega
  done := fun s Q E st hQ => by
    obtain ⟨ho, ⟨k, hk1, hk2, hk3⟩, ht⟩ := st
    have hT : s.TypeIs (.ref I) "filter" := ⟨_, ho, rfl⟩
    unfold pyNext
    refine wpAny_bind (wpAny_attempt (wpAny_callSpecial?_slot (name := Str.ofString "__next__") hT slot_filter_next (wpAny_call (codeAny_call_builtin_code (plainId_quiet slot_filter_next.plain _) (slot_filter_next.check _ _ _ _ _ _ _ _ hT (args_filter_next _) ?_)))))
    refine filt_code hh hIJ htJ hi hsm ho hk1 ht hk3 (fun j x tk h' tk' hkj hx hz hall hj' he => ?_) fun e h' tk' hall he hst => ?_
    · exfalso
      have e1 := take_len hkj hx hz hall
      have e2 : ts.filter nz = (ts.take (j + 1)).filter nz ++ (ts.drop (j + 1)).filter nz := by rw [← List.filter_append, List.take_append_drop]
      have e3 := congrArg List.length e2
      rw [e1, List.length_append, List.length_append, hk2] at e3
      simp only [List.length_singleton] at e3
      omega
    · obtain ⟨o, q1, q2⟩ := hst
      refine wpAny_bind (wpAny_isInstance (T := "StopIteration") (b := true) ⟨o, q1, q2⟩ isSubtype_stop ?_)
      exact wpAny_pure (hQ h' tk' fun b o hb q => he b o (fun q' => hb (q' ▸ List.mem_singleton.mpr rfl)) q)
  self := fun i s Q E st hQ => by
    obtain ⟨ho, _, _⟩ := st
    have hT : s.TypeIs (.ref I) "filter" := ⟨_, ho, rfl⟩
    refine wpAny_pyIter_slot hT slot_filter_iter (wpAny_call_entry slot_filter_iter hT entry_filter_iter ?_ (args_filter_iter _))
    show wpAny _ _ (ret (.ref I)) _ _ s
    exact wpAny_pure ⟨_, rfl, "filter", _, hT, slot_filter_next.lookup, hQ⟩
end
end Mine
end -- Filt2

section -- Plat0
open PySem PySem.W PySem.Calls PyProof.Rows PySem.Spec
set_option Elab.async false
set_option maxRecDepth 100000
set_option maxHeartbeats 8000000
namespace Mine

def TabOk (h : Heap) : Prop := ∃ ps, h.get? 16 = some (tabObj ps) ∧ TriplesOk ps.toList
def Ext16 (h h' : Heap) : Prop := ∀ b o, b ≠ 16 → h.get? b = some o → h'.get? b = some o
theorem Ext16.of {h h' : Heap} (k : ∀ b o, h.get? b = some o → h'.get? b = some o) : Ext16 h h' := fun b o _ e => k b o e
theorem Ext16.trans {h h' h'' : Heap} (x : Ext16 h h') (y : Ext16 h' h'') : Ext16 h h'' := fun b o hb e => y b o hb (x b o hb e)
abbrev hid (h : Heap) : Heap := hideAll h [16]
theorem hid_get {h : Heap} {b : Addr} {o : Obj} (e : h.get? b = some o) (hb : b ≠ 16) : (hid h).get? b = some o := hideAll_get _ e (by simpa using hb)
theorem of_hid {h : Heap} {b : Addr} {o : Obj} (e : (hid h).get? b = some o) : b ≠ 16 ∧ h.get? b = some o := by
  refine ⟨fun q => ?_, of_hideAll _ e⟩
  subst q
  rw [show (hid h).get? 16 = none from hideAll_none _ (.head _)] at e; cases e
theorem TabOk.keeps {h h' : Heap} (x : TabOk h) (k : ∀ b o, h.get? b = some o → h'.get? b = some o) : TabOk h' := let ⟨ps, e, r⟩ := x; ⟨ps, k _ _ e, r⟩
theorem hid_ns {h : Heap} {a : Addr} {m : Str → Option Value} (T : TabOk h) (x : h.Ns a m) : (hid h).Ns a m := by
  obtain ⟨ps, hp, _⟩ := T
  obtain ⟨o, es, ep, e, hd, r⟩ := x
  refine ⟨o, es, ep, hid_get e (fun q => ?_), hd, r⟩
  subst q
  rw [hp] at e; cases e; cases hd
theorem hid_list {h : Heap} {a : Addr} {its : Array Value} (T : TabOk h) (x : h.IsList a its) : (hid h).IsList a its := by
  obtain ⟨ps, hp, _⟩ := T
  obtain ⟨o, e, hc, r⟩ := x
  refine ⟨o, hid_get e (fun q => ?_), hc, r⟩
  subst q
  rw [hp] at e; cases e; cases hc
theorem no16 (w : World) : noTabs (Mine.hd.heap_39 w.params) = true := by kernel_rfl
theorem OkH.hid {w : World} {mg mb : Str → Option Value} {h : Heap} (O : OkH w mg mb h) (T : TabOk h) : OkH w mg mb (Mine.hid h) where
  K := fun a o e => by
    refine hid_get (O.K a o e) fun q => ?_
    subst q
    obtain ⟨ps, hp, _⟩ := T
    have h1 := O.K _ _ e
    rw [hp] at h1
    have h2 := List.all_eq_true.mp (no16 w) (16, o) (mem_of_lookupK e)
    cases h1
    exact absurd (show false = true from h2) Bool.false_ne_true
  T := ⟨hid_ns T O.T.g, hid_ns T O.T.b, (let ⟨mc, a, r⟩ := O.T.nolimit; ⟨mc, hid_ns T a, r⟩), O.T.builtins, O.T.free⟩
  M := by
    obtain ⟨bm, ob, M⟩ := O.M
    refine ⟨bm, ob, hid_ns T M.ns, M.name, M.ne, hid_get M.obj (fun q => ?_), M.cls, M.dict, M.data⟩
    obtain ⟨ps, hp, _⟩ := T
    have := M.obj
    rw [q, hp] at this
    cases this
    cases M.cls
theorem code20 {w : World} {mg mb : Str → Option Value} {h : Heap} (O : OkH w mg mb h) : CodeHd h 20 16 := by
  k_with_none
  have : (Mine.hd.heap_39 w.params).In h → PySem.Challenge.rw_mj0094_01.Holds → True := by k_fill; intros; trivial
  refine ⟨_, _, _, _, _, _, _, _, _, O.K _ _ (by k_is), rfl, rfl, rfl, rfl, rfl, rfl, rfl, rfl, by decide⟩

theorem genCode_any {M : Model} {A : Around} {E : Value → Shared → Prop} {s : Shared} {env : Env} {pos : Pos} {qual : Str} {scope : Scope} {Q : Value → Shared → Prop} (hc : env.code = .ref 20) (C : CodeHd s.heap 20 16) (T : TabOk s.heap)
    (hQ : ∀ code h' tk, Ext16 s.heap h' → s.heap.objs.size ≤ h'.objs.size → TabOk h' → Q code { s with heap := h', toks := tk }) : wpAny M A (genexprCode env pos qual scope) Q E s := by
  obtain ⟨ps, hp, ht⟩ := T
  cases hn : codeAmong pos ps.toList with
  | none =>
    refine wpAny_genexprCodeX hc (C.code hp ht) (C.tab hp) hn fun c' h' tk hx hge hlt hcode _ htab _ => ?_
    refine hQ _ h' tk (fun b o hb e => hx b o hb e) (Nat.le_trans hge (Nat.le_of_lt hlt)) ⟨_, htab.2, ?_⟩
    obtain ⟨_, _, _, _, _, _, _, _, _, op, _, _, _, _, _, _, _, q1, q2, q3, _⟩ := hcode
    exact q3
  | some c' => exact wpAny_genexprCode_hit hc (C.code hp ht) hn (hQ c' s.heap s.toks (fun _ _ _ e => e) (Nat.le_refl _) ⟨ps, hp, ht⟩)
end Mine
end -- Plat0

section -- Plat1
open PySem PySem.W PySem.Calls PyProof.Rows PySem.Spec
set_option Elab.async false
set_option maxRecDepth 100000
set_option maxHeartbeats 8000000
namespace Mine

theorem bindV {fd : FuncData} {v : Arg} (hp : fd.params = { posonlyargs := [], args := [], vararg := some v, kwonlyargs := [], kw_defaults := [], kwarg := none, defaults := [] }) (hd : fd.defaults = .none) (hk : fd.kwdefaults = .none) (args : List Value) :
    bindArgs fd ⟨args, []⟩ = newTuple args >>= fun t => pure [(v.arg, t)] := by
  unfold bindArgs
  simp only [hp, hd, hk]
  cases args <;> rfl

abbrev tupObj (vs : List Value) : Obj := { cls := .type "tuple", data := .seq vs.toArray }

theorem enterV {w : World} {mg mb : Str → Option Value} {A : Around} {s : Shared} {Q E : Value → Shared → Prop} {n : Nat} (O : OkH w mg mb s.heap) (T : TabOk s.heap) (R : Room A n)
    {name qual : Str} {params : Arguments} {body : List Stmt} {scope : Scope} {dV kV doc pm cdv ct oc : Value} {an od : Option Addr} {osl : Array (Option Value)} {f : Addr} {args : List Value} {v : Arg}
    (ho : (Mine.hd.heap_39 w.params).lookup f = some ⟨oc, od, .func (fnOf name qual params body scope dV kV doc pm an cdv ct), osl⟩) (hcd : codeIn (Mine.hd.heap_39 w.params) cdv qual = true)
    (hp : params = { posonlyargs := [], args := [], vararg := some v, kwonlyargs := [], kw_defaults := [], kwarg := none, defaults := [] }) (hd : dV = .none) (hkv : kV = .none)
    (hloc : scope.names.lookup v.arg = some .local) (hlen : args.length ≤ 1000)
    (h : ∀ h₁, Fr (hid s.heap) (s.heap.objs.size + 1) h₁ (fun y => [(v.arg, Value.ref s.heap.objs.size)].reverse.lookup y) → News (hid s.heap) (s.heap.objs.size + 1) h₁ [(s.heap.objs.size, tupObj args)] →
      (∀ b o, s.heap.get? b = some o → h₁.get? b = some o) →
      wpAny (model prg w) (A.deeper (envOf qual scope (s.heap.objs.size + 1) f cdv)) (execs body (envOf qual scope (s.heap.objs.size + 1) f cdv))
        (fun fl s' => Q (match fl with | .ret v => v | _ => .none) s') (fun _ _ => False)
        { s with heap := h₁, toks := s.toks + 1 })
    (hco : scope.isCoroutine = false) (hgen : scope.isGenerator = false) (hk : scope.kind = .function)
    (hcell : ∀ x ∈ scope.names, x.2 ≠ .cell) :
    wpAny (model prg w) A (call (.ref f) args) Q E s := by
  have _ := T
  refine wpAny_call ?_
  refine codeAny_call_function (fd := fnOf name qual params body scope dV kV doc pm an cdv ct) (body := body) (by have := R.depth; omega) (O.K _ _ ho) rfl hco hgen rfl (codeRec_of O.K hcd) ?_
  rw [bindV (fd := fnOf name qual params body scope dV kV doc pm an cdv ct) (v := v) hp hd hkv]
  refine wpAny_bind (wpAny_newTuple (wpAny_pure ?_) (by rw [sizeLine_eq]; omega))
  have hsz : (s.heap.push (tupObj args)).objs.size = s.heap.objs.size + 1 := Heap.size_push ..
  have hlim : (s.heap.push (tupObj args)).NoLimit := O.T.nolimit.push _
  refine wpAny_newFunctionEnv hcell (fun x hx => by rw [List.mem_singleton.mp hx]; exact hloc) (fun h₀ hns hsb => ⟨hlim.fresh _ hsb, codeAny_func ?_⟩) hk
  dsimp only at hns hsb ⊢
  rw [hsz] at hns hsb ⊢
  have k1 : ∀ b o, (s.heap.push (tupObj args)).get? b = some o → h₀.get? b = some o := fun b o e => by
    have hb : b < s.heap.objs.size + 1 := by have := Heap.lt_size e; rw [hsz] at this; exact this
    exact hsb.extBut b o (Nat.ne_of_lt hb) (Heap.get?_push_of_some _ e)
  have k2 : ∀ b o, s.heap.get? b = some o → h₀.get? b = some o := fun b o e => k1 b o (Heap.get?_push_of_some _ e)
  refine wpAny_mono (h h₀ ⟨hns, fun b o e => k2 b o (of_hid e).2, Nat.le_succ_of_le (Nat.le_of_eq (hideAll_size _ _))⟩ ?_ k2) (fun _ _ x => x) (fun _ _ x => x.elim)
  intro p hp
  rw [List.mem_singleton.mp hp]
  refine ⟨k1 _ _ (Heap.get?_push_size _ rfl), Nat.ne_of_lt (Nat.lt_succ_self _), ?_⟩
  cases q : (hid s.heap).get? s.heap.objs.size with
  | none => rfl
  | some o => exact absurd (Heap.lt_size (of_hid q).2) (Nat.lt_irrefl _)

theorem strip_elt {prog : Program} {w : World} {A : Around} {E : Value → Shared → Prop} {s : Shared} {env : Env} {x : Str} {px ap pos : Pos} {m : Str → Option Value} {y : Str} {u : Tok}
    (hk : env.scope.kind = .function) (hl : env.kindOf x = some .local) (hn : s.heap.Ns env.locals m) (hv : m x = some (.str y u)) (hd : (x == ("__debug__" : Str)) = false) (hy : y.length ≤ 1000) (hline : (ap.endLine == pos.line) = true)
    (hb : attributeBase (.Name x px) "strip" env (eval (.Name x px) env) = eval (.Name x px) env) :
    wpAny (model prog w) A (eval (.Call (.Attribute (.Name x px) "strip" ap) [] [] pos) env) (fun r s₃ => (∃ u', r = .str (Txt.strip y) u') ∧ Keeps s s₃) E s := by
  refine Call_method0 hb hline (wpAny_Name (wpAny_loadName_local hk hl hn hv ?_) hd)
  exact SB.strip (fun t' k => ⟨⟨t', rfl⟩, s.heap, k, rfl, fun _ _ e => e⟩) (by rw [sizeLine_eq]; omega)

theorem passing_true (n : Nat) : passing (fun _ => true) n 0 = List.range n := by simp [passing]

structure GenIn (A : Around) (h₀ : Heap) (L K : Addr) (m : Str → Option Value) (it : Value) (ts : List Str) (s₂ : Shared) : Prop where
  src : ∃ I J t vs, it = .ref I ∧ FiltAt I J t vs ts 0 s₂.heap ∧ I ≠ J ∧ t ≠ J ∧ StrsAre vs ts ∧ K < J ∧ I ≠ 16 ∧ J ≠ 16 ∧ t ≠ 16
  small : ∀ x ∈ ts, x.length ≤ 1000
  fr : Fr h₀ L s₂.heap m
  bare : AllBare s₂.gens
  lim : s₂.heap.NoLimit
  code : CodeHd s₂.heap 20 16
  tab : TabOk s₂.heap
  h16 : h₀.get? 16 = none
  l16 : L ≠ 16
  below : K < s₂.heap.objs.size
  bmod : ∃ mg bm ob, BMod h₀ mainGlobals mg bm ob

theorem gen_rule {prog : Program} {w : World} {A : Around} {E : Value → Shared → Prop} {s : Shared} {env : Env} {iter : Expr} {x : Str} {px px2 ap cp pos : Pos} {scope : Scope} {Q : Value → Shared → Prop} {h₀ : Heap} {L K : Addr} {m : Str → Option Value}
    (hh : A.handled = none) (hco : scope.isCoroutine = false) (hclos : closureFor scope env = pure []) (hcell : ∀ y ∈ scope.names, y.2 ≠ .cell) (h0 : scope.names.lookup (".0" : Str) = some NameKind.local)
    (hx : scope.names.lookup x = some .local) (hkind : scope.kind = .function) (hroom : A.depth < recursionLimit) (hcode : env.code = .ref 20) (hgl : env.globals = mainGlobals) (hd : (x == ("__debug__" : Str)) = false) (hline : (ap.endLine == cp.line) = true)
    (hb : ∀ env', attributeBase (.Name x px2) "strip" env' (eval (.Name x px2) env') = eval (.Name x px2) env')
    (h : wpAny (model prog w) A (eval iter env) (fun xv s₁ => wpAny (model prog w) A (pyIter xv) (fun it s₂ => ∃ ts, GenIn A h₀ L K m it ts s₂ ∧
      ∀ a s₅, Ext16 s₂.heap s₅.heap → TabOk s₅.heap → Fr h₀ L s₅.heap m → AllBare s₅.gens → s₅.os = s₂.os →
        Gen prog w A K a (ts.filter nz).length (fun j y => ∃ z u, (ts.filter nz)[j]? = some z ∧ y = .str (Txt.strip z) u) s₅ → Q (.ref a) s₅) E s₁) E s)
    (hs : ∀ x, genFold iter env x = pure x) :
    wpAny (model prog w) A (eval (.GeneratorExp (.Call (.Attribute (.Name x px2) "strip" ap) [] [] cp) [⟨.Name x px, iter, [], 0⟩] scope pos) env) Q E s := by
  refine wpAny_GeneratorExp_walksQ hh hco hclos hcell h0 hx hkind hroom (wpAny_mono h (fun xv s₁ h₁' => wpAny_mono h₁' (fun it s₂ h₂ => ?_) fun _ _ e => e) fun _ _ e => e) hs
  obtain ⟨ts, ⟨⟨I, J, t, vs, rfl, hst, hIJ, htJ, hi, hKJ, hI16, hJ16, ht16⟩, hsm, F₂, G₂, hlim, hC, hT, h16, hl16, hK, mg, bm, ob, M⟩, hQ⟩ := h₂
  refine ⟨hlim, genCode_any hcode hC hT fun code h₃ tk₃ hx₃ hsz₃ hT₃ => ?_⟩
  have hbm16 : ∀ b o, h₀.get? b = some o → b ≠ 16 := fun b o e q => by rw [q, h16] at e; cases e
  have k3 : ∀ b o, h₀.get? b = some o → h₃.get? b = some o := fun b o e => hx₃ b o (hbm16 b o e) (F₂.keep b o e)
  have M₃ : BMod h₃ env.globals mg bm ob := by rw [hgl]; exact M.keeps k3
  have hl₃ : h₃.NoLimit := by
    obtain ⟨mc, a, r⟩ := hlim
    obtain ⟨ps, hps, _⟩ := hT
    obtain ⟨o, es, ep, e, hdd, rr⟩ := a
    exact ⟨mc, ⟨o, es, ep, hx₃ _ _ (fun q => by rw [q, hps] at e; cases e; cases hdd) e, hdd, rr⟩, r⟩
  have hst₃ : FiltAt I J t vs ts 0 h₃ := by
    obtain ⟨ho, ⟨k, hk1, hk2, hk3⟩, ht⟩ := hst
    refine ⟨hx₃ _ _ hI16 ho, ⟨k, ?_, hk2, hk3⟩, ?_⟩
    · obtain ⟨o, e, r⟩ := hk1; exact ⟨o, hx₃ _ _ hJ16 e, r⟩
    · obtain ⟨o, e, r⟩ := ht; exact ⟨o, hx₃ _ _ ht16 e, r⟩
  refine wpAny_builtinsFor M₃.ns M₃.name M₃.ne M₃.obj M₃.cls M₃.dict M₃.data ?_
  refine ⟨I, [I, J, t], [J], (ts.filter nz).length, _, FiltAt I J t vs ts, (fun _ => true), (fun j y => ∃ z u, (ts.filter nz)[j]? = some z ∧ y = .str (Txt.strip z) u), rfl, (fun A' hA => Walks_filter hA hIJ htJ hi hsm), hst₃, ?_, hl₃, ?_, ?_, ?_⟩
  · intro b hb
    obtain ⟨ho, ⟨k, hk1, _, _⟩, ht⟩ := hst₃
    rcases List.mem_cons.mp hb with rfl | hb
    · exact Heap.lt_size ho
    · rcases List.mem_cons.mp hb with rfl | hb
      · obtain ⟨o, e, _⟩ := hk1; exact Heap.lt_size e
      · rw [List.mem_singleton.mp hb]; obtain ⟨o, e, _⟩ := ht; exact Heap.lt_size e
  · intro hm
    have e := List.mem_singleton.mp hm
    obtain ⟨_, ⟨k, ⟨o, e1, e2, e3⟩, _, _⟩, _⟩ := hst₃
    obtain ⟨mc, ⟨o', es, ep, q1, q2, _⟩, _⟩ := hl₃
    rw [e, e1] at q1; cases q1; rw [e3] at q2; cases q2
  · intro href hk
    refine ⟨fun A' E' i v s₂ m₂ hA hP hn hm _ => wpAny_tests_nil ⟨rfl, s₂.heap, s₂.toks, rfl, fun _ _ e => e⟩, fun A' E' i v s₂ m₂ hA hP _ hn hm _ => ?_⟩
    obtain ⟨z, u, hz, rfl⟩ := hP
    have hzl : z.length ≤ 1000 := hsm z (List.mem_filter.mp (List.mem_of_getElem? hz)).1
    exact wpAny_mono (strip_elt (env := genEnv scope [] h₃.objs.size code builtinsNs env) hkind hx hn hm hd hzl hline (hb _)) (fun r s₃ ⟨⟨u', e⟩, k⟩ => ⟨⟨z, u', hz, e⟩, k⟩) fun _ _ e => e
  · intro a h₅ tk gs hgb hag hsz₅ hk₅ W hat
    have k5 : ∀ b o, h₀.get? b = some o → h₅.get? b = some o := fun b o e => hk₅ b o (k3 b o e)
    have F₅ : Fr h₀ L h₅ m := by
      obtain ⟨oL, es, ep, hL, r⟩ := F₂.ns
      exact ⟨⟨oL, es, ep, hk₅ _ _ (hx₃ _ _ hl16 hL), r⟩, k5, F₂.above⟩
    refine hQ a _ (fun b o hb e => hk₅ b o (hx₃ b o hb e)) (hT₃.keeps hk₅) F₅ (G₂.push hgb) rfl ?_
    rw [passing_true] at W
    simp only [List.length_range] at W
    have W' := W.imp (P' := fun j y => ∃ z u, (ts.filter nz)[j]? = some z ∧ y = .str (Txt.strip z) u) fun j y hy => by
      obtain ⟨i, hi1, hi2⟩ := hy
      have e : i = j := by
        rw [List.getElem?_range (by have := (List.getElem?_eq_some_iff.mp hi1).1; simpa using this)] at hi1
        exact (Option.some.inj hi1).symm
      rw [← e]; exact hi2
    refine ⟨_, _, _, _, W', hat, (fun i s' st => st.1.typeIs), List.mem_cons_self, ?_, ?_⟩
    · intro b hb
      show b < h₅.objs.size
      rw [hsz₅]
      rcases List.mem_cons.mp hb with rfl | hb
      · exact Nat.lt_succ_self _
      · rcases List.mem_cons.mp hb with rfl | hb
        · exact Nat.lt_succ_of_lt hag
        · exact Nat.lt_succ_of_lt (Nat.lt_trans (List.mem_range.mp hb) hag)
    · intro b hb
      rcases List.mem_cons.mp hb with rfl | hb
      · exact Nat.lt_of_lt_of_le hK hsz₃
      · rw [List.mem_singleton.mp hb]; exact hKJ
end Mine
end -- Plat1

section -- F_fold
open PySem PySem.W PySem.Calls PyProof.Rows
set_option Elab.async false
set_option maxRecDepth 100000
set_option maxHeartbeats 8000000
namespace MFold
open Mine

noncomputable def pieces (x : Str) : List Str := (Txt.split x (Str.ofString "-")).filter (fun a => a != Str.ofString "")
noncomputable def foldF (x : Str) : Str :=
  (if (Txt.slice x none (some 1) == Str.ofString "-" && !decide (pieces x = [])) = true then Str.ofString "-" else Str.ofString "") ++ Txt.join (Str.ofString "-") (pieces x)

theorem listAt {h₀ h : Heap} {L a : Addr} {its : Array Value} {n : Nat} {news : List (Addr × Obj)} (N : News h₀ L h news) (hm : (a, W.listOf its n) ∈ news) : h.IsList a its := ⟨_, (N _ hm).1, rfl, n, rfl⟩

theorem join_fit {ys : List Str} (h : (ys.map (·.length)).sum + ys.length ≤ 4000) : (ys.map (·.length)).sum + ys.length * (Str.ofString "-").length ≤ 16777216 := by
  have e : (Str.ofString "-").length = 1 := by decide +kernel
  rw [e]; omega
local macro_rules | `(tactic| walk_at "last call builtin:str.join") => `(tactic| ((with_reducible show wpAny _ _ (call (Value.builtin "str.join") [Value.str _ _, Value.ref _]) _ _ _); (rename List.map _ _ = Txt.split _ _ => hsp9); (with_reducible rename CarriedAll _ _ => hc9); rw [hsp9] at hc9; refine' join_list (listAt (by assumption) (by k_mem)) (StrsAre.of_carried hc9) ?kj ?_; (case kj => exact join_fit (by assumption)); intro t9 k9))
local macro_rules | `(tactic| walk_at "compareOp NotEq ref") => `(tactic| ((with_reducible show wpAny _ _ (compareOp CmpOp.NotEq (Value.ref _) (Value.ref _)) _ _ _); refine' ne_nil (listAt (by assumption) (by k_mem)) (listAt (by assumption) (by k_mem)) ?ku ?_; (case ku => ((simp only [units_deeper]); (try dsimp only); omega))))

theorem carried_size {ys : List Value} {ts : List Str} (h : CarriedAll ys (ts.map PyData.str)) : ys.toArray.size = 0 ↔ ts = [] := by
  have := h.length_eq
  simp only [List.length_map] at this
  simp only [List.size_toArray, this, List.length_eq_zero_iff]
theorem fold_v1 {x : Str} {ys : List Value} (h : (Txt.slice x none (some 1) == Str.ofString "-") = true) (hs : ys.toArray.size = 0) (hc : CarriedAll ys ((pieces x).map PyData.str)) : Str.ofString "" ++ Txt.join (Str.ofString "-") (pieces x) = foldF x := by
  unfold foldF
  rw [h, decide_eq_true ((carried_size hc).mp hs)]; rfl
theorem fold_v2 {x : Str} {ys : List Value} (h : (Txt.slice x none (some 1) == Str.ofString "-") = true) (hs : ¬ ys.toArray.size = 0) (hc : CarriedAll ys ((pieces x).map PyData.str)) : Str.ofString "-" ++ Txt.join (Str.ofString "-") (pieces x) = foldF x := by
  unfold foldF
  rw [h, decide_eq_false (fun e => hs ((carried_size hc).mpr e))]; rfl
theorem fold_v3 {x : Str} (h : (Txt.slice x none (some 1) == Str.ofString "-") = false) : Str.ofString "" ++ Txt.join (Str.ofString "-") (pieces x) = foldF x := by
  unfold foldF
  rw [h]; rfl
theorem join_len {ys : List Str} (h : (ys.map (·.length)).sum + ys.length ≤ 4000) : (Txt.join (Str.ofString "-") ys).length ≤ 4000 := by
  have h1 := StrLaws.join_length_le (Str.ofString "-") ys
  have e : (Str.ofString "-").length = 1 := by decide +kernel
  have e2 : Txt.join (Str.ofString "-") ys = Str.join (Str.ofString "-") ys := StrLaws.glued_eq_join _ _
  rw [e2]; rw [e] at h1; omega
theorem add_fit {a b : Str} (ha : a.length ≤ 4000) (hb : b.length ≤ 4000) : a.length + b.length ≤ sizeLine := by
  rw [sizeLine_eq]; omega

structure Halt (p : Prop) : Prop where
  get : p
theorem halt {p : Prop} (h : Halt p) : p := h.get
local macro_rules | `(tactic| walk_at "binaryOp Add str str") => `(tactic| (refine halt ?_))
theorem fold_spec {w : World} {mg mb : Str → Option Value} {A : Around} {s : Shared} {Q E : Value → Shared → Prop} (O : OkH w mg mb s.heap) (R : Room A 3) {x : Str} {t : Tok} (hx : x.length ≤ 1000) (hj : ((pieces x).map (·.length)).sum + (pieces x).length ≤ 4000)
   (hQ : ∀ t' h' tk', (∀ b o, s.heap.get? b = some o → h'.get? b = some o) → Q (.str (foldF x) t') { s with heap := h', toks := tk' }) : wpAny (model PySem.Challenge.rw_mj0094_01.row.prog w) A (call (.ref 43) [.str x t]) Q E s := by
  k_with_none
  have : (Mine.hd.heap_39 w.params).In s.heap → PySem.Challenge.rw_mj0094_01.Holds → True := by k_fill; intros; trivial
  have X₀ := O.K
  have T₀ := O.T
  obtain ⟨bm, ob, M₀⟩ := O.M
  refine' enter O R (f := 43) (binds := [(Str.ofString "joined", .str x t)]) ?k6 ?k7 ?k9 ?kB ?_ ?c2 ?c3 ?c4 ?c5
  (case k6 => k_is)
  (case k7 => k_is)
  (case k9 => exact BindsTo.of_eq rfl)
  (case kB => exact locs rfl)
  (case c2 => exact rfl)
  (case c3 => exact rfl)
  (case c4 => exact rfl)
  (case c5 => decide)
  intro h₁ F' N'
  obtain ⟨hd, dp, fr, gd, un⟩ := A
  obtain rfl : hd = none := R.handled
  have hdp := R.depth
  have hun := R.units
  dsimp only at hdp hun
  (try dsimp only)
  k_steps
  · refine Halt.mk ?_
    refine PyProof.Rows.add_str (fun t' tk => ?_) (add_fit (by decide +kernel) (join_len hj))
    have e := fold_v1 (x := x) (by assumption) (by assumption) (by assumption)
    unfold pieces at e
    rw [e]
    exact hQ _ _ _ (Fr.keep (by assumption))
  · refine Halt.mk ?_
    refine PyProof.Rows.add_str (fun t' tk => ?_) (add_fit (by decide +kernel) (join_len hj))
    have e := fold_v2 (x := x) (by assumption) (by assumption) (by assumption)
    unfold pieces at e
    rw [e]
    exact hQ _ _ _ (Fr.keep (by assumption))
  · refine Halt.mk ?_
    refine PyProof.Rows.add_str (fun t' tk => ?_) (add_fit (by decide +kernel) (join_len hj))
    have e := fold_v3 (x := x) (by assumption)
    unfold pieces at e
    rw [e]
    exact hQ _ _ _ (Fr.keep (by assumption))
end MFold
end -- F_fold

section -- F_figs
open PySem PySem.W PySem.Calls PyProof.Rows
set_option Elab.async false
set_option maxRecDepth 100000
set_option maxHeartbeats 8000000
namespace MFigs
open Mine

theorem fig_ne (k : Nat) : (3 * 16 ^ k : Int) ≠ 0 := by
  have : (0 : Int) < 16 ^ k := Int.pow_pos (by decide)
  omega
theorem fig_small {v k : Int} (h : k < 0 + ((v.fmod 3 + 1 - 0).toNat : Int)) : (3 * 16 ^ k.toNat : Int).natAbs < 1073741824 := by
  have h3 : v.fmod 3 < 3 := Int.fmod_lt_of_pos v (by decide)
  have : k.toNat = 0 ∨ k.toNat = 1 ∨ k.toNat = 2 := by omega
  rcases this with e | e | e <;> rw [e] <;> decide
def figsF (x : Int) : List Int := List.map (fun k' => ((x.fmod 12288).fdiv (3 * 16 ^ k'.toNat)).fmod 16) (rangeKs 0 ((x.fmod 12288).fmod 3 + 1 - 0).toNat)
local macro_rules | `(tactic| walk_at "binaryOp FloorDiv int int") => `(tactic| (refine floordiv_int (fig_ne _) ?_ (Or.inl (PyProof.noPylong_small (fig_small (by assumption))))))
theorem figs_spec {w : World} {mg mb : Str → Option Value} {A : Around} {s : Shared} {Q E : Value → Shared → Prop} (O : OkH w mg mb s.heap) (R : Room A 3) {x : Int} {t : Tok}
   (hQ : ∀ a vs h' tk', (∀ b o, s.heap.get? b = some o → h'.get? b = some o) → h'.IsList a vs.toArray → IntsAre vs (figsF x) → Q (.ref a) { s with heap := h', toks := tk' }) : wpAny (model PySem.Challenge.rw_mj0094_01.row.prog w) A (call (.ref 31) [.int x t]) Q E s := by
  k_with_none
  have : (Mine.hd.heap_39 w.params).In s.heap → PySem.Challenge.rw_mj0094_01.Holds → True := by k_fill; intros; trivial
  have X₀ := O.K
  have T₀ := O.T
  obtain ⟨bm, ob, M₀⟩ := O.M
  refine' enterC O R (f := 31) (binds := [(Str.ofString "x", .int x t)]) ?k6 ?k7 ?k9 ?kB ?kD ?_ ?c2 ?c3 ?c4
  (case k6 => k_is)
  (case k7 => k_is)
  (case k9 => exact BindsTo.of_eq rfl)
  (case kB => exact rfl)
  (case kD => decide +kernel)
  (case c2 => exact rfl)
  (case c3 => exact rfl)
  (case c4 => exact rfl)
  intro h₁ tk₁ cells₁ F' N' Y'
  k_cells Y'
  (try simp only [List.cons_append, List.nil_append] at N')
  obtain ⟨hd, dp, fr, gd, un⟩ := A
  obtain rfl : hd = none := R.handled
  have hdp := R.depth
  have hun := R.units
  dsimp only at hdp hun
  (try dsimp only)
  k_steps
  exact hQ _ _ _ _ (Fr.keep (by assumption)) ⟨_, (‹News _ _ _ [_, _]› _ (.head _)).1, rfl, _, rfl⟩ (by assumption)
theorem rangeKs_len (a : Int) (n : Nat) : (rangeKs a n).length = n := by simp [rangeKs]
theorem figsF_len (x : Int) : 1 ≤ (figsF x).length ∧ (figsF x).length ≤ 3 := by
  unfold figsF
  rw [List.length_map, rangeKs_len]
  have h3 : (x.fmod 12288).fmod 3 < 3 := Int.fmod_lt_of_pos _ (by decide)
  have h4 : 0 ≤ (x.fmod 12288).fmod 3 := Int.fmod_nonneg_of_pos _ (by decide)
  omega
theorem figsF_in (x : Int) : ∀ n ∈ figsF x, 0 ≤ n ∧ n < 16 := by
  unfold figsF
  intro n hn
  obtain ⟨k, _, rfl⟩ := List.mem_map.mp hn
  exact ⟨Int.fmod_nonneg_of_pos _ (by decide), Int.fmod_lt_of_pos _ (by decide)⟩
end MFigs
end -- F_figs

section -- F_parse
open PySem PySem.W PySem.Calls PyProof.Rows
set_option Elab.async false
set_option maxRecDepth 100000
set_option maxHeartbeats 8000000
namespace MParse
open Mine

structure PSt where
  res : List Str
  part : Str
  esc : Bool
  quo : Bool
def chS (n : Nat) : Str := ⟨#[n]⟩
def parseStep (p : PSt) (n : Int) : PSt :=
  if p.esc then ⟨p.res, p.part ++ chS n.toNat, false, p.quo⟩
  else if p.quo then
    (if n = 92 then ⟨p.res, p.part, true, p.quo⟩ else if n = 34 then ⟨p.res, p.part ++ chS n.toNat, p.esc, false⟩ else ⟨p.res, p.part ++ chS n.toNat, p.esc, p.quo⟩)
  else if n = 44 then ⟨p.res ++ [p.part], Str.ofString "", p.esc, p.quo⟩
  else if n = 34 then ⟨p.res, p.part ++ chS n.toNat, p.esc, true⟩
  else ⟨p.res, p.part ++ chS n.toNat, p.esc, p.quo⟩
def parseRun (l : List Int) : PSt := l.foldl parseStep ⟨[], Str.ofString "", false, false⟩
def PInv (pre : List Int) (res : List Str) (part : Str) (e q : Bool) : Prop :=
  parseRun pre = ⟨res, part, e, q⟩ ∧ part.length ≤ pre.length ∧ res.length ≤ pre.length ∧ ∀ r ∈ res, r.length ≤ pre.length
def parseF (x : Str) : List Str := (if (parseRun (KStt.codes x)).part = Str.ofString "" then (parseRun (KStt.codes x)).res else (parseRun (KStt.codes x)).res ++ [(parseRun (KStt.codes x)).part]).map Txt.strip
theorem pinv_nil : PInv [] [] (Str.ofString "") false false := ⟨rfl, by decide +kernel, by decide +kernel, fun _ h => nomatch h⟩
structure Halt (p : Prop) : Prop where
  get : p
theorem halt {p : Prop} (h : Halt p) : p := h.get
theorem parse_e1 {x : Str} {res : List Str} {part : Str} {e q : Bool} {ys : List Value} (h : PInv (KStt.codes x) res part e q) (hn : (part.length : Int) ≠ 0)
    (hc : CarriedAll ys (List.map (fun a => PyData.str (Txt.strip a)) (List.filter (fun _ => true) (res ++ [part])))) : StrsAre ys (parseF x) := by
  have e1 : parseF x = (res ++ [part]).map Txt.strip := by
    unfold parseF
    rw [h.1]
    rw [if_neg]
    intro q9
    have : part = Str.ofString "" := q9
    subst this
    exact hn (by decide +kernel)
  rw [e1]
  refine StrsAre.of_carried ?_
  rw [List.filter_eq_self.mpr (fun _ _ => rfl)] at hc
  rw [List.map_map]; exact hc
theorem parse_e2 {x : Str} {res : List Str} {part : Str} {e q : Bool} {ys : List Value} (h : PInv (KStt.codes x) res part e q) (hn : (part.length : Int) = 0)
    (hc : CarriedAll ys (List.map (fun a => PyData.str (Txt.strip a)) (List.filter (fun _ => true) res))) : StrsAre ys (parseF x) := by
  have e1 : parseF x = res.map Txt.strip := by
    unfold parseF
    rw [h.1]
    rw [if_pos]
    show part = Str.ofString ""
    refine Str.ext' ?_
    have h0 : part.cps.size = 0 := by have : part.length = 0 := by omega
                                      exact this
    rw [Array.eq_empty_of_size_eq_zero h0]; decide +kernel
  rw [e1]
  refine StrsAre.of_carried ?_
  rw [List.filter_eq_self.mpr (fun _ _ => rfl)] at hc
  rw [List.map_map]; exact hc
local macro_rules | `(tactic| walk_at "pyIter str") => `(tactic| (refine halt ?_))
theorem sgn (n k : Nat) : ((({ cps := #[n] } : Str) == { cps := #[k] }) = true) ↔ n = k := by
  rw [beq_iff_eq]
  constructor
  · intro h
    have := congrArg (fun x : Str => x.cps.toList) h
    simpa using this
  · rintro rfl; rfl
theorem o44 : Str.ofString "," = { cps := #[44] } := by decide +kernel
theorem o34 : Str.ofString "\"" = { cps := #[34] } := by decide +kernel
theorem o92 : Str.ofString "\\" = { cps := #[92] } := by decide +kernel
theorem one_t {n k : Nat} {y : Str} (e : y = { cps := #[k] }) (h : (({ cps := #[n] } : Str) == y) = true) : (n : Int) = k := by
  subst e; rw [(sgn n k).mp h]
theorem one_f {n k : Nat} {y : Str} (e : y = { cps := #[k] }) (h : (({ cps := #[n] } : Str) == y) = false) : ¬ (n : Int) = k := by
  subst e
  intro q
  have q' : n = k := by omega
  rw [(sgn n k).mpr q'] at h; cases h
theorem pinv_step {pre : List Int} {res res' : List Str} {part part' : Str} {e q e' q' : Bool} {n : Nat} (h : PInv pre res part e q) (hs : parseStep ⟨res, part, e, q⟩ n = ⟨res', part', e', q'⟩) (h1 : part'.length ≤ part.length + 1) (h2 : res' = res ∨ res' = res ++ [part]) : PInv (pre ++ [(n : Int)]) res' part' e' q' := by
  obtain ⟨a, b, c, d⟩ := h
  have e1 : (pre ++ [(n : Int)]).length = pre.length + 1 := by simp
  refine ⟨?_, ?_, ?_, ?_⟩
  · unfold parseRun at a ⊢
    rw [List.foldl_append, a]; exact hs
  · rw [e1]; omega
  · rw [e1]; rcases h2 with rfl | rfl
    · omega
    · rw [List.length_append, List.length_singleton]; omega
  · rw [e1]; rcases h2 with rfl | rfl
    · intro r hr; have := d r hr; omega
    · intro r hr
      rcases List.mem_append.mp hr with hr | hr
      · have := d r hr; omega
      · rw [List.mem_singleton.mp hr]; omega
section
variable {pre : List Int} {res : List Str} {part : Str} {e q : Bool} {n : Nat}
theorem len1 : (part ++ ({ cps := #[n] } : Str)).length ≤ part.length + 1 := by rw [Str.length_append]; exact Nat.le_refl _
theorem chS_eq : chS ((n : Int).toNat) = { cps := #[n] } := by rw [Int.toNat_natCast]; rfl
theorem pinv_w1 (h : PInv pre res part e q) (he : e = true) : PInv (pre ++ [(n : Int)]) res (part ++ { cps := #[n] }) false q := by
  refine pinv_step h ?_ len1 (.inl rfl)
  simp only [parseStep, he, if_true, chS_eq]
theorem pinv_w2 (h : PInv pre res part e q) (he : e = false) (hq : q = true) (hn : (({ cps := #[n] } : Str) == Str.ofString "\\") = true) : PInv (pre ++ [(n : Int)]) res part true q := by
  refine pinv_step h ?_ (Nat.le_succ _) (.inl rfl)
  simp only [parseStep, he, hq, if_true, one_t o92 hn, Bool.false_eq_true, if_false]; rfl
theorem pinv_w3 (h : PInv pre res part e q) (he : e = false) (hq : q = true) (hn : (({ cps := #[n] } : Str) == Str.ofString "\\") = false) (hm : (({ cps := #[n] } : Str) == Str.ofString "\"") = true) : PInv (pre ++ [(n : Int)]) res (part ++ { cps := #[n] }) e false := by
  refine pinv_step h ?_ len1 (.inl rfl)
  have h1 := one_f o92 hn
  have h2 := one_t o34 hm
  simp only [parseStep, he, hq, if_true, Bool.false_eq_true, if_false, if_neg (show ¬ (n : Int) = 92 from h1), if_pos (show (n : Int) = 34 from h2), chS_eq]
theorem pinv_w4 (h : PInv pre res part e q) (he : e = false) (hq : q = true) (hn : (({ cps := #[n] } : Str) == Str.ofString "\\") = false) (hm : (({ cps := #[n] } : Str) == Str.ofString "\"") = false) : PInv (pre ++ [(n : Int)]) res (part ++ { cps := #[n] }) e q := by
  refine pinv_step h ?_ len1 (.inl rfl)
  have h1 := one_f o92 hn
  have h2 := one_f o34 hm
  simp only [parseStep, he, hq, if_true, Bool.false_eq_true, if_false, if_neg (show ¬ (n : Int) = 92 from h1), if_neg (show ¬ (n : Int) = 34 from h2), chS_eq]
theorem pinv_w5 (h : PInv pre res part e q) (he : e = false) (hq : q = false) (hn : (({ cps := #[n] } : Str) == Str.ofString ",") = true) : PInv (pre ++ [(n : Int)]) (res ++ [part]) (Str.ofString "") e q := by
  refine pinv_step h ?_ (by rw [show (Str.ofString "").length = 0 by decide +kernel]; omega) (.inr rfl)
  have h1 := one_t o44 hn
  simp only [parseStep, he, hq, Bool.false_eq_true, if_false, if_pos (show (n : Int) = 44 from h1)]
theorem pinv_w6 (h : PInv pre res part e q) (he : e = false) (hq : q = false) (hn : (({ cps := #[n] } : Str) == Str.ofString ",") = false) (hm : (({ cps := #[n] } : Str) == Str.ofString "\"") = true) : PInv (pre ++ [(n : Int)]) res (part ++ { cps := #[n] }) e true := by
  refine pinv_step h ?_ len1 (.inl rfl)
  have h1 := one_f o44 hn
  have h2 := one_t o34 hm
  simp only [parseStep, he, hq, Bool.false_eq_true, if_false, if_neg (show ¬ (n : Int) = 44 from h1), if_pos (show (n : Int) = 34 from h2), chS_eq]
theorem pinv_w7 (h : PInv pre res part e q) (he : e = false) (hq : q = false) (hn : (({ cps := #[n] } : Str) == Str.ofString ",") = false) (hm : (({ cps := #[n] } : Str) == Str.ofString "\"") = false) : PInv (pre ++ [(n : Int)]) res (part ++ { cps := #[n] }) e q := by
  refine pinv_step h ?_ len1 (.inl rfl)
  have h1 := one_f o44 hn
  have h2 := one_f o34 hm
  simp only [parseStep, he, hq, Bool.false_eq_true, if_false, if_neg (show ¬ (n : Int) = 44 from h1), if_neg (show ¬ (n : Int) = 34 from h2), chS_eq]
end
theorem len_mem {a : Str} {as : List Str} {n : Nat} (h : a ∈ as) (hall : ∀ r ∈ as, r.length ≤ n) (hn : n ≤ 1000) : a.length ≤ sizeLine := by
  have := hall a h; rw [sizeLine_eq]; omega
theorem strs_snoc {us : List Value} {ws : List Str} {x : Str} {t : Tok} (h : StrsAre us ws) : StrsAre (us ++ [.str x t]) (ws ++ [x]) := h.append' (.cons _ _ .nil)
theorem all_snoc {ws : List Str} {x : Str} {n : Nat} (h : ∀ r ∈ ws, r.length ≤ n) (hx : x.length ≤ n) : ∀ r ∈ ws ++ [x], r.length ≤ n := fun r hr =>
  (List.mem_append.mp hr).elim (h r) fun q => by rw [List.mem_singleton.mp q]; exact hx
local macro_rules | `(tactic| walk_at "call builtin:str.strip") => `(tactic| (refine SC.strip (fun t' k => ?_) (len_mem (by assumption) (by assumption) (by omega))))
local macro_rules | `(tactic| walk_at "exec Return some") => `(tactic| k_extra "ret")
local macro_rules | `(tactic| walk_at "InvEndN") => `(tactic| k_extra "end")
theorem parse_spec {w : World} {mg mb : Str → Option Value} {A : Around} {s : Shared} {Q E : Value → Shared → Prop} (O : OkH w mg mb s.heap) (R : Room A 3) {x : Str} {t : Tok} (hx : x.length ≤ 1000)
   (hQ : ∀ a ys h' tk', (∀ b o, s.heap.get? b = some o → h'.get? b = some o) → h'.IsList a ys.toArray → StrsAre ys (parseF x) → Q (.ref a) { s with heap := h', toks := tk' }) : wpAny (model PySem.Challenge.rw_mj0094_01.row.prog w) A (call (.ref 26) [.str x t]) Q E s := by
  k_with_none
  have : (Mine.hd.heap_39 w.params).In s.heap → PySem.Challenge.rw_mj0094_01.Holds → True := by k_fill; intros; trivial
  have X₀ := O.K
  have T₀ := O.T
  obtain ⟨bm, ob, M₀⟩ := O.M
  refine' enter O R (f := 26) (binds := [(Str.ofString "s", .str x t)]) ?k6 ?k7 ?k9 ?kB ?_ ?c2 ?c3 ?c4 ?c5
  (case k6 => k_is)
  (case k7 => k_is)
  (case k9 => exact BindsTo.of_eq rfl)
  (case kB => exact locs rfl)
  (case c2 => exact rfl)
  (case c3 => exact rfl)
  (case c4 => exact rfl)
  (case c5 => decide)
  intro h₁ F' N'
  obtain ⟨hd, dp, fr, gd, un⟩ := A
  obtain rfl : hd = none := R.handled
  have hdp := R.depth
  have hun := R.units
  dsimp only at hdp hun
  (try dsimp only)

  k_with_none
  k_with "pyIter str" => skip
  k_with "state" => (first | exact pinv_w1 (by assumption) (by assumption) | exact pinv_w2 (by assumption) (by assumption) (by assumption) (by assumption) | exact pinv_w3 (by assumption) (by assumption) (by assumption) (by assumption) (by assumption) | exact pinv_w4 (by assumption) (by assumption) (by assumption) (by assumption) (by assumption) | exact pinv_w6 (by assumption) (by assumption) (by assumption) (by assumption) (by assumption) | exact pinv_w7 (by assumption) (by assumption) (by assumption) (by assumption) (by assumption))
  k_steps
  refine Halt.mk ?_
  rename News _ _ _ _ => lN
  rename Fr _ _ _ _ => lF
  refine' KStt.kst_text (σ := List Value × List Str × Nat × Str × Nat × Bool × Bool) (fun c => [(_, W.listOf c.1.toArray c.2.2.1)]) (fun c => [(Str.ofString "part", .str c.2.2.2.1 c.2.2.2.2.1), (Str.ofString "escape", .bool c.2.2.2.2.2.1), (Str.ofString "quote", .bool c.2.2.2.2.2.2)]) (fun c => StrsAre c.1 c.2.1) [] (fun pre c => PInv pre c.2.1 c.2.2.2.1 c.2.2.2.2.2.1 c.2.2.2.2.2.2) ([], [], 0, Str.ofString "", _, false, false) rfl lF lN ?kf ?kk ?kp ?kt ?kd
  (case kp => exact pinv_nil)
  (case kf => exact .nil)
  (case kk => kst_all)
  · rintro ⟨rvs, res, n0, part, pt, es, qu⟩ pre post n tn u h9 tk9 own hcd hoff hfa hin F9 N9
    have kMark := kstMark
    dsimp only [kstB] at F9
    dsimp only at N9 hfa hin hoff
    simp only [List.nil_append, List.cons_append, List.append_nil] at N9
    simp only [List.map_cons, List.map_nil] at hoff
    have hL9 : x.length = pre.length + (post.length + 1) := by have q := congrArg List.length hcd; simpa only [KStt.codes_length, List.length_append, List.length_cons] using q
    have hp1 := hin.2.1
    have hp2 := hin.2.2.1
    have hall := hin.2.2.2
    have hr9 := hfa.length
    k_with "end" => ((have q5 := (by assumption : (({ cps := #[n] } : Str) == Str.ofString ",") = true)); clear q5; (refine halt ?_))
    k_steps
    refine Halt.mk ?_
    rename News _ _ _ _ => nE
    simp only [List.push_toArray] at nE
    refine kst_end (rvs ++ [.str part pt], res ++ [part], n0 + 1, Str.ofString "", ?tq, es, qu) (by assumption) nE (List.forall_mem_cons.mpr ⟨List.Mem.head _, List.forall_mem_nil _⟩) (fun p hp => List.Mem.tail _ hp) rfl (StrsAre.append' hfa (.cons _ _ .nil)) ?hk9 ?hs9 (pinv_w5 (by assumption) (by assumption) (by assumption) (by assumption))
    (case hk9 => kst_all)
    (case hs9 => kst_same)
  · rintro ⟨rvs, res, n0, part, pt, es, qu⟩ u h9 tk9 hfa hin F9 N9
    have kMark := kstMark
    dsimp only [kstB] at F9
    dsimp only at N9 hfa hin
    have hL9 : (KStt.codes x).length = x.length := KStt.codes_length x
    have hp1 := hin.2.1
    have hp2 := hin.2.2.1
    have hall := hin.2.2.2
    have hr9 := hfa.length
    k_with "ret" => ((rename News _ _ _ _ => N8); (simp only [List.push_toArray] at N8); (have S8 := strs_snoc (x := part) (t := pt) hfa); (have A8 := all_snoc hall hp1); clear hfa hall; walk_at "exec Return some")
    k_steps
    · show Q (.ref _) _
      exact hQ _ _ _ _ (Fr.keep (by assumption)) (by assumption) (parse_e1 hin (by assumption) (by assumption))
    · show Q (.ref _) _
      exact hQ _ _ _ _ (Fr.keep (by assumption)) (by assumption) (parse_e2 hin (by assumption) (by assumption))
end MParse
end -- F_parse

section -- F_bare
open PySem PySem.W PySem.Calls PyProof.Rows
set_option Elab.async false
set_option maxRecDepth 100000
set_option maxHeartbeats 8000000
namespace MBare
open Mine

structure Halt (p : Prop) : Prop where
  get : p
theorem halt {p : Prop} (h : Halt p) : p := h.get
theorem listAt {h₀ h : Heap} {L a : Addr} {its : Array Value} {n : Nat} {news : List (Addr × Obj)} (N : News h₀ L h news) (hm : (a, W.listOf its n) ∈ news) : h.IsList a its := ⟨_, (N _ hm).1, rfl, n, rfl⟩
theorem listOld {h₀ h : Heap} {L a : Addr} {its : Array Value} {m : Str → Option Value} (F : Fr h₀ L h m) (hl : h₀.IsList a its) : h.IsList a its := hl.at fun o e => F.keep a o e
local macro_rules | `(tactic| walk_at "exec While BoolOp cons nil") => `(tactic| (refine halt ?_))
local macro_rules | `(tactic| walk_at "compareOp NotEq ref") => `(tactic| ((with_reducible show wpAny _ _ (compareOp CmpOp.NotEq (Value.ref _) (Value.ref _)) _ _ _); refine' ne_nil ?ka (listAt (by assumption) (by k_mem)) ?ku ?_; (case ka => (first | exact listAt (by assumption) (by k_mem) | exact listOld (by assumption) (by assumption))); (case ku => ((simp only [units_deeper]); (try dsimp only); omega))))
def fmI (a : Addr) : Str → Option Value := fun y => if y = Str.ofString "item" then some (.ref a) else none
theorem fm_start (l : Addr) : (fun y => [(Str.ofString "item", Value.ref l)].reverse.lookup y) = fmI l := by
  funext y
  show List.lookup y [(Str.ofString "item", Value.ref l)] = _
  unfold fmI
  rw [List.lookup_cons]
  by_cases h : y = Str.ofString "item"
  · rw [if_pos h, beq_iff_eq.mpr h]
  · rw [if_neg h, beq_eq_false_iff_ne.mpr h]; rfl
theorem fm_again (l a : Addr) : (fun y => if y = Str.ofString "item" then some (Value.ref l) else fmI a y) = fmI l := by
  funext y
  unfold fmI
  by_cases h : y = Str.ofString "item"
  · rw [if_pos h, if_pos h]
  · rw [if_neg h, if_neg h, if_neg h]
def SrcL (h₀ : Heap) (l a : Addr) (vs : List Value) (news : List (Addr × Obj)) : Prop := (a = l ∧ h₀.IsList a vs.toArray) ∨ ∃ n, (a, W.listOf vs.toArray n) ∈ news
def dropL : List Str → List Str
  | [] => []
  | x :: r => if x == Str.ofString " " then dropL r else x :: r
def JB (h₀ : Heap) (l : Addr) (g : List Str → List Str) (ts₀ : List Str) (n : Nat) (m : Str → Option Value) (news : List (Addr × Obj)) : Prop :=
  ∃ a vs ts, m = fmI a ∧ SrcL h₀ l a vs news ∧ StrsAre vs ts ∧ n = ts.length ∧ n ≤ 1000 ∧ g ts = g ts₀
def AfterL (s₀ : Shared) (h₀ : Heap) (L l : Addr) (ts : List Str) (f : Flow) (s' : Shared) : Prop :=
  f = .next ∧ ∃ h tk a vs news, s' = { s₀ with heap := h, toks := tk } ∧ Fr h₀ L h (fmI a) ∧ News h₀ L h news ∧ SrcL h₀ l a vs news ∧ StrsAre vs ts
theorem News.dup {h₀ h : Heap} {L : Addr} {news : List (Addr × Obj)} {p : Addr × Obj} (N : News h₀ L h news) (hm : p ∈ news) : News h₀ L h (p :: news) := List.forall_mem_cons.mpr ⟨N p hm, N⟩
section
variable {prog : Program} {w : World} {A : Around} {E : Value → Shared → Prop} {s : Shared}
theorem item_pos {value slice : PySem.Expr} {l : Addr} {vs : List Value} {k : Int} {u : Tok} {v : Value} {Q : Value → Shared → Prop}
    (hl : s.heap.IsList l vs.toArray) (h0 : 0 ≤ k) (hhi : k < 2 ^ 63) (hx : vs[k.toNat]? = some v) (h : Q v s)
    (hs : subscripted slice false (.ref l) (.int k u) = operate [.ref l, .int k u] (getItem (.ref l) (.int k u))) :
    wpAny (model prog w) A (subscriptTail value slice (.ref l) (.int k u)) Q E s :=
  tail_any hl.typeIs slot_list_getitem.lookup (wpAny_getItem_list hl h0 hhi (by simpa using hx) h) hs
theorem item_last {value slice : PySem.Expr} {l : Addr} {vs : List Value} {u : Tok} {v : Value} {Q : Value → Shared → Prop}
    (hl : s.heap.IsList l (vs ++ [v]).toArray) (h : Q v s)
    (hs : subscripted slice false (.ref l) (.int (-1) u) = operate [.ref l, .int (-1) u] (getItem (.ref l) (.int (-1) u))) :
    wpAny (model prog w) A (subscriptTail value slice (.ref l) (.int (-1) u)) Q E s :=
  tail_any hl.typeIs slot_list_getitem.lookup (wpAny_getItem_list_neg hl (by decide) (by simp; omega) (by decide) (by simp; rw [show (-1 + ((vs.length : Int) + 1)).toNat = vs.length by omega]; simp) h) hs
theorem slice_tail {value slice : PySem.Expr} {l L : Addr} {h h₀ : Heap} {items its' : Array Value} {vl vu : Value} {lo hi : Option Int} {Q : Value → Shared → Prop} {m : Str → Option Value} {news : List (Addr × Obj)}
    {g : Array GenState} {dr} {tk} {os}
    (F : Fr h₀ L h m) (N : News h₀ L h news) (hl : h.IsList l items) (pl : IsPart vl lo) (pu : IsPart vu hi) (he : slicePick items lo hi none = its') (hz : items.size ≤ sizeLine)
    (hq : ∀ h' a', Fr h₀ L h' m → News h₀ L h' ((a', W.listOf its' 0) :: news) → Q (.ref a') { heap := h', gens := g, drawn := dr, toks := tk, os := os })
    (hs : subscripted slice false (.ref l) (.ref h.objs.size) = operate [.ref l, .ref h.objs.size] (getItem (.ref l) (.ref h.objs.size))) :
    wpAny (model prog w) A (subscriptTail value slice (.ref l) (.ref h.objs.size)) Q E { heap := h.push { cls := .type "slice", data := .fields #[vl, vu, .none] }, gens := g, drawn := dr, toks := tk, os := os } := by
  subst he
  have hl' := hl.push { cls := .type "slice", data := .fields #[vl, vu, .none] }
  refine tail_any (s := { heap := h.push { cls := .type "slice", data := .fields #[vl, vu, .none] }, gens := g, drawn := dr, toks := tk, os := os }) hl'.typeIs slot_list_getitem.lookup (wpAny_getItem_list_slice (s := { heap := h.push { cls := .type "slice", data := .fields #[vl, vu, .none] }, gens := g, drawn := dr, toks := tk, os := os }) hl' (Heap.IsSliceOf.new ..) pl pu .none (by simp) ?_ hz) hs
  have F1 := F.push { cls := .type "slice", data := .fields #[vl, vu, .none] }
  have N1 := N.grown (h' := h.push { cls := .type "slice", data := .fields #[vl, vu, .none] }) fun b x e => Heap.get?_push_of_some _ e
  exact hq _ _ (F1.push _) (N1.push F1 _)
end
theorem strs_split {vs : List Value} {ts : List Str} (h : StrsAre vs ts) : (ts = [] ∧ vs = []) ∨ ∃ vs' ts' y t, vs = vs' ++ [.str y t] ∧ ts = ts' ++ [y] ∧ StrsAre vs' ts' := by
  induction h with
  | nil => exact .inl ⟨rfl, rfl⟩
  | cons y t hr ih =>
    right
    rcases ih with ⟨rfl, rfl⟩ | ⟨vs', ts', y', t', rfl, rfl, h'⟩
    · exact ⟨[], [], y, t, rfl, rfl, .nil⟩
    · exact ⟨.str y t :: vs', y :: ts', y', t', rfl, rfl, .cons _ _ h'⟩
def dropR (ts : List Str) : List Str := (dropL ts.reverse).reverse
def bareF (ts : List Str) : List Str := dropR (dropL ts)
theorem dropL_go {y : Str} {r : List Str} (h : (y == Str.ofString " ") = true) : dropL r = dropL (y :: r) := by
  show _ = if y == Str.ofString " " then dropL r else y :: r
  rw [h]; rfl
theorem dropL_stop {y : Str} {r : List Str} (h : (y == Str.ofString " ") = false) : dropL (y :: r) = y :: r := by
  show (if y == Str.ofString " " then dropL r else y :: r) = _
  rw [h]; rfl
theorem dropR_go {y : Str} {r : List Str} (h : (y == Str.ofString " ") = true) : dropR r = dropR (r ++ [y]) := by
  unfold dropR; rw [List.reverse_append]; exact congrArg _ (dropL_go h)
theorem dropR_stop {y : Str} {r : List Str} (h : (y == Str.ofString " ") = false) : dropR (r ++ [y]) = r ++ [y] := by
  unfold dropR; rw [List.reverse_append]
  show (dropL (y :: r.reverse)).reverse = _
  rw [dropL_stop h]; simp
theorem dropL_len : ∀ ts : List Str, (dropL ts).length ≤ ts.length
  | [] => Nat.le_refl _
  | x :: r => by
    show (if x == Str.ofString " " then dropL r else x :: r).length ≤ _
    split
    · exact Nat.le_succ_of_le (dropL_len r)
    · exact Nat.le_refl _
theorem pick_from1 (v : Value) (vs : List Value) : slicePick (v :: vs).toArray (some 1) none none = vs.toArray := slicePick_from' (v :: vs).toArray 1
theorem pick_but1 (v : Value) (vs : List Value) : slicePick (vs ++ [v]).toArray none (some (-1)) none = vs.toArray := by
  have := slicePick_butLast (vs ++ [v]).toArray 1 (Nat.le_refl _)
  refine this.trans ?_
  simp
theorem size_ok {vs : List Value} {ts : List Str} (h : StrsAre vs ts) (hn : ts.length ≤ 1000) : vs.toArray.size ≤ sizeLine := by
  rw [List.size_toArray, h.length, sizeLine_eq]; omega
local macro_rules | `(tactic| walk_at "subscriptTail Name Slice ref ref") => `(tactic| (refine' slice_tail (by assumption) (by assumption) ?ka ?kb ?kc ?kd ?ke ?_ ?kf; (case ka => (first | exact listAt (by assumption) (by k_mem) | exact listOld (by assumption) (by assumption))); (case kb => first | exact IsPart.int _ _ | exact IsPart.none); (case kc => first | exact IsPart.int _ _ | exact IsPart.none); (case kd => first | exact pick_from1 _ _ | exact pick_but1 _ _); (case ke => k_extra "size"); (case kf => with_unfolding_all rfl); intro h' a' F' N'))
local macro_rules | `(tactic| walk_at "subscriptTail Name Constant ref int") => `(tactic| ((with_reducible show wpAny _ _ (subscriptTail _ _ (Value.ref _) (Value.int _ _)) _ _ _); refine' item_pos ?ka ?kb ?kc ?kd ?_ ?ke; (case ka => (first | exact listAt (by assumption) (by k_mem) | exact listOld (by assumption) (by assumption))); (case kb => decide); (case kc => decide); (case kd => rfl); (case ke => with_unfolding_all rfl)))
local macro_rules | `(tactic| walk_at "subscriptTail Name UnaryOp ref int") => `(tactic| ((with_reducible show wpAny _ _ (subscriptTail _ _ (Value.ref _) (Value.int _ _)) _ _ _); refine' item_last ?ka ?_ ?ke; (case ka => (first | exact listAt (by assumption) (by k_mem) | exact listOld (by assumption) (by assumption))); (case ke => with_unfolding_all rfl)))
theorem strs_to {vs : List Value} {ts ts' : List Str} (h : StrsAre vs ts) (e : ts = ts') : StrsAre vs ts' := e ▸ h
theorem bare_turn {h₀ h' : Heap} {L l a a' : Addr} {s : Shared} {tk n : Nat} {items : Array Value} {lo hi : Option Int} {vs' : List Value} {ts' ts₀ : List Str} {news : List (Addr × Obj)} {g : List Str → List Str} {Q : Flow → Shared → Prop}
    (F : Fr h₀ L h' (fun y => if y = Str.ofString "item" then some (.ref a') else if y = Str.ofString "item" then some (.ref a) else none)) (N : News h₀ L h' ((a', { cls := .type "list", data := .seq (slicePick items lo hi none) }) :: news))
    (he : slicePick items lo hi none = vs'.toArray) (hr : StrsAre vs' ts') (hlt : ts'.length < n) (hn : n ≤ 1000) (hg : g ts' = g ts₀) : WhileStep2 h₀ L s (JB h₀ l g ts₀) Q n .next { s with heap := h', toks := tk } := by
  rw [he] at N
  have F' : Fr h₀ L h' (fmI a') := by have e := fm_again a' a; unfold fmI at e ⊢; rw [e] at F; exact F
  exact ⟨h', tk, _, _, ts'.length, rfl, F', N, hlt, a', vs', ts', rfl, .inr ⟨_, .head _⟩, hr, rfl, by omega, hg⟩
theorem bare_spec {w : World} {mg mb : Str → Option Value} {A : Around} {s : Shared} {Q E : Value → Shared → Prop} (O : OkH w mg mb s.heap) (R : Room A 3) {l : Addr} {ts : List Str} {vs : List Value} (hl : s.heap.IsList l vs.toArray) (hi : StrsAre vs ts) (hn : ts.length ≤ 1000)
   (hQ : ∀ a vs' h' tk', (∀ b o, s.heap.get? b = some o → h'.get? b = some o) → h'.IsList a vs'.toArray → StrsAre vs' (bareF ts) → (a = l ∨ s.heap.get? a = none) → Q (.ref a) { s with heap := h', toks := tk' }) : wpAny (model PySem.Challenge.rw_mj0094_01.row.prog w) A (call (.ref 38) [.ref l]) Q E s := by
  k_with_none
  have : (Mine.hd.heap_39 w.params).In s.heap → PySem.Challenge.rw_mj0094_01.Holds → True := by k_fill; intros; trivial
  have X₀ := O.K
  have T₀ := O.T
  obtain ⟨bm, ob, M₀⟩ := O.M
  refine' enter O R (f := 38) (binds := [(Str.ofString "item", .ref l)]) ?k6 ?k7 ?k9 ?kB ?_ ?c2 ?c3 ?c4 ?c5
  (case k6 => k_is)
  (case k7 => k_is)
  (case k9 => exact BindsTo.of_eq rfl)
  (case kB => exact locs rfl)
  (case c2 => exact rfl)
  (case c3 => exact rfl)
  (case c4 => exact rfl)
  (case c5 => decide)
  intro h₁ F' N'
  obtain ⟨hd, dp, fr, gd, un⟩ := A
  obtain rfl : hd = none := R.handled
  have hdp := R.depth
  have hun := R.units
  dsimp only at hdp hun
  (try dsimp only)

  rw [fm_start] at F'
  k_steps
  refine Halt.mk ?_
  rename News _ _ _ _ => lN
  rename Fr _ _ _ _ => lF
  refine wpAny_mono (Q := AfterL s s.heap s.heap.objs.size l (dropL ts)) ?loop ?after (fun _ _ x => x)
  case loop =>
    refine' While_inv2 (JB s.heap l dropL ts) (n₀ := ts.length) lF lN ⟨l, vs, ts, rfl, .inl ⟨rfl, hl⟩, hi, rfl, hn, rfl⟩ ?_
    clear lF lN
    rintro n m₁ news₁ h₂ tk₂ F₂ N₂ ⟨a, vs₁, ts₁, rfl, hsrc, hi₁, rfl, hn₁, hg⟩
    have hi₂ := hi₁
    unfold fmI at F₂
    rcases hsrc with ⟨ea, hl₁⟩ | ⟨c, hm₁⟩
    · cases hi₁ with
      | nil =>
        k_steps
        exact ⟨rfl, _, _, _, _, _, rfl, by assumption, by assumption, .inl ⟨ea, hl₁⟩, strs_to hi₂ (Eq.trans rfl hg)⟩
      | cons y ty hr =>
        k_steps
        · exact absurd ‹(Value.str y ty :: _).toArray.size = 0› (by simp)
        · exact bare_turn (by assumption) (by assumption) (pick_from1 _ _) hr (Nat.lt_succ_self _) hn₁ ((dropL_go (by assumption)).trans hg)
        · exact ⟨rfl, _, _, _, _, _, rfl, by assumption, by assumption, .inl ⟨ea, hl₁⟩, strs_to hi₂ ((dropL_stop (by assumption)).symm.trans hg)⟩
    · replace N₂ := News.dup N₂ hm₁
      cases hi₁ with
      | nil =>
        k_steps
        exact ⟨rfl, _, _, _, _, _, rfl, by assumption, by assumption, .inr ⟨c, List.Mem.tail _ (List.Mem.head _)⟩, strs_to hi₂ (Eq.trans rfl hg)⟩
      | cons y ty hr =>
        k_steps
        · exact absurd ‹(Value.str y ty :: _).toArray.size = 0› (by simp)
        · exact bare_turn (by assumption) (by assumption) (pick_from1 _ _) hr (Nat.lt_succ_self _) hn₁ ((dropL_go (by assumption)).trans hg)
        · exact ⟨rfl, _, _, _, _, _, rfl, by assumption, by assumption, .inr ⟨c, List.Mem.tail _ (List.Mem.head _)⟩, strs_to hi₂ ((dropL_stop (by assumption)).symm.trans hg)⟩
  case after =>
    clear lF lN
    rintro f s' ⟨rfl, h₃, tk₃, a₃, vs₃, news₃, rfl, lF, lN, hsrc₃, hi₃⟩
    dsimp only
    k_steps
    refine Halt.mk ?_
    refine wpAny_mono (Q := AfterL s s.heap s.heap.objs.size l (dropR (dropL ts))) ?loop ?after (fun _ _ x => x)
    case loop =>
      refine' While_inv2 (JB s.heap l dropR (dropL ts)) (n₀ := (dropL ts).length) lF lN ⟨a₃, vs₃, dropL ts, rfl, hsrc₃, hi₃, rfl, Nat.le_trans (dropL_len ts) hn, rfl⟩ ?_
      clear lF lN
      rintro n m₁ news₁ h₂ tk₂ F₂ N₂ ⟨a, vs₁, ts₁, rfl, hsrc, hi₁, rfl, hn₁, hg⟩
      have hi₂ := hi₁
      unfold fmI at F₂
      rcases hsrc with ⟨ea, hl₁⟩ | ⟨c, hm₁⟩
      · rcases strs_split hi₁ with ⟨rfl, rfl⟩ | ⟨vs₃, ts₃, y, ty, rfl, rfl, hr⟩
        · k_steps
          exact ⟨rfl, _, _, _, _, _, rfl, by assumption, by assumption, .inl ⟨ea, hl₁⟩, strs_to hi₂ (Eq.trans rfl hg)⟩
        · k_steps
          · exact absurd ‹(_ ++ [Value.str y ty]).toArray.size = 0› (by simp)
          · exact bare_turn (by assumption) (by assumption) (pick_but1 _ _) hr (by simp) hn₁ ((dropR_go (by assumption)).trans hg)
          · exact ⟨rfl, _, _, _, _, _, rfl, by assumption, by assumption, .inl ⟨ea, hl₁⟩, strs_to hi₂ ((dropR_stop (by assumption)).symm.trans hg)⟩
      · replace N₂ := News.dup N₂ hm₁
        rcases strs_split hi₁ with ⟨rfl, rfl⟩ | ⟨vs₃, ts₃, y, ty, rfl, rfl, hr⟩
        · k_steps
          exact ⟨rfl, _, _, _, _, _, rfl, by assumption, by assumption, .inr ⟨c, List.Mem.tail _ (List.Mem.head _)⟩, strs_to hi₂ (Eq.trans rfl hg)⟩
        · k_steps
          · exact absurd ‹(_ ++ [Value.str y ty]).toArray.size = 0› (by simp)
          · exact bare_turn (by assumption) (by assumption) (pick_but1 _ _) hr (by simp) hn₁ ((dropR_go (by assumption)).trans hg)
          · exact ⟨rfl, _, _, _, _, _, rfl, by assumption, by assumption, .inr ⟨c, List.Mem.tail _ (List.Mem.head _)⟩, strs_to hi₂ ((dropR_stop (by assumption)).symm.trans hg)⟩

    case after =>
      clear lF lN
      rintro f s' ⟨rfl, h₄, tk₄, a₄, vs₄, news₄, rfl, lF, lN, hsrc₄, hi₄⟩
      have hl₄ : h₄.IsList a₄ vs₄.toArray := hsrc₄.elim (fun q => listOld lF q.2) fun ⟨_, q⟩ => listAt lN q
      have hfr : a₄ = l ∨ s.heap.get? a₄ = none := hsrc₄.elim (fun q => .inl q.1) fun ⟨_, q⟩ => .inr (lN _ q).2.2
      unfold fmI at lF
      dsimp only
      k_steps
      exact hQ _ _ _ _ (Fr.keep (by assumption)) hl₄ hi₄ hfr
end MBare
end -- F_bare

section -- F_plat
open PySem PySem.W PySem.Calls PyProof.Rows PySem.Builtin
set_option Elab.async false
set_option maxRecDepth 100000
set_option maxHeartbeats 8000000
namespace Mine
structure Halt (p : Prop) : Prop where
  get : p
theorem halt {p : Prop} (h : Halt p) : p := h.get
local macro_rules | `(tactic| walk_at "call builtin:str.replace") => `(tactic| (refine replaceP (by first | omega | ((show @Ne Nat _ _); omega)) (by first | omega | ((show @Ne Nat _ _); omega)) (by first | omega | ((show @Ne Nat _ _); omega)) (by decide +kernel) ?hx (by decide +kernel) (by first | (show 0 < _ + _; omega) | (dsimp only; omega)) ?_; (case hx => ((repeat (rw [lr _ (by decide +kernel) (by decide +kernel)])); k_extra "len")); intro _ k9 hk9))
local macro_rules | `(tactic| walk_at "execs cons") => `(tactic| (k_here; (refine' gen_tk ?gt ?_; (case gt => first | assumption | omega); intro tk9 htk9); refine wpAny_execs_cons ?_; (try dsimp only)))
local macro_rules | `(tactic| walk_at "call type:filter") => `(tactic| (refine halt ?_))
local macro_rules | `(tactic| walk_at "call builtin:str.join") => `(tactic| (refine halt ?_))
local macro_rules | `(tactic| walk_at "exec While Constant cons nil") => `(tactic| (refine halt ?_))
local macro_rules | `(tactic| walk_at "exec While BoolOp cons nil") => `(tactic| (refine halt ?_))
local macro_rules | `(tactic| walk_at "eval GeneratorExp") => `(tactic| (refine halt ?_))

theorem join_txt {ts : List Str} : (List.range ts.length).map (fun j => Txt.strip (ts.getD j (Str.ofString ""))) = ts.map Txt.strip := by
  apply List.ext_getElem
  · simp
  · intro i h1 h2
    simp at h1
    simp [h1]
theorem filt_start {h : Heap} {t : Addr} {vs : List Value} {ts : List Str} (ht : h.IsTuple t vs.toArray) : FiltAt (h.objs.size + 1) h.objs.size t vs ts 0 ((h.push (tupIt t 0)).push (filtObj h.objs.size)) := by
  have hz : (h.push (tupIt t 0)).objs.size = h.objs.size + 1 := Heap.size_push ..
  refine ⟨?_, ⟨0, ⟨_, Heap.get?_push_of_some _ (Heap.get?_push_size _ rfl), rfl, rfl⟩, by simp, Nat.zero_le _⟩, (ht.push _).push _⟩
  have := Heap.get?_push_size (h.push (tupIt t 0)) (o := filtObj h.objs.size) rfl
  rw [hz] at this; exact this
def plat0 (ts : List Str) : Str := Txt.join (Str.ofString "-") ((ts.filter nz).map Txt.strip)
def plat1 (x : Str) : Str :=
  Txt.replace (Txt.replace (Txt.replace (Txt.replace (Txt.replace (Txt.replace (Txt.replace (Txt.replace (Txt.replace x (Str.ofString " ") (Str.ofString "_")) (Str.ofString "/") (Str.ofString "-")) (Str.ofString "\\") (Str.ofString "-")) (Str.ofString ":") (Str.ofString "-")) (Str.ofString ";") (Str.ofString "-")) (Str.ofString "\"") (Str.ofString "-")) (Str.ofString "(") (Str.ofString "-")) (Str.ofString ")") (Str.ofString "-")) (Str.ofString "unknown") (Str.ofString "")
def platF (ts : List Str) : Str := ⟨(Fd (plat1 (plat0 ts)).cps.toList).toArray⟩
theorem plat0_fit {ts : List Str} (h : (ts.map (·.length)).sum + ts.length ≤ 1000) : (((ts.filter nz).map Txt.strip).map (·.length)).sum + ((ts.filter nz).map Txt.strip).length ≤ 1000 := by
  refine Nat.le_trans ?_ h
  clear h
  induction ts with
  | nil => exact Nat.le_refl _
  | cons x r ih =>
    have h1 := PyProof.Rows.len_strip x
    by_cases hx : nz x = true
    · rw [List.filter_cons_of_pos hx]; simp only [List.map_cons, List.sum_cons, List.length_cons] at ih ⊢; omega
    · rw [List.filter_cons_of_neg hx]; simp only [List.map_cons, List.sum_cons, List.length_cons] at ih ⊢; omega
theorem dash_len : (Str.ofString "-").length = 1 := by decide +kernel
theorem plat0_ok {ts : List Str} (h : (ts.map (·.length)).sum + ts.length ≤ 1000) : JoinOk (Str.ofString "-") ((ts.filter nz).map Txt.strip) = true := by
  unfold JoinOk
  rw [StrLaws.joinTotal, dash_len]
  have := plat0_fit h
  have e : (2 : Nat) ^ 24 = 16777216 := by decide
  unfold Builtin.Str.tooLong sizeLine
  rw [decide_eq_false (by omega)]; rfl
theorem plat0_len {ts : List Str} (h : (ts.map (·.length)).sum + ts.length ≤ 1000) : (plat0 ts).length ≤ 1000 := by
  unfold plat0
  rw [show Txt.join (Str.ofString "-") ((ts.filter nz).map Txt.strip) = Str.join (Str.ofString "-") ((ts.filter nz).map Txt.strip) from StrLaws.glued_eq_join _ _]
  have h1 := StrLaws.join_length_le (Str.ofString "-") ((ts.filter nz).map Txt.strip)
  have h2 := plat0_fit h
  rw [dash_len] at h1; omega
theorem small_of_sum {ts : List Str} {x : Str} (hx : x ∈ ts) : x.length ≤ (ts.map (·.length)).sum := by
  induction ts with
  | nil => cases hx
  | cons y r ih =>
    simp only [List.map_cons, List.sum_cons]
    rcases List.mem_cons.mp hx with rfl | h
    · omega
    · have := ih h; omega
theorem tab_after {h₀ h₅ h₆ : Heap} {L : Addr} (T : TabOk h₅) (hk : ∀ b o, b ≤ L → h₅.get? b = some o → h₆.get? b = some o) (h16 : 16 ≤ L) (hL : L ≠ 16) (h0 : h₀.get? 16 = none) : ∃ ps, TriplesOk ps.toList ∧ News h₀ L h₆ [(16, tabObj ps)] := by
  obtain ⟨ps, e, t⟩ := T
  refine ⟨ps, t, fun p hp => ?_⟩
  rw [List.mem_singleton.mp hp]
  exact ⟨hk _ _ h16 e, fun q => hL q.symm, h0⟩
def fmP (a : Addr) (p : Str) (t : Tok) (c : Option Value) : Str → Option Value := fun y => if y = Str.ofString "platform" then some (.str p t) else if y = Str.ofString "cleaned" then c else if y = Str.ofString "args" then some (.ref a) else none
theorem rpL_nil_len (p : List Nat) : ∀ (l : List Nat) (k : Nat), (rpL p [] k l).length ≤ l.length
  | [], _ => by simp [rpL]
  | _ :: r, k + 1 => by simp only [rpL]; have := rpL_nil_len p r k; simp only [List.length_cons]; omega
  | c :: r, 0 => by
    simp only [rpL]
    split
    · have := rpL_nil_len p r (p.length - 1); simp only [List.nil_append, List.length_cons]; omega
    · have := rpL_nil_len p r 0; simp only [List.length_cons]; omega
theorem len_list (x : Str) : x.cps.toList.length = x.length := by simp [Str.length]
theorem plat1_len (x : Str) : (plat1 x).length ≤ x.length := by
  unfold plat1
  rw [← len_list, replace_list _ _ _ (by decide +kernel), show (Str.ofString "").cps.toList = [] by decide +kernel]
  refine Nat.le_trans (rpL_nil_len _ _ _) ?_
  rw [len_list]
  (repeat (rw [lr _ (by decide +kernel) (by decide +kernel)]))
  exact Nat.le_refl _
theorem frRe {h₀ h : Heap} {L : Addr} {m m' : Str → Option Value} (F : Fr h₀ L h m) (e : ∀ y, m y = m' y) : Fr h₀ L h m' := (funext e : m = m') ▸ F
theorem dd_str (x : Str) : (Txt.replace x (Str.ofString "--") (Str.ofString "-")).cps.toList = dd x.cps.toList := by
  rw [replace_list _ _ _ (by decide +kernel), show (Str.ofString "--").cps.toList = [45, 45] by decide +kernel, show (Str.ofString "-").cps.toList = [45] by decide +kernel]; rfl
theorem look_args {a : Addr} (y : Str) (hy : ¬ y = Str.ofString "platform") : List.lookup y [(Str.ofString "args", Value.ref a)].reverse = fmP a (Str.ofString "") 0 none y := by
  show List.lookup y [(Str.ofString "args", Value.ref a)] = _
  unfold fmP
  rw [if_neg hy, List.lookup_cons]
  by_cases h : y = Str.ofString "args"
  · rw [beq_iff_eq.mpr h, if_pos h, if_neg (by subst h; decide +kernel)]
  · rw [beq_eq_false_iff_ne.mpr h, if_neg h]
    by_cases h2 : y = Str.ofString "cleaned"
    · rw [if_pos h2]; rfl
    · rw [if_neg h2]; rfl
theorem fmP_neg {a : Addr} {p p' : Str} {t t' : Tok} {c : Option Value} {y : Str} (hy : ¬ y = Str.ofString "platform") : fmP a p t c y = fmP a p' t' c y := by
  unfold fmP; rw [if_neg hy, if_neg hy]
def JP (a : Addr) (led : List (Addr × Obj)) (l₀ : List Nat) (n : Nat) (m : Str → Option Value) (news : List (Addr × Obj)) : Prop :=
  ∃ p t c, m = fmP a p t c ∧ news = led ∧ n = p.length ∧ p.length ≤ 1000 ∧ Fd p.cps.toList = Fd l₀
def AfP (s₀ : Shared) (h₀ : Heap) (L a : Addr) (led : List (Addr × Obj)) (l₀ : List Nat) (f : Flow) (s' : Shared) : Prop :=
  f = .next ∧ ∃ h tk p t c, s' = { s₀ with heap := h, toks := tk } ∧ 0 < tk ∧ Fr h₀ L h (fmP a p t c) ∧ News h₀ L h led ∧ p.length ≤ 1000 ∧ Fd p.cps.toList = Fd l₀ ∧ Nd p.cps.toList

theorem ne_cp : ¬ Str.ofString "cleaned" = Str.ofString "platform" := by decide +kernel
theorem fm_c {a : Addr} {p : Str} {t : Tok} {c u : Option Value} (y : Str) : (if y = Str.ofString "cleaned" then u else fmP a p t c y) = fmP a p t u y := by
  unfold fmP
  by_cases h1 : y = Str.ofString "cleaned"
  · subst h1; simp only [if_true, if_neg ne_cp]
  · simp only [if_neg h1]
theorem fm_p {a : Addr} {p q : Str} {t t' : Tok} {c : Option Value} (y : Str) : (if y = Str.ofString "platform" then some (Value.str q t') else fmP a p t c y) = fmP a q t' c y := by
  unfold fmP
  by_cases h1 : y = Str.ofString "platform"
  · simp only [if_pos h1]
  · simp only [if_neg h1]
theorem str_eq {x y : Str} (h : x.cps.toList = y.cps.toList) : x = y := Str.ext' (Array.toList_inj.mp h)
theorem dd_fix {p : Str} (h : (Txt.replace p (Str.ofString "--") (Str.ofString "-") == p) = true) : dd p.cps.toList = p.cps.toList := by
  rw [← dd_str, eq_of_beq h]
theorem dd_go {p : Str} (h : (Txt.replace p (Str.ofString "--") (Str.ofString "-") == p) = false) : (Txt.replace p (Str.ofString "--") (Str.ofString "-")).length < p.length := by
  have h1 : dd p.cps.toList ≠ p.cps.toList := fun e => by
    rw [← dd_str] at e
    rw [str_eq e] at h
    simp at h
  have := dd_lt _ h1
  rw [← dd_str, len_list, len_list] at this; exact this
def JQ (a : Addr) (led : List (Addr × Obj)) (l₀ : List Nat) (n : Nat) (m : Str → Option Value) (news : List (Addr × Obj)) : Prop :=
  ∃ p t c, m = fmP a p t c ∧ news = led ∧ n = p.length ∧ p.length ≤ 1000 ∧ Fd p.cps.toList = Fd l₀ ∧ Nd p.cps.toList
def AfQ (s₀ : Shared) (h₀ : Heap) (L a : Addr) (led : List (Addr × Obj)) (l₀ : List Nat) (f : Flow) (s' : Shared) : Prop :=
  f = .next ∧ ∃ h tk p t c, s' = { s₀ with heap := h, toks := tk } ∧ Fr h₀ L h (fmP a p t c) ∧ News h₀ L h led ∧ p = ⟨(Fd l₀).toArray⟩
theorem p_cases (p : Str) : p = ⟨#[]⟩ ∨ ∃ l c, p = ⟨(l ++ [c]).toArray⟩ := by
  obtain ⟨⟨l⟩⟩ := p
  rcases List.eq_nil_or_concat l with rfl | ⟨l', c, rfl⟩
  · exact .inl rfl
  · exact .inr ⟨l', c, by simp⟩
theorem slice_but1 (l : List Nat) (d : Nat) : Txt.slice ⟨(l ++ [d]).toArray⟩ none (some (-1)) = ⟨l.toArray⟩ := by
  have hL : (⟨(l ++ [d]).toArray⟩ : Str).length = l.length + 1 := by simp [Str.length]
  rw [slice_to_neg (by decide), hL, show max 0 (((l.length + 1 : Nat) : Int) + -1) = (l.length : Int) by omega]
  have := eq_of_beq (slice_closes_toL (x := ⟨(l ++ [d]).toArray⟩) (j := (l.length : Int)) (by omega) (by rw [hL]; omega))
  rw [this]
  simp
theorem item_but1 (l : List Nat) (d : Nat) : Txt.item ⟨(l ++ [d]).toArray⟩ (-1) = ⟨#[d]⟩ := by
  have hL : (⟨(l ++ [d]).toArray⟩ : Str).length = l.length + 1 := by simp [Str.length]
  unfold Txt.item Txt.charAt
  rw [hL]
  have e : seqIndex? (-1) (l.length + 1) = some l.length := by
    unfold seqIndex?
    simp
    omega
  rw [e]
  simp
theorem item_yes {l : List Nat} {d : Nat} (h : (Txt.item ⟨(l ++ [d]).toArray⟩ (-1) == Str.ofString "-") = true) : d = 45 := by
  rw [item_but1, show Str.ofString "-" = ⟨#[45]⟩ by decide +kernel, beq_iff_eq] at h
  have := congrArg (fun x : Str => x.cps.toList) h
  simpa using this
theorem item_no {l : List Nat} {d : Nat} (h : (Txt.item ⟨(l ++ [d]).toArray⟩ (-1) == Str.ofString "-") = false) : d ≠ 45 := by
  rw [item_but1, show Str.ofString "-" = ⟨#[45]⟩ by decide +kernel] at h
  rintro rfl
  simp at h
theorem jq_turn {h₀ h' : Heap} {L a : Addr} {s : Shared} {tk : Nat} {led : List (Addr × Obj)} {l₀ l : List Nat} {d : Nat} {t t' : Tok} {c : Option Value} {Q : Flow → Shared → Prop}
    (F : Fr h₀ L h' (fun y => if y = Str.ofString "platform" then some (Value.str (Txt.slice ⟨(l ++ [d]).toArray⟩ none (some (-1))) t') else fmP a ⟨(l ++ [d]).toArray⟩ t c y)) (N : News h₀ L h' led)
    (hd : d = 45) (hl : (⟨(l ++ [d]).toArray⟩ : Str).length ≤ 1000) (hF : Fd (l ++ [d]) = Fd l₀) (hN : Nd (l ++ [d])) : WhileStep2 h₀ L s (JQ a led l₀) Q (⟨(l ++ [d]).toArray⟩ : Str).length .next { s with heap := h', toks := tk } := by
  have hL : (⟨(l ++ [d]).toArray⟩ : Str).length = l.length + 1 := by simp [Str.length]
  have hL2 : (⟨l.toArray⟩ : Str).length = l.length := by simp [Str.length]
  rw [slice_but1] at F
  refine ⟨h', tk, _, _, (⟨l.toArray⟩ : Str).length, rfl, frRe F fm_p, N, by omega, ⟨_, _, _, rfl, rfl, rfl, by omega, ?_, Nd_snoc _ _ hN⟩⟩
  rw [← hF, hd, Fd_snoc]
theorem plat_spec {w : World} {mg mb : Str → Option Value} {A : Around} {s : Shared} {Q E : Value → Shared → Prop} (O : OkH w mg mb s.heap) (T : TabOk s.heap) (R : Room A 6) (hgb : AllBare s.gens) {vs : List Value} {ts : List Str} (hi : StrsAre vs ts)
   (hsum : (ts.map (·.length)).sum + ts.length ≤ 1000)
   (hQ : ∀ t' s', Ext16 s.heap s'.heap → TabOk s'.heap → AllBare s'.gens → s'.os = s.os → Q (.str (platF ts) t') s') : wpAny (model PySem.Challenge.rw_mj0094_01.row.prog w) A (call (.ref 21) vs) Q E s := by
  have hsm : ∀ x ∈ ts, x.length ≤ 1000 := fun x hx => by have := small_of_sum hx; omega
  have hln : ts.length ≤ 1000 := by omega
  k_with_none
  have : (Mine.hd.heap_39 w.params).In s.heap → PySem.Challenge.rw_mj0094_01.Holds → True := by k_fill; intros; trivial
  have O' := O.hid T
  have X₀ := O'.K
  have T₀ := O'.T
  obtain ⟨bm, ob, M₀⟩ := O'.M
  refine' enterV O T R (f := 21) (args := vs) ?k6 ?k7 ?k8 ?k9 ?ka ?kB ?kC ?_ ?c2 ?c3 ?c4 ?c5
  (case k6 => k_is)
  (case k7 => k_is)
  (case k8 => exact rfl)
  (case k9 => exact rfl)
  (case ka => exact rfl)
  (case kB => exact rfl)
  (case kC => rw [hi.length]; exact hln)
  (case c2 => exact rfl)
  (case c3 => exact rfl)
  (case c4 => exact rfl)
  (case c5 => decide)
  intro h₁ F' N' hk₁
  obtain ⟨hd, dp, fr, gd, un⟩ := A
  obtain rfl : hd = none := R.handled
  have hdp := R.depth
  have hun := R.units
  dsimp only at hdp hun
  (try dsimp only)
  k_steps
  have h16 : 16 < s.heap.objs.size := by obtain ⟨ps, e, _⟩ := T; exact Heap.lt_size e
  have hcode := code20 O
  refine Halt.mk ?_
  rename News _ _ _ _ => lN
  rename Fr _ _ _ _ => lF
  refine wpAny_toks 1 (Nat.succ_le_succ (Nat.zero_le _)) ?_
  refine' gen_rule (h₀ := hid s.heap) (L := s.heap.objs.size + 1) (K := s.heap.objs.size + 1) (m := fun y => [(Str.ofString "args", Value.ref s.heap.objs.size)].reverse.lookup y) rfl rfl ?g1 (by decide) rfl rfl rfl ?g2 rfl rfl (by decide) rfl ?g3 ?g4 ?g5
  (case g1 => exact rfl)
  (case g2 => (simp only [depth_deeper]; omega))
  (case g3 => intro _; exact rfl)
  (case g5 => intro _; exact rfl)
  case g4 =>
    k_steps
    refine Halt.mk ?_
    have ht : h₁.IsTuple s.heap.objs.size vs.toArray := ⟨_, (lN _ (.head _)).1, rfl, _, rfl⟩
    have hLlt : s.heap.objs.size + 1 < h₁.objs.size := lF.ns.lt
    refine call_filter (t := s.heap.objs.size) (items := vs.toArray) ht ?_
    dsimp only
    have up : ∀ b o, h₁.get? b = some o → ((h₁.push (tupIt s.heap.objs.size 0)).push (filtObj h₁.objs.size)).get? b = some o := fun b o e => Heap.get?_push_of_some _ (Heap.get?_push_of_some _ e)
    have hst : FiltAt (h₁.objs.size + 1) h₁.objs.size s.heap.objs.size vs ts 0 ((h₁.push (tupIt s.heap.objs.size 0)).push (filtObj h₁.objs.size)) := filt_start ht
    have n1 : @Ne Nat s.heap.objs.size h₁.objs.size := by omega
    have n2 : @Ne Nat (h₁.objs.size + 1) 16 := by omega
    have n3 : @Ne Nat h₁.objs.size 16 := by omega
    have n4 : @Ne Nat s.heap.objs.size 16 := by omega
    have n5 : @Ne Nat (s.heap.objs.size + 1) 16 := by omega
    refine (Walks_filter (I := h₁.objs.size + 1) (J := h₁.objs.size) (t := s.heap.objs.size) rfl (Nat.succ_ne_self _) n1 hi hsm).self 0 _ _ _ hst ?_
    refine ⟨ts, ⟨⟨_, _, _, vs, rfl, hst, Nat.succ_ne_self _, n1, hi, hLlt, n2, n3, n4⟩, hsm, (lF.keeps up), hgb, (O.T.nolimit.keeps hk₁).keeps up, (hcode.keeps hk₁).keeps up, (T.keeps hk₁).keeps up, ?_, n5, ?_, ⟨_, _, _, M₀⟩⟩, ?_⟩
    · exact hideAll_none _ (.head _)
    · show _ < ((h₁.push (tupIt s.heap.objs.size 0)).push (filtObj h₁.objs.size)).objs.size
      rw [Heap.size_push, Heap.size_push]; omega
    · intro a s₅ hx5 hT5 F5 hb5 hos5 G5 htk5
      k_steps
      refine Halt.mk ?_
      refine wpAny_toks 1 htk5 ?_
      refine join_rowsK F5 hb5 G5 (Nat.le_refl _) (fun j => Txt.strip ((ts.filter nz).getD j (Str.ofString ""))) ?j1 ?j2 ?j3 ?j4
      case j1 =>
        rintro j v ⟨z, u, hz, rfl⟩
        refine ⟨u, ?_⟩
        simp [hz]
      case j2 => rw [join_txt]; exact plat0_ok hsum
      case j4 => rw [sizeLine_eq]; exact Nat.le_trans (List.length_filter_le ..) (Nat.le_trans hln (by decide))
      case j3 =>
        rw [join_txt]
        intro s₆ t₆ F6 hb6 hos6 hk6 htk6
        clear lF lN F5
        have hlen : (Txt.join (Str.ofString "-") ((ts.filter nz).map Txt.strip)).length ≤ 1000 := plat0_len hsum
        obtain ⟨ps, hps, N6⟩ := tab_after (h₀ := hid s.heap) (L := s.heap.objs.size + 1) hT5 hk6 (Nat.le_succ_of_le (Nat.le_of_lt h16)) n5 (hideAll_none _ (.head _))
        obtain ⟨h₆, g₆, d₆, k₆, o₆⟩ := s₆
        dsimp only at F6 hb6 hos6 N6 htk6 hk6
        k_with_none
        k_with "len" => exact Nat.le_trans hlen (by decide)
        k_steps
        refine Halt.mk ?_
        rename News _ _ _ _ => lN
        rename Fr _ _ _ _ => lF
        have lF2 : Fr (hid s.heap) (s.heap.objs.size + 1) _ (fmP s.heap.objs.size (plat1 (plat0 ts)) _ none) := frRe lF (m' := fmP s.heap.objs.size (plat1 (plat0 ts)) _ none) (fun y => by
          by_cases hy : y = Str.ofString "platform"
          · simp only [if_pos hy]; unfold fmP; rw [if_pos hy]; rfl
          · simp only [if_neg hy]; rw [look_args y hy]; exact fmP_neg hy)
        clear lF
        have hp1 : (plat1 (plat0 ts)).length ≤ 1000 := Nat.le_trans (plat1_len _) (plat0_len hsum)
        refine wpAny_mono (Q := AfP ⟨h₆, g₆, d₆, k₆, o₆⟩ (hid s.heap) (s.heap.objs.size + 1) s.heap.objs.size [(16, tabObj ps)] (plat1 (plat0 ts)).cps.toList) ?loop ?after (fun _ _ x => x)
        case loop =>
          refine' While_pos (JP s.heap.objs.size [(16, tabObj ps)] (plat1 (plat0 ts)).cps.toList) (n₀ := (plat1 (plat0 ts)).length) lF2 lN (by assumption) ⟨_, _, _, rfl, rfl, rfl, hp1, rfl⟩ ?_
          clear lF2 lN
          rintro n m₁ news₁ h₂ tk₂ F₂ N₂ p₂ ⟨p, t, c, rfl, rfl, rfl, hpl, hpF⟩
          unfold fmP at F₂
          k_with_none
          k_with "len" => exact Nat.le_trans hpl (by decide)
          k_steps
          · show AfP _ _ _ _ _ _ Flow.next _
            exact ⟨rfl, _, _, p, t, some _, rfl, by assumption, frRe (by assumption) fm_c, by assumption, hpl, hpF, Nd_of _ (dd_fix (by assumption))⟩
          · refine ⟨_, _, _, _, _, rfl, Nat.succ_pos _, frRe (by assumption) (fun y => (congrArg _ (fm_c y)).trans (fm_p y)), by assumption, dd_go (by assumption), ⟨_, _, _, rfl, rfl, rfl, Nat.le_trans (Nat.le_of_lt (dd_go (by assumption))) hpl, ?_⟩⟩
            rw [dd_str, Fd_dd]; exact hpF
        case after =>
          clear lF2 lN
          rintro f s' ⟨rfl, h₃, tk₃, p₃, t₃, c₃, rfl, hp₃, lF, lN, hl₃, hF₃, hN₃⟩
          dsimp only
          k_steps
          refine Halt.mk ?_
          refine wpAny_mono (Q := AfQ ⟨h₆, g₆, d₆, k₆, o₆⟩ (hid s.heap) (s.heap.objs.size + 1) s.heap.objs.size [(16, tabObj ps)] (plat1 (plat0 ts)).cps.toList) ?loop ?after (fun _ _ x => x)
          case loop =>
            refine' While_inv2 (JQ s.heap.objs.size [(16, tabObj ps)] (plat1 (plat0 ts)).cps.toList) (n₀ := p₃.length) lF lN ⟨_, _, _, rfl, rfl, rfl, hl₃, hF₃, hN₃⟩ ?_
            clear lF lN
            rintro n m₁ news₁ h₂ tk₂ F₂ N₂ ⟨p, t, c, rfl, rfl, rfl, hpl, hpF, hpN⟩
            unfold fmP at F₂
            k_with_none
            rcases p_cases p with rfl | ⟨l, d, rfl⟩
            · k_steps
              exact ⟨rfl, _, _, _, t, c, rfl, F₂, N₂, by rw [← hpF]; rfl⟩
            · k_steps
              · exact jq_turn (by assumption) (by assumption) (item_yes (by assumption)) hpl hpF hpN
              · refine ⟨rfl, _, _, _, t, c, rfl, F₂, N₂, ?_⟩
                rw [← hpF, Fd_Nd _ hpN (fun r e => item_no (by assumption) (List.cons.inj (List.append_inj' e rfl).2).1)]
              · exact absurd ‹((_ : Nat) : Int) = 0› (by simp [Str.length]; omega)
          case after =>
            clear lF lN
            rintro f s' ⟨rfl, h₄, tk₄, p₄, t₄, c₄, rfl, lF, lN, rfl⟩
            have lK := lF.keep
            unfold fmP at lF
            dsimp only
            k_steps
            show Q (.str _ _) _
            exact hQ t₄ _ (fun b o hb e => lK b o (hid_get e hb)) ⟨ps, (lN _ (.head _)).1, hps⟩ hb6 (hos6.trans hos5)
end Mine
end -- F_plat

section -- Told1
open PySem PySem.W PySem.Calls PyProof.Rows
set_option Elab.async false
set_option maxRecDepth 100000
set_option maxHeartbeats 8000000
namespace Mine

def setAt (a : Addr) (o : Obj) (news : List (Addr × Obj)) : List (Addr × Obj) := news.map fun p => if p.1 = a then (a, o) else p
theorem setAt_here {a : Addr} {o o' : Obj} {news : List (Addr × Obj)} (h : (a, o) ∈ news) : (a, o') ∈ setAt a o' news :=
  List.mem_map.mpr ⟨_, h, if_pos rfl⟩
theorem setAt_other {a : Addr} {o' : Obj} {p : Addr × Obj} {news : List (Addr × Obj)} (h : p ∈ news) (hp : p.1 ≠ a) : p ∈ setAt a o' news :=
  List.mem_map.mpr ⟨p, h, if_neg hp⟩
theorem setAt_addr {a : Addr} {o' : Obj} {p : Addr × Obj} {news : List (Addr × Obj)} (ha : ∃ o, (a, o) ∈ news) (h : p ∈ setAt a o' news) : ∃ q ∈ news, q.1 = p.1 := by
  obtain ⟨q, hq, e⟩ := List.mem_map.mp h
  by_cases hqa : q.1 = a
  · rw [if_pos hqa] at e; exact ⟨q, hq, by rw [← e]; exact hqa⟩
  · rw [if_neg hqa] at e; exact ⟨q, hq, by rw [e]⟩
theorem setAt_apart {a : Addr} {o' : Obj} {own news : List (Addr × Obj)} (ha : ∃ o, (a, o) ∈ news) (h : ∀ p ∈ own, ∀ q ∈ news, p.1 ≠ q.1) : ∀ p ∈ own, ∀ q ∈ setAt a o' news, p.1 ≠ q.1 := by
  intro p hp q hq
  obtain ⟨r, hr, e⟩ := setAt_addr ha hq
  rw [← e]; exact h p hp r hr
theorem News.set {h₀ h h' : Heap} {L a : Addr} {o o' : Obj} {news : List (Addr × Obj)} (N : News h₀ L h news) (hm : (a, o) ∈ news) (hs : Heap.SameBut a h h') (ho : h'.get? a = some o') : News h₀ L h' (setAt a o' news) := by
  intro p hp
  obtain ⟨q, hq, e⟩ := List.mem_map.mp hp
  by_cases hqa : q.1 = a
  · rw [if_pos hqa] at e
    rw [← e]
    exact ⟨ho, (N _ hm).2.1, (N _ hm).2.2⟩
  · rw [if_neg hqa] at e
    rw [← e]
    exact ⟨hs.extBut _ _ hqa (N q hq).1, (N q hq).2⟩

section
variable {prog : Program} {w : World} {A : Around} {E : Value → Shared → Prop} {s : Shared} {env : Env} {h₀ : Heap} {x : Str} {body : List Stmt}
theorem append_N {L D : Addr} {m : Str → Option Value} {news : List (Addr × Obj)} {its : Array Value} {n : Nat} {v : Value} {Q : Value → Shared → Prop} (F : Fr h₀ L s.heap m) (N : News h₀ L s.heap news) (hm : (D, W.listOf its n) ∈ news) (hsz : its.size ≤ 1000)
    (h : ∀ h', Fr h₀ L h' m → News h₀ L h' (setAt D (W.listOf (its.push v) (n + 1)) news) → Q .none { s with heap := h' }) : wpAny (model prog w) A (call (.builtin "list.append") [.ref D, v]) Q E s := by
  have z := N (D, W.listOf its n) hm
  exact append_at (hsz := by rw [sizeLine_eq]; omega) z.1 fun h' hs ho' => h h' (F.change hs z.2.1 z.2.2) (News.set N hm hs ho')

def GrowEnd (h₀ : Heap) (L : Addr) (J : (Str → Option Value) → List (Addr × Obj) → Prop) (own : List (Addr × Obj)) (s₁ s₂ : Shared) : Prop :=
  ∃ h' tk m' news', s₂ = { s₁ with heap := h', toks := tk } ∧ Fr h₀ L h' m' ∧ News h₀ L h' (own ++ news') ∧ (∀ p ∈ own, ∀ q ∈ news', p.1 ≠ q.1) ∧ J m' news'
def GrowPost (h₀ : Heap) (L : Addr) (J : (Str → Option Value) → List (Addr × Obj) → Prop) (own : List (Addr × Obj)) (s₁ : Shared) (Q : Flow → Shared → Prop) (f : Flow) (s₂ : Shared) : Prop :=
  match f with
  | .ret v => Q (.ret v) s₂
  | .brk => Q .next s₂
  | _ => GrowEnd h₀ L J own s₁ s₂
theorem iter_grow {Q : Flow → Shared → Prop} {l : Addr} {vs : List Value} {ns : List Int} {m₀ : Str → Option Value} {news : List (Addr × Obj)} (J : Nat → (Str → Option Value) → List (Addr × Obj) → Prop)
    (hh : A.handled = none) (hl : h₀.IsList l vs.toArray) (hi : IntsAre vs ns) (F : Fr h₀ env.locals s.heap m₀) (N : News h₀ env.locals s.heap news) (hj : J 0 m₀ news)
    (turn : ∀ i n t m₁ news₁ h tk own, ns[i]? = some n → (∀ p ∈ own, ∀ q ∈ news₁, p.1 ≠ q.1) → J i m₁ news₁ → Fr h₀ env.locals h (fun y => if y = x then some (.int n t) else m₁ y) → News h₀ env.locals h (own ++ news₁) →
      wpAny (model prog w) A (execs body env) (GrowPost h₀ env.locals (J (i + 1)) own { s with heap := h, toks := tk } Q) E { s with heap := h, toks := tk })
    (done : ∀ m₁ news₁ h tk, J ns.length m₁ news₁ → Fr h₀ env.locals h m₁ → News h₀ env.locals h news₁ → Q .next { s with heap := h, toks := tk }) :
    wpAny (model prog w) A (pyIter (.ref l)) (fun it s₂ => LoopAtV prog w A h₀ env x body Q E it s₂) E s := by
  have hls : s.heap.IsList l vs.toArray := hl.at fun o e => F.keep l o e
  obtain ⟨ol, hol, _⟩ := id hl
  have hlt : l < h₀.objs.size := Heap.lt_size hol
  have hne : l ≠ s.heap.objs.size := Nat.ne_of_lt (Nat.lt_trans (Nat.lt_of_lt_of_le hlt F.above) F.ns.lt)
  refine wpAny_pyIter_list hls ?_
  have W := Walks.list (prog := prog) (w := w) hh s.heap.objs.size l hne vs.toArray
  have hlen : vs.toArray.size = ns.length := by simp [hi.length]
  rw [hlen] at W
  refine ⟨_, _, _, ns.length, _, _, m₀, news, J, rfl, W, ?a, ?b, ?c, ⟨⟨_, Heap.get?_push_size _ rfl, rfl, rfl⟩, hls.at fun o e => Heap.get?_push_of_some _ e⟩, F.push _, (fun p hp => ⟨Heap.get?_push_of_some _ (N p hp).1, (N p hp).2⟩), hj, ?d, ?e⟩
  case a =>
    intro hm
    rcases List.mem_cons.mp hm with e | hm
    · exact absurd F.ns.lt (e ▸ Nat.lt_irrefl _)
    · exact absurd (Nat.lt_of_lt_of_le hlt F.above) ((List.mem_singleton.mp hm) ▸ Nat.lt_irrefl _)
  case b =>
    intro b hb
    rw [List.mem_singleton.mp hb]
    exact next_is_new F
  case c =>
    intro p hp hI
    exact absurd (Heap.lt_size (N p hp).1) ((List.mem_singleton.mp hI) ▸ Nat.lt_irrefl _)
  case d =>
    rintro i v m₁ news₁ s₁ own ⟨hh', tk', rfl⟩ hin hP hJ hoff hown _ hall hst F₁ N₁
    have hsep : ∀ p ∈ own, ∀ q ∈ news₁, p.1 ≠ q.1 := by
      intro p hp q hq e
      rcases List.mem_cons.mp (hown p hp) with h1 | h1
      · exact hoff q hq (List.mem_singleton.mpr (e ▸ h1))
      · have h2 := List.mem_singleton.mp h1
        have h3 := (N₁ p (List.mem_append_left _ hp)).2.2
        rw [h2, hol] at h3
        cases h3
    obtain ⟨oI, hoI, _⟩ := hst.1
    have hIn : (s.heap.objs.size, oI) ∈ own := hall _ (.head _) (next_is_new F) _ hoI
    have hlt' : i < ns.length := hin
    obtain ⟨t, hx⟩ := hi.get i ns[i] (by simp [hlt'])
    have hv : v = .int ns[i] t := by
      have hP' : vs[i]? = some v := by simpa using hP
      rw [hx] at hP'; exact (Option.some.inj hP').symm
    subst hv
    refine wpAny_mono (turn i ns[i] t m₁ news₁ hh' tk' own (by simp [hlt']) hsep hJ F₁ N₁) (fun f s₂ p => ?_) fun _ _ e => e
    have fin : GrowEnd h₀ env.locals (J (i + 1)) own { s with heap := hh', toks := tk' } s₂ → LoopStepU h₀ env.locals [s.heap.objs.size] own (J (i + 1)) { s with heap := hh', toks := tk' } .next s₂ := by
      rintro ⟨h', tk, m', news', e, F', N', hap, hm⟩
      refine ⟨rfl, h', tk, m', news', e, F', N', fun p hp hq => ?_, hm⟩
      exact hap _ hIn p hp (List.mem_singleton.mp hq).symm
    cases f with
    | ret v => exact .ret p
    | brk => exact .brk p
    | next => exact .next (fin p)
    | cont => exact .cont (fin p)
  case e =>
    intro h' tk m' news' F' N' _ hJ
    exact done m' news' h' tk hJ F' N'
end

/-- what is written and what is told: out of quotes, in quotes -/
def outerTab : List (Str × Str) := [(Str.ofString "a", Str.ofString "a"), (Str.ofString "B7", Str.ofString "B7"), (Str.ofString "\"", Str.ofString "-"), (Str.ofString ",", Str.ofString ""), (Str.ofString " ", Str.ofString " "), (Str.ofString "\\", Str.ofString "-"), (Str.ofString "\\\"", Str.ofString "-"), (Str.ofString "unknown", Str.ofString ""), (Str.ofString "unk\\nown", Str.ofString "unk-nown"), (Str.ofString "ununknownknown", Str.ofString "unknown"), (Str.ofString "/", Str.ofString "-"), (Str.ofString "(;", Str.ofString "-"), (Str.ofString ":)", Str.ofString "-"), (Str.ofString "--", Str.ofString "-"), (Str.ofString "_", Str.ofString "_"), (Str.ofString "'=", Str.ofString "'=")]
def innerTab (k : Nat) : Str × Str := match k with
  | 3 => (Str.ofString ",", Str.ofString ",")
  | 5 => (Str.ofString "\\\\", Str.ofString "-")
  | 8 => (Str.ofString "unk\\nown", Str.ofString "")
  | k => outerTab.getD k (Str.ofString "", Str.ofString "")
def strandOf (q : Bool) (k : Nat) : Str × Str := if q then innerTab k else outerTab.getD k (Str.ofString "", Str.ofString "")
structure TSt where
  w : Str
  done : List (List Str)
  last : List Str
  q : Bool
def toldStep (st : TSt) (n : Int) : TSt :=
  let sd := strandOf st.q n.toNat
  let q' := if n.toNat = 2 ∨ (n.toNat = 6 ∧ st.q = false) then !st.q else st.q
  if n.toNat = 3 ∧ st.q = false then ⟨st.w ++ sd.1, st.done ++ [st.last], [], q'⟩ else ⟨st.w ++ sd.1, st.done, st.last ++ [sd.2], q'⟩
def toldRun (ns : List Int) : TSt := ns.foldl toldStep ⟨Str.ofString "", [], [], false⟩
end Mine
end -- Told1

section -- Told2
open PySem PySem.W PySem.Calls PyProof.Rows
set_option Elab.async false
set_option maxRecDepth 100000
set_option maxHeartbeats 8000000
namespace Mine

def str0 : Str × Str := (Str.ofString "", Str.ofString "")
structure Fixed (w : World) (ao ad b : Addr) (fx : List (Addr × Obj)) : Prop where
  outer : ∃ refs : List Value, (ao, W.listOf refs.toArray 0) ∈ fx ∧ ∀ k, k < 16 → ∃ a u v, refs[k]? = some (.ref a) ∧ (a, tupObj [.str (outerTab.getD k str0).1 u, .str (outerTab.getD k str0).2 v]) ∈ fx
  inner : ∃ od t3 t5 t8 d3 d5 d8 u3 v3 u5 v5 u8 v8, (ad, od) ∈ fx ∧ Obj.IsDictOf (PySem.intKind prg w) od (intKeyPairs [(.int 3 t3, .ref d3), (.int 5 t5, .ref d5), (.int 8 t8, .ref d8)]) ∧
    (d3, tupObj [.str (innerTab 3).1 u3, .str (innerTab 3).2 v3]) ∈ fx ∧ (d5, tupObj [.str (innerTab 5).1 u5, .str (innerTab 5).2 v5]) ∈ fx ∧ (d8, tupObj [.str (innerTab 8).1 u8, .str (innerTab 8).2 v8]) ∈ fx
  lo : (ad == sysModules) = false
  low : ∀ p ∈ fx, p.1 < b
def ItemsIn (news : List (Addr × Obj)) : List Addr → List (List Str) → Prop
  | [], [] => True
  | a :: as, d :: ds => (∃ vs c, (a, W.listOf vs.toArray c) ∈ news ∧ StrsAre vs d) ∧ ItemsIn news as ds
  | _, _ => False
theorem ItemsIn.mono {news news' : List (Addr × Obj)} : ∀ {as : List Addr} {ds : List (List Str)}, ItemsIn news as ds → (∀ a o, a ∈ as → (a, o) ∈ news → (a, o) ∈ news') → ItemsIn news' as ds
  | [], [], _, _ => trivial
  | a :: as, d :: ds, ⟨⟨vs, c, h1, h2⟩, h3⟩, hm => ⟨⟨vs, c, hm _ _ (.head _) h1, h2⟩, h3.mono fun a o ha => hm a o (.tail _ ha)⟩
theorem ItemsIn.snoc {news : List (Addr × Obj)} {a : Addr} {d : List Str} {vs : List Value} {c : Nat} (h1 : (a, W.listOf vs.toArray c) ∈ news) (h2 : StrsAre vs d) : ∀ {as : List Addr} {ds : List (List Str)}, ItemsIn news as ds → ItemsIn news (as ++ [a]) (ds ++ [d])
  | [], [], _ => ⟨⟨vs, c, h1, h2⟩, trivial⟩
  | _ :: _, _ :: _, ⟨h3, h4⟩ => ⟨h3, h4.snoc h1 h2⟩
structure JT (b aI ao ad : Addr) (fx : List (Addr × Obj)) (st : TSt) (i : Nat) (m : Str → Option Value) (news : List (Addr × Obj)) : Prop where
  m1 : m (Str.ofString "outer") = some (.ref ao)
  m2 : m (Str.ofString "inner") = some (.ref ad)
  m3 : ∃ t, m (Str.ofString "written") = some (.str st.w t)
  m4 : m (Str.ofString "items") = some (.ref aI)
  m5 : m (Str.ofString "quoted") = some (.bool st.q)
  sub : ∀ p ∈ fx, p ∈ news
  wl : st.w.length ≤ 20 * i
  bI : b ≤ aI
  it : ∃ as al vl cl cI, (aI, W.listOf (as.map Value.ref ++ [.ref al]).toArray cI) ∈ news ∧ (al, W.listOf vl.toArray cl) ∈ news ∧ StrsAre vl st.last ∧ ItemsIn news as st.done ∧ as.length ≤ i ∧ vl.length ≤ i ∧ b ≤ al ∧ aI ≠ al ∧ aI ∉ as ∧ al ∉ as
theorem put5 {m : Str → Option Value} {n1 n2 n3 n4 n5 : Str} {v1 v2 v3 v4 v5 : Option Value} (h1 : m n1 = v1) (h2 : m n2 = v2) (h3 : m n3 = v3) (h4 : m n4 = v4) (h5 : m n5 = v5) (y : Str) :
    m y = if y = n1 then v1 else if y = n2 then v2 else if y = n3 then v3 else if y = n4 then v4 else if y = n5 then v5 else m y := by
  by_cases e1 : y = n1
  · rw [if_pos e1, e1, h1]
  rw [if_neg e1]
  by_cases e2 : y = n2
  · rw [if_pos e2, e2, h2]
  rw [if_neg e2]
  by_cases e3 : y = n3
  · rw [if_pos e3, e3, h3]
  rw [if_neg e3]
  by_cases e4 : y = n4
  · rw [if_pos e4, e4, h4]
  rw [if_neg e4]
  by_cases e5 : y = n5
  · rw [if_pos e5, e5, h5]
  rw [if_neg e5]
theorem listAt {h₀ h : Heap} {L a : Addr} {its : Array Value} {n : Nat} {news : List (Addr × Obj)} (N : News h₀ L h news) (hm : (a, W.listOf its n) ∈ news) : h.IsList a its := ⟨_, (N _ hm).1, rfl, n, rfl⟩
theorem News.dup {h₀ h : Heap} {L : Addr} {news : List (Addr × Obj)} {p : Addr × Obj} (N : News h₀ L h news) (hm : p ∈ news) : News h₀ L h (p :: news) := List.forall_mem_cons.mpr ⟨N p hm, N⟩
section
variable {prog : Program} {w : World} {A : Around} {E : Value → Shared → Prop} {s : Shared}
theorem item_pos {value slice : PySem.Expr} {l : Addr} {vs : List Value} {k : Int} {u : Tok} {v : Value} {Q : Value → Shared → Prop}
    (hl : s.heap.IsList l vs.toArray) (h0 : 0 ≤ k) (hhi : k < 2 ^ 63) (hx : vs[k.toNat]? = some v) (h : Q v s)
    (hs : subscripted slice false (.ref l) (.int k u) = operate [.ref l, .int k u] (getItem (.ref l) (.int k u))) :
    wpAny (model prog w) A (subscriptTail value slice (.ref l) (.int k u)) Q E s :=
  tail_any hl.typeIs slot_list_getitem.lookup (wpAny_getItem_list hl h0 hhi (by simpa using hx) h) hs
theorem item_last {value slice : PySem.Expr} {l : Addr} {vs : List Value} {u : Tok} {v : Value} {Q : Value → Shared → Prop}
    (hl : s.heap.IsList l (vs ++ [v]).toArray) (h : Q v s)
    (hs : subscripted slice false (.ref l) (.int (-1) u) = operate [.ref l, .int (-1) u] (getItem (.ref l) (.int (-1) u))) :
    wpAny (model prog w) A (subscriptTail value slice (.ref l) (.int (-1) u)) Q E s :=
  tail_any hl.typeIs slot_list_getitem.lookup (wpAny_getItem_list_neg hl (by decide) (by simp; omega) (by decide) (by simp; rw [show (-1 + ((vs.length : Int) + 1)).toNat = vs.length by omega]; simp) h) hs
end
structure Halt2 (p : Prop) : Prop where
  get : p
theorem halt2 {p : Prop} (h : Halt2 p) : p := h.get
end Mine
end -- Told2

section -- Told3
open PySem PySem.W PySem.Calls PyProof.Rows
set_option Elab.async false
set_option maxRecDepth 100000
set_option maxHeartbeats 8000000
namespace Mine

theorem setAt_sub {a : Addr} {o' : Obj} {news big : List (Addr × Obj)} (h : ∀ p ∈ news, p ∈ big) : ∀ p ∈ setAt a o' news, p ∈ setAt a o' big := by
  intro p hp
  obtain ⟨q, hq, e⟩ := List.mem_map.mp hp
  exact List.mem_map.mpr ⟨q, h q hq, e⟩
theorem end_last {h₀ h' : Heap} {L b aI ao ad al : Addr} {fx news₁ big own : List (Addr × Obj)} {st : TSt} {i tk : Nat} {m₁ m' : Str → Option Value} {as : List Addr} {vl : List Value} {cl cI : Nat} {x y : Str} {ty tw : Tok} {q' : Bool} {s₁ : Shared}
    (hJ : JT b aI ao ad fx st i m₁ news₁) (hlow : ∀ p ∈ fx, p.1 < b) (i1 : (aI, W.listOf (as.map Value.ref ++ [Value.ref al]).toArray cI) ∈ news₁) (i2 : (al, W.listOf vl.toArray cl) ∈ news₁) (i3 : StrsAre vl st.last) (i4 : ItemsIn news₁ as st.done) (i5 : as.length ≤ i) (i6 : vl.length ≤ i) (i7 : b ≤ al) (i8 : aI ≠ al) (i9 : aI ∉ as) (i10 : al ∉ as)
    (hap : ∀ p ∈ own, ∀ q ∈ news₁, p.1 ≠ q.1) (hbig : ∀ p ∈ own ++ news₁, p ∈ big) (F : Fr h₀ L h' m') (N : News h₀ L h' (setAt al (W.listOf (vl.toArray.push (.str y ty)) (cl + 1)) big))
    (m1 : m' (Str.ofString "outer") = some (.ref ao)) (m2 : m' (Str.ofString "inner") = some (.ref ad)) (m3 : m' (Str.ofString "written") = some (.str (st.w ++ x) tw)) (m4 : m' (Str.ofString "items") = some (.ref aI)) (m5 : m' (Str.ofString "quoted") = some (.bool q')) (hx : x.length ≤ 20) :
    GrowEnd h₀ L (JT b aI ao ad fx ⟨st.w ++ x, st.done, st.last ++ [y], q'⟩ (i + 1)) own s₁ { s₁ with heap := h', toks := tk } := by
  refine ⟨h', tk, m', setAt al (W.listOf (vl.toArray.push (.str y ty)) (cl + 1)) news₁, rfl, F, ?_, setAt_apart ⟨_, i2⟩ hap, ⟨m1, m2, ⟨tw, m3⟩, m4, m5, ?_, ?_, hJ.bI, as, al, vl ++ [.str y ty], cl + 1, cI, ?_, ?_, ?_, ?_, by omega, ?_, i7, i8, i9, i10⟩⟩
  · intro p hp
    rcases List.mem_append.mp hp with hp | hp
    · exact N p (setAt_other (hbig p (List.mem_append_left _ hp)) (hap p hp _ i2))
    · exact N p (setAt_sub (fun q hq => hbig q (List.mem_append_right _ hq)) p hp)
  · exact fun p hp => setAt_other (hJ.sub p hp) (Nat.ne_of_lt (Nat.lt_of_lt_of_le (hlow p hp) i7))
  · show (st.w ++ x).length ≤ 20 * (i + 1)
    rw [Str.length_append]
    have := hJ.wl; omega
  · exact setAt_other i1 i8
  · have := setAt_here (o' := W.listOf (vl.toArray.push (.str y ty)) (cl + 1)) i2
    rw [List.push_toArray] at this ⊢; exact this
  · exact i3.append' (.cons _ _ .nil)
  · exact i4.mono fun a o ha hm => setAt_other hm (fun e => i10 (e ▸ ha))
  · rw [List.length_append, List.length_singleton]; omega
theorem end_new {h₀ h' : Heap} {L b aI ao ad al l' : Addr} {fx news₁ big own : List (Addr × Obj)} {st : TSt} {i tk : Nat} {m₁ m' : Str → Option Value} {as : List Addr} {vl : List Value} {cl cI : Nat} {x : Str} {tw : Tok} {q' : Bool} {s₁ : Shared}
    (hJ : JT b aI ao ad fx st i m₁ news₁) (hlow : ∀ p ∈ fx, p.1 < b) (i1 : (aI, W.listOf (as.map Value.ref ++ [Value.ref al]).toArray cI) ∈ news₁) (i2 : (al, W.listOf vl.toArray cl) ∈ news₁) (i3 : StrsAre vl st.last) (i4 : ItemsIn news₁ as st.done) (i5 : as.length ≤ i) (_i6 : vl.length ≤ i) (i7 : b ≤ al) (i8 : aI ≠ al) (i9 : aI ∉ as) (_i10 : al ∉ as)
    (has : ∀ a ∈ as, ∃ o, (a, o) ∈ news₁)
    (hap : ∀ p ∈ own, ∀ q ∈ news₁, p.1 ≠ q.1) (hbig : ∀ p ∈ own ++ news₁, p ∈ big) (hnew : ∀ p ∈ own ++ news₁, p.1 < l') (F : Fr h₀ L h' m') (N : News h₀ L h' (setAt aI (W.listOf ((as.map Value.ref ++ [Value.ref al]).toArray.push (.ref l')) (cI + 1)) ((l', W.listOf #[] 0) :: big)))
    (m1 : m' (Str.ofString "outer") = some (.ref ao)) (m2 : m' (Str.ofString "inner") = some (.ref ad)) (m3 : m' (Str.ofString "written") = some (.str (st.w ++ x) tw)) (m4 : m' (Str.ofString "items") = some (.ref aI)) (m5 : m' (Str.ofString "quoted") = some (.bool q')) (hx : x.length ≤ 20) :
    GrowEnd h₀ L (JT b aI ao ad fx ⟨st.w ++ x, st.done ++ [st.last], [], q'⟩ (i + 1)) own s₁ { s₁ with heap := h', toks := tk } := by
  have in1 : ∀ p ∈ news₁, p.1 < l' := fun p hp => hnew p (List.mem_append_right _ hp)
  have hIl : aI ≠ l' := Nat.ne_of_lt (in1 _ i1)
  have hal : al < l' := in1 _ i2
  refine ⟨h', tk, m', setAt aI (W.listOf ((as.map Value.ref ++ [Value.ref al]).toArray.push (.ref l')) (cI + 1)) ((l', W.listOf #[] 0) :: news₁), rfl, F, ?_, ?_, ⟨m1, m2, ⟨tw, m3⟩, m4, m5, ?_, ?_, hJ.bI, as ++ [al], l', [], 0, cI + 1, ?_, ?_, .nil, ?_, ?_, Nat.zero_le _, Nat.le_of_lt (Nat.lt_of_le_of_lt i7 hal), hIl, ?_, ?_⟩⟩
  · intro p hp
    rcases List.mem_append.mp hp with hp | hp
    · exact N p (setAt_other (List.mem_cons_of_mem _ (hbig p (List.mem_append_left _ hp))) (hap p hp _ i1))
    · refine N p (setAt_sub (fun q hq => ?_) p hp)
      rcases List.mem_cons.mp hq with rfl | hq
      · exact List.mem_cons_self ..
      · exact List.mem_cons_of_mem _ (hbig q (List.mem_append_right _ hq))
  · refine setAt_apart ⟨_, List.mem_cons_of_mem _ i1⟩ fun p hp q hq => ?_
    rcases List.mem_cons.mp hq with rfl | hq
    · exact Nat.ne_of_lt (hnew p (List.mem_append_left _ hp))
    · exact hap p hp q hq
  · exact fun p hp => setAt_other (List.mem_cons_of_mem _ (hJ.sub p hp)) (Nat.ne_of_lt (Nat.lt_of_lt_of_le (hlow p hp) hJ.bI))
  · show (st.w ++ x).length ≤ 20 * (i + 1)
    rw [Str.length_append]
    have := hJ.wl; omega
  · have := setAt_here (o' := W.listOf ((as.map Value.ref ++ [Value.ref al]).toArray.push (.ref l')) (cI + 1)) (List.mem_cons_of_mem (l', W.listOf #[] 0) i1)
    rw [List.push_toArray] at this ⊢
    simpa using this
  · exact setAt_other (List.mem_cons_self ..) (Ne.symm hIl)
  · refine ItemsIn.snoc (c := cl) (vs := vl) (setAt_other (List.mem_cons_of_mem _ i2) (Ne.symm i8)) i3 (i4.mono fun a o ha hm => setAt_other (List.mem_cons_of_mem _ hm) (fun e => i9 (e ▸ ha)))
  · rw [List.length_append, List.length_singleton]; omega
  · intro hm
    rcases List.mem_append.mp hm with hm | hm
    · exact i9 hm
    · exact i8 (List.mem_singleton.mp hm)
  · intro hm
    rcases List.mem_append.mp hm with hm | hm
    · obtain ⟨o, ho⟩ := has _ hm
      exact absurd (in1 _ ho) (Nat.lt_irrefl _)
    · exact absurd hal ((List.mem_singleton.mp hm) ▸ Nat.lt_irrefl _)
theorem ItemsIn.has {news : List (Addr × Obj)} : ∀ {as : List Addr} {ds : List (List Str)}, ItemsIn news as ds → ∀ a ∈ as, ∃ o, (a, o) ∈ news
  | a :: as, d :: ds, ⟨⟨vs, c, h1, _⟩, h3⟩, x, hx => by
    rcases List.mem_cons.mp hx with rfl | hx
    · exact ⟨_, h1⟩
    · exact h3.has x hx
  | [], _, _, _, hx => nomatch hx
def AfT (s₀ : Shared) (L b aI ao ad : Addr) (fx : List (Addr × Obj)) (ns : List Int) (f : Flow) (s' : Shared) : Prop :=
  f = .next ∧ ∃ h tk m news, s' = { s₀ with heap := h, toks := tk } ∧ Fr s₀.heap L h m ∧ News s₀.heap L h news ∧ JT b aI ao ad fx (toldRun ns) ns.length m news
def StartT (w : World) (h₀ : Heap) (L ad l : Addr) (h : Heap) : Prop :=
  ∃ aI al ao fx m, Fr h₀ L h m ∧ News h₀ L h ((aI, W.listOf #[.ref al] 0) :: (al, W.listOf #[] 0) :: fx) ∧ Fixed w ao ad al fx ∧ al < aI ∧ m (Str.ofString "figures") = some (.ref l) ∧ m (Str.ofString "outer") = some (.ref ao) ∧ m (Str.ofString "inner") = some (.ref ad) ∧ (∃ t, m (Str.ofString "written") = some (.str (Str.ofString "") t)) ∧ m (Str.ofString "items") = some (.ref aI) ∧ m (Str.ofString "quoted") = some (.bool false)
theorem start_mk {w : World} {h₀ h : Heap} {L ad l aI al ao : Addr} {fx : List (Addr × Obj)} {m : Str → Option Value} {P : Prop} (F : Fr h₀ L h m) (N : News h₀ L h ((aI, W.listOf #[.ref al] 0) :: (al, W.listOf #[] 0) :: fx)) (fix : Fixed w ao ad al fx) (lt : al < aI) (m0 : m (Str.ofString "figures") = some (.ref l)) (m1 : m (Str.ofString "outer") = some (.ref ao)) (m2 : m (Str.ofString "inner") = some (.ref ad)) (m3 : ∃ t, m (Str.ofString "written") = some (.str (Str.ofString "") t)) (m4 : m (Str.ofString "items") = some (.ref aI)) (m5 : m (Str.ofString "quoted") = some (.bool false))
    (k : StartT w h₀ L ad l h → P) : P := k ⟨aI, al, ao, fx, m, F, N, fix, lt, m0, m1, m2, m3, m4, m5⟩
theorem start_J {b aI al ao ad : Addr} {fx : List (Addr × Obj)} {m : Str → Option Value} (hlt : al < aI) (m1 : m (Str.ofString "outer") = some (.ref ao)) (m2 : m (Str.ofString "inner") = some (.ref ad)) (m3 : ∃ t, m (Str.ofString "written") = some (.str (Str.ofString "") t)) (m4 : m (Str.ofString "items") = some (.ref aI)) (m5 : m (Str.ofString "quoted") = some (.bool false)) (hb : b = al) :
    JT b aI ao ad fx (toldRun []) 0 m ((aI, W.listOf #[.ref al] 0) :: (al, W.listOf #[] 0) :: fx) := by
  subst hb
  exact ⟨m1, m2, m3, m4, m5, fun p hp => .tail _ (.tail _ hp), by show (Str.ofString "").length ≤ 0; decide +kernel, Nat.le_of_lt hlt, [], b, [], 0, 0, .head _, .tail _ (.head _), .nil, trivial, Nat.zero_le _, Nat.zero_le _, Nat.le_refl _, Ne.symm (Nat.ne_of_lt hlt), by simp, by simp⟩
theorem run_next {ns : List Int} {i : Nat} {n : Int} (h : ns[i]? = some n) : toldRun (ns.take (i + 1)) = toldStep (toldRun (ns.take i)) n := by
  unfold toldRun
  rw [List.take_add_one, h, List.foldl_append]; rfl
theorem item_tup {prog : Program} {w : World} {A : Around} {E : Value → Shared → Prop} {s : Shared} {value slice : PySem.Expr} {a : Addr} {vs : List Value} {k : Int} {u : Tok} {j : Nat} {v : Value} {Q : Value → Shared → Prop} {h₀ : Heap} {L : Addr} {news : List (Addr × Obj)}
    (N : News h₀ L s.heap news) (hm : (a, tupObj vs) ∈ news) (hlo : -(2 ^ 63) ≤ k) (hhi : k < 2 ^ 63) (hj : seqIndex? k vs.length = some j) (hx : vs[j]? = some v) (h : Q v s)
    (hs : subscripted slice false (.ref a) (.int k u) = operate [.ref a, .int k u] (getItem (.ref a) (.int k u))) :
    wpAny (model prog w) A (subscriptTail value slice (.ref a) (.int k u)) Q E s :=
  item_tupleT (by first | exact (N _ hm).1 | exact ⟨_, (N _ hm).1, rfl, _, rfl⟩ | exact ⟨_, (N _ hm).1, rfl⟩) hlo hhi hj hx h hs
theorem add20 {a b : Str} {i : Nat} (h1 : a.length ≤ 20 * i) (h2 : i < 40) (h3 : b.length ≤ 20) : a.length + b.length ≤ sizeLine := by rw [sizeLine_eq]; omega
theorem outer_len (k : Nat) : (outerTab.getD k str0).1.length ≤ 20 := by
  by_cases h : k < 16
  · have := List.all_eq_true.mp (show (List.range 16).all (fun k => decide ((outerTab.getD k str0).1.length ≤ 20)) = true by decide +kernel) k (List.mem_range.mpr h)
    exact of_decide_eq_true this
  · rw [List.getD_eq_getElem?_getD, List.getElem?_eq_none (by show outerTab.length ≤ k; rw [show outerTab.length = 16 from rfl]; omega)]
    show (Str.ofString "").length ≤ 20
    decide +kernel
theorem inner_len (k : Nat) : (innerTab k).1.length ≤ 20 := by
  unfold innerTab
  split
  · decide +kernel
  · decide +kernel
  · decide +kernel
  · exact outer_len _
theorem no_key {n : Int} {t3 t5 t8 : Tok} {d3 d5 d8 : Addr} (h3 : n ≠ 3) (h5 : n ≠ 5) (h8 : n ≠ 8) : (valueAt (intKeyPairs [(.int 3 t3, .ref d3), (.int 5 t5, .ref d5), (.int 8 t8, .ref d8)]) n).isSome = false := by
  simp [intKeyPairs, valueAt, h3, h5, h8, Ne.symm h3, Ne.symm h5, Ne.symm h8]
theorem step_else {w : Str} {dn : List (List Str)} {ls : List Str} {q : Bool} {n : Int} (h0 : 0 ≤ n) (h2 : n ≠ 2) (h3 : n ≠ 3) (h6 : q = false → n ≠ 6) (h5 : q = true → n ≠ 5) (h8 : q = true → n ≠ 8) :
    toldStep ⟨w, dn, ls, q⟩ n = ⟨w ++ (outerTab.getD n.toNat str0).1, dn, ls ++ [(outerTab.getD n.toNat str0).2], q⟩ := by
  have e2 : ¬ n.toNat = 2 := by omega
  have e3 : ¬ n.toNat = 3 := by omega
  have e : strandOf q n.toNat = outerTab.getD n.toNat str0 := by
    cases q
    · rfl
    · have e5 : ¬ n.toNat = 5 := by have := h5 rfl; omega
      have e8 : ¬ n.toNat = 8 := by have := h8 rfl; omega
      show innerTab n.toNat = _
      unfold innerTab
      split
      · exact absurd ‹_› e3
      · exact absurd ‹_› e5
      · exact absurd ‹_› e8
      · rfl
  unfold toldStep
  simp only [e, e2, e3, false_or, false_and, if_false]
  cases q
  · have e6 : ¬ n.toNat = 6 := by have := h6 rfl; omega
    simp only [e6, false_and, if_false]
  · simp
theorem allLt_all {d : Nat} {l : List (Addr × Obj)} (h : AllLt d l) : ∀ p ∈ l, p.1 < d := by
  induction l with
  | nil => exact fun _ hp => nomatch hp
  | cons q r ih =>
    intro p hp
    rcases List.mem_cons.mp hp with rfl | hp
    · exact h.1
    · exact ih h.2 p hp
theorem dupS {h₀ h : Heap} {L : Addr} {own news : List (Addr × Obj)} (N : News h₀ L h (own ++ news)) (ps : List (Addr × Obj)) (hm : ∀ p ∈ ps, p ∈ news) : News h₀ L h (ps ++ (own ++ news)) := fun p hp =>
  (List.mem_append.mp hp).elim (fun h => N p (List.mem_append_right _ (hm p h))) (N p)
theorem mem8 {news : List (Addr × Obj)} {p1 p2 p3 p4 p5 p6 p7 p8 : Addr × Obj} (h1 : p1 ∈ news) (h2 : p2 ∈ news) (h3 : p3 ∈ news) (h4 : p4 ∈ news) (h5 : p5 ∈ news) (h6 : p6 ∈ news) (h7 : p7 ∈ news) (h8 : p8 ∈ news) : ∀ p ∈ [p1, p2, p3, p4, p5, p6, p7, p8], p ∈ news := by
  simp only [List.forall_mem_cons]
  exact ⟨h1, h2, h3, h4, h5, h6, h7, h8, fun _ h => nomatch h⟩
end Mine
end -- Told3

section -- Told4
open PySem PySem.W PySem.Calls PyProof.Rows
set_option Elab.async false
set_option maxRecDepth 100000
set_option maxHeartbeats 8000000
namespace Mine
open PyProof.Rows.LCg
theorem Room.le {A : Around} {n k : Nat} (R : Room A n) (h : k ≤ n) : Room A k :=
  ⟨R.handled, by have := R.depth; omega, by have := R.units; omega⟩
section
variable {prog : Program} {w : World} {A : Around} {s : Shared} {h₀ : Heap} {L : Addr} {m : Str → Option Value} {env : Env}
theorem compEnd_mono {s₁ s₂ : Shared} {I C D : Addr} {oI oC oD : Obj} {S : List (Addr × Obj) → Prop} {rest rest' : Value → List (Addr × Obj) → Prop} {y : Value} (h : CompEnd h₀ L m s₁ I oI C oC D oD S rest y s₂) (hr : ∀ y nw, rest y nw → rest' y nw) : CompEnd h₀ L m s₁ I oI C oC D oD S rest' y s₂ := by
  obtain ⟨h', tk, nw, e, F, N, o, hS, r⟩ := h
  exact ⟨h', tk, nw, e, F, N, o, hS, hr _ _ r⟩
theorem compRest_ind {elt : Expr} {x : Str} {scope : Scope} {cl : List (Str × Addr)} {S : List (Addr × Obj) → Prop} {P : Nat → Value → Prop} {Fin : List Value → List (Addr × Obj) → Prop} {n : Nat} (Jc : Nat → List Value → List (Addr × Obj) → Prop)
    (hstep : ∀ i ys news, i < n → Jc i ys news → ∀ v I oI C oC D m₂ h tk (E' : Value → Shared → Prop), P i v → NsObj oC m₂ → m₂ x = some v → Fr h₀ L h m → News h₀ L h ((I, oI) :: (C, oC) :: (D, lst ys) :: news) → Off3 I C D news → ((@Ne Nat I C) ∧ (@Ne Nat I D) ∧ (@Ne Nat C D)) →
      wpAny (model prog w) A (eval elt (compEnvC scope cl C env)) (CompEnd h₀ L m { s with heap := h, toks := tk } I oI C oC D (lst ys) S (fun y news' => Jc (i + 1) (ys ++ [y]) news')) E' { s with heap := h, toks := tk })
    (hfin : ∀ ys news, Jc n ys news → Fin ys news) : ∀ k i ys news, i + k = n → Jc i ys news → CompRest prog w A h₀ L m env elt x scope cl s S P Fin k i ys news
  | 0, i, ys, news, e, hJ => by
    have e' : i = n := by omega
    subst e'
    exact CompRest.zero (hfin ys news hJ)
  | k + 1, i, ys, news, e, hJ => by
    refine CompRest.succ fun v I oI C oC D m₂ h tk E' hP hN hx F N o ne => ?_
    refine wpAny_mono (hstep i ys news (by omega) hJ v I oI C oC D m₂ h tk E' hP hN hx F N o ne) (fun y s₂ h₂ => compEnd_mono h₂ fun y nw r => ?_) fun _ _ e => e
    exact compRest_ind Jc hstep hfin k (i + 1) _ nw (by omega) r
end
theorem ItemsIn.get {news : List (Addr × Obj)} : ∀ {as : List Addr} {ds : List (List Str)} {i : Nat} {a : Addr}, ItemsIn news as ds → as[i]? = some a → ∃ d vs c, ds[i]? = some d ∧ (a, W.listOf vs.toArray c) ∈ news ∧ StrsAre vs d
  | _ :: _, d :: _, 0, _, ⟨⟨vs, c, h1, h2⟩, _⟩, e => ⟨d, vs, c, rfl, by cases e; exact h1, h2⟩
  | _ :: _, _ :: _, _ + 1, _, ⟨_, h⟩, e => h.get e
theorem ItemsIn.len {news : List (Addr × Obj)} : ∀ {as : List Addr} {ds : List (List Str)}, ItemsIn news as ds → as.length = ds.length
  | [], [], _ => rfl
  | _ :: _, _ :: _, ⟨_, h⟩ => congrArg (· + 1) h.len
def KeptIn (news : List (Addr × Obj)) : List Addr → List (List Str) → Prop
  | [], [] => True
  | a :: as, d :: ds => (∃ vs o n, (a, o) ∈ news ∧ o.cls = .type "list" ∧ o.data = .seq (vs : List Value).toArray n ∧ StrsAre vs d) ∧ KeptIn news as ds
  | _, _ => False
theorem KeptIn.mono {news news' : List (Addr × Obj)} (hm : ∀ p ∈ news, p ∈ news') : ∀ {as : List Addr} {ds : List (List Str)}, KeptIn news as ds → KeptIn news' as ds
  | [], [], _ => trivial
  | _ :: _, _ :: _, ⟨⟨vs, o, n, h1, h2⟩, h3⟩ => ⟨⟨vs, o, n, hm _ h1, h2⟩, h3.mono hm⟩
theorem KeptIn.snoc {news : List (Addr × Obj)} {a : Addr} {d : List Str} (h : ∃ vs o n, (a, o) ∈ news ∧ o.cls = .type "list" ∧ o.data = .seq (vs : List Value).toArray n ∧ StrsAre vs d) : ∀ {as : List Addr} {ds : List (List Str)}, KeptIn news as ds → KeptIn news (as ++ [a]) (ds ++ [d])
  | [], [], _ => ⟨h, trivial⟩
  | _ :: _, _ :: _, ⟨h3, h4⟩ => ⟨h3, h4.snoc h⟩
theorem KeptIn.len {news : List (Addr × Obj)} : ∀ {as : List Addr} {ds : List (List Str)}, KeptIn news as ds → as.length = ds.length
  | [], [], _ => rfl
  | _ :: _, _ :: _, ⟨_, h⟩ => congrArg (· + 1) h.len
def KeptJ (base : List (Addr × Obj)) (ds : List (List Str)) (i : Nat) (ys : List Value) (news : List (Addr × Obj)) : Prop :=
  (∀ p ∈ base, p ∈ news) ∧ ∃ bs : List Addr, ys = bs.map Value.ref ∧ KeptIn news bs ((ds.take i).map MBare.bareF)
theorem kept_end {h₀ h h' : Heap} {L I C D a a' aI : Addr} {m : Str → Option Value} {s₁ : Shared} {oI oC oA : Obj} {base news : List (Addr × Obj)} {ds : List (List Str)} {d : List Str} {i tk cI : Nat} {ys : List Value} {its : Array Value} {vs' : List Value}
    (F : Fr h₀ L h m) (N : News h₀ L h ((I, oI) :: (C, oC) :: (D, lst ys) :: news)) (hoff : Off3 I C D news) (hK : KeptJ base ds i ys news) (hd : ds[i]? = some d) (ha : (a, oA) ∈ base) (hI : (aI, W.listOf its cI) ∈ base)
    (hk : ∀ b o, h.get? b = some o → h'.get? b = some o) (hl : h'.IsList a' vs'.toArray) (hs : StrsAre vs' (MBare.bareF d)) (hfr : a' = a ∨ h.get? a' = none) :
    CompEnd h₀ L m s₁ I oI C oC D (lst ys) (SrcAt h₀ aI its) (fun y news' => KeptJ base ds (i + 1) (ys ++ [y]) news') (.ref a') { s₁ with heap := h', toks := tk } := by
  obtain ⟨hb, bs, rfl, hbs⟩ := hK
  obtain ⟨o', ho', hc', n', hd'⟩ := hl
  have hmA : a' = a → ∃ q, (a', q) ∈ news := fun e => ⟨oA, e ▸ hb _ ha⟩
  have h₀a : h₀.get? a' = none := by
    rcases hfr with e | e
    · obtain ⟨q, hq⟩ := hmA e
      exact (N _ (.tail _ (.tail _ (.tail _ hq)))).2.2
    · cases q : h₀.get? a' with
      | none => rfl
      | some x => rw [F.keep _ _ q] at e; cases e
  have hne : ∀ b x, h.get? b = some x → (∀ q, (a', q) ∈ news → a' ≠ b) → a' ≠ b := fun b x hbx hq e => by
    rcases hfr with e' | e'
    · obtain ⟨q, hq'⟩ := hmA e'
      exact hq q hq' e
    · rw [e, hbx] at e'; cases e'
  have hLn : a' ≠ L := by
    obtain ⟨oL, _, _, eL, _⟩ := F.ns
    exact hne L oL eL fun q hq => (N _ (.tail _ (.tail _ (.tail _ hq)))).2.1
  have ho := hoff.mem
  refine ⟨h', tk, (a', o') :: news, rfl, F.keeps hk, ?_, ⟨⟨?_, ?_, ?_⟩, hoff⟩, .inr ⟨_, .tail _ (hb _ hI), rfl, _, rfl⟩, fun p hp => .tail _ (hb p hp), bs ++ [a'], by simp, ?_⟩
  · intro p hp
    have up : ∀ p ∈ (I, oI) :: (C, oC) :: (D, lst (bs.map Value.ref)) :: news, h'.get? p.1 = some p.2 ∧ p.1 ≠ L ∧ h₀.get? p.1 = none := fun p hp => ⟨hk _ _ (N p hp).1, (N p hp).2⟩
    rcases List.mem_cons.mp hp with rfl | hp
    · exact up _ (.head _)
    rcases List.mem_cons.mp hp with rfl | hp
    · exact up _ (.tail _ (.head _))
    rcases List.mem_cons.mp hp with rfl | hp
    · exact up _ (.tail _ (.tail _ (.head _)))
    rcases List.mem_cons.mp hp with rfl | hp
    · exact ⟨ho', hLn, h₀a⟩
    · exact up _ (.tail _ (.tail _ (.tail _ hp)))
  · exact hne I oI (N _ (.head _)).1 fun q hq => (ho _ hq).1
  · exact hne C oC (N _ (.tail _ (.head _))).1 fun q hq => (ho _ hq).2.1
  · exact hne D _ (N _ (.tail _ (.tail _ (.head _)))).1 fun q hq => (ho _ hq).2.2
  · rw [List.take_add_one, hd, List.map_append]
    exact KeptIn.snoc ⟨vs', o', n', .head _, hc', hd', hs⟩ (hbs.mono fun p hp => .tail _ hp)
theorem item_ref {as : List Addr} {i : Nat} {v : Value} (h : (as.map Value.ref).toArray[i]? = some v) : ∃ a, as[i]? = some a ∧ v = .ref a := by
  simp only [List.getElem?_toArray, List.getElem?_map] at h
  cases e : as[i]? with
  | none => rw [e] at h; cases h
  | some a => rw [e] at h; exact ⟨a, rfl, (Option.some.inj h).symm⟩

/-- the kept lists in the heap -/
def Kp (h : Heap) (bs : List Addr) (ds : List (List Str)) : Prop := Paired (fun b d => ∃ vs : List Value, h.IsList b vs.toArray ∧ StrsAre vs d) bs ds
theorem KeptIn.heap {h₀ h : Heap} {L : Addr} {news : List (Addr × Obj)} (N : ∀ p ∈ news, h.get? p.1 = some p.2) : ∀ {as : List Addr} {ds : List (List Str)}, KeptIn news as ds → Kp h as ds
  | [], [], _ => .nil
  | _ :: _, _ :: _, ⟨⟨vs, o, n, h1, h2, h3, h4⟩, h5⟩ => .cons ⟨vs, ⟨o, N _ h1, h2, n, h3⟩, h4⟩ (h5.heap (h₀ := h₀) (L := L) N)
theorem Kp.keeps {h h' : Heap} (hk : ∀ b o, h.get? b = some o → h'.get? b = some o) {bs : List Addr} {ds : List (List Str)} (x : Kp h bs ds) : Kp h' bs ds := by
  induction x with
  | nil => exact .nil
  | cons hx _ ih => obtain ⟨vs, hl, hs⟩ := hx; exact .cons ⟨vs, hl.at fun o e => hk _ _ e, hs⟩ ih
noncomputable def nmF (d : List Str) : Str := Txt.replace (Txt.join (Str.ofString "") d) (Str.ofString " ") (Str.ofString "_")
def keepP (h : Heap) (v : Value) : Bool := match v with
  | .ref a => (match h.get? a with
    | some o => (match o.data with
      | .seq its _ => !decide (its.size = 0)
      | _ => false)
    | none => false)
  | _ => false
def eltF (h : Heap) (v y : Value) : Prop := ∃ a vs d u, v = .ref a ∧ h.IsList a (vs : List Value).toArray ∧ StrsAre vs d ∧ y = .str (nmF d) u
theorem keepP_of {h : Heap} {a : Addr} {vs : List Value} (hl : h.IsList a vs.toArray) : keepP h (.ref a) = !decide (vs.toArray.size = 0) := by
  obtain ⟨o, e, hc, n, hd⟩ := hl
  unfold keepP
  simp only [e, hd]
theorem strs_inj {vs : List Value} {d d' : List Str} (h : StrsAre vs d) (h' : StrsAre vs d') : d = d' := by
  induction h generalizing d' with
  | nil => cases h'; rfl
  | cons y t _ ih => cases h' with | cons _ _ h2 => rw [ih h2]
theorem list_inj {h : Heap} {a : Addr} {vs vs' : List Value} (x : h.IsList a vs.toArray) (y : h.IsList a vs'.toArray) : vs = vs' := by
  obtain ⟨o, e, _, n, hd⟩ := x
  obtain ⟨o', e', _, n', hd'⟩ := y
  rw [e] at e'; cases e'
  rw [hd] at hd'
  injection hd' with h1 _
  simpa using congrArg Array.toList h1
theorem kept_texts {h : Heap} {bs : List Addr} {ds : List (List Str)} (x : Kp h bs ds) : ∀ {ys : List Value}, Paired (eltF h) ((bs.map Value.ref).filter (keepP h)) ys → StrsAre ys ((ds.filter fun d => !d.isEmpty).map nmF) := by
  induction x with
  | nil => intro ys hp; cases hp; exact .nil
  | @cons b d bs ds hx _ ih =>
    intro ys hp
    obtain ⟨vs, hl, hs⟩ := hx
    have hkp := keepP_of hl
    rw [List.map_cons] at hp
    have hlen : vs.length = d.length := hs.length
    cases d with
    | nil =>
      have e : keepP h (.ref b) = false := by rw [hkp]; simp at hlen; simp [hlen]
      rw [List.filter_cons_of_neg (by rw [e]; exact Bool.false_ne_true)] at hp
      rw [List.filter_cons_of_neg (by simp)]
      exact ih hp
    | cons y r =>
      have e : keepP h (.ref b) = true := by rw [hkp]; simp at hlen; simp; intro q; rw [q] at hlen; simp at hlen
      rw [List.filter_cons_of_pos e] at hp
      rw [List.filter_cons_of_pos (by rfl), List.map_cons]
      cases hp with
      | cons hf hp =>
        obtain ⟨a, vs2, d2, u, ea, hl2, hs2, rfl⟩ := hf
        cases ea
        rw [list_inj hl2 hl] at hs2
        rw [strs_inj hs2 hs]
        exact .cons _ _ (ih hp)
end Mine
end -- Told4

section -- Told5
open PySem PySem.W PySem.Calls PyProof.Rows
set_option Elab.async false
set_option maxRecDepth 100000
set_option maxHeartbeats 8000000
namespace Mine
def wt (d : List Str) : Nat := (d.map (·.length)).sum
theorem wt_append (a b : List Str) : wt (a ++ b) = wt a + wt b := by unfold wt; rw [List.map_append, List.sum_append]
theorem wt_dropL : ∀ d : List Str, wt (MBare.dropL d) ≤ wt d
  | [] => Nat.le_refl _
  | x :: r => by
    show wt (if x == Str.ofString " " then MBare.dropL r else x :: r) ≤ _
    split
    · have := wt_dropL r
      have e : wt (x :: r) = x.length + wt r := rfl
      omega
    · exact Nat.le_refl _
theorem wt_rev (d : List Str) : wt d.reverse = wt d := by unfold wt; rw [List.map_reverse, List.sum_reverse]
theorem wt_bare (d : List Str) : wt (MBare.bareF d) ≤ wt d := by
  unfold MBare.bareF MBare.dropR
  rw [wt_rev]
  refine Nat.le_trans (wt_dropL _) ?_
  rw [wt_rev]
  exact wt_dropL d
theorem outer_len2 (k : Nat) : (outerTab.getD k str0).2.length ≤ 20 := by
  by_cases h : k < 16
  · have := List.all_eq_true.mp (show (List.range 16).all (fun k => decide ((outerTab.getD k str0).2.length ≤ 20)) = true by decide +kernel) k (List.mem_range.mpr h)
    exact of_decide_eq_true this
  · rw [List.getD_eq_getElem?_getD, List.getElem?_eq_none (by show outerTab.length ≤ k; rw [show outerTab.length = 16 from rfl]; omega)]
    show (Str.ofString "").length ≤ 20
    decide +kernel
theorem strand_len2 (q : Bool) (k : Nat) : (strandOf q k).2.length ≤ 20 := by
  unfold strandOf
  split
  · unfold innerTab
    split
    · decide +kernel
    · decide +kernel
    · decide +kernel
    · exact outer_len2 _
  · exact outer_len2 _
def wts (st : TSt) : Nat := ((st.done ++ [st.last]).map wt).sum
theorem wts_step (st : TSt) (n : Int) : wts (toldStep st n) ≤ wts st + 20 ∧ (toldStep st n).done.length ≤ st.done.length + 1 := by
  unfold toldStep
  dsimp only
  have h2 := strand_len2 st.q n.toNat
  split
  · unfold wts
    simp only [List.map_append, List.map_cons, List.map_nil, List.sum_append, List.sum_cons, List.sum_nil, List.length_append, List.length_singleton]
    have : wt [] = 0 := rfl
    omega
  · unfold wts
    simp only [List.map_append, List.map_cons, List.map_nil, List.sum_append, List.sum_cons, List.sum_nil, wt_append]
    have : wt [(strandOf st.q n.toNat).2] = (strandOf st.q n.toNat).2.length := by simp [wt]
    omega
theorem wts_fold : ∀ (ns : List Int) (st : TSt), wts (ns.foldl toldStep st) ≤ wts st + 20 * ns.length ∧ (ns.foldl toldStep st).done.length ≤ st.done.length + ns.length
  | [], st => ⟨Nat.le_refl _, Nat.le_refl _⟩
  | n :: r, st => by
    have h1 := wts_step st n
    have h2 := wts_fold r (toldStep st n)
    rw [List.foldl_cons, List.length_cons]
    omega
theorem wts_run (ns : List Int) : wts (toldRun ns) ≤ 20 * ns.length ∧ (toldRun ns).done.length ≤ ns.length := by
  have h := wts_fold ns ⟨Str.ofString "", [], [], false⟩
  have e : wts ⟨Str.ofString "", [], [], false⟩ = 0 := rfl
  rw [e] at h
  simpa [toldRun] using h
theorem nmF_len (d : List Str) : (nmF d).length ≤ wt d := by
  unfold nmF
  rw [lr _ (by decide +kernel) (by decide +kernel), show Txt.join (Str.ofString "") d = Str.join (Str.ofString "") d from StrLaws.glued_eq_join _ _]
  have := StrLaws.join_length_le (Str.ofString "") d
  rw [show (Str.ofString "").length = 0 by decide +kernel] at this
  exact this
noncomputable def namesF (st : TSt) : List Str := ((((st.done ++ [st.last]).map MBare.bareF).filter fun d => !d.isEmpty)).map nmF
theorem names_aux : ∀ ds : List (List Str), ((((ds.map MBare.bareF).filter fun d => !d.isEmpty).map nmF).map (·.length)).sum + (((ds.map MBare.bareF).filter fun d => !d.isEmpty).map nmF).length ≤ (ds.map wt).sum + ds.length
  | [] => Nat.le_refl _
  | d :: r => by
    have ih := names_aux r
    have h1 := wt_bare d
    have h2 := nmF_len (MBare.bareF d)
    rw [List.map_cons]
    by_cases h : (!(MBare.bareF d).isEmpty) = true
    · rw [List.filter_cons_of_pos (p := fun d : List Str => !d.isEmpty) h]
      simp only [List.map_cons, List.sum_cons, List.length_cons] at ih ⊢
      omega
    · rw [List.filter_cons_of_neg (p := fun d : List Str => !d.isEmpty) h]
      simp only [List.map_cons, List.sum_cons, List.length_cons] at ih ⊢
      omega
theorem names_fit {ns : List Int} (h : ns.length ≤ 40) : ((namesF (toldRun ns)).map (·.length)).sum + (namesF (toldRun ns)).length ≤ 900 := by
  have h1 := names_aux ((toldRun ns).done ++ [(toldRun ns).last])
  have h2 := wts_run ns
  have h3 : ((toldRun ns).done ++ [(toldRun ns).last]).length = (toldRun ns).done.length + 1 := by simp
  unfold wts at h2
  unfold namesF
  omega
noncomputable def joinedF (st : TSt) : Str := Txt.join (Str.ofString "-") (namesF st)
theorem joined_len {ns : List Int} (h : ns.length ≤ 40) : (joinedF (toldRun ns)).length ≤ 1000 := by
  have h1 := names_fit h
  unfold joinedF
  rw [show Txt.join (Str.ofString "-") (namesF (toldRun ns)) = Str.join (Str.ofString "-") (namesF (toldRun ns)) from StrLaws.glued_eq_join _ _]
  have h2 := StrLaws.join_length_le (Str.ofString "-") (namesF (toldRun ns))
  rw [dash_len] at h2; omega
theorem pieces_fit {x : Str} (h : x.length ≤ 1000) : ((MFold.pieces x).map (·.length)).sum + (MFold.pieces x).length ≤ 4000 := by
  have h1 := PyProof.Rows.split_weight x (Str.ofString "-") (by decide +kernel)
  have aux : ∀ l : List Str, ((l.filter fun a => a != Str.ofString "").map (·.length)).sum + (l.filter fun a => a != Str.ofString "").length ≤ (l.map (·.length)).sum + l.length := by
    intro l
    induction l with
    | nil => exact Nat.le_refl _
    | cons a r ih =>
      by_cases hp : (a != Str.ofString "") = true
      · rw [List.filter_cons_of_pos (p := fun a => a != Str.ofString "") hp]; simp only [List.map_cons, List.sum_cons, List.length_cons]; omega
      · rw [List.filter_cons_of_neg (p := fun a => a != Str.ofString "") hp]; simp only [List.map_cons, List.sum_cons, List.length_cons]; omega
  have h2 := aux (Txt.split x (Str.ofString "-"))
  unfold MFold.pieces
  omega
theorem wt_mem {ds : List (List Str)} {d : List Str} (h : d ∈ ds) : wt d ≤ (ds.map wt).sum := by
  induction ds with
  | nil => cases h
  | cons x r ih =>
    simp only [List.map_cons, List.sum_cons]
    rcases List.mem_cons.mp h with rfl | h
    · omega
    · have := ih h; omega
theorem bare_wt {ns : List Int} (h : ns.length ≤ 40) {d : List Str} (hd : d ∈ ((toldRun ns).done ++ [(toldRun ns).last]).map MBare.bareF) : wt d ≤ 800 := by
  obtain ⟨d', hd', rfl⟩ := List.mem_map.mp hd
  have h1 := wt_mem hd'
  have h2 := wts_run ns
  have h3 := wt_bare d'
  unfold wts at h2
  omega
def cnts (st : TSt) : Nat := ((st.done ++ [st.last]).map List.length).sum
theorem cnts_step (st : TSt) (n : Int) : cnts (toldStep st n) ≤ cnts st + 1 := by
  unfold toldStep cnts
  dsimp only
  split
  · simp only [List.map_append, List.map_cons, List.map_nil, List.sum_append, List.sum_cons, List.sum_nil, List.length_nil]; omega
  · simp only [List.map_append, List.map_cons, List.map_nil, List.sum_append, List.sum_cons, List.sum_nil, List.length_append, List.length_singleton]; omega
theorem cnts_fold : ∀ (ns : List Int) (st : TSt), cnts (ns.foldl toldStep st) ≤ cnts st + ns.length
  | [], _ => Nat.le_refl _
  | n :: r, st => by
    have h1 := cnts_step st n
    have h2 := cnts_fold r (toldStep st n)
    rw [List.foldl_cons, List.length_cons]
    omega
theorem cnt_run (ns : List Int) : cnts (toldRun ns) ≤ ns.length := by
  have h := cnts_fold ns ⟨Str.ofString "", [], [], false⟩
  have e : cnts ⟨Str.ofString "", [], [], false⟩ = 0 := rfl
  rw [e] at h
  simpa [toldRun] using h
theorem len_mem {ds : List (List Str)} {d : List Str} (h : d ∈ ds) : d.length ≤ (ds.map List.length).sum := by
  induction ds with
  | nil => cases h
  | cons x r ih =>
    simp only [List.map_cons, List.sum_cons]
    rcases List.mem_cons.mp h with rfl | h
    · omega
    · have := ih h; omega
theorem item_len {ns : List Int} (h : ns.length ≤ 40) {d : List Str} (hd : d ∈ (toldRun ns).done ++ [(toldRun ns).last]) : d.length ≤ 1000 := by
  have h1 := len_mem hd
  have h2 := cnt_run ns
  unfold cnts at h2
  omega
theorem Kp.get {h : Heap} {bs : List Addr} {ds : List (List Str)} (x : Kp h bs ds) : ∀ {i : Nat} {a : Addr}, bs[i]? = some a → ∃ d vs, d ∈ ds ∧ h.IsList a (vs : List Value).toArray ∧ StrsAre vs d := by
  induction x with
  | nil => intro i a e; cases e
  | cons hx _ ih =>
    intro i a e
    cases i with
    | zero => cases e; obtain ⟨vs, h1, h2⟩ := hx; exact ⟨_, vs, List.mem_cons_self .., h1, h2⟩
    | succ i => obtain ⟨d, vs, h1, h2⟩ := ih e; exact ⟨d, vs, List.mem_cons_of_mem _ h1, h2⟩
theorem fr_walk {h₀ h h' : Heap} {L : Addr} {m : Str → Option Value} {it : Obj} (F : Fr h₀ L h m) (hk : ∀ b o, b ∉ [h.objs.size] → (h.push it).get? b = some o → h'.get? b = some o) : Fr h₀ L h' m := by
  refine ⟨?_, fun b o e => hk b o (fun hm => ?_) (Heap.get?_push_of_some _ (F.keep b o e)), F.above⟩
  · obtain ⟨o, es, ep, e, r⟩ := F.ns
    exact ⟨o, es, ep, hk L o (fun hm => absurd F.ns.lt (by rw [List.mem_singleton.mp hm]; exact Nat.lt_irrefl _)) (Heap.get?_push_of_some _ e), r⟩
  · have h1 := F.keep b o e
    rw [List.mem_singleton.mp hm] at h1
    exact absurd (Heap.lt_size h1) (Nat.lt_irrefl _)
theorem list_walk {h h' : Heap} {it : Obj} {a : Addr} {its : Array Value} (hl : h.IsList a its) (hk : ∀ b o, b ∉ [h.objs.size] → (h.push it).get? b = some o → h'.get? b = some o) : h'.IsList a its := by
  obtain ⟨o, e, r⟩ := hl
  exact ⟨o, hk a o (fun hm => absurd (Heap.lt_size e) (by rw [List.mem_singleton.mp hm]; exact Nat.lt_irrefl _)) (Heap.get?_push_of_some _ e), r⟩
theorem news_C {h₀ h h' : Heap} {L C : Addr} {m m₃ : Str → Option Value} {it : Obj} (F : Fr h₀ L h m) (hC : (h.push it).objs.size ≤ C) (hn : h'.Ns C m₃) : ∃ oC, LCg.NsObj oC m₃ ∧ News h₀ L h' [(C, oC)] := by
  obtain ⟨oC, e, ho⟩ := LCg.ns_obj hn
  have hlt : h.objs.size < C := by rw [Heap.size_push] at hC; exact hC
  refine ⟨oC, ho, fun p hp => ?_⟩
  rw [List.mem_singleton.mp hp]
  refine ⟨e, fun q => ?_, ?_⟩
  · have := F.ns.lt
    rw [← q] at this
    exact absurd (Nat.lt_trans hlt this) (Nat.lt_irrefl _)
  · cases q : h₀.get? C with
    | none => rfl
    | some x => exact absurd (Nat.lt_trans hlt (Heap.lt_size (F.keep _ _ q))) (Nat.lt_irrefl _)
end Mine
end -- Told5

section -- F_told
open PySem PySem.W PySem.Calls PyProof.Rows
set_option Elab.async false
set_option maxRecDepth 100000
set_option maxHeartbeats 8000000
namespace Mine
local macro_rules | `(tactic| walk_at "pyIter ref") => `(tactic| (refine halt2 ?_))
local macro_rules | `(tactic| walk_at "exec Assign cons ListComp") => `(tactic| (refine halt2 ?_))
local macro_rules | `(tactic| walk_at "eval ListComp") => `(tactic| (refine halt2 ?_))
local macro_rules | `(tactic| walk_at "newList") => `(tactic| k_extra "newlist")
local macro_rules | `(tactic| walk_at "call builtin:str.join") => `(tactic| (refine halt2 ?_))
local macro_rules | `(tactic| walk_at "call builtin:str.replace") => `(tactic| (refine replaceP (by first | omega | ((show @Ne Nat _ _); omega)) (by first | omega | ((show @Ne Nat _ _); omega)) (by first | omega | ((show @Ne Nat _ _); omega)) (by decide +kernel) (by assumption) (by decide +kernel) (by first | (show 0 < _ + _; omega) | (dsimp only; omega)) ?_; intro _ k9 hk9))
local macro_rules | `(tactic| walk_at "call ref") => `(tactic| (refine halt2 ?_))
local macro_rules | `(tactic| walk_at "eval Dict") => `(tactic| (refine halt2 ?_))
local macro_rules | `(tactic| walk_at "exec For Name Name cons nil") => `(tactic| (refine halt2 ?_))
local macro_rules | `(tactic| walk_at "subscriptTail Name Name ref int") => `(tactic| ((with_reducible show wpAny _ _ (subscriptTail _ _ (Value.ref _) (Value.int _ _)) _ _ _); first
  | (refine' item_pos (listAt (by assumption) (by k_mem)) ?kb ?kc (by assumption) ?_ ?ke; (case kb => first | decide | assumption); (case kc => first | decide | omega); (case ke => with_unfolding_all rfl))
  | (refine kda_item (knd := PySem.intKind _ _) (by assumption) (by k_mem) (by assumption) (intKind_is _ _ _ _) (by rfl) ?_)))
local macro_rules | `(tactic| walk_at "subscriptTail Subscript UnaryOp ref int") => `(tactic| (refine halt2 ?_))
local macro_rules | `(tactic| walk_at "subscriptTail Name UnaryOp ref int") => `(tactic| ((with_reducible show wpAny _ _ (subscriptTail _ _ (Value.ref _) (Value.int _ _)) _ _ _); refine' item_last (listAt (by assumption) (by k_mem)) ?_ ?ke; (case ke => with_unfolding_all rfl)))
local macro_rules | `(tactic| walk_at "compareOp In int ref") => `(tactic| (first
  | refine kda_in (knd := PySem.intKind _ _) (by assumption) (by k_mem) (by assumption) (by assumption) (intKind_is _ _ _ _) true (by rfl) ?_
  | refine kda_in (knd := PySem.intKind _ _) (by assumption) (by k_mem) (by assumption) (by assumption) (intKind_is _ _ _ _) false (by first | rfl | k_extra "noin") ?_))
local macro_rules | `(tactic| walk_at "call builtin:list.append") => `(tactic| (refine append_N (by assumption) (by assumption) (by k_mem) ?_ ?_; (k_extra "size"); intro h9 F9 N9))
local macro_rules | `(tactic| walk_at "subscriptTail Name Constant ref int") => `(tactic| ((with_reducible show wpAny _ _ (subscriptTail _ _ (Value.ref _) (Value.int _ _)) _ _ _); (refine' item_tup (by assumption) (by k_mem) ?kb ?kc ?kd ?kf ?_ ?ke; (case kb => decide); (case kc => decide); (case kd => rfl); (case kf => rfl); (case ke => with_unfolding_all rfl))))
local macro_rules | `(tactic| walk_at "inplaceOp Add str str") => `(tactic| (refine' PyProof.Rows.iadd_str ?_ ?hz; (case hz => k_extra "add"); intro t9 tk9))
theorem told_spec {w : World} {mg mb : Str → Option Value} {A : Around} {s : Shared} {Q E : Value → Shared → Prop} (O : OkH w mg mb s.heap) (R : Room A 8) {l : Addr} {ns : List Int} {vs : List Value} (hl : s.heap.IsList l vs.toArray) (hi : IntsAre vs ns) (h16 : ∀ n ∈ ns, 0 ≤ n ∧ n < 16) (hlen : ns.length ≤ 40)
   (hQ : ∀ a t1 t2 h' tk', (∀ b o, s.heap.get? b = some o → h'.get? b = some o) → h'.get? a = some (tupObj [.str (toldRun ns).w t1, .str (MFold.foldF (joinedF (toldRun ns))) t2]) → s.heap.get? a = none → Q (.ref a) { s with heap := h', toks := tk' }) : wpAny (model PySem.Challenge.rw_mj0094_01.row.prog w) A (call (.ref 48) [.ref l]) Q E s := by
  k_with_none
  have : (Mine.hd.heap_39 w.params).In s.heap → PySem.Challenge.rw_mj0094_01.Holds → True := by k_fill; intros; trivial
  have X₀ := O.K
  have T₀ := O.T
  obtain ⟨bm, ob, M₀⟩ := O.M
  refine' enter O R (f := 48) (binds := [(Str.ofString "figures", .ref l)]) ?k6 ?k7 ?k9 ?kB ?_ ?c2 ?c3 ?c4 ?c5
  (case k6 => k_is)
  (case k7 => k_is)
  (case k9 => exact BindsTo.of_eq rfl)
  (case kB => exact locs rfl)
  (case c2 => exact rfl)
  (case c3 => exact rfl)
  (case c4 => exact rfl)
  (case c5 => decide)
  intro h₁ F' N'
  obtain ⟨hd, dp, fr, gd, un⟩ := A
  obtain rfl : hd = none := R.handled
  have hdp := R.depth
  have hun := R.units
  dsimp only at hdp hun
  (try dsimp only)
  k_steps
  refine Halt2.mk ?_
  k_here
  refine' kdn_int ?q ?F ?N ?b ?a ?l ?e ?n ?_
  (case q => rfl)
  (case F => k_asm)
  (case N => k_asm)
  (case b => exact TopRead.nolimit (by assumption))
  (case a => rfl)
  (case l => rfl)
  (case e => exact List.cons_ne_nil _ _)
  (case n => exact Nat.le_of_ble_eq_true rfl)
  intro d' h' o' F' N' l1 lo' hd'
  (try k_lt l1)
  k_steps
  refine Halt2.mk ?_
  rename News _ _ _ _ => lN
  rename Fr _ _ _ _ => lF
  refine start_mk (w := w) (ad := d') (l := l) lF lN ⟨⟨_, (.tail _ (.tail _ (.tail _ (.tail _ (.head _))))), fun k hk => ?o2⟩, ⟨_, _, _, _, _, _, _, _, _, _, _, _, _, (.tail _ (.tail _ (.tail _ (.head _)))), by assumption, (.tail _ (.tail _ (.head _))), (.tail _ (.head _)), (.head _)⟩, lo', ?low⟩ ?lt rfl rfl rfl ⟨_, rfl⟩ rfl rfl ?_
  case o2 =>
    have hk' : k = 0 ∨ k = 1 ∨ k = 2 ∨ k = 3 ∨ k = 4 ∨ k = 5 ∨ k = 6 ∨ k = 7 ∨ k = 8 ∨ k = 9 ∨ k = 10 ∨ k = 11 ∨ k = 12 ∨ k = 13 ∨ k = 14 ∨ k = 15 := by omega
    rcases hk' with rfl | rfl | rfl | rfl | rfl | rfl | rfl | rfl | rfl | rfl | rfl | rfl | rfl | rfl | rfl | rfl
    · exact ⟨_, _, _, rfl, (.tail _ (.tail _ (.tail _ (.tail _ (.tail _ (.tail _ (.tail _ (.tail _ (.tail _ (.tail _ (.tail _ (.tail _ (.tail _ (.tail _ (.tail _ (.tail _ (.tail _ (.tail _ (.tail _ (.tail _ (.head _)))))))))))))))))))))⟩
    · exact ⟨_, _, _, rfl, (.tail _ (.tail _ (.tail _ (.tail _ (.tail _ (.tail _ (.tail _ (.tail _ (.tail _ (.tail _ (.tail _ (.tail _ (.tail _ (.tail _ (.tail _ (.tail _ (.tail _ (.tail _ (.tail _ (.head _))))))))))))))))))))⟩
    · exact ⟨_, _, _, rfl, (.tail _ (.tail _ (.tail _ (.tail _ (.tail _ (.tail _ (.tail _ (.tail _ (.tail _ (.tail _ (.tail _ (.tail _ (.tail _ (.tail _ (.tail _ (.tail _ (.tail _ (.tail _ (.head _)))))))))))))))))))⟩
    · exact ⟨_, _, _, rfl, (.tail _ (.tail _ (.tail _ (.tail _ (.tail _ (.tail _ (.tail _ (.tail _ (.tail _ (.tail _ (.tail _ (.tail _ (.tail _ (.tail _ (.tail _ (.tail _ (.tail _ (.head _))))))))))))))))))⟩
    · exact ⟨_, _, _, rfl, (.tail _ (.tail _ (.tail _ (.tail _ (.tail _ (.tail _ (.tail _ (.tail _ (.tail _ (.tail _ (.tail _ (.tail _ (.tail _ (.tail _ (.tail _ (.tail _ (.head _)))))))))))))))))⟩
    · exact ⟨_, _, _, rfl, (.tail _ (.tail _ (.tail _ (.tail _ (.tail _ (.tail _ (.tail _ (.tail _ (.tail _ (.tail _ (.tail _ (.tail _ (.tail _ (.tail _ (.tail _ (.head _))))))))))))))))⟩
    · exact ⟨_, _, _, rfl, (.tail _ (.tail _ (.tail _ (.tail _ (.tail _ (.tail _ (.tail _ (.tail _ (.tail _ (.tail _ (.tail _ (.tail _ (.tail _ (.tail _ (.head _)))))))))))))))⟩
    · exact ⟨_, _, _, rfl, (.tail _ (.tail _ (.tail _ (.tail _ (.tail _ (.tail _ (.tail _ (.tail _ (.tail _ (.tail _ (.tail _ (.tail _ (.tail _ (.head _))))))))))))))⟩
    · exact ⟨_, _, _, rfl, (.tail _ (.tail _ (.tail _ (.tail _ (.tail _ (.tail _ (.tail _ (.tail _ (.tail _ (.tail _ (.tail _ (.tail _ (.head _)))))))))))))⟩
    · exact ⟨_, _, _, rfl, (.tail _ (.tail _ (.tail _ (.tail _ (.tail _ (.tail _ (.tail _ (.tail _ (.tail _ (.tail _ (.tail _ (.head _))))))))))))⟩
    · exact ⟨_, _, _, rfl, (.tail _ (.tail _ (.tail _ (.tail _ (.tail _ (.tail _ (.tail _ (.tail _ (.tail _ (.tail _ (.head _)))))))))))⟩
    · exact ⟨_, _, _, rfl, (.tail _ (.tail _ (.tail _ (.tail _ (.tail _ (.tail _ (.tail _ (.tail _ (.tail _ (.head _))))))))))⟩
    · exact ⟨_, _, _, rfl, (.tail _ (.tail _ (.tail _ (.tail _ (.tail _ (.tail _ (.tail _ (.tail _ (.head _)))))))))⟩
    · exact ⟨_, _, _, rfl, (.tail _ (.tail _ (.tail _ (.tail _ (.tail _ (.tail _ (.tail _ (.head _))))))))⟩
    · exact ⟨_, _, _, rfl, (.tail _ (.tail _ (.tail _ (.tail _ (.tail _ (.tail _ (.head _)))))))⟩
    · exact ⟨_, _, _, rfl, (.tail _ (.tail _ (.tail _ (.tail _ (.tail _ (.head _))))))⟩
  case low => (simp only [List.forall_mem_cons, List.not_mem_nil, false_implies, implies_true, and_true]; assumption)
  case lt => exact (by assumption : _ < _ ∧ _).1
  clear lF lN
  rintro ⟨aI, al, ao, fx, m, lF, lN, hfix, hlt, m0, m1, m2, m3, m4, m5⟩
  refine wpAny_mono (Q := AfT s s.heap.objs.size al aI ao d' fx ns) ?loop ?after (fun _ _ x => x)
  case loop =>
    refine For_invV s.heap rfl rfl ?_
    refine wpAny_Name (wpAny_loadName_local rfl rfl lF.ns m0 ?_) rfl
    refine iter_grow (fun i m news => JT al aI ao d' fx (toldRun (ns.take i)) i m news) rfl hl hi lF lN (start_J hlt m1 m2 m3 m4 m5 rfl) ?turn ?done
    case done =>
      intro m₁ news₁ h₂ tk₂ hJ F₂ N₂
      rw [List.take_length] at hJ
      exact ⟨rfl, h₂, tk₂, m₁, news₁, rfl, F₂, N₂, hJ⟩
    case turn =>
      intro i n t m₁ news₁ h₂ tk₂ own hn hap hJ F₂ N₂
      rw [run_next hn]
      generalize toldRun (ns.take i) = st at hJ ⊢
      have hr := h16 n (List.mem_of_getElem? hn)
      have hil : i < 40 := Nat.lt_of_lt_of_le (List.getElem?_eq_some_iff.mp hn).1 hlen
      obtain ⟨w₀, dn, ls, q⟩ := st
      (try dsimp only at hJ)
      obtain ⟨j1, j2, ⟨tw, j3⟩, j4, j5, jsub, jwl, jbI, as, al', vl, cl, cI, i1, i2, i3, i4, i5, i6, i7, i8, i9, i10⟩ := id hJ
      dsimp only at j3 j5 jwl i3 i4
      replace F₂ := frRe F₂ (fun y => congrArg (fun z => if y = _ then _ else z) (put5 j1 j2 j3 j4 j5 y))
      clear hn lF lN
      obtain ⟨refs, ro, rk⟩ := hfix.outer
      obtain ⟨od, t3, t5, t8, d3, d5, d8, u3, v3, u5, v5, u8, v8, e0, e1, e3, e5, e8⟩ := hfix.inner
      have hlo := hfix.lo
      have hflow := hfix.low
      clear hfix
      have hvl := i3.length
      obtain ⟨a, u, v, hra, hta⟩ := rk n.toNat (by omega)
      replace N₂ := dupS N₂ [_, _, _, _, _, _, _, _] (mem8 (jsub _ hta) (jsub _ ro) i1 i2 (jsub _ e0) (jsub _ e3) (jsub _ e5) (jsub _ e8))
      simp only [List.cons_append, List.nil_append] at N₂
      have hn0 := hr.1
      k_with_none
      k_with "size" => (simp only [List.size_toArray, List.length_append, List.length_map, List.length_singleton]; omega)
      k_with "add" => exact add20 jwl hil (by first | with_reducible exact outer_len _ | with_reducible exact inner_len _)
      k_with "noin" => exact no_key (by assumption) (by assumption) (by assumption)
      cases q
      · by_cases c2 : n = 2
        · subst c2
          rw [show toldStep ⟨w₀, dn, ls, false⟩ 2 = ⟨w₀ ++ (outerTab.getD ((2 : Int).toNat) str0).1, dn, ls ++ [(outerTab.getD ((2 : Int).toNat) str0).2], true⟩ from rfl]
          k_steps
          all_goals (show GrowEnd _ _ _ _ _ _)
          all_goals exact end_last (st := ⟨w₀, dn, ls, false⟩) (x := (outerTab.getD ((2 : Int).toNat) str0).1) (q' := true) (y := (outerTab.getD ((2 : Int).toNat) str0).2) hJ hflow i1 i2 i3 i4 i5 i6 i7 i8 i9 i10 hap (fun p hp => List.mem_append_right [_, _, _, _, _, _, _, _] hp) (by assumption) (by assumption) rfl rfl rfl rfl rfl (by first | with_reducible exact outer_len _ | with_reducible exact inner_len _)
        by_cases c3 : n = 3
        · subst c3
          rw [show toldStep ⟨w₀, dn, ls, false⟩ 3 = ⟨w₀ ++ (outerTab.getD ((3 : Int).toNat) str0).1, dn ++ [ls], [], false⟩ from rfl]
          k_steps
          all_goals (show GrowEnd _ _ _ _ _ _)
          all_goals exact end_new (st := ⟨w₀, dn, ls, false⟩) (x := (outerTab.getD ((3 : Int).toNat) str0).1) (q' := false) hJ hflow i1 i2 i3 i4 i5 i6 i7 i8 i9 i10 i4.has hap (fun p hp => List.mem_append_right [_, _, _, _, _, _, _, _] hp) (allLt_all (by assumption : _ ∧ _ ∧ _ ∧ _ ∧ _ ∧ _ ∧ _ ∧ _ ∧ AllLt _ (own ++ news₁)).2.2.2.2.2.2.2.2) (by assumption) (by assumption) rfl rfl rfl rfl rfl (by first | with_reducible exact outer_len _ | with_reducible exact inner_len _)
        by_cases c6 : n = 6
        · subst c6
          rw [show toldStep ⟨w₀, dn, ls, false⟩ 6 = ⟨w₀ ++ (outerTab.getD ((6 : Int).toNat) str0).1, dn, ls ++ [(outerTab.getD ((6 : Int).toNat) str0).2], true⟩ from rfl]
          k_steps
          all_goals (show GrowEnd _ _ _ _ _ _)
          all_goals exact end_last (st := ⟨w₀, dn, ls, false⟩) (x := (outerTab.getD ((6 : Int).toNat) str0).1) (q' := true) (y := (outerTab.getD ((6 : Int).toNat) str0).2) hJ hflow i1 i2 i3 i4 i5 i6 i7 i8 i9 i10 hap (fun p hp => List.mem_append_right [_, _, _, _, _, _, _, _] hp) (by assumption) (by assumption) rfl rfl rfl rfl rfl (by first | with_reducible exact outer_len _ | with_reducible exact inner_len _)
        · have := trivial
          rw [step_else (q := false) hn0 c2 c3 (fun _ => c6) (fun h => nomatch h) (fun h => nomatch h)]
          k_steps
          all_goals first | exact absurd ‹n = 3› c3 | exact absurd ‹n = 2› c2 | exact absurd ‹n = 6› c6 | skip
          all_goals (show GrowEnd _ _ _ _ _ _)
          all_goals exact end_last (st := ⟨w₀, dn, ls, false⟩) (x := (outerTab.getD n.toNat str0).1) (q' := false) (y := (outerTab.getD n.toNat str0).2) hJ hflow i1 i2 i3 i4 i5 i6 i7 i8 i9 i10 hap (fun p hp => List.mem_append_right [_, _, _, _, _, _, _, _] hp) (by assumption) (by assumption) rfl rfl rfl rfl rfl (by first | with_reducible exact outer_len _ | with_reducible exact inner_len _)
      · by_cases c2 : n = 2
        · subst c2
          rw [show toldStep ⟨w₀, dn, ls, true⟩ 2 = ⟨w₀ ++ (outerTab.getD ((2 : Int).toNat) str0).1, dn, ls ++ [(outerTab.getD ((2 : Int).toNat) str0).2], false⟩ from rfl]
          k_steps
          all_goals (show GrowEnd _ _ _ _ _ _)
          all_goals exact end_last (st := ⟨w₀, dn, ls, true⟩) (x := (outerTab.getD ((2 : Int).toNat) str0).1) (q' := false) (y := (outerTab.getD ((2 : Int).toNat) str0).2) hJ hflow i1 i2 i3 i4 i5 i6 i7 i8 i9 i10 hap (fun p hp => List.mem_append_right [_, _, _, _, _, _, _, _] hp) (by assumption) (by assumption) rfl rfl rfl rfl rfl (by first | with_reducible exact outer_len _ | with_reducible exact inner_len _)
        by_cases c3 : n = 3
        · subst c3
          rw [show toldStep ⟨w₀, dn, ls, true⟩ 3 = ⟨w₀ ++ (innerTab 3).1, dn, ls ++ [(innerTab 3).2], true⟩ from rfl]
          k_steps
          all_goals (show GrowEnd _ _ _ _ _ _)
          all_goals exact end_last (st := ⟨w₀, dn, ls, true⟩) (x := (innerTab 3).1) (q' := true) (y := (innerTab 3).2) hJ hflow i1 i2 i3 i4 i5 i6 i7 i8 i9 i10 hap (fun p hp => List.mem_append_right [_, _, _, _, _, _, _, _] hp) (by assumption) (by assumption) rfl rfl rfl rfl rfl (by first | with_reducible exact outer_len _ | with_reducible exact inner_len _)
        by_cases c5 : n = 5
        · subst c5
          rw [show toldStep ⟨w₀, dn, ls, true⟩ 5 = ⟨w₀ ++ (innerTab 5).1, dn, ls ++ [(innerTab 5).2], true⟩ from rfl]
          k_steps
          all_goals (show GrowEnd _ _ _ _ _ _)
          all_goals exact end_last (st := ⟨w₀, dn, ls, true⟩) (x := (innerTab 5).1) (q' := true) (y := (innerTab 5).2) hJ hflow i1 i2 i3 i4 i5 i6 i7 i8 i9 i10 hap (fun p hp => List.mem_append_right [_, _, _, _, _, _, _, _] hp) (by assumption) (by assumption) rfl rfl rfl rfl rfl (by first | with_reducible exact outer_len _ | with_reducible exact inner_len _)
        by_cases c8 : n = 8
        · subst c8
          rw [show toldStep ⟨w₀, dn, ls, true⟩ 8 = ⟨w₀ ++ (innerTab 8).1, dn, ls ++ [(innerTab 8).2], true⟩ from rfl]
          k_steps
          all_goals (show GrowEnd _ _ _ _ _ _)
          all_goals exact end_last (st := ⟨w₀, dn, ls, true⟩) (x := (innerTab 8).1) (q' := true) (y := (innerTab 8).2) hJ hflow i1 i2 i3 i4 i5 i6 i7 i8 i9 i10 hap (fun p hp => List.mem_append_right [_, _, _, _, _, _, _, _] hp) (by assumption) (by assumption) rfl rfl rfl rfl rfl (by first | with_reducible exact outer_len _ | with_reducible exact inner_len _)
        · have := trivial
          rw [step_else (q := true) hn0 c2 c3 (fun h => nomatch h) (fun _ => c5) (fun _ => c8)]
          k_steps
          all_goals first | exact absurd ‹n = 3› c3 | exact absurd ‹n = 2› c2 | exact absurd ‹n = 5› c5 | exact absurd ‹n = 8› c8 | skip
          all_goals (show GrowEnd _ _ _ _ _ _)
          all_goals exact end_last (st := ⟨w₀, dn, ls, true⟩) (x := (outerTab.getD n.toNat str0).1) (q' := true) (y := (outerTab.getD n.toNat str0).2) hJ hflow i1 i2 i3 i4 i5 i6 i7 i8 i9 i10 hap (fun p hp => List.mem_append_right [_, _, _, _, _, _, _, _] hp) (by assumption) (by assumption) rfl rfl rfl rfl rfl (by first | with_reducible exact outer_len _ | with_reducible exact inner_len _)
  case after =>
    clear lF lN
    rintro f s' ⟨rfl, h₃, tk₃, m₃, news₃, rfl, F₃, N₃, hJ⟩
    obtain ⟨j1, j2, ⟨tw, j3⟩, j4, j5, jsub, jwl, jbI, as, al', vl, cl, cI, i1, i2, i3, i4, i5, i6, i7, i8, i9, i10⟩ := hJ
    replace F₃ := frRe F₃ (put5 j1 j2 j3 j4 j5)
    dsimp only
    k_steps
    refine Halt2.mk ?_
    refine LCg.Assign_ListComp_U (F₀ := F₃) rfl (by with_unfolding_all rfl) (by with_unfolding_all rfl) (by decide) rfl (by decide) rfl rfl rfl ?_
    refine wpAny_Name (wpAny_loadName_local rfl rfl F₃.ns rfl ?_) rfl
    refine LCg.CompSrc.ledger rfl F₃ N₃ i1 ?csz (fun g => ?_)
    case csz => (rw [List.size_toArray, List.length_append, List.length_map, sizeLine_eq, List.length_singleton]; omega)
    refine compRest_ind (KeptJ news₃ ((toldRun ns).done ++ [(toldRun ns).last])) ?kstep ?kfin _ 0 [] news₃ (Nat.zero_add _) ⟨fun _ h => h, [], rfl, trivial⟩
    case kstep =>
      intro i ys news hil hK v I oI C oC D m₂ h₄ tk₄ E' hP hoC hxv F₄ N₄ hoff hne
      obtain ⟨a, ha, rfl⟩ := item_ref (as := as ++ [al']) (by simpa using hP)
      obtain ⟨d, vs', c, hd, hm, hs⟩ := (ItemsIn.snoc (c := cl) i2 i3 i4).get ha
      have hlA : h₄.IsList a vs'.toArray := ⟨_, (N₄ _ (.tail _ (.tail _ (.tail _ (hK.1 _ hm))))).1, rfl, _, rfl⟩
      have hsv : Fr _ _ _ _ ∧ News _ _ _ _ := ⟨F₄, N₄⟩
      k_steps
      refine Halt2.mk ?_
      refine MBare.bare_spec (O.keeps hsv.1.keep) ((Room.deeper R _).le (by decide)) hlA hs (item_len hlen (List.mem_of_getElem? hd)) ?_
      intro a' vs2 h' tk' hk hl2 hs2 hfr
      exact kept_end hsv.1 hsv.2 hoff hK hd hm i1 hk hl2 hs2 hfr
    case kfin =>
      intro ys news hK
      intro D h₅ tk₅ F₅ N₅ hoff
      obtain ⟨hbase, bs, rfl, hbs⟩ := hK
      have hsv : Fr _ _ _ _ ∧ News _ _ _ _ := ⟨F₅, N₅⟩
      have hil4 := i4.len
      rw [List.take_of_length_le (by simp; omega)] at hbs
      have hKp : Kp h₅ bs _ := hbs.heap (h₀ := s.heap) (L := s.heap.objs.size) (fun p hp => (N₅ p (.tail _ hp)).1)
      have hD : h₅.IsList D (bs.map Value.ref).toArray := ⟨_, (N₅ _ (.head _)).1, rfl, _, rfl⟩
      have hDlt : D < h₅.objs.size := Heap.lt_size (N₅ _ (.head _)).1
      k_steps
      refine Halt2.mk ?_
      refine wpAny_ListComp_free (keepP h₅) (eltF h₅) rfl (by decide) rfl (by decide) rfl ?_
      refine wpAny_Name (wpAny_loadName_local rfl rfl hsv.1.ns rfl ?_) rfl
      refine wpAny_pyIter_list hD ?_
      refine ⟨_, _, _, _, _, _, rfl, Walks.list rfl h₅.objs.size D (Nat.ne_of_lt hDlt) (bs.map Value.ref).toArray, ?sz, ⟨⟨_, Heap.get?_push_size _ rfl, rfl, rfl⟩, hD.push _⟩, ?fp, ⟨?tests, ?elt⟩, ?fin⟩
      case sz =>
        have hbl := hbs.len
        rw [List.size_toArray, List.length_map, hbl, sizeLine_eq, List.length_map, List.length_append]
        simp only [List.length_singleton]
        omega
      case fp =>
        intro b hb
        rw [Heap.size_push]
        rcases List.mem_cons.mp hb with rfl | hb
        · exact Nat.lt_succ_self _
        · rw [List.mem_singleton.mp hb]; exact Nat.lt_succ_of_lt hDlt
      case tests =>
        intro C i v s₃ m₃ E' hC hP hns hxv hk htk
        obtain ⟨a, ha, rfl⟩ := item_ref hP
        obtain ⟨d, vs', hd, hlA, hs⟩ := hKp.get ha
        obtain ⟨oC, hoC, N₇⟩ := news_C hsv.1 hC hns
        have F₇ := fr_walk hsv.1 hk
        have hl7 := list_walk hlA hk
        obtain ⟨h₇, g₇, d₇, k₇, o₇⟩ := s₃
        dsimp only at F₇ hl7 N₇
        refine wpAny_tests_one ?_
        clear N₅ F₅
        k_with_none
        k_with "newlist" => (refine halt2 ?_)
        k_steps
        refine Halt2.mk ?_
        refine wpAny_newList ?_
        refine ne_nil (items := vs'.toArray) (hl7.push _) ⟨_, Heap.get?_push_size _ rfl, rfl, _, rfl⟩ ?ku ?_
        case ku => ((simp only [units_deeper]); (try dsimp only); omega)
        k_with_none
        k_steps
        · exact (keepP_of hlA).symm
        · exact ⟨_, _, rfl, fun b o e => Heap.get?_push_of_some _ e⟩
      case elt =>
        intro C i v s₃ m₃ E' hC hP hpv hns hxv hk htk
        obtain ⟨a, ha, rfl⟩ := item_ref hP
        obtain ⟨d, vs', hd, hlA, hs⟩ := hKp.get ha
        obtain ⟨oC, hoC, N₇⟩ := news_C hsv.1 hC hns
        have F₇ := fr_walk hsv.1 hk
        have hl7 := list_walk hlA hk
        obtain ⟨h₇, g₇, d₇, k₇, o₇⟩ := s₃
        dsimp only at F₇ hl7 N₇
        clear N₅ F₅
        k_steps
        refine Halt2.mk ?_
        have hbw := bare_wt hlen hd
        refine wpAny_toks 1 (Nat.succ_le_succ (Nat.zero_le _)) ?_
        refine join_list hl7 (by simpa using hs) ?fit ?_
        case fit => (rw [show (Str.ofString "").length = 0 by decide +kernel]; unfold wt at hbw; omega)
        intro t9 k9 hk9
        dsimp only at hk9
        have hjl : (Txt.join (Str.ofString "") d).length ≤ 1048576 := by
          have h1 := StrLaws.join_length_le (Str.ofString "") d
          rw [show (Str.ofString "").length = 0 by decide +kernel] at h1
          rw [show Txt.join (Str.ofString "") d = Str.join (Str.ofString "") d from StrLaws.glued_eq_join _ _]
          unfold wt at hbw; omega
        k_steps
        · exact ⟨a, vs', d, _, rfl, hlA, hs, rfl⟩
        · exact ⟨h₇, _, rfl, fun _ _ e => e⟩
      case fin =>
        intro D₂ h₈ tk₈ ys vs₈ hD2 hl8 _ hlen8 hP8 hpair hk8
        have hvs : vs₈ = bs.map Value.ref := by
          apply List.ext_getElem?
          intro j
          by_cases hj : j < vs₈.length
          · have := hP8 j vs₈[j] (by simp [hj])
            rw [List.getElem?_toArray] at this
            rw [this]; simp [hj]
          · have h9 : vs₈.length = (bs.map Value.ref).length := by simpa using hlen8
            rw [List.getElem?_eq_none (by omega), List.getElem?_eq_none (by omega)]
        have hst : StrsAre ys.toList (namesF (toldRun ns)) := kept_texts hKp (hvs ▸ hpair)
        have F₈ := fr_walk hsv.1 hk8
        have N₈ : News s.heap s.heap.objs.size h₈ [] := News.nil
        clear N₅ F₅
        have hnf := names_fit hlen
        k_steps
        refine Halt2.mk ?_
        refine join_list hl8 hst ?fit ?_
        case fit => (rw [dash_len]; omega)
        intro t9 k9
        k_steps
        refine Halt2.mk ?_
        refine MFold.fold_spec (x := joinedF (toldRun ns)) (O.keeps (Fr.keep (by assumption))) ((Room.deeper R _).le (by decide)) (joined_len hlen) (pieces_fit (joined_len hlen)) ?_
        intro t10 h₁₀ tk₁₀ hk10
        have F₁₀ := Fr.keeps (by assumption : Fr s.heap _ h₈ _) hk10
        have N₁₀ : News s.heap s.heap.objs.size h₁₀ [] := News.nil
        k_steps
        exact hQ _ _ _ _ _ (Fr.keep (by assumption)) (‹News _ _ _ [_]› _ (.head _)).1 (‹News _ _ _ [_]› _ (.head _)).2.2
end Mine
end -- F_told

section -- Hold0
open PySem PySem.W PySem.Calls PyProof.Rows
set_option Elab.async false
set_option maxRecDepth 100000
set_option maxHeartbeats 8000000
namespace Mine
theorem star_list {prog : Program} {w : World} {A : Around} {E : Value → Shared → Prop} {s : Shared} {a : Addr} {its : Array Value} {Q : List Value → Shared → Prop} (hl : s.heap.IsList a its) (hz : its.size ≤ sizeLine)
    (h : ∀ h', (∀ b o, s.heap.get? b = some o → h'.get? b = some o) → Q its.toList { s with heap := h' }) : StarOf (model prog w) A E (.ref a) Q s := by
  obtain ⟨o, D, hc, n, hd⟩ := hl
  have hT' : s.TypeIs (.ref a) "list" := ⟨o, D, hc⟩
  have z : wpAny (model prog w) A (collect (.ref a)) Q E s := wpAny_collect_seq a (.inl rfl) D hc hd (fun h' hk => h h' hk) hz
  unfold StarOf notIterableAtAll
  exact wpAny_bind (wpAny_specialOf hT' PySem.F.slot_list_iter.lookup (wpAny_pure ⟨rfl, z⟩))
theorem fr_hid {h h₁ : Heap} {L : Addr} {m : Str → Option Value} (F : Fr h L h₁ m) : Fr (hid h) L h₁ m :=
  ⟨F.ns, fun b o e => F.keep b o (of_hid e).2, by rw [hideAll_size]; exact F.above⟩
theorem fr_ext {h₀ h h' : Heap} {L : Addr} {m : Str → Option Value} (F : Fr h₀ L h m) (h16 : h₀.get? 16 = none) (hL : L ≠ 16) (x : Ext16 h h') : Fr h₀ L h' m := by
  obtain ⟨oL, es, ep, e, r⟩ := F.ns
  exact ⟨⟨oL, es, ep, x _ _ hL e, r⟩, fun b o e => x b o (fun q => by rw [q, h16] at e; cases e) (F.keep b o e), F.above⟩
theorem ok_of {w : World} {mg mb : Str → Option Value} {h h₁ : Heap} {L : Addr} {m : Str → Option Value} (O' : OkH w mg mb (hid h)) (F : Fr (hid h) L h₁ m) : OkH w mg mb h₁ := O'.keeps F.keep
end Mine
end -- Hold0

section -- Hold1
open PySem PySem.W PySem.Calls PyProof.Rows
set_option Elab.async false
set_option maxRecDepth 100000
set_option maxHeartbeats 8000000
namespace Mine
open MParse in
theorem pst_step (p : PSt) (n : Int) : (((parseStep p n).res.map (·.length)).sum + (parseStep p n).res.length + (parseStep p n).part.length) ≤ ((p.res.map (·.length)).sum + p.res.length + p.part.length) + 1 := by
  have h1 : ∀ k, (p.part ++ chS k).length = p.part.length + 1 := fun k => by rw [Str.length_append]; rfl
  have h0 : (Str.ofString "").length = 0 := by decide +kernel
  unfold parseStep
  repeat' split
  all_goals (simp only [h1, h0, List.map_append, List.map_cons, List.map_nil, List.sum_append, List.sum_cons, List.sum_nil, List.length_append, List.length_singleton]; omega)
open MParse in
theorem pst_fold : ∀ (l : List Int) (p : PSt), (((l.foldl parseStep p).res.map (·.length)).sum + (l.foldl parseStep p).res.length + (l.foldl parseStep p).part.length) ≤ ((p.res.map (·.length)).sum + p.res.length + p.part.length) + l.length
  | [], _ => Nat.le_refl _
  | n :: r, p => by
    have h1 := pst_step p n
    have h2 := pst_fold r (parseStep p n)
    rw [List.foldl_cons, List.length_cons]
    omega
theorem strip_sum : ∀ l : List Str, ((l.map Txt.strip).map (·.length)).sum ≤ (l.map (·.length)).sum
  | [] => Nat.le_refl _
  | x :: r => by
    have := strip_sum r
    have h := PyProof.Rows.len_strip x
    simp only [List.map_cons, List.sum_cons]
    omega
theorem parse_fit {x : Str} (h : x.length ≤ 950) : ((MParse.parseF x).map (·.length)).sum + (MParse.parseF x).length ≤ 1000 := by
  have h1 := pst_fold (KStt.codes x) ⟨[], Str.ofString "", false, false⟩
  have h0 : (Str.ofString "").length = 0 := by decide +kernel
  rw [KStt.codes_length] at h1
  simp only [List.map_nil, List.sum_nil, List.length_nil, h0] at h1
  unfold MParse.parseF
  refine Nat.le_trans (Nat.add_le_add_right (strip_sum _) _) ?_
  rw [List.length_map]
  unfold MParse.parseRun
  split
  · omega
  · simp only [List.map_append, List.map_cons, List.map_nil, List.sum_append, List.sum_cons, List.sum_nil, List.length_append, List.length_singleton]
    omega

theorem pp_spec {w : World} {mg mb : Str → Option Value} {A : Around} {s : Shared} {Q : Value → Shared → Prop} {E : Value → Shared → Prop} {h₀ : Heap} {L : Addr} {m : Str → Option Value} {news : List (Addr × Obj)} {ps} (O : OkH w mg mb h₀) (F : Fr h₀ L s.heap m) (N : News h₀ L s.heap news) (h16 : (16, tabObj ps) ∈ news) (htr : TriplesOk ps.toList) (R : Room A 7) (hgb : AllBare s.gens) {x : Str} {t : Tok} (hx : x.length ≤ 950)
    (hQ : ∀ t' s', Fr h₀ L s'.heap m → (∃ ps', TriplesOk ps'.toList ∧ News h₀ L s'.heap [(16, tabObj ps')]) → Ext16 s.heap s'.heap → AllBare s'.gens → s'.os = s.os → Q (.str (platF (MParse.parseF x)) t') s') :
    wpAny (model PySem.Challenge.rw_mj0094_01.row.prog w) A (call (.ref 26) [.str x t]) (fun v s₁ => StarOf (model PySem.Challenge.rw_mj0094_01.row.prog w) A E v (fun vs s₂ => (Mine.hd.heap_39 w.params).In s₂.heap ∧ wpAny (model PySem.Challenge.rw_mj0094_01.row.prog w) A (call (.ref 21) ([] ++ vs)) Q E s₂) s₁) E s := by
  have hN := N _ h16
  refine MParse.parse_spec (O.keeps F.keep) (R.le (by decide)) (by omega) ?_
  intro a ys h' tk' hk hl hst
  have hfit := parse_fit hx
  refine star_list hl (by rw [List.size_toArray, hst.length, sizeLine_eq]; omega) ?_
  intro h'' hk''
  have hk2 : ∀ b o, s.heap.get? b = some o → h''.get? b = some o := fun b o e => hk'' b o (hk b o e)
  have F'' := F.keeps hk2
  refine ⟨(O.keeps F''.keep).K, ?_⟩
  have OO := O.keeps F''.keep
  have TT : TabOk h'' := ⟨ps, hk2 _ _ hN.1, htr⟩
  refine plat_spec (s := { s with heap := h'', toks := tk' }) (ts := MParse.parseF x) OO TT (R.le (by decide)) hgb (by simpa using hst) hfit ?_
  intro t' s' hx' hT' hb' ho'
  obtain ⟨ps', e', htr'⟩ := hT'
  refine hQ t' s' (fr_ext F'' hN.2.2 (fun q => hN.2.1 q.symm) hx') ⟨ps', htr', fun p hp => ?_⟩ (fun b o hb e => hx' b o hb (hk2 b o e)) hb' ho'
  rw [List.mem_singleton.mp hp]
  exact ⟨e', hN.2⟩
end Mine
end -- Hold1

section -- F_holds
open PySem PySem.W PySem.Calls PyProof.Rows
set_option Elab.async false
set_option maxRecDepth 100000
set_option maxHeartbeats 8000000
namespace Mine
local macro_rules | `(tactic| walk_at "call ref") => `(tactic| (refine halt2 ?_))
local macro_rules | `(tactic| walk_at "call builtin:str.join") => `(tactic| (refine halt2 ?_))
local macro_rules | `(tactic| walk_at "call builtin:str.split") => `(tactic| (refine halt2 ?_))
local macro_rules | `(tactic| walk_at "call builtin:str.replace") => `(tactic| (refine replaceP (by first | omega | ((show @Ne Nat _ _); omega)) (by first | omega | ((show @Ne Nat _ _); omega)) (by first | omega | ((show @Ne Nat _ _); omega)) (by decide +kernel) (by assumption) (by decide +kernel) (by first | (show 0 < _ + _; omega) | (dsimp only; omega)) ?_; intro _ k9 hk9))
local macro_rules | `(tactic| walk_at "StarOf ref") => `(tactic| (refine halt2 ?_))

noncomputable def preF (nm : Str) : Str := Txt.replace (Txt.join (Str.ofString "") (Txt.split nm (Str.ofString "unknown"))) (Str.ofString ",") (Str.ofString "-")
noncomputable def dueF (nm : Str) : Str := MFold.foldF (preF nm)
theorem joinU_len (nm : Str) : (Txt.join (Str.ofString "") (Txt.split nm (Str.ofString "unknown"))).length ≤ nm.length + 1 := by
  have h1 := PyProof.Rows.split_weight nm (Str.ofString "unknown") (by decide +kernel)
  have h2 := StrLaws.join_length_le (Str.ofString "") (Txt.split nm (Str.ofString "unknown"))
  rw [show (Str.ofString "").length = 0 by decide +kernel] at h2
  rw [show Txt.join (Str.ofString "") (Txt.split nm (Str.ofString "unknown")) = Str.join (Str.ofString "") (Txt.split nm (Str.ofString "unknown")) from StrLaws.glued_eq_join _ _]
  omega
theorem preF_len (nm : Str) : (preF nm).length ≤ nm.length + 1 := by
  unfold preF
  rw [lr _ (by decide +kernel) (by decide +kernel)]
  exact joinU_len nm
theorem holds_spec {w : World} {mg mb : Str → Option Value} {A : Around} {s : Shared} {Q E : Value → Shared → Prop} (O : OkH w mg mb s.heap) (T : TabOk s.heap) (R : Room A 12) (hgb : AllBare s.gens) {l : Addr} {ns : List Int} {vs : List Value} (hl : s.heap.IsList l vs.toArray) (hi : IntsAre vs ns) (h16 : ∀ n ∈ ns, 0 ≤ n ∧ n < 16) (hlen : ns.length ≤ 40)
   (e1 : platF (MParse.parseF (toldRun ns).w) = MFold.foldF (joinedF (toldRun ns))) (e2 : platF (MParse.parseF (MFold.foldF (joinedF (toldRun ns)))) = dueF (MFold.foldF (joinedF (toldRun ns)))) (e3 : platF (MParse.parseF (dueF (MFold.foldF (joinedF (toldRun ns))))) = dueF (MFold.foldF (joinedF (toldRun ns))))
   (hwl : (toldRun ns).w.length ≤ 900) (hnl : (MFold.foldF (joinedF (toldRun ns))).length ≤ 900) (hdl : (dueF (MFold.foldF (joinedF (toldRun ns)))).length ≤ 900)
   (hQ : ∀ s', Ext16 s.heap s'.heap → TabOk s'.heap → AllBare s'.gens → s'.os = s.os → Q (.bool true) s') : wpAny (model PySem.Challenge.rw_mj0094_01.row.prog w) A (call (.ref 55) [.ref l]) Q E s := by
  k_with_none
  have : (Mine.hd.heap_39 w.params).In s.heap → PySem.Challenge.rw_mj0094_01.Holds → True := by k_fill; intros; trivial
  have O' := O.hid T
  have X₀ := O'.K
  have T₀ := O'.T
  obtain ⟨bm, ob, M₀⟩ := O'.M
  refine' enter O R (f := 55) (binds := [(Str.ofString "figures", .ref l)]) ?k6 ?k7 ?k9 ?kB ?_ ?c2 ?c3 ?c4 ?c5
  (case k6 => k_is)
  (case k7 => k_is)
  (case k9 => exact BindsTo.of_eq rfl)
  (case kB => exact locs rfl)
  (case c2 => exact rfl)
  (case c3 => exact rfl)
  (case c4 => exact rfl)
  (case c5 => decide)
  intro h₁ F'' N''
  have hk₁ : ∀ b o, s.heap.get? b = some o → h₁.get? b = some o := F''.keep
  have F' := fr_hid F''
  obtain ⟨ps, hp16, htr⟩ := id T
  have N' : News (hid s.heap) s.heap.objs.size h₁ [(16, tabObj ps)] := fun p hp => by
    rw [List.mem_singleton.mp hp]
    exact ⟨hk₁ _ _ hp16, Nat.ne_of_lt (Heap.lt_size hp16), hideAll_none _ (.head _)⟩
  clear F'' N''
  have h16' : 16 < s.heap.objs.size := by obtain ⟨ps, e, _⟩ := T; exact Heap.lt_size e
  have hL16 : @Ne Nat s.heap.objs.size 16 := by omega
  have hh16 : (hid s.heap).get? 16 = none := hideAll_none _ (.head _)
  obtain ⟨hd, dp, fr, gd, un⟩ := A
  obtain rfl : hd = none := R.handled
  have hdp := R.depth
  have hun := R.units
  dsimp only at hdp hun
  (try dsimp only)
  k_steps
  refine Halt2.mk ?_
  refine told_spec (ok_of O' F') ((Room.deeper R _).le (by decide)) (hl.at fun o e => hk₁ _ _ e) hi h16 hlen ?_
  intro a t1 t2 h₂ tk₂ hk₂ hget hfresh
  have F₂ := F'.keeps hk₂
  have N₂ : News (hid s.heap) s.heap.objs.size h₂ [(a, tupObj [.str (toldRun ns).w t1, .str (MFold.foldF (joinedF (toldRun ns))) t2]), (16, tabObj ps)] := by
    intro p hp
    rcases List.mem_cons.mp hp with rfl | hp
    · refine ⟨hget, fun q => ?_, ?_⟩
      · obtain ⟨oL, _, _, eL, _⟩ := F'.ns
        dsimp only at hfresh q
        rw [q, eL] at hfresh; cases hfresh
      · cases q : (hid s.heap).get? a with
        | none => rfl
        | some x => dsimp only at hfresh; rw [F'.keep _ _ q] at hfresh; cases hfresh
    · rw [List.mem_singleton.mp hp]
      exact ⟨hk₂ _ _ (N' _ (.head _)).1, (N' _ (.head _)).2⟩
  generalize (toldRun ns).w = wr at N₂ hwl e1
  generalize MFold.foldF (joinedF (toldRun ns)) = nm at N₂ e1 e2 e3 hnl hdl
  -- have R7 := (Room.deeper R (envOf (Str.ofString "_law_holds") { kind := ScopeKind.function, names := [], isGenerator := false, isCoroutine := false } 0 55 (.ref 54))).le (k := 7) (by decide)
  clear F' N'
  k_steps
  refine Halt2.mk ?_
  refine' pp_spec (ps := ps) (x := wr) O' ?F ?N ?m htr ?R ?g ?x ?_
  (case F => assumption)
  (case N => assumption)
  (case m => first | exact .head _ | exact .tail _ (.head _))
  (case R => exact (Room.deeper R _).le (by decide))
  (case g => exact hgb)
  (case x => omega)
  rintro t3 ⟨h₃, g₃, d₃, k₃, o₃⟩ F₃ ⟨ps₃, htr₃, N₃⟩ hx₃ hb₃ ho₃
  rw [e1]
  dsimp only at F₃ N₃ hx₃ hb₃ ho₃
  k_steps
  · exact absurd ‹(nm != nm) = true› (by simp)
  refine Halt2.mk ?_
  refine wpAny_toks 1 (Nat.succ_le_succ (Nat.zero_le _)) ?_
  refine splitN1A (hsz := ?hsz) (by assumption) (by assumption) rfl ?_
  case hsz => (rw [sizeLine_eq]; omega)
  intro l₅ h₅ k₅ hsp₅ hst₅ hal₅ hl₅ F₅ N₅ htk₅
  dsimp only at htk₅
  k_steps
  refine Halt2.mk ?_
  refine wpAny_toks 1 htk₅ ?_
  refine join_list hl₅ (ys := Txt.split nm (Str.ofString "unknown")) (by rw [← hsp₅]; simpa using hst₅) ?fit ?_
  case fit =>
    have h1 := PyProof.Rows.split_weight nm (Str.ofString "unknown") (by decide +kernel)
    rw [show (Str.ofString "").length = 0 by decide +kernel]
    omega
  intro t₆ k₆ htk₆
  dsimp only at htk₆
  have hju : (Txt.join (Str.ofString "") (Txt.split nm (Str.ofString "unknown"))).length ≤ 1048576 := by have := joinU_len nm; omega
  have hpl : (preF nm).length ≤ 1000 := by have := preF_len nm; omega
  k_steps
  refine Halt2.mk ?_
  refine MFold.fold_spec (x := preF nm) (O'.keeps (Fr.keep (by assumption))) ((Room.deeper R _).le (by decide)) hpl (pieces_fit hpl) ?_
  intro t₇ h₇ tk₇ hk₇
  have F₇ := Fr.keeps (by assumption : Fr (hid s.heap) _ h₅ _) hk₇
  have N₇ : News (hid s.heap) s.heap.objs.size h₇ [(16, tabObj ps₃)] := fun p hp => by
    rw [List.mem_singleton.mp hp]
    exact ⟨hk₇ _ _ (N₅ _ (.tail _ (.head _))).1, (N₅ _ (.tail _ (.head _))).2⟩
  clear F₅ N₅
  k_steps
  refine Halt2.mk ?_
  refine' pp_spec (ps := ps₃) (x := nm) O' ?F ?N ?m htr₃ ?R ?g ?x ?_
  (case F => assumption)
  (case N => assumption)
  (case m => first | exact .head _ | exact .tail _ (.head _))
  (case R => exact (Room.deeper R _).le (by decide))
  (case g => exact hb₃)
  (case x => omega)
  rintro t₈ ⟨h₈, g₈, d₈, k₈, o₈⟩ F₈ ⟨ps₈, htr₈, N₈⟩ hx₈ hb₈ ho₈
  rw [e2]
  dsimp only at F₈ N₈ hx₈ hb₈ ho₈
  k_steps
  · refine Halt2.mk ?_
    refine' pp_spec (ps := ps₈) (x := dueF nm) O' ?F ?N ?m htr₈ ?R ?g ?x ?_
    (case F => assumption)
    (case N => assumption)
    (case m => first | exact .head _ | exact .tail _ (.head _))
    (case R => exact (Room.deeper R _).le (by decide))
    (case g => exact hb₈)
    (case x => omega)
    rintro t₉ ⟨h₉, g₉, d₉, k₉, o₉⟩ F₉ ⟨ps₉, htr₉, N₉⟩ hx₉ hb₉ ho₉
    rw [e3]
    dsimp only at F₉ N₉ hx₉ hb₉ ho₉
    have hfin : ∀ v s', v = Value.bool true → s' = (⟨h₉, g₉, d₉, k₉, o₉⟩ : Shared) → Q v s' := by
      rintro v s' rfl rfl
      exact hQ _ (fun b o hb e => F₉.keep b o (hid_get e hb)) ⟨ps₉, (N₉ _ (.head _)).1, htr₉⟩ hb₉ (ho₉.trans (ho₈.trans ho₃))
    k_steps
    exact hfin _ _ (by unfold dueF; rw [beq_self_eq_true]) rfl
  · exact absurd ‹(dueF nm == MFold.foldF (preF nm)) = false› (by unfold dueF; simp)
end Mine
end -- F_holds

section -- Law1
open PySem PySem.W PySem.Calls PyProof.Rows
set_option Elab.async false
set_option maxRecDepth 100000
set_option maxHeartbeats 8000000
namespace Mine

/-- a text's signs -/
abbrev ls (x : Str) : List Nat := x.cps.toList
def mapM (k : Nat) : Nat := if k = 32 then 95 else if k = 47 ∨ k = 92 ∨ k = 58 ∨ k = 59 ∨ k = 34 ∨ k = 40 ∨ k = 41 then 45 else k
def UN : List Nat := [117, 110, 107, 110, 111, 119, 110]
def Uu (l : List Nat) : List Nat := rpL UN [] 0 l
theorem one_eq (s : String) (c : Nat) (h : Str.ofString s = ⟨#[c]⟩) (x : Str) (t : String) (z : Nat) (hz : Str.ofString t = ⟨#[z]⟩) : ls (Txt.replace x (Str.ofString s) (Str.ofString t)) = (ls x).map fun k => if k = c then z else k := by
  rw [h, hz]; exact replace_one_list x c z
theorem plat1_ls (x : Str) : ls (plat1 x) = Uu ((ls x).map mapM) := by
  unfold plat1
  show (Txt.replace _ _ _).cps.toList = _
  rw [replace_list _ _ _ (by decide +kernel), show (Str.ofString "").cps.toList = [] by decide +kernel, show (Str.ofString "unknown").cps.toList = UN by decide +kernel]
  unfold Uu
  congr 1
  have e : ∀ (y : Str) (s t : String) (c z : Nat), Str.ofString s = ⟨#[c]⟩ → Str.ofString t = ⟨#[z]⟩ → (Txt.replace y (Str.ofString s) (Str.ofString t)).cps.toList = y.cps.toList.map fun k => if k = c then z else k := fun y s t c z h hz => one_eq s c h y t z hz
  rw [e _ ")" "-" 41 45 (by decide +kernel) (by decide +kernel), e _ "(" "-" 40 45 (by decide +kernel) (by decide +kernel), e _ "\"" "-" 34 45 (by decide +kernel) (by decide +kernel), e _ ";" "-" 59 45 (by decide +kernel) (by decide +kernel), e _ ":" "-" 58 45 (by decide +kernel) (by decide +kernel), e _ "\\" "-" 92 45 (by decide +kernel) (by decide +kernel), e _ "/" "-" 47 45 (by decide +kernel) (by decide +kernel), e _ " " "_" 32 95 (by decide +kernel) (by decide +kernel)]
  simp only [List.map_map]
  apply List.map_congr_left
  intro k _
  simp only [Function.comp, mapM]
  by_cases h1 : k = 32
  · subst h1; decide
  · simp only [if_neg h1]
    by_cases h2 : k = 47
    · subst h2; decide
    · simp only [if_neg h2]
      by_cases h3 : k = 92
      · subst h3; decide
      · simp only [if_neg h3]
        by_cases h4 : k = 58
        · subst h4; decide
        · simp only [if_neg h4]
          by_cases h5 : k = 59
          · subst h5; decide
          · simp only [if_neg h5]
            by_cases h6 : k = 34
            · subst h6; decide
            · simp only [if_neg h6]
              by_cases h7 : k = 40
              · subst h7; decide
              · simp only [if_neg h7]
                by_cases h8 : k = 41
                · subst h8; decide
                · simp only [if_neg h8]
                  rw [if_neg]
                  simp [h2, h3, h4, h5, h6, h7, h8]
theorem join_ls (s : String) (l : List Str) : ls (Txt.join (Str.ofString s) l) = List.intercalate (ls (Str.ofString s)) (l.map ls) := by
  rw [show Txt.join (Str.ofString s) l = Str.join (Str.ofString s) l from StrLaws.glued_eq_join _ _]
  exact join_toList _ _
theorem nz_ls (x : Str) : nz x = neL (ls x) := by
  unfold neL nz
  have : x.length = (ls x).length := by simp [Str.length]
  cases h : ls x with
  | nil => rw [h] at this; simp at this; simp [this]
  | cons a r => rw [h] at this; simp at this; simp [this]
theorem platF_ls (ts : List Str) : ls (platF ts) = Fd (Uu ((List.intercalate [45] (((ts.filter nz).map Txt.strip).map ls)).map mapM)) := by
  unfold platF
  show (Fd (ls (plat1 (plat0 ts)))) = _
  rw [plat1_ls]
  unfold plat0
  rw [join_ls, show ls (Str.ofString "-") = [45] by decide +kernel]
theorem foldF_ls (x : Str) : ls (MFold.foldF x) = Fd (ls x) := by
  have hsp := split_list x (Str.ofString "-") (by decide +kernel) (by decide +kernel)
  rw [show (Str.ofString "-").cps.toList = [45] by decide +kernel] at hsp
  have hp : (MFold.pieces x).map ls = (spL [45] 0 [] (ls x)).filter neL := by
    unfold MFold.pieces
    rw [← hsp, List.filter_map]
    congr 1
    apply List.filter_congr
    intro a _
    show (a != Str.ofString "") = neL (ls a)
    unfold neL
    by_cases h : a = Str.ofString ""
    · subst h; decide +kernel
    · have : ls a ≠ [] := fun e => h (str_eq (by show ls a = _; rw [e]; decide +kernel))
      rw [bne_iff_ne.mpr h]
      cases q : ls a with
      | nil => exact absurd q this
      | cons _ _ => rfl
  have hF := Fd_pieces (ls x) [] (by simp)
  rw [List.nil_append] at hF
  rw [hF]
  unfold MFold.foldF
  show (_ ++ _ : Str).cps.toList = _
  rw [Str.cps_append, Array.toList_append]
  have hj : (Txt.join (Str.ofString "-") (MFold.pieces x)).cps.toList = List.intercalate [45] ((spL [45] 0 [] (ls x)).filter neL) := by
    have := join_ls "-" (MFold.pieces x)
    rw [show ls (Str.ofString "-") = [45] by decide +kernel, hp] at this
    exact this
  rw [hj]
  congr 1
  unfold leadD
  have hpn : MFold.pieces x = [] ↔ (spL [45] 0 [] (ls x)).filter neL = [] := by rw [← hp]; simp
  have hsl : (Txt.slice x none (some 1) == Str.ofString "-") = true ↔ (ls x).head? = some 45 := by
    rw [beq_iff_eq]
    by_cases hl : x.length = 0
    · have e0 : ls x = [] := by have : (ls x).length = 0 := by rw [← hl]; simp [Str.length]
                                exact List.length_eq_zero_iff.mp this
      rw [e0]
      constructor
      · intro h
        have := Txt.slice_le x none (some 1)
        rw [h] at this
        rw [show (Str.ofString "-").length = 1 by decide +kernel] at this
        omega
      · intro h; cases h
    · have := eq_of_beq (slice_closes_toL (x := x) (j := 1) (by decide) (by omega))
      rw [this]
      cases q : ls x with
      | nil => exfalso; apply hl; have : (ls x).length = 0 := by rw [q]; rfl
               simpa [Str.length] using this
      | cons a r =>
        have q' : x.cps.toList = a :: r := q
        rw [q', show Str.ofString "-" = ⟨#[45]⟩ by decide +kernel]
        simp
  by_cases hc : (Txt.slice x none (some 1) == Str.ofString "-") = true
  · by_cases hq : MFold.pieces x = []
    · rw [if_neg (show ¬ ((ls x).head? = some 45 ∧ (spL [45] 0 [] (ls x)).filter neL ≠ []) from fun h => h.2 (hpn.mp hq)), hc, decide_eq_true hq]; decide +kernel
    · rw [if_pos (show (ls x).head? = some 45 ∧ (spL [45] 0 [] (ls x)).filter neL ≠ [] from ⟨hsl.mp hc, fun h => hq (hpn.mpr h)⟩), hc, decide_eq_false hq]; decide +kernel
  · rw [if_neg (show ¬ ((ls x).head? = some 45 ∧ (spL [45] 0 [] (ls x)).filter neL ≠ []) from fun h => hc (hsl.mpr h.1))]
    rw [Bool.not_eq_true] at hc
    rw [hc, Bool.false_and, if_neg Bool.false_ne_true]; decide +kernel
end Mine
end -- Law1

section -- Law2
open PySem PySem.W PySem.Calls PyProof.Rows
set_option Elab.async false
set_option maxRecDepth 100000
set_option maxHeartbeats 8000000
namespace Mine
section
variable {α β : Type}
def trim (p : α → Bool) (l : List α) : List α := ((l.dropWhile p).reverse.dropWhile p).reverse
theorem dropWhile_head (p : α → Bool) : ∀ l : List α, ∀ a r, l.dropWhile p = a :: r → p a = false
  | [], _, _, h => nomatch h
  | x :: l, a, r, h => by
    rw [List.dropWhile_cons] at h
    by_cases hx : p x = true
    · rw [if_pos hx] at h; exact dropWhile_head p l a r h
    · rw [if_neg hx] at h; cases h; simpa using hx
theorem dropWhile_id {p : α → Bool} {l : List α} (h : ∀ a r, l = a :: r → p a = false) : l.dropWhile p = l := by
  cases l with
  | nil => rfl
  | cons a r => rw [List.dropWhile_cons, h a r rfl]; rfl
theorem dropWhile_suffix (p : α → Bool) (l : List α) : ∃ t, l = t ++ l.dropWhile p := ⟨l.takeWhile p, by simp⟩
theorem trim_idem (p : α → Bool) (l : List α) : trim p (trim p l) = trim p l := by
  unfold trim
  generalize hd : l.dropWhile p = d
  have h1 : ∀ a r, d = a :: r → p a = false := fun a r e => dropWhile_head p l a r (hd.trans e)
  generalize he : d.reverse.dropWhile p = e
  have h2 : ∀ a r, e = a :: r → p a = false := fun a r q => dropWhile_head p d.reverse a r (he.trans q)
  obtain ⟨t, ht⟩ := dropWhile_suffix p d.reverse
  rw [he] at ht
  have h3 : d = e.reverse ++ t.reverse := by rw [← List.reverse_append, ← ht, List.reverse_reverse]
  have h4 : e.reverse.dropWhile p = e.reverse := dropWhile_id fun a r q => by
    have : d = a :: (r ++ t.reverse) := by rw [h3, q]; rfl
    exact h1 _ _ this
  rw [h4, List.reverse_reverse, dropWhile_id h2]
theorem dropWhile_map (p : β → Bool) (f : α → β) : ∀ l : List α, (l.map f).dropWhile p = (l.dropWhile (fun a => p (f a))).map f
  | [] => rfl
  | a :: r => by
    rw [List.map_cons, List.dropWhile_cons, List.dropWhile_cons]
    split
    · exact dropWhile_map p f r
    · rfl
theorem trim_map (p : β → Bool) (f : α → β) (l : List α) : trim p (l.map f) = (trim (fun a => p (f a)) l).map f := by
  unfold trim
  rw [dropWhile_map, ← List.map_reverse, dropWhile_map, ← List.map_reverse]
theorem dropWhile_flat (p : β → Bool) (q : α → Bool) (f : α → List β) : ∀ l : List α, (∀ a ∈ l, q a = true → f a ≠ [] ∧ ∀ b ∈ f a, p b = true) → (∀ a ∈ l, q a = false → ∃ b r, f a = b :: r ∧ p b = false) → (l.flatMap f).dropWhile p = (l.dropWhile q).flatMap f
  | [], _, _ => rfl
  | a :: r, h1, h2 => by
    rw [List.flatMap_cons, List.dropWhile_cons]
    cases hq : q a with
    | true =>
      have := (h1 a (List.mem_cons_self ..) hq).2
      have e : ∀ (u v : List β), (∀ b ∈ u, p b = true) → (u ++ v).dropWhile p = v.dropWhile p := by
        intro u v hu
        induction u with
        | nil => rfl
        | cons b u ih =>
          rw [List.cons_append, List.dropWhile_cons, if_pos (hu b (List.mem_cons_self ..))]
          exact ih fun c hc => hu c (List.mem_cons_of_mem _ hc)
      rw [e _ _ this, if_pos rfl]
      exact dropWhile_flat p q f r (fun a ha => h1 a (List.mem_cons_of_mem _ ha)) (fun a ha => h2 a (List.mem_cons_of_mem _ ha))
    | false =>
      obtain ⟨b, t, e, hb⟩ := h2 a (List.mem_cons_self ..) hq
      rw [e, List.cons_append, List.dropWhile_cons, hb]
      simp [e]
end
theorem flat_rev {α β : Type} (f : α → List β) (l : List α) : (l.flatMap f).reverse = l.reverse.flatMap (fun a => (f a).reverse) := by
  induction l with
  | nil => rfl
  | cons a r ih => rw [List.flatMap_cons, List.reverse_append, ih, List.reverse_cons, List.flatMap_append]; simp
theorem trim_mem {α : Type} {p : α → Bool} {l : List α} {a : α} (h : a ∈ trim p l) : a ∈ l := by
  unfold trim at h
  have h1 := (List.dropWhile_sublist p).subset (List.mem_reverse.mp h)
  exact (List.dropWhile_sublist p).subset (List.mem_reverse.mp h1)
theorem drop_tw {α : Type} (p : α → Bool) : ∀ l : List α, l.drop (l.takeWhile p).length = l.dropWhile p
  | [] => rfl
  | a :: r => by
    rw [List.takeWhile_cons, List.dropWhile_cons]
    split
    · exact drop_tw p r
    · rfl
theorem strip_ls (x : Str) : ls (Txt.strip x) = trim Unicode.isSpace (ls x) := by
  unfold Txt.strip
  rw [PyProof.Rows.stripBy_eq]
  show (Builtin.Str.strSub _ _ _).cps.toList = _
  rw [StrLaws.strSub_toList]
  unfold stripLo stripHi
  simp only [if_true]
  have hn : x.length = (ls x).length := by simp [Str.length]
  rw [hn]
  show ((ls x).drop ((ls x).takeWhile Unicode.isSpace).length).take _ = _
  have hd : (ls x).drop ((ls x).takeWhile Unicode.isSpace).length = (ls x).dropWhile Unicode.isSpace := drop_tw _ _
  have hlen : (ls x).length = ((ls x).takeWhile Unicode.isSpace).length + ((ls x).dropWhile Unicode.isSpace).length := by
    have := congrArg List.length (List.takeWhile_append_dropWhile (p := Unicode.isSpace) (l := ls x))
    rw [List.length_append] at this; exact this.symm
  show List.take (_ - List.length (List.takeWhile Unicode.isSpace (List.reverse (List.drop ((ls x).takeWhile Unicode.isSpace).length (ls x)))) - _) (List.drop ((ls x).takeWhile Unicode.isSpace).length (ls x)) = _
  rw [hd]
  unfold trim
  generalize (ls x).dropWhile Unicode.isSpace = d at hlen
  have hk := congrArg List.length (List.takeWhile_append_dropWhile (p := Unicode.isSpace) (l := d.reverse))
  rw [List.length_append, List.length_reverse] at hk
  have e1 : d = (d.reverse.dropWhile Unicode.isSpace).reverse ++ (d.reverse.takeWhile Unicode.isSpace).reverse := by
    rw [← List.reverse_append, List.takeWhile_append_dropWhile, List.reverse_reverse]
  have e2 : (ls x).length - (List.takeWhile Unicode.isSpace d.reverse).length - (List.takeWhile Unicode.isSpace (ls x)).length = (d.reverse.dropWhile Unicode.isSpace).reverse.length := by rw [List.length_reverse]; omega
  rw [e2]
  conv => lhs; arg 2; rw [e1]
  rw [List.take_left]

/-- the reader over signs without a comma out of quotes -/
def scan : Bool → Bool → List Nat → Option (List Nat × Bool × Bool)
  | e, q, [] => some ([], e, q)
  | true, q, c :: r => (scan false q r).map fun t => (c :: t.1, t.2)
  | false, true, c :: r => if c = 92 then scan true true r else if c = 34 then (scan false false r).map fun t => (c :: t.1, t.2) else (scan false true r).map fun t => (c :: t.1, t.2)
  | false, false, c :: r => if c = 44 then none else if c = 34 then (scan false true r).map fun t => (c :: t.1, t.2) else (scan false false r).map fun t => (c :: t.1, t.2)
def mkS (l : List Nat) : Str := ⟨l.toArray⟩
theorem cat_mk (x : Str) (c : Nat) (l : List Nat) : x ++ MParse.chS c ++ mkS l = x ++ mkS (c :: l) := by
  apply str_eq
  show ls _ = ls _
  simp [ls, Str.cps_append, MParse.chS, mkS]
theorem cat_nil (x : Str) : x ++ mkS [] = x := by
  apply str_eq; simp [Str.cps_append, mkS]
open MParse in
theorem scan_run : ∀ (l : List Nat) (e q : Bool) (raw : List Nat) (e' q' : Bool) (res : List Str) (part : Str), scan e q l = some (raw, e', q') → (l.map fun k : Nat => (k : Int)).foldl parseStep ⟨res, part, e, q⟩ = ⟨res, part ++ mkS raw, e', q'⟩
  | [], e, q, raw, e', q', res, part, h => by
    simp only [scan, Option.some.injEq, Prod.mk.injEq] at h
    obtain ⟨rfl, rfl, rfl⟩ := h
    rw [cat_nil]; rfl
  | c :: r, true, q, raw, e', q', res, part, h => by
    simp only [scan, Option.map_eq_some_iff] at h
    obtain ⟨⟨raw', e2, q2⟩, h1, h2⟩ := h
    cases h2
    rw [List.map_cons, List.foldl_cons]
    have := scan_run r false q raw' e' q' res (part ++ chS c) h1
    rw [cat_mk] at this
    rw [← this]; rfl
  | c :: r, false, true, raw, e', q', res, part, h => by
    simp only [scan] at h
    rw [List.map_cons, List.foldl_cons]
    by_cases h92 : c = 92
    · subst h92
      rw [if_pos rfl] at h
      have := scan_run r true true raw e' q' res part h
      rw [← this]; rfl
    · have i92 : ¬ ((c : Nat) : Int) = 92 := by omega
      rw [if_neg h92] at h
      by_cases h34 : c = 34
      · subst h34
        rw [if_pos rfl, Option.map_eq_some_iff] at h
        obtain ⟨⟨raw', e2, q2⟩, h1, h2⟩ := h
        cases h2
        have := scan_run r false false raw' e' q' res (part ++ chS 34) h1
        rw [cat_mk] at this
        rw [← this]; rfl
      · have i34 : ¬ ((c : Nat) : Int) = 34 := by omega
        rw [if_neg h34, Option.map_eq_some_iff] at h
        obtain ⟨⟨raw', e2, q2⟩, h1, h2⟩ := h
        cases h2
        have := scan_run r false true raw' e' q' res (part ++ chS c) h1
        rw [cat_mk] at this
        rw [← this]
        congr 1
        show (if false then _ else if true then (if ((c : Nat) : Int) = 92 then _ else if ((c : Nat) : Int) = 34 then _ else _) else _) = _
        simp only [i92, i34, if_false, if_true, Bool.false_eq_true, Int.toNat_natCast]
  | c :: r, false, false, raw, e', q', res, part, h => by
    simp only [scan] at h
    rw [List.map_cons, List.foldl_cons]
    by_cases h44 : c = 44
    · rw [if_pos h44] at h; cases h
    · have i44 : ¬ ((c : Nat) : Int) = 44 := by omega
      rw [if_neg h44] at h
      by_cases h34 : c = 34
      · subst h34
        rw [if_pos rfl, Option.map_eq_some_iff] at h
        obtain ⟨⟨raw', e2, q2⟩, h1, h2⟩ := h
        cases h2
        have := scan_run r false true raw' e' q' res (part ++ chS 34) h1
        rw [cat_mk] at this
        rw [← this]; rfl
      · have i34 : ¬ ((c : Nat) : Int) = 34 := by omega
        rw [if_neg h34, Option.map_eq_some_iff] at h
        obtain ⟨⟨raw', e2, q2⟩, h1, h2⟩ := h
        cases h2
        have := scan_run r false false raw' e' q' res (part ++ chS c) h1
        rw [cat_mk] at this
        rw [← this]
        congr 1
        show (if false then _ else if false then _ else if ((c : Nat) : Int) = 44 then _ else if ((c : Nat) : Int) = 34 then _ else _) = _
        simp only [i44, i34, if_false, Bool.false_eq_true, Int.toNat_natCast]
end Mine
end -- Law2

section -- Law3
open PySem PySem.W PySem.Calls PyProof.Rows
set_option Elab.async false
set_option maxRecDepth 100000
set_option maxHeartbeats 8000000
namespace Mine
/-- the strands' signs as they are read, as they are told; 16 is the hyphen between two items -/
def rawTab : List (List Nat) := [[97], [66, 55], [34], [44], [32], [92], [92, 34], [117, 110, 107, 110, 111, 119, 110], [117, 110, 107, 92, 110, 111, 119, 110], [117, 110, 117, 110, 107, 110, 111, 119, 110, 107, 110, 111, 119, 110], [47], [40, 59], [58, 41], [45, 45], [95], [39, 61], [45]]
def toldTab : List (List Nat) := [[97], [66, 55], [45], [44], [32], [45], [45], [], [117, 110, 107, 45, 110, 111, 119, 110], [117, 110, 107, 110, 111, 119, 110], [45], [45], [45], [45], [95], [39, 61], [45]]
def rawT (k : Nat) : List Nat := rawTab.getD k []
def toldT (k : Nat) : List Nat := toldTab.getD k []
def toldU (k : Nat) : List Nat := (toldT k).map fun c => if c = 32 then 95 else c
theorem lt17 {p : Nat → Prop} (h : ∀ k ∈ List.range 17, p k) : ∀ k, k < 17 → p k := fun k hk => h k (List.mem_range.mpr hk)
def tok (q : Bool) (k : Nat) : Nat := if q then (if k = 6 then 2 else if k = 8 then 7 else k) else k
def nq (q : Bool) (k : Nat) : Bool := if k = 2 ∨ (k = 6 ∧ q = false) then !q else q
theorem check1 : ∀ k, k < 16 → ∀ q : Bool, ¬ (k = 3 ∧ q = false) → scan false q (ls (strandOf q k).1) = some (rawT (tok q k), false, nq q k) ∧ ls (strandOf q k).2 = toldT (tok q k) := by
  have h : (List.range 16).all (fun k => [true, false].all fun q => (decide (k = 3 ∧ q = false)) || (decide (scan false q (ls (strandOf q k).1) = some (rawT (tok q k), false, nq q k)) && decide (ls (strandOf q k).2 = toldT (tok q k)))) = true := by decide +kernel
  intro k hk q hn
  have h1 := List.all_eq_true.mp h k (List.mem_range.mpr hk)
  have h2 := List.all_eq_true.mp h1 q (by cases q <;> simp)
  rw [decide_eq_false hn, Bool.false_or, Bool.and_eq_true] at h2
  exact ⟨of_decide_eq_true h2.1, of_decide_eq_true h2.2⟩
theorem tok_lt {q : Bool} {k : Nat} (h : k < 16) : tok q k < 16 := by
  unfold tok
  (repeat' split) <;> omega
theorem tok_ne3 {q : Bool} {k : Nat} (hn : ¬ (k = 3 ∧ q = false)) (h : tok q k = 3) : q = true := by
  cases q with
  | true => rfl
  | false => exact absurd ⟨h, rfl⟩ hn
/-- a comma stands behind a quotation mark -/
def has26 (l : List Nat) : Prop := 2 ∈ l ∨ 6 ∈ l
def OkI (l : List Nat) : Prop := ∀ pre post, l = pre ++ 3 :: post → has26 pre
structure Sim (st : TSt) (done : List (List Nat)) (last : List Nat) : Prop where
  parse : ∃ res part, MParse.parseRun (KStt.codes st.w) = ⟨res, part, false, st.q⟩ ∧ res.map ls = done.map (fun t => t.flatMap rawT) ∧ ls part = last.flatMap rawT
  told : st.done.map (fun d => d.map ls) = done.map (fun t => t.map toldT)
  tlast : st.last.map ls = last.map toldT
  lt : (∀ t ∈ done, ∀ k ∈ t, k < 16) ∧ ∀ k ∈ last, k < 16
  ok : (∀ t ∈ done, OkI t) ∧ OkI last
  quo : st.q = true → has26 last
theorem codes_ls (x : Str) : KStt.codes x = (ls x).map fun k : Nat => (k : Int) := by
  first | rfl | (unfold KStt.codes; rfl) | (unfold KStt.codes; simp)
theorem codes_app (x y : Str) : KStt.codes (x ++ y) = KStt.codes x ++ KStt.codes y := by
  rw [codes_ls, codes_ls, codes_ls, ← List.map_append]
  congr 1
  simp [ls, Str.cps_append]
theorem run_app (x y : Str) : MParse.parseRun (KStt.codes (x ++ y)) = (KStt.codes y).foldl MParse.parseStep (MParse.parseRun (KStt.codes x)) := by
  rw [codes_app]; unfold MParse.parseRun; rw [List.foldl_append]
theorem okI_snoc {l : List Nat} {t : Nat} (h : OkI l) (ht : t = 3 → has26 l) : OkI (l ++ [t]) := by
  intro pre post e
  rcases List.eq_nil_or_concat post with rfl | ⟨post', c, rfl⟩
  · have e2 : l ++ [t] = pre ++ [3] := e
    have h2 := List.append_inj' e2 rfl
    have h3 : t = 3 := by simpa using h2.2
    rw [← h2.1]; exact ht h3
  · have e2 : l ++ [t] = (pre ++ 3 :: post') ++ [c] := by rw [e]; simp
    have h2 := List.append_inj' e2 rfl
    exact h pre post' h2.1
theorem has_snoc {l : List Nat} {t : Nat} (h : has26 l) : has26 (l ++ [t]) := h.elim (fun x => .inl (List.mem_append_left _ x)) fun x => .inr (List.mem_append_left _ x)
theorem sim_step {st : TSt} {done : List (List Nat)} {last : List Nat} (S : Sim st done last) {n : Int} (h0 : 0 ≤ n) (h16 : n < 16) : ∃ done' last', Sim (toldStep st n) done' last' := by
  obtain ⟨⟨res, part, hp, hr, hpart⟩, htd, htl, hlt, hok, hq⟩ := S
  have hk : n.toNat < 16 := by omega
  by_cases hc : n.toNat = 3 ∧ st.q = false
  · refine ⟨done ++ [last], [], ?_⟩
    have e : toldStep st n = ⟨st.w ++ Str.ofString ",", st.done ++ [st.last], [], false⟩ := by
      unfold toldStep
      dsimp only
      rw [if_pos hc, hc.1, hc.2]
      rfl
    rw [e]
    refine ⟨⟨res ++ [part], Str.ofString "", ?_, ?_, ?_⟩, ?_, rfl, ⟨?_, fun _ h => nomatch h⟩, ⟨?_, fun pre post e => ?_⟩, fun h => nomatch h⟩
    · show MParse.parseRun (KStt.codes (st.w ++ Str.ofString ",")) = _
      rw [run_app, hp, hc.2, codes_ls, show ls (Str.ofString ",") = [44] by decide +kernel]
      rfl
    · rw [List.map_append, List.map_append, hr, List.map_cons, List.map_cons, hpart]; rfl
    · show ls (Str.ofString "") = []; decide +kernel
    · show (st.done ++ [st.last]).map _ = _
      rw [List.map_append, List.map_append, htd, List.map_cons, List.map_cons, htl]; rfl
    · intro t ht
      rcases List.mem_append.mp ht with ht | ht
      · exact hlt.1 t ht
      · rw [List.mem_singleton.mp ht]; exact hlt.2
    · intro t ht
      rcases List.mem_append.mp ht with ht | ht
      · exact hok.1 t ht
      · rw [List.mem_singleton.mp ht]; exact hok.2
    · cases pre <;> cases e
  · obtain ⟨c1, c2⟩ := check1 n.toNat hk st.q hc
    refine ⟨done, last ++ [tok st.q n.toNat], ?_⟩
    have e : toldStep st n = ⟨st.w ++ (strandOf st.q n.toNat).1, st.done, st.last ++ [(strandOf st.q n.toNat).2], nq st.q n.toNat⟩ := by
      unfold toldStep
      dsimp only
      rw [if_neg hc]
      rfl
    rw [e]
    refine ⟨⟨res, part ++ mkS (rawT (tok st.q n.toNat)), ?_, hr, ?_⟩, htd, ?_, ⟨hlt.1, ?_⟩, ⟨hok.1, okI_snoc hok.2 fun h3 => hq (tok_ne3 hc h3)⟩, ?_⟩
    · show MParse.parseRun (KStt.codes (st.w ++ (strandOf st.q n.toNat).1)) = _
      rw [run_app, hp, codes_ls]
      exact scan_run _ _ _ _ _ _ res part c1
    · show ls (part ++ mkS _) = _
      rw [List.flatMap_append, ← hpart]
      simp [ls, Str.cps_append, mkS]
    · show (st.last ++ [(strandOf st.q n.toNat).2]).map ls = _
      rw [List.map_append, List.map_append, htl, List.map_cons, List.map_cons, c2]; rfl
    · intro k hk2
      rcases List.mem_append.mp hk2 with hk2 | hk2
      · exact hlt.2 k hk2
      · rw [List.mem_singleton.mp hk2]; exact tok_lt hk
    · intro hnq
      have hnq' : nq st.q n.toNat = true := hnq
      cases hqq : st.q with
      | true => exact has_snoc (hq hqq)
      | false =>
        rw [hqq] at hnq'
        unfold nq at hnq'
        by_cases h2 : n.toNat = 2
        · left; rw [h2]; exact List.mem_append_right _ (List.mem_singleton.mpr rfl)
        · by_cases h6 : n.toNat = 6
          · right; rw [h6]; exact List.mem_append_right _ (List.mem_singleton.mpr rfl)
          · rw [if_neg (by simp [h2, h6])] at hnq'; cases hnq'
theorem sim_fold : ∀ (ns : List Int) (st : TSt) (done : List (List Nat)) (last : List Nat), Sim st done last → (∀ n ∈ ns, 0 ≤ n ∧ n < 16) → ∃ done' last', Sim (ns.foldl toldStep st) done' last'
  | [], _, done, last, S, _ => ⟨done, last, S⟩
  | n :: r, st, done, last, S, h => by
    obtain ⟨d, l, S'⟩ := sim_step S (h n (List.mem_cons_self ..)).1 (h n (List.mem_cons_self ..)).2
    exact sim_fold r _ d l S' fun m hm => h m (List.mem_cons_of_mem _ hm)
theorem sim_run {ns : List Int} (h : ∀ n ∈ ns, 0 ≤ n ∧ n < 16) : ∃ done last, Sim (toldRun ns) done last := by
  refine sim_fold ns _ [] [] ⟨⟨[], Str.ofString "", ?_, rfl, ?_⟩, rfl, rfl, ⟨(fun _ h => nomatch h), (fun _ h => nomatch h)⟩, ⟨(fun _ h => nomatch h), fun pre post e => ?_⟩, fun h => nomatch h⟩ h
  · rw [codes_ls, show ls (Str.ofString "") = [] by decide +kernel]; rfl
  · show ls (Str.ofString "") = []; decide +kernel
  · cases pre <;> cases e
end Mine
end -- Law3

section -- Law4
open PySem PySem.W PySem.Calls PyProof.Rows
set_option Elab.async false
set_option maxRecDepth 100000
set_option maxHeartbeats 8000000
namespace Mine
theorem ofString_empty {x : Str} : x = Str.ofString "" ↔ ls x = [] := by
  constructor
  · rintro rfl; decide +kernel
  · intro h; exact str_eq (by show ls x = _; rw [h]; decide +kernel)
theorem trim_nil {α : Type} (p : α → Bool) : trim p ([] : List α) = [] := rfl
abbrev tS (l : List Nat) : List Nat := trim Unicode.isSpace l
theorem pieces_of {x : Str} {res : List Str} {part : Str} {e q : Bool} (h : MParse.parseRun (KStt.codes x) = ⟨res, part, e, q⟩) :
    (((MParse.parseF x).filter nz).map Txt.strip).map ls = (((res ++ [part]).map ls).map tS).filter neL := by
  have aux : ∀ P : List Str, (((P.map Txt.strip).filter nz).map Txt.strip).map ls = ((P.map ls).map tS).filter neL := by
    intro P
    induction P with
    | nil => rfl
    | cons a r ih =>
      simp only [List.map_cons]
      have hn : nz (Txt.strip a) = neL (tS (ls a)) := by rw [nz_ls, strip_ls]
      by_cases hz : neL (tS (ls a)) = true
      · rw [List.filter_cons_of_pos (by rw [hn]; exact hz), List.filter_cons_of_pos hz]
        simp only [List.map_cons]
        rw [ih, strip_ls, strip_ls, trim_idem]
      · rw [List.filter_cons_of_neg (by rw [hn]; exact hz), List.filter_cons_of_neg hz, ih]
  unfold MParse.parseF
  rw [h]
  show ((((if part = Str.ofString "" then res else res ++ [part]).map Txt.strip).filter nz).map Txt.strip).map ls = _
  rw [aux]
  by_cases hp : part = Str.ofString ""
  · rw [if_pos hp, List.map_append, List.map_append, List.filter_append]
    simp only [List.map_cons, List.map_nil]
    rw [ofString_empty.mp hp, List.filter_cons_of_neg (by rw [show tS [] = [] from rfl]; simp [neL])]
    simp
  · rw [if_neg hp]
theorem raw_facts : ∀ k, k < 17 → (((k == 4) = true → rawT k ≠ [] ∧ ∀ b ∈ rawT k, Unicode.isSpace b = true) ∧ ((k == 4) = false → (∃ b r, rawT k = b :: r ∧ Unicode.isSpace b = false) ∧ ∃ b r, (rawT k).reverse = b :: r ∧ Unicode.isSpace b = false)) := by
  have h : (List.range 17).all (fun k => if k == 4 then decide (rawT k ≠ []) && (rawT k).all Unicode.isSpace else (match rawT k with | b :: _ => !Unicode.isSpace b | [] => false) && (match (rawT k).reverse with | b :: _ => !Unicode.isSpace b | [] => false)) = true := by decide +kernel
  intro k hk
  have h1 := List.all_eq_true.mp h k (List.mem_range.mpr hk)
  constructor
  · intro h4
    rw [h4, if_pos rfl, Bool.and_eq_true] at h1
    exact ⟨of_decide_eq_true h1.1, List.all_eq_true.mp h1.2⟩
  · intro h4
    rw [h4, if_neg Bool.false_ne_true, Bool.and_eq_true] at h1
    constructor
    · cases q : rawT k with
      | nil => rw [q] at h1; cases h1.1
      | cons b r => rw [q] at h1; exact ⟨b, r, rfl, by simpa using h1.1⟩
    · cases q : (rawT k).reverse with
      | nil => rw [q] at h1; cases h1.2
      | cons b r => rw [q] at h1; exact ⟨b, r, rfl, by simpa using h1.2⟩
theorem trim_raw {t : List Nat} (h : ∀ k ∈ t, k < 17) : tS (t.flatMap rawT) = (trim (· == 4) t).flatMap rawT := by
  unfold tS trim
  rw [dropWhile_flat Unicode.isSpace (· == 4) rawT t (fun a ha hq => (raw_facts a (h a ha)).1 hq) (fun a ha hq => ((raw_facts a (h a ha)).2 hq).1)]
  have hd : ∀ k ∈ t.dropWhile (· == 4), k < 17 := fun k hk => h k ((List.dropWhile_sublist _).subset hk)
  generalize t.dropWhile (· == 4) = d at hd
  rw [flat_rev, dropWhile_flat Unicode.isSpace (· == 4) (fun a => (rawT a).reverse) d.reverse (fun a ha hq => ?_) (fun a ha hq => ((raw_facts a (hd a (List.mem_reverse.mp ha))).2 hq).2)]
  · rw [flat_rev]
    simp
  · have := (raw_facts a (hd a (List.mem_reverse.mp ha))).1 hq
    exact ⟨by simpa using this.1, fun b hb => this.2 b (List.mem_reverse.mp hb)⟩
theorem raw_ne {k : Nat} (h : k < 17) : rawT k ≠ [] := by
  cases hq : k == 4 with
  | true => exact ((raw_facts k h).1 hq).1
  | false => obtain ⟨b, r, e, _⟩ := ((raw_facts k h).2 hq).1; rw [e]; simp
theorem neL_raw {t : List Nat} (h : ∀ k ∈ t, k < 17) : neL (t.flatMap rawT) = neL t := by
  cases t with
  | nil => rfl
  | cons a r =>
    have := raw_ne (h a (List.mem_cons_self ..))
    rw [List.flatMap_cons]
    cases q : rawT a with
    | nil => exact absurd q this
    | cons _ _ => rfl
/-- the items that have a sign -/
def kept (items : List (List Nat)) : List (List Nat) := (items.map (trim (· == 4))).filter neL
theorem raw_side {items : List (List Nat)} (h : ∀ t ∈ items, ∀ k ∈ t, k < 17) : ((items.map (fun t => t.flatMap rawT)).map tS).filter neL = (kept items).map (fun t => t.flatMap rawT) := by
  unfold kept
  induction items with
  | nil => rfl
  | cons t r ih =>
    have ih := ih fun t ht => h t (List.mem_cons_of_mem _ ht)
    have ht := h t (List.mem_cons_self ..)
    have htr : ∀ k ∈ trim (· == 4) t, k < 17 := fun k hk => ht k (trim_mem hk)
    simp only [List.map_cons]
    rw [trim_raw ht]
    by_cases hz : neL (trim (· == 4) t) = true
    · rw [List.filter_cons_of_pos (by rw [neL_raw htr]; exact hz), List.filter_cons_of_pos hz, List.map_cons, ih]
    · rw [List.filter_cons_of_neg (by rw [neL_raw htr]; exact hz), List.filter_cons_of_neg hz, ih]
theorem dropL_eq : ∀ l : List Str, MBare.dropL l = l.dropWhile (fun x => x == Str.ofString " ")
  | [] => rfl
  | x :: r => by
    rw [List.dropWhile_cons]
    show (if x == Str.ofString " " then MBare.dropL r else x :: r) = _
    rw [dropL_eq r]
theorem bare_trim (l : List Str) : MBare.bareF l = trim (fun x => x == Str.ofString " ") l := by
  unfold MBare.bareF MBare.dropR trim
  rw [dropL_eq, dropL_eq]
theorem dropWhile_congr {α : Type} {p q : α → Bool} : ∀ {l : List α}, (∀ a ∈ l, p a = q a) → l.dropWhile p = l.dropWhile q
  | [], _ => rfl
  | a :: r, h => by
    rw [List.dropWhile_cons, List.dropWhile_cons, h a (List.mem_cons_self ..), dropWhile_congr fun b hb => h b (List.mem_cons_of_mem _ hb)]
theorem trim_congr {α : Type} {p q : α → Bool} {l : List α} (h : ∀ a ∈ l, p a = q a) : trim p l = trim q l := by
  unfold trim
  rw [dropWhile_congr h]
  rw [dropWhile_congr fun a ha => h a ((List.dropWhile_sublist q).subset (List.mem_reverse.mp ha))]
theorem told4 : ∀ k, k < 16 → (toldT k == [32]) = (k == 4) := by
  have h : (List.range 16).all (fun k => (toldT k == [32]) == (k == 4)) = true := by decide +kernel
  intro k hk
  exact eq_of_beq (List.all_eq_true.mp h k (List.mem_range.mpr hk))
theorem bare_ls {d : List Str} {t : List Nat} (h : d.map ls = t.map toldT) (ht : ∀ k ∈ t, k < 16) : (MBare.bareF d).map ls = (trim (· == 4) t).map toldT := by
  have e1 : MBare.bareF d = trim (fun x => (ls x) == [32]) d := by
    rw [bare_trim]
    apply trim_congr
    intro x _
    rw [Bool.eq_iff_iff, beq_iff_eq, beq_iff_eq]
    constructor
    · rintro rfl; decide +kernel
    · intro e; exact str_eq (by show ls x = _; rw [e]; decide +kernel)
  rw [e1, ← trim_map (fun y => y == [32]) ls d, h, trim_map (fun y => y == [32]) toldT t]
  rw [trim_congr fun k hk => told4 k (ht k hk)]
theorem icalate_nil : ∀ l : List (List Nat), List.intercalate [] l = l.flatten
  | [] => rfl
  | [a] => by simp [List.intercalate]
  | a :: b :: r => by
    rw [icalate_cons _ _ (by simp), icalate_nil (b :: r)]; simp
theorem nmF_ls {d : List Str} {t : List Nat} (h : d.map ls = t.map toldT) : ls (nmF d) = t.flatMap toldU := by
  unfold nmF
  rw [one_eq " " 32 (by decide +kernel) _ "_" 95 (by decide +kernel), join_ls, show ls (Str.ofString "") = [] by decide +kernel, icalate_nil, h]
  clear h
  induction t with
  | nil => rfl
  | cons a r ih => rw [List.map_cons, List.flatten_cons, List.map_append, ih, List.flatMap_cons]; rfl
theorem told_side {ds : List (List Str)} {items : List (List Nat)} (h : ds.map (fun d => d.map ls) = items.map (fun t => t.map toldT)) (hk : ∀ t ∈ items, ∀ k ∈ t, k < 16) :
    (((ds.map MBare.bareF).filter fun d => !d.isEmpty).map nmF).map ls = (kept items).map (fun t => t.flatMap toldU) := by
  unfold kept
  induction items generalizing ds with
  | nil => cases ds with
    | nil => rfl
    | cons _ _ => cases h
  | cons t r ih =>
    cases ds with
    | nil => cases h
    | cons d ds =>
      simp only [List.map_cons, List.cons.injEq] at h
      have ih := ih h.2 fun t ht => hk t (List.mem_cons_of_mem _ ht)
      have hb := bare_ls h.1 (hk t (List.mem_cons_self ..))
      have hem : (!(MBare.bareF d).isEmpty) = neL (trim (· == 4) t) := by
        unfold neL
        have := congrArg List.isEmpty hb
        rw [List.isEmpty_map, List.isEmpty_map] at this
        rw [this]
      simp only [List.map_cons]
      by_cases hz : neL (trim (· == 4) t) = true
      · rw [List.filter_cons_of_pos (p := fun d : List Str => !d.isEmpty) (by rw [hem]; exact hz), List.filter_cons_of_pos hz]
        simp only [List.map_cons]
        rw [ih, nmF_ls hb]
      · rw [List.filter_cons_of_neg (p := fun d : List Str => !d.isEmpty) (by rw [hem]; exact hz), List.filter_cons_of_neg hz, ih]
theorem icalate_flat {f : Nat → List Nat} (h16 : f 16 = [45]) : ∀ tt : List (List Nat), List.intercalate [45] (tt.map (fun t => t.flatMap f)) = (List.intercalate [16] tt).flatMap f
  | [] => rfl
  | [a] => by simp [List.intercalate]
  | a :: b :: r => by
    rw [List.map_cons, icalate_cons _ _ (by simp), icalate_flat h16 (b :: r), icalate_cons [16] a (l := b :: r) (by simp), List.flatMap_append, List.flatMap_append]
    rw [show List.flatMap f [16] = [45] by simp [h16]]
theorem icalate_mem {tt : List (List Nat)} {k : Nat} (h : k ∈ List.intercalate [16] tt) : k = 16 ∨ ∃ t ∈ tt, k ∈ t := by
  match tt, h with
  | [a], h => rw [icalate_one] at h; exact .inr ⟨a, List.mem_singleton.mpr rfl, h⟩
  | a :: b :: r, h =>
    rw [icalate_cons _ _ (by simp)] at h
    rcases List.mem_append.mp h with h | h
    · rcases List.mem_append.mp h with h | h
      · exact .inr ⟨a, List.mem_cons_self .., h⟩
      · exact .inl (List.mem_singleton.mp h)
    · rcases icalate_mem h with h | ⟨t, ht, hk⟩
      · exact .inl h
      · exact .inr ⟨t, List.mem_cons_of_mem _ ht, hk⟩
theorem cases17 {k : Nat} (h : k < 17) : k = 0 ∨ k = 1 ∨ k = 2 ∨ k = 3 ∨ k = 4 ∨ k = 5 ∨ k = 6 ∨ k = 7 ∨ k = 8 ∨ k = 9 ∨ k = 10 ∨ k = 11 ∨ k = 12 ∨ k = 13 ∨ k = 14 ∨ k = 15 ∨ k = 16 := by omega
theorem U_raw {k : Nat} (h : k < 17) (Y : List Nat) : Uu ((rawT k).map mapM ++ Y) = Uu ((rawT k).map mapM) ++ Uu Y := by
  rcases cases17 h with rfl | rfl | rfl | rfl | rfl | rfl | rfl | rfl | rfl | rfl | rfl | rfl | rfl | rfl | rfl | rfl | rfl <;> rfl
theorem F_raw {k : Nat} (h : k < 17) (Z : List Nat) : (Uu ((rawT k).map mapM)).foldr stepD Z = (toldU k).foldr stepD Z := by
  rcases cases17 h with rfl | rfl | rfl | rfl | rfl | rfl | rfl | rfl | rfl | rfl | rfl | rfl | rfl | rfl | rfl | rfl | rfl <;> first | rfl | exact stepD_idem Z
theorem once_core : ∀ T : List Nat, (∀ k ∈ T, k < 17) → Fd (Uu ((T.flatMap rawT).map mapM)) = Fd (T.flatMap toldU)
  | [], _ => rfl
  | k :: r, h => by
    have hk := h k (List.mem_cons_self ..)
    rw [List.flatMap_cons, List.map_append, U_raw hk, Fd_append, once_core r fun m hm => h m (List.mem_cons_of_mem _ hm), F_raw hk, List.flatMap_cons, Fd_append]
/-- the tokens of the whole -/
theorem once_law {ns : List Int} (h : ∀ n ∈ ns, 0 ≤ n ∧ n < 16) : platF (MParse.parseF (toldRun ns).w) = MFold.foldF (joinedF (toldRun ns)) ∧
    ∃ items, (∀ t ∈ items, (∀ k ∈ t, k < 16) ∧ OkI t) ∧ ls (joinedF (toldRun ns)) = (List.intercalate [16] (kept items)).flatMap toldU := by
  obtain ⟨done, last, ⟨res, part, hp, hr, hpart⟩, htd, htl, hlt, hok, _⟩ := sim_run h
  have hall : ∀ t ∈ done ++ [last], (∀ k ∈ t, k < 16) ∧ OkI t := by
    intro t ht
    rcases List.mem_append.mp ht with ht | ht
    · exact ⟨hlt.1 t ht, hok.1 t ht⟩
    · rw [List.mem_singleton.mp ht]; exact ⟨hlt.2, hok.2⟩
  have hj : ls (joinedF (toldRun ns)) = (List.intercalate [16] (kept (done ++ [last]))).flatMap toldU := by
    unfold joinedF namesF
    rw [join_ls, show ls (Str.ofString "-") = [45] by decide +kernel, told_side (items := done ++ [last]) (by rw [List.map_append, List.map_append, htd, List.map_cons, List.map_cons, htl]; rfl) fun t ht => (hall t ht).1]
    exact icalate_flat (by decide) _
  refine ⟨?_, done ++ [last], hall, hj⟩
  apply str_eq
  show ls _ = ls _
  rw [foldF_ls, platF_ls, pieces_of hp, show (res ++ [part]).map ls = (done ++ [last]).map (fun t => t.flatMap rawT) by rw [List.map_append, List.map_append, hr, List.map_cons, List.map_cons, hpart]; rfl,
    raw_side fun t ht k hk => Nat.lt_succ_of_lt ((hall t ht).1 k hk), icalate_flat (by decide), hj]
  apply once_core
  intro k hk
  rcases icalate_mem hk with rfl | ⟨t, ht, hkt⟩
  · decide
  · unfold kept at ht
    obtain ⟨t', ht', rfl⟩ := List.mem_map.mp (List.mem_filter.mp ht).1
    exact Nat.lt_succ_of_lt ((hall t' ht').1 k (trim_mem hkt))
end Mine
end -- Law4

section -- Law5
open PySem PySem.W PySem.Calls PyProof.Rows
set_option Elab.async false
set_option maxRecDepth 100000
set_option maxHeartbeats 8000000
namespace Mine
theorem step_tok {k : Nat} (h : k < 17) (Z : List Nat) : (toldU k).foldr stepD Z = toldU k ++ Z ∨ (toldU k).foldr stepD Z = Z := by
  have d : stepD 45 Z = 45 :: Z ∨ stepD 45 Z = Z := by
    cases Z with
    | nil => exact .inr rfl
    | cons c r =>
      by_cases hc : c = 45
      · subst hc; exact .inr rfl
      · exact .inl (stepD_other hc r)
  rcases cases17 h with rfl | rfl | rfl | rfl | rfl | rfl | rfl | rfl | rfl | rfl | rfl | rfl | rfl | rfl | rfl | rfl | rfl <;> first | exact d | exact .inl rfl
theorem FdT : ∀ T : List Nat, (∀ k ∈ T, k < 17) → ∃ T' : List Nat, Fd (T.flatMap toldU) = T'.flatMap toldU ∧ ∀ k ∈ T', k ∈ T
  | [], _ => ⟨[], rfl, fun _ h => h⟩
  | k :: r, h => by
    obtain ⟨T', e, hm⟩ := FdT r fun m hm => h m (List.mem_cons_of_mem _ hm)
    rw [List.flatMap_cons, Fd_append, e]
    rcases step_tok (h k (List.mem_cons_self ..)) (T'.flatMap toldU) with q | q
    · refine ⟨k :: T', by rw [q, List.flatMap_cons], fun m hm' => ?_⟩
      rcases List.mem_cons.mp hm' with rfl | hm'
      · exact List.mem_cons_self ..
      · exact List.mem_cons_of_mem _ (hm m hm')
    · exact ⟨T', q, fun m hm' => List.mem_cons_of_mem _ (hm m hm')⟩
def Good (c : Nat) : Prop := c ≠ 34 ∧ c ≠ 92 ∧ mapM c = c ∧ Unicode.isSpace c = false
theorem good_tok {k : Nat} (h : k < 17) : ∀ c ∈ toldU k, Good c := by
  have hh : (List.range 17).all (fun k => (toldU k).all fun c => decide (c ≠ 34) && (decide (c ≠ 92) && (decide (mapM c = c) && !Unicode.isSpace c))) = true := by decide +kernel
  intro c hc
  have h1 := List.all_eq_true.mp (List.all_eq_true.mp hh k (List.mem_range.mpr h)) c hc
  simp only [Bool.and_eq_true, decide_eq_true_eq, Bool.not_eq_true'] at h1
  exact ⟨h1.1, h1.2.1, h1.2.2.1, h1.2.2.2⟩
theorem good_flat {T : List Nat} (h : ∀ k ∈ T, k < 17) : ∀ c ∈ T.flatMap toldU, Good c := by
  intro c hc
  obtain ⟨k, hk, hck⟩ := List.mem_flatMap.mp hc
  exact good_tok (h k hk) c hck
open MParse in
theorem plain_run : ∀ (l : List Nat) (res : List Str) (part : Str), (∀ c ∈ l, c ≠ 34 ∧ c ≠ 92) → ∃ res' part', (l.map fun k : Nat => (k : Int)).foldl parseStep ⟨res, part, false, false⟩ = ⟨res', part', false, false⟩ ∧ (res' ++ [part']).map ls = res.map ls ++ spL [44] 0 (ls part) l
  | [], res, part, _ => ⟨res, part, rfl, by rw [List.map_append]; rfl⟩
  | c :: r, res, part, h => by
    have hr := fun d hd => h d (List.mem_cons_of_mem _ hd)
    have h34 := (h c (List.mem_cons_self ..)).1
    rw [List.map_cons, List.foldl_cons]
    by_cases hc : c = 44
    · subst hc
      obtain ⟨res', part', e1, e2⟩ := plain_run r (res ++ [part]) (Str.ofString "") hr
      refine ⟨res', part', ?_, ?_⟩
      · rw [← e1]; rfl
      · rw [e2, show ls (Str.ofString "") = [] by decide +kernel, List.map_append]
        show (res.map ls ++ [ls part]) ++ spL [44] 0 [] r = res.map ls ++ (ls part :: spL [44] 0 [] r)
        simp
    · obtain ⟨res', part', e1, e2⟩ := plain_run r res (part ++ chS c) hr
      have i44 : ¬ ((c : Nat) : Int) = 44 := by omega
      have i34 : ¬ ((c : Nat) : Int) = 34 := by omega
      refine ⟨res', part', ?_, ?_⟩
      · rw [← e1]
        congr 1
        show (if false then _ else if false then _ else if ((c : Nat) : Int) = 44 then _ else if ((c : Nat) : Int) = 34 then _ else _) = _
        simp only [i44, i34, if_false, Bool.false_eq_true, Int.toNat_natCast]
      · rw [e2]
        have e3 : ls (part ++ chS c) = ls part ++ [c] := by simp [ls, Str.cps_append, chS]
        rw [e3]
        congr 1
        show _ = if [44].isPrefixOf (c :: r) then _ else spL [44] 0 (ls part ++ [c]) r
        rw [if_neg (by simp [List.isPrefixOf]; exact fun e => hc e.symm)]
theorem sp_mem (p : List Nat) : ∀ (l : List Nat) (k : Nat) (cur q : List Nat) (c : Nat), q ∈ spL p k cur l → c ∈ q → c ∈ cur ∨ c ∈ l
  | [], k, cur, q, c, hq, hc => by
    have : q = cur := by cases k <;> simpa [spL] using hq
    exact .inl (this ▸ hc)
  | d :: r, k + 1, cur, q, c, hq, hc => by
    simp only [spL] at hq
    exact (sp_mem p r k cur q c hq hc).imp id fun h => List.mem_cons_of_mem _ h
  | d :: r, 0, cur, q, c, hq, hc => by
    simp only [spL] at hq
    split at hq
    · rcases List.mem_cons.mp hq with rfl | hq
      · exact .inl hc
      · rcases sp_mem p r _ [] q c hq hc with h | h
        · cases h
        · exact .inr (List.mem_cons_of_mem _ h)
    · rcases sp_mem p r 0 _ q c hq hc with h | h
      · rcases List.mem_append.mp h with h | h
        · exact .inl h
        · rw [List.mem_singleton.mp h]; exact .inr (List.mem_cons_self ..)
      · exact .inr (List.mem_cons_of_mem _ h)
theorem sp44_free : ∀ (l cur : List Nat), 44 ∉ cur → ∀ q ∈ spL [44] 0 cur l, 44 ∉ q
  | [], cur, h, q, hq => by
    rw [show spL [44] 0 cur [] = [cur] from rfl, List.mem_singleton] at hq; rw [hq]; exact h
  | c :: r, cur, h, q, hq => by
    simp only [spL] at hq
    split at hq
    · rcases List.mem_cons.mp hq with rfl | hq
      · exact h
      · exact sp44_free r [] (by simp) q hq
    · rename_i hc
      refine sp44_free r (cur ++ [c]) ?_ q hq
      intro hm
      rcases List.mem_append.mp hm with hm | hm
      · exact h hm
      · exact hc (by rw [← List.mem_singleton.mp hm]; rfl)
theorem trim_free {α : Type} {p : α → Bool} {l : List α} (h : ∀ a ∈ l, p a = false) : trim p l = l := by
  unfold trim
  rw [dropWhile_id (l := l) (fun a r e => h a (by rw [e]; exact List.mem_cons_self ..)), dropWhile_id (l := l.reverse) (fun a r e => h a (List.mem_reverse.mp (by rw [e]; exact List.mem_cons_self ..))), List.reverse_reverse]
theorem icalate_good {ps : List (List Nat)} (h : ∀ q ∈ ps, ∀ c ∈ q, Good c) : (List.intercalate [45] ps).map mapM = List.intercalate [45] ps := by
  have : ∀ c ∈ List.intercalate [45] ps, mapM c = c := by
    induction ps with
    | nil => intro c hc; cases hc
    | cons a r ih =>
      intro c hc
      cases r with
      | nil => rw [icalate_one] at hc; exact (h a (List.mem_cons_self ..) c hc).2.2.1
      | cons b r =>
        rw [icalate_cons _ _ (by simp)] at hc
        rcases List.mem_append.mp hc with hc | hc
        · rcases List.mem_append.mp hc with hc | hc
          · exact (h a (List.mem_cons_self ..) c hc).2.2.1
          · rw [List.mem_singleton.mp hc]; rfl
        · exact ih (fun q hq => h q (List.mem_cons_of_mem _ hq)) c hc
  rw [List.map_congr_left this]; simp
/-- a name read as a header and made a name -/
theorem again_ls {x : Str} (h : ∀ c ∈ ls x, Good c) : ls (platF (MParse.parseF x)) = Fd (Uu (List.intercalate [45] ((spL [44] 0 [] (ls x)).filter neL))) := by
  obtain ⟨res, part, e1, e2⟩ := plain_run (ls x) [] (Str.ofString "") fun c hc => ⟨(h c hc).1, (h c hc).2.1⟩
  rw [show ls (Str.ofString "") = [] by decide +kernel] at e2
  have hp : MParse.parseRun (KStt.codes x) = ⟨res, part, false, false⟩ := by rw [codes_ls]; exact e1
  have hg : ∀ q ∈ spL [44] 0 [] (ls x), ∀ c ∈ q, Good c := fun q hq c hc => by
    rcases sp_mem [44] (ls x) 0 [] q c hq hc with h' | h'
    · cases h'
    · exact h c h'
  rw [platF_ls, pieces_of hp, e2, List.map_nil, List.nil_append]
  rw [show (spL [44] 0 [] (ls x)).map tS = spL [44] 0 [] (ls x) from by
    conv => rhs; rw [← List.map_id (spL [44] 0 [] (ls x))]
    exact List.map_congr_left fun q hq => trim_free fun c hc => (hg q hq c hc).2.2.2]
  rw [icalate_good fun q hq => hg q (List.mem_filter.mp hq).1]
theorem pre_sep {p : List Nat} {c : Nat} (hc : c ∉ p) : ∀ (a b : List Nat), p.isPrefixOf (a ++ c :: b) = p.isPrefixOf a := by
  induction p with
  | nil => intro a b; rfl
  | cons d p ih =>
    intro a b
    cases a with
    | nil =>
      have : ¬ d = c := fun e => hc (by rw [e]; exact List.mem_cons_self ..)
      simp [List.isPrefixOf, this]
    | cons x a =>
      simp only [List.cons_append, List.isPrefixOf]
      rw [ih (fun h => hc (List.mem_cons_of_mem _ h))]
theorem rp_sep {p z : List Nat} {c : Nat} (hc : c ∉ p) (hp : 1 ≤ p.length) (b : List Nat) : ∀ (a : List Nat) (k : Nat), k ≤ a.length → rpL p z k (a ++ c :: b) = rpL p z k a ++ c :: rpL p z 0 b
  | [], k, hk => by
    have : k = 0 := by simpa using hk
    subst this
    simp only [List.nil_append, rpL]
    have := pre_sep hc [] b
    rw [List.nil_append] at this
    have hn : p.isPrefixOf [] = false := by cases p; simp at hp; rfl
    rw [if_neg (by rw [this, hn]; exact Bool.false_ne_true)]
  | x :: a, k + 1, hk => by
    simp only [List.cons_append, rpL]
    exact rp_sep hc hp b a k (by simpa using hk)
  | x :: a, 0, _ => by
    simp only [List.cons_append, rpL]
    have := pre_sep hc (x :: a) b
    rw [List.cons_append] at this
    rw [this]
    by_cases hq : p.isPrefixOf (x :: a) = true
    · rw [if_pos hq, if_pos hq, rp_sep hc hp b a _ (by have := pre_len hq; simp at this; omega), List.append_assoc]
    · rw [if_neg hq, if_neg hq, rp_sep hc hp b a 0 (Nat.zero_le _)]; rfl
theorem Uu_sep {c : Nat} (hc : c ∉ UN) (a b : List Nat) : Uu (a ++ c :: b) = Uu a ++ c :: Uu b := rp_sep hc (by decide) b a 0 (Nat.zero_le _)
theorem Uu_icalate {c : Nat} (hc : c ∉ UN) : ∀ ps : List (List Nat), Uu (List.intercalate [c] ps) = List.intercalate [c] (ps.map Uu)
  | [] => rfl
  | [a] => by simp [List.intercalate]
  | a :: b :: r => by
    rw [icalate_cons _ _ (l := b :: r) (by simp), List.append_assoc, List.singleton_append, Uu_sep hc, Uu_icalate hc (b :: r)]
    show _ = List.intercalate [c] (Uu a :: (b :: r).map Uu)
    rw [icalate_cons _ _ (l := (b :: r).map Uu) (by simp), List.append_assoc, List.singleton_append]
def c2d (k : Nat) : Nat := if k = 44 then 45 else k
theorem rp_mem (p : List Nat) : ∀ (l : List Nat) (k c : Nat), c ∈ rpL p [] k l → c ∈ l
  | [], k, c, h => by cases k <;> simp [rpL] at h
  | d :: r, k + 1, c, h => by simp only [rpL] at h; exact List.mem_cons_of_mem _ (rp_mem p r k c h)
  | d :: r, 0, c, h => by
    simp only [rpL] at h
    split at h
    · exact List.mem_cons_of_mem _ (rp_mem p r _ c h)
    · rcases List.mem_cons.mp h with rfl | h
      · exact List.mem_cons_self ..
      · exact List.mem_cons_of_mem _ (rp_mem p r 0 c h)
theorem icalate_c2d : ∀ ps : List (List Nat), (∀ q ∈ ps, 44 ∉ q) → (List.intercalate [44] ps).map c2d = List.intercalate [45] ps
  | [], _ => rfl
  | [a], h => by
    rw [icalate_one, icalate_one]
    have : ∀ c ∈ a, c2d c = c := fun c hc => (show (if c = 44 then 45 else c) = c from if_neg fun e => h a (List.mem_singleton.mpr rfl) (by rw [← e]; exact hc))
    rw [List.map_congr_left this]; simp
  | a :: b :: r, h => by
    have : ∀ c ∈ a, c2d c = c := fun c hc => (show (if c = 44 then 45 else c) = c from if_neg fun e => h a (List.mem_cons_self ..) (by rw [← e]; exact hc))
    rw [icalate_cons _ _ (by simp), List.map_append, List.map_append, icalate_c2d (b :: r) fun q hq => h q (List.mem_cons_of_mem _ hq), List.map_congr_left this, icalate_cons [45] a (l := b :: r) (by simp)]
    simp [c2d]
theorem icalate_flat2 (a : List Nat) : ∀ r : List (List Nat), List.intercalate [45] (a :: r) = a ++ r.flatMap (fun p => 45 :: p)
  | [] => by rw [icalate_one]; simp
  | b :: r => by rw [icalate_cons _ _ (by simp), icalate_flat2 b r]; simp
theorem Fd_drop : ∀ r : List (List Nat), Fd ((r.map Uu).flatMap (fun p => 45 :: p)) = Fd (((r.filter neL).map Uu).flatMap (fun p => 45 :: p))
  | [] => rfl
  | p :: r => by
    have ih := Fd_drop r
    by_cases h : neL p = true
    · rw [List.filter_cons_of_pos h, List.map_cons, List.map_cons, List.flatMap_cons, List.flatMap_cons, Fd_append, Fd_append, ih]
    · rw [List.filter_cons_of_neg h, ← ih]
      have hp : p = [] := by cases p; rfl; exact absurd rfl h
      subst hp
      rw [List.map_cons, List.flatMap_cons]
      show stepD 45 (Fd ((r.map Uu).flatMap fun p => 45 :: p)) = _
      cases r with
      | nil => rfl
      | cons b r =>
        rw [List.map_cons, List.flatMap_cons, List.cons_append, Fd_cons, stepD_idem]
theorem twice_core {ps : List (List Nat)} (h1 : ∀ q ∈ ps, 44 ∉ q) (h2 : ps = [[]] ∨ ∃ p0 r, ps = p0 :: r ∧ p0 ≠ []) : Fd (Uu (List.intercalate [45] (ps.filter neL))) = Fd ((Uu (List.intercalate [44] ps)).map c2d) := by
  rw [Uu_icalate (by decide), Uu_icalate (by decide), icalate_c2d _ (fun q hq => by
    obtain ⟨q', hq', rfl⟩ := List.mem_map.mp hq
    exact fun hm => h1 q' hq' (rp_mem UN q' 0 44 hm))]
  rcases h2 with rfl | ⟨p0, r, rfl, hp⟩
  · rfl
  · rw [List.filter_cons_of_pos (by cases p0; exact absurd rfl hp; rfl), List.map_cons, List.map_cons, icalate_flat2, icalate_flat2, Fd_append, Fd_append, Fd_drop r]
theorem sp_first : ∀ (l cur : List Nat), ∃ p0 r t, spL [44] 0 cur l = p0 :: r ∧ p0 = cur ++ t
  | [], cur => ⟨cur, [], [], rfl, by simp⟩
  | c :: r, cur => by
    simp only [spL]
    split
    · exact ⟨cur, _, [], rfl, by simp⟩
    · obtain ⟨p0, r', t, e, e2⟩ := sp_first r (cur ++ [c])
      exact ⟨p0, r', c :: t, e, by rw [e2]; simp⟩
theorem sp_start {l : List Nat} (h : l.head? ≠ some 44) : spL [44] 0 [] l = [[]] ∨ ∃ p0 r, spL [44] 0 [] l = p0 :: r ∧ p0 ≠ [] := by
  cases l with
  | nil => exact .inl rfl
  | cons c r =>
    right
    have hc : ¬ c = 44 := fun e => h (by rw [e]; rfl)
    obtain ⟨p0, r', t, e, e2⟩ := sp_first r [c]
    refine ⟨p0, r', ?_, by rw [e2]; simp⟩
    show (if [44].isPrefixOf (c :: r) then _ else spL [44] 0 ([] ++ [c]) r) = _
    rw [if_neg (by simp [List.isPrefixOf]; exact fun e => hc e.symm)]
    exact e
theorem sp_join (l : List Nat) : List.intercalate [44] (spL [44] 0 [] l) = l := by
  rw [spL_rp, rpL_one]
  simp
  conv => rhs; rw [← List.map_id l]
  apply List.map_congr_left
  intro a _
  by_cases h : a = 44
  · rw [if_pos h]; exact h.symm
  · rw [if_neg h]; rfl
theorem due_ls (nm : Str) : ls (dueF nm) = Fd ((Uu (ls nm)).map c2d) := by
  unfold dueF
  rw [foldF_ls]
  unfold preF
  rw [one_eq "," 44 (by decide +kernel) _ "-" 45 (by decide +kernel), join_ls, show ls (Str.ofString "") = [] by decide +kernel]
  have := split_list nm (Str.ofString "unknown") (by decide +kernel) (by decide +kernel)
  rw [show (Str.ofString "unknown").cps.toList = UN by decide +kernel] at this
  have e : (Txt.split nm (Str.ofString "unknown")).map ls = spL UN 0 [] (ls nm) := this
  rw [e, spL_rp]
  rfl
theorem twice_law {nm : Str} (hg : ∀ c ∈ ls nm, Good c) (hh : (ls nm).head? ≠ some 44) : platF (MParse.parseF nm) = dueF nm := by
  apply str_eq
  show ls _ = ls _
  rw [again_ls hg, due_ls, twice_core (sp44_free _ [] (by simp)) (sp_start hh), sp_join]
end Mine
end -- Law5

section -- Law6
open PySem PySem.W PySem.Calls PyProof.Rows
set_option Elab.async false
set_option maxRecDepth 100000
set_option maxHeartbeats 8000000
namespace Mine
theorem head_tok (T : List Nat) : (∀ k ∈ T, k < 17) → (Fd (T.flatMap toldU)).head? = some 44 → ∃ pre post, T = pre ++ 3 :: post ∧ ∀ k ∈ pre, k = 7 := by
  induction T with
  | nil => intro _ h; cases h
  | cons k r ih =>
    intro hT h
    have ih := ih fun m hm => hT m (List.mem_cons_of_mem _ hm)
    rw [List.flatMap_cons, Fd_append] at h
    generalize hZ : Fd (r.flatMap toldU) = Z at ih h
    have dash : ((stepD 45 Z).head? = some 44) → ∃ pre post, k :: r = pre ++ 3 :: post ∧ ∀ k ∈ pre, k = 7 := by
      intro h'
      exfalso
      cases Z with
      | nil => cases h'
      | cons c r =>
        by_cases hc : c = 45
        · subst hc; cases h'
        · rw [stepD_other hc] at h'; cases h'
    rcases cases17 (hT k (List.mem_cons_self ..)) with rfl | rfl | rfl | rfl | rfl | rfl | rfl | rfl | rfl | rfl | rfl | rfl | rfl | rfl | rfl | rfl | rfl
    case inr.inr.inr.inl => exact ⟨[], r, rfl, fun _ h => nomatch h⟩
    case inr.inr.inr.inr.inr.inr.inr.inl =>
      obtain ⟨pre, post, e, hp⟩ := ih h
      refine ⟨7 :: pre, post, by rw [e]; rfl, fun m hm => ?_⟩
      rcases List.mem_cons.mp hm with rfl | hm
      · rfl
      · exact hp m hm
    all_goals first
      | exact dash h
      | (exfalso; exact absurd h (by simp [toldU, toldT, toldTab, stepD]))
theorem okI_trim {t : List Nat} (h : OkI t) : OkI (trim (· == 4) t) := by
  intro pre post e
  unfold trim at e
  obtain ⟨u, hu⟩ := dropWhile_suffix (fun x : Nat => x == 4) t
  obtain ⟨v, hv⟩ := dropWhile_suffix (fun x : Nat => x == 4) (t.dropWhile (· == 4)).reverse
  have e1 : t.dropWhile (· == 4) = (pre ++ 3 :: post) ++ v.reverse := by
    rw [← e, ← List.reverse_append, ← hv, List.reverse_reverse]
  have hu4 : ∀ k ∈ t.takeWhile (· == 4), k = 4 := by
    intro k hk
    have := List.all_takeWhile (p := fun x : Nat => x == 4) (l := t)
    exact eq_of_beq (List.all_eq_true.mp this k hk)
  have e2 : t = (t.takeWhile (· == 4) ++ pre) ++ 3 :: (post ++ v.reverse) := by
    conv => lhs; rw [← List.takeWhile_append_dropWhile (p := fun x : Nat => x == 4) (l := t), e1]
    simp
  have := h _ _ e2
  rcases this with h2 | h6
  · rcases List.mem_append.mp h2 with h2 | h2
    · exact absurd (hu4 2 h2) (by decide)
    · exact .inl h2
  · rcases List.mem_append.mp h6 with h6 | h6
    · exact absurd (hu4 6 h6) (by decide)
    · exact .inr h6
theorem app_split {a b pre post : List Nat} {c : Nat} (h : a ++ b = pre ++ c :: post) : (∃ q, a = pre ++ c :: q) ∨ ∃ q, pre = a ++ q ∧ b = q ++ c :: post := by
  rw [List.append_eq_append_iff] at h
  rcases h with ⟨q, h1, h2⟩ | ⟨q, h1, h2⟩
  · exact .inr ⟨q, h1, h2⟩
  · cases q with
    | nil => exact .inr ⟨[], by simpa using h1.symm, by simpa using h2.symm⟩
    | cons d q =>
      simp only [List.cons_append, List.cons.injEq] at h2
      exact .inl ⟨q, by rw [h1, h2.1]⟩
theorem kept_ok {items : List (List Nat)} (h : ∀ t ∈ items, (∀ k ∈ t, k < 16) ∧ OkI t) : ∀ t ∈ kept items, (∀ k ∈ t, k < 16) ∧ OkI t := by
  intro t ht
  obtain ⟨t', ht', rfl⟩ := List.mem_map.mp (List.mem_filter.mp ht).1
  exact ⟨fun k hk => (h t' ht').1 k (trim_mem hk), okI_trim (h t' ht').2⟩
/-- no comma stands at the name's head -/
theorem head_name {tt : List (List Nat)} (h : ∀ t ∈ tt, (∀ k ∈ t, k < 16) ∧ OkI t) : (Fd ((List.intercalate [16] tt).flatMap toldU)).head? ≠ some 44 := by
  intro hh
  have hlt : ∀ k ∈ List.intercalate [16] tt, k < 17 := by
    intro k hk
    rcases icalate_mem hk with rfl | ⟨t, ht, hk⟩
    · decide
    · exact Nat.lt_succ_of_lt ((h t ht).1 k hk)
  obtain ⟨pre, post, e, h7⟩ := head_tok _ hlt hh
  have no (q : List Nat) (hq : ∀ k ∈ q, k = 7) : ¬ has26 q := by
    rintro (h2 | h6)
    · exact absurd (hq 2 h2) (by decide)
    · exact absurd (hq 6 h6) (by decide)
  match tt, h, e with
  | [], _, e => cases pre <;> cases e
  | [a], h, e =>
    rw [icalate_one] at e
    exact no pre h7 ((h a (List.mem_singleton.mpr rfl)).2 pre post e)
  | a :: b :: r, h, e =>
    rw [icalate_cons _ _ (by simp), List.append_assoc] at e
    rcases app_split e with ⟨q, e'⟩ | ⟨q, e', e''⟩
    · exact no pre h7 ((h a (List.mem_cons_self ..)).2 pre q e')
    · cases q with
      | nil => cases e''
      | cons d q =>
        simp only [List.singleton_append, List.cons_append, List.cons.injEq] at e''
        have := h7 d (by rw [e']; simp)
        rw [← e''.1] at this
        cases this
theorem U_told {k : Nat} (h : k < 17) (Y : List Nat) : Uu (toldU k ++ Y) = (if k = 9 then [] else toldU k) ++ Uu Y := by
  rcases cases17 h with rfl | rfl | rfl | rfl | rfl | rfl | rfl | rfl | rfl | rfl | rfl | rfl | rfl | rfl | rfl | rfl | rfl <;> rfl
theorem U_flat : ∀ T : List Nat, (∀ k ∈ T, k < 17) → Uu (T.flatMap toldU) = (T.filter (fun k => decide (k ≠ 9))).flatMap toldU
  | [], _ => rfl
  | k :: r, h => by
    rw [List.flatMap_cons, U_told (h k (List.mem_cons_self ..)), U_flat r fun m hm => h m (List.mem_cons_of_mem _ hm)]
    by_cases h9 : k = 9
    · rw [if_pos h9, List.filter_cons_of_neg (by simpa using h9)]; rfl
    · rw [if_neg h9, List.filter_cons_of_pos (by simpa using h9), List.flatMap_cons]
def n3 (k : Nat) : Nat := if k = 3 then 16 else k
theorem c2d_tok {k : Nat} (h : k < 17) : (toldU k).map c2d = toldU (n3 k) := by
  rcases cases17 h with rfl | rfl | rfl | rfl | rfl | rfl | rfl | rfl | rfl | rfl | rfl | rfl | rfl | rfl | rfl | rfl | rfl <;> rfl
theorem c2d_flat : ∀ T : List Nat, (∀ k ∈ T, k < 17) → (T.flatMap toldU).map c2d = (T.map n3).flatMap toldU
  | [], _ => rfl
  | k :: r, h => by
    rw [List.flatMap_cons, List.map_append, c2d_tok (h k (List.mem_cons_self ..)), c2d_flat r fun m hm => h m (List.mem_cons_of_mem _ hm), List.map_cons, List.flatMap_cons]
theorem no44 {k : Nat} (h : k < 17) (h3 : k ≠ 3) : 44 ∉ toldU k := by
  rcases cases17 h with rfl | rfl | rfl | rfl | rfl | rfl | rfl | rfl | rfl | rfl | rfl | rfl | rfl | rfl | rfl | rfl | rfl <;> first | exact absurd rfl h3 | decide
/-- what is due: tokens without 'unknown' and without a comma -/
theorem due_toks {T : List Nat} (h : ∀ k ∈ T, k < 17) : ∃ T' : List Nat, Fd ((Uu (T.flatMap toldU)).map c2d) = T'.flatMap toldU ∧ ∀ k ∈ T', k < 17 ∧ k ≠ 9 ∧ k ≠ 3 := by
  have hf : ∀ k ∈ T.filter (fun k => decide (k ≠ 9)), k < 17 ∧ k ≠ 9 := fun k hk => ⟨h k (List.mem_filter.mp hk).1, by simpa using (List.mem_filter.mp hk).2⟩
  rw [U_flat T h, c2d_flat _ fun k hk => (hf k hk).1]
  have hm : ∀ k ∈ (T.filter (fun k => decide (k ≠ 9))).map n3, k < 17 ∧ k ≠ 9 ∧ k ≠ 3 := by
    intro k hk
    obtain ⟨j, hj, rfl⟩ := List.mem_map.mp hk
    have := hf j hj
    unfold n3
    split <;> omega
  obtain ⟨T', e, hs⟩ := FdT _ fun k hk => (hm k hk).1
  exact ⟨T', e, fun k hk => hm k (hs k hk)⟩
theorem sp_none : ∀ (l cur : List Nat), 44 ∉ l → spL [44] 0 cur l = [cur ++ l]
  | [], cur, _ => by simp [spL]
  | c :: r, cur, h => by
    have hc : ¬ [44].isPrefixOf (c :: r) = true := by
      simp [List.isPrefixOf]
      exact fun e => h (by rw [← e]; exact List.mem_cons_self ..)
    show (if [44].isPrefixOf (c :: r) then _ else spL [44] 0 (cur ++ [c]) r) = _
    rw [if_neg hc, sp_none r _ fun hm => h (List.mem_cons_of_mem _ hm)]
    simp
theorem third_law {x : Str} {T : List Nat} (hx : ls x = T.flatMap toldU) (hT : ∀ k ∈ T, k < 17 ∧ k ≠ 9 ∧ k ≠ 3) (hF : Fd (ls x) = ls x) : platF (MParse.parseF x) = x := by
  apply str_eq
  show ls _ = ls _
  have hg : ∀ c ∈ ls x, Good c := by rw [hx]; exact good_flat fun k hk => (hT k hk).1
  have h44 : 44 ∉ ls x := by
    rw [hx]
    intro hm
    obtain ⟨k, hk, hc⟩ := List.mem_flatMap.mp hm
    exact no44 (hT k hk).1 (hT k hk).2.2 hc
  have hU : Uu (ls x) = ls x := by
    rw [hx, U_flat T fun k hk => (hT k hk).1, List.filter_eq_self.mpr fun k hk => by simpa using (hT k hk).2.1]
  rw [again_ls hg, sp_none _ _ h44, List.nil_append]
  have : List.intercalate [45] ([ls x].filter neL) = ls x := by
    cases q : ls x with
    | nil => rfl
    | cons c r => rw [List.filter_cons_of_pos (by rfl)]; exact icalate_one _ _
  rw [this, hU, hF]
theorem wlen_step (st : TSt) (n : Int) : (toldStep st n).w.length ≤ st.w.length + 20 := by
  have aux : ∀ (q : Bool) (k : Nat), (strandOf q k).1.length ≤ 20 := by
    have h16 : (List.range 16).all (fun k => decide ((outerTab.getD k str0).1.length ≤ 20)) = true := by decide +kernel
    have ho : ∀ k, (outerTab.getD k str0).1.length ≤ 20 := by
      intro k
      by_cases h : k < 16
      · exact of_decide_eq_true (List.all_eq_true.mp h16 k (List.mem_range.mpr h))
      · rw [List.getD_eq_getElem?_getD, List.getElem?_eq_none (by show outerTab.length ≤ k; rw [show outerTab.length = 16 from rfl]; omega)]
        show (Str.ofString "").length ≤ 20
        decide +kernel
    intro q k
    unfold strandOf
    split
    · unfold innerTab
      split
      · decide +kernel
      · decide +kernel
      · decide +kernel
      · exact ho _
    · exact ho _
  have h := aux st.q n.toNat
  unfold toldStep
  dsimp only
  split <;> (dsimp only; rw [Str.length_append]; omega)
theorem wlen_fold : ∀ (ns : List Int) (st : TSt), (ns.foldl toldStep st).w.length ≤ st.w.length + 20 * ns.length
  | [], _ => Nat.le_refl _
  | n :: r, st => by
    have h1 := wlen_step st n
    have h2 := wlen_fold r (toldStep st n)
    rw [List.foldl_cons, List.length_cons]
    omega
theorem wlen_run {ns : List Int} (h : ns.length ≤ 40) : (toldRun ns).w.length ≤ 900 := by
  have := wlen_fold ns ⟨Str.ofString "", [], [], false⟩
  rw [show (Str.ofString "").length = 0 by decide +kernel] at this
  unfold toldRun
  omega
theorem len_ls (x : Str) : x.length = (ls x).length := by simp [Str.length]
theorem stepD_len (c : Nat) (r : List Nat) : (stepD c r).length ≤ r.length + 1 := by
  by_cases hc : c = 45
  · subst hc
    cases r with
    | nil => exact Nat.zero_le _
    | cons d r =>
      by_cases hd : d = 45
      · subst hd; rw [stepD_45]; exact Nat.le_succ _
      · rw [stepD_other hd]; exact Nat.le_refl _
  · rw [stepD_ne hc]; exact Nat.le_refl _
theorem Fd_len : ∀ l : List Nat, (Fd l).length ≤ l.length
  | [] => Nat.le_refl _
  | c :: r => by
    rw [Fd_cons]
    have h1 := stepD_len c (Fd r)
    have h2 := Fd_len r
    rw [List.length_cons]; omega
theorem rp_len (p : List Nat) : ∀ (l : List Nat) (k : Nat), (rpL p [] k l).length ≤ l.length
  | [], k => by cases k <;> simp [rpL]
  | _ :: r, k + 1 => by simp only [rpL]; have := rp_len p r k; rw [List.length_cons]; omega
  | _ :: r, 0 => by
    simp only [rpL]
    split
    · have := rp_len p r (p.length - 1); rw [List.length_cons]; simpa using Nat.le_succ_of_le this
    · have := rp_len p r 0; rw [List.length_cons, List.length_cons]; omega
theorem joined_len9 {ns : List Int} (h : ns.length ≤ 40) : (joinedF (toldRun ns)).length ≤ 900 := by
  have h1 := names_fit h
  unfold joinedF
  rw [show Txt.join (Str.ofString "-") (namesF (toldRun ns)) = Str.join (Str.ofString "-") (namesF (toldRun ns)) from StrLaws.glued_eq_join _ _]
  have h2 := StrLaws.join_length_le (Str.ofString "-") (namesF (toldRun ns))
  rw [dash_len] at h2; omega
theorem fold_len (x : Str) : (MFold.foldF x).length ≤ x.length := by
  rw [len_ls, len_ls x, foldF_ls]; exact Fd_len _
theorem due_len (x : Str) : (dueF x).length ≤ x.length := by
  rw [len_ls, len_ls x, due_ls]
  refine Nat.le_trans (Fd_len _) ?_
  rw [List.length_map]
  exact rp_len _ _ _
structure PlainLaw (ns : List Int) : Prop where
  e1 : platF (MParse.parseF (toldRun ns).w) = MFold.foldF (joinedF (toldRun ns))
  e2 : platF (MParse.parseF (MFold.foldF (joinedF (toldRun ns)))) = dueF (MFold.foldF (joinedF (toldRun ns)))
  e3 : platF (MParse.parseF (dueF (MFold.foldF (joinedF (toldRun ns))))) = dueF (MFold.foldF (joinedF (toldRun ns)))
  hwl : (toldRun ns).w.length ≤ 900
  hnl : (MFold.foldF (joinedF (toldRun ns))).length ≤ 900
  hdl : (dueF (MFold.foldF (joinedF (toldRun ns)))).length ≤ 900
theorem plain_law {ns : List Int} (h : ∀ n ∈ ns, 0 ≤ n ∧ n < 16) (hlen : ns.length ≤ 40) : PlainLaw ns := by
  obtain ⟨e1, items, hit, hj⟩ := once_law h
  have hk := kept_ok hit
  have hT : ∀ k ∈ List.intercalate [16] (kept items), k < 17 := by
    intro k hk'
    rcases icalate_mem hk' with rfl | ⟨t, ht, hk'⟩
    · decide
    · exact Nat.lt_succ_of_lt ((hk t ht).1 k hk')
  have hnm : ls (MFold.foldF (joinedF (toldRun ns))) = Fd ((List.intercalate [16] (kept items)).flatMap toldU) := by rw [foldF_ls, hj]
  obtain ⟨T', eT, hT'⟩ := FdT _ hT
  have hT17 : ∀ k ∈ T', k < 17 := fun k hk => hT k (hT' k hk)
  have hnT : ls (MFold.foldF (joinedF (toldRun ns))) = T'.flatMap toldU := hnm.trans eT
  have hhead := head_name hk
  rw [← hnm] at hhead
  have hjl := joined_len9 hlen
  have hfl := fold_len (joinedF (toldRun ns))
  have key : ∀ nm : Str, ls nm = T'.flatMap toldU → (ls nm).head? ≠ some 44 → platF (MParse.parseF nm) = dueF nm ∧ platF (MParse.parseF (dueF nm)) = dueF nm := by
    intro nm hn hh
    have hg : ∀ c ∈ ls nm, Good c := by rw [hn]; exact good_flat hT17
    obtain ⟨D, eD, hD⟩ := due_toks hT17
    refine ⟨twice_law hg hh, third_law (T := D) ?_ hD ?_⟩
    · rw [due_ls, hn, eD]
    · rw [due_ls, Fd_idem]
  have hdl := due_len (MFold.foldF (joinedF (toldRun ns)))
  obtain ⟨e2, e3⟩ := key _ hnT hhead
  exact ⟨e1, e2, e3, wlen_run hlen, by omega, by omega⟩
end Mine
end -- Law6

section -- Top2
open PySem PySem.W PySem.Calls PyProof.Rows
set_option Elab.async false
set_option maxRecDepth 100000
set_option maxHeartbeats 8000000
namespace Mine
abbrev iterObj (l : Addr) (i : Nat) : Obj := { cls := .type "list_iterator", data := .fields #[.ref l, .int i 0] }
/-- a loop over a list, whose turns may also make generators -/
def LoopG (prog : Program) (w : World) (A : Around) (env : Env) (x : Str) (body : List Stmt) (Q : Flow → Shared → Prop) (xv : Value) (s₁ : Shared) : Prop :=
  ∃ (l : Addr) (vs : List Value) (J : Nat → Shared → Prop), xv = .ref l ∧ s₁.heap.IsList l vs.toArray ∧
    J 0 { s₁ with heap := s₁.heap.push (iterObj l 0) } ∧
    (∀ i s₂, J i s₂ → s₂.heap.IsListIter s₁.heap.objs.size l i ∧ s₂.heap.IsList l vs.toArray) ∧
    (∀ i v s₂ h', vs[i]? = some v → J i s₂ → h'.IsListIter s₁.heap.objs.size l (i + 1) → Heap.SameBut s₁.heap.objs.size s₂.heap h' →
      wpAny (model prog w) A (storeName env x v) (fun _ s₃ => wpAny (model prog w) A (execs body env) (fun f s₄ => match f with | .next | .cont => J (i + 1) s₄ | .brk => Q .next s₄ | .ret v => Q (.ret v) s₄) (fun _ _ => False) s₃) (fun _ _ => False) { s₂ with heap := h' }) ∧
    (∀ s₂ h', J vs.length s₂ → Heap.ExtBut s₁.heap.objs.size s₂.heap h' → Q .next { s₂ with heap := h' })
theorem For_gen {prog : Program} {w : World} {A : Around} {s : Shared} {env : Env} {Q : Flow → Shared → Prop} {x : Str} {px pos : Pos} {iter : Expr} {body : List Stmt} (hh : A.handled = none)
    (h : wpAny (model prog w) A (eval iter env) (LoopG prog w A env x body Q) (fun _ _ => False) s)
    (hs : ∀ x, foldedSetIterable iter env x = pure x := by intro _; rfl) :
    wpAny (model prog w) A (exec (.For (.Name x px) iter body [] pos) env) Q (fun _ _ => False) s := by
  refine wpAny_For (wpAny_mono h (fun xv s₁ h₁ => ?_) fun _ _ e => e) hs
  obtain ⟨l, vs, J, rfl, hl, h0, hat, step, hend⟩ := h₁
  refine wpAny_pyIter_list hl ?_
  refine codeAny_forLoop (fun k s' => ∃ i, i ≤ vs.length ∧ J i s' ∧ k = vs.length + 1 - i) ?_ (vs.length + 1) ⟨0, Nat.zero_le _, h0, rfl⟩
  rintro k s' ⟨i, hi, hJ, rfl⟩
  obtain ⟨hit, hls⟩ := hat i s' hJ
  by_cases hlt : i < vs.length
  · refine wpAny_pyNext_list_item hit hls (x := vs[i]) (by simp [hlt]) fun h' hit' hs' => ?_
    refine wpAny_assign_Name ?_
    refine wpAny_mono (step i vs[i] s' h' (by simp [hlt]) hJ hit' hs') (fun _ s₃ h₃ => wpAny_mono h₃ (fun f s₄ h₄ => ?_) fun _ _ e => e.elim) fun _ _ e => e.elim
    cases f with
    | ret v => exact h₄
    | brk => exact h₄
    | next => exact ⟨vs.length + 1 - (i + 1), by omega, i + 1, by omega, h₄, rfl⟩
    | cont => exact ⟨vs.length + 1 - (i + 1), by omega, i + 1, by omega, h₄, rfl⟩
  · have hin : i = vs.length := by omega
    subst hin
    refine wpAny_pyNext_list_end hh hit hls (by simp) fun h' he' => wpAny_execs_nil ?_
    exact hend s' h' hJ he'
end Mine
end -- Top2

section -- F_law
open PySem PySem.W PySem.Calls PyProof.Rows
set_option Elab.async false
set_option maxRecDepth 100000
set_option maxHeartbeats 8000000
namespace Mine
theorem holds_all {w : World} {mg mb : Str → Option Value} {A : Around} {s : Shared} {Q E : Value → Shared → Prop} (O : OkH w mg mb s.heap) (T : TabOk s.heap) (R : Room A 12) (hgb : AllBare s.gens) {l : Addr} {ns : List Int} {vs : List Value} (hl : s.heap.IsList l vs.toArray) (hi : IntsAre vs ns) (h16 : ∀ n ∈ ns, 0 ≤ n ∧ n < 16) (hlen : ns.length ≤ 40)
   (hQ : ∀ s', Ext16 s.heap s'.heap → TabOk s'.heap → AllBare s'.gens → s'.os = s.os → Q (.bool true) s') : wpAny (model PySem.Challenge.rw_mj0094_01.row.prog w) A (call (.ref 55) [.ref l]) Q E s :=
  let P := plain_law h16 hlen
  holds_spec O T R hgb hl hi h16 hlen P.e1 P.e2 P.e3 P.hwl P.hnl P.hdl hQ
structure Halt3 (p : Prop) : Prop where
  get : p
theorem halt3 {p : Prop} (h : Halt3 p) : p := h.get
theorem frRe3 {h₀ h : Heap} {L : Addr} {m m' : Str → Option Value} (F : Fr h₀ L h m) (e : ∀ y, m y = m' y) : Fr h₀ L h m' := by
  have : m = m' := funext e
  rw [← this]; exact F
theorem put1 {m : Str → Option Value} {n1 : Str} {v1 : Option Value} (h1 : m n1 = v1) (y : Str) : m y = if y = n1 then v1 else m y := by
  by_cases e1 : y = n1
  · rw [if_pos e1, e1, h1]
  · rw [if_neg e1]
def nums (ns : List Int) : List Int := [152, 5576] ++ List.take 7 ns ++ [2414]
theorem nums_len (ns : List Int) : (nums ns).length ≤ 10 := by
  unfold nums
  simp only [List.length_append, List.length_cons, List.length_nil, List.length_take]
  omega
theorem figs_take {xs : List Int} {i : Nat} {x : Int} (h : xs[i]? = some x) : (xs.take (i + 1)).flatMap MFigs.figsF = (xs.take i).flatMap MFigs.figsF ++ MFigs.figsF x := by
  rw [List.take_add_one, h, List.flatMap_append]; simp
theorem figs_all_len : ∀ xs : List Int, (xs.flatMap MFigs.figsF).length ≤ 3 * xs.length
  | [] => Nat.le_refl _
  | x :: r => by
    have h1 := (MFigs.figsF_len x).2
    have h2 := figs_all_len r
    rw [List.flatMap_cons, List.length_append, List.length_cons]; omega
theorem figs_all_in (xs : List Int) : ∀ n ∈ xs.flatMap MFigs.figsF, 0 ≤ n ∧ n < 16 := by
  intro n hn
  obtain ⟨x, _, hx⟩ := List.mem_flatMap.mp hn
  exact MFigs.figsF_in x n hx
/-- between two turns of the law's loop -/
def LInv (s : Shared) (L D I : Addr) (ws : List Value) (xs : List Int) (i : Nat) (s' : Shared) : Prop :=
  ∃ m ps fa fvs oI, Fr (hid s.heap) L s'.heap m ∧ m (Str.ofString "figures") = some (.ref fa) ∧
    News (hid s.heap) L s'.heap [(fa, W.listOf (List.toArray fvs) 0), (D, W.listOf ws.toArray 0), (I, oI), (16, tabObj ps)] ∧ TriplesOk ps.toList ∧
    IntsAre fvs ((xs.take i).flatMap MFigs.figsF) ∧ oI.cls = .type "list_iterator" ∧ oI.data = .fields #[.ref D, .int i 0] ∧
    AllBare s'.gens ∧ s'.os = s.os ∧ fa ≠ I ∧ D ≠ I ∧ I ≠ 16
theorem Room.le3 {A : Around} {n k : Nat} (R : Room A n) (h : k ≤ n) : Room A k :=
  ⟨R.handled, by have := R.depth; omega, by have := R.units; omega⟩
theorem linv_start {s : Shared} {L D fa : Addr} {ws : List Value} {xs : List Int} {news : List (Addr × Obj)} {m : Str → Option Value} {h : Heap} {ps : Array Value} {g : Array GenState} {d : Drawn} {t : Nat} {os : OsState}
    (F : Fr (hid s.heap) L h m) (N : News (hid s.heap) L h news) (m1 : (D, W.listOf ws.toArray 0) ∈ news) (m2 : (fa, W.listOf #[] 0) ∈ news) (m3 : (16, tabObj ps) ∈ news) (htr : TriplesOk ps.toList) (hm : m (Str.ofString "figures") = some (.ref fa)) (hgb : AllBare g) (hos : os = s.os) :
    LInv s L D h.objs.size ws xs 0 ⟨h.push (iterObj D 0), g, d, t, os⟩ := by
  have lt : ∀ p ∈ news, p.1 < h.objs.size := fun p hp => Heap.lt_size (N p hp).1
  refine ⟨m, ps, fa, [], iterObj D 0, F.push _, hm, ?_, htr, .nil, rfl, rfl, hgb, hos, Nat.ne_of_lt (lt _ m2), Nat.ne_of_lt (lt _ m1), Ne.symm (Nat.ne_of_lt (lt _ m3))⟩
  have old : ∀ p ∈ news, (h.push (iterObj D 0)).get? p.1 = some p.2 ∧ p.1 ≠ L ∧ (hid s.heap).get? p.1 = none := fun p hp => ⟨Heap.get?_push_of_some _ (N p hp).1, (N p hp).2⟩
  intro p hp
  rcases List.mem_cons.mp hp with rfl | hp
  · exact old _ m2
  rcases List.mem_cons.mp hp with rfl | hp
  · exact old _ m1
  rcases List.mem_cons.mp hp with rfl | hp
  · exact ⟨Heap.get?_push_size _ rfl, Ne.symm (Nat.ne_of_lt F.ns.lt), next_is_new F⟩
  rw [List.mem_singleton.mp hp]
  exact old _ m3
theorem linv_at {s : Shared} {L D I : Addr} {ws : List Value} {xs : List Int} {i : Nat} {s' : Shared} (J : LInv s L D I ws xs i s') : s'.heap.IsListIter I D i ∧ s'.heap.IsList D ws.toArray := by
  obtain ⟨m, ps, fa, fvs, oI, F, hm, N, htr, hfi, hc, hd, _⟩ := J
  exact ⟨⟨oI, (N _ (.tail _ (.tail _ (.head _)))).1, hc, hd⟩, ⟨_, (N _ (.tail _ (.head _))).1, rfl, _, rfl⟩⟩
theorem linv_next {s : Shared} {L D I : Addr} {ws : List Value} {xs : List Int} {i : Nat} {s' : Shared} {h' : Heap} (J : LInv s L D I ws xs i s') (hit : h'.IsListIter I D (i + 1)) (hs : Heap.SameBut I s'.heap h') :
    ∃ m ps fa fvs oI, Fr (hid s.heap) L h' m ∧ m (Str.ofString "figures") = some (.ref fa) ∧
    News (hid s.heap) L h' [(fa, W.listOf (List.toArray fvs) 0), (D, W.listOf ws.toArray 0), (I, oI), (16, tabObj ps)] ∧ TriplesOk ps.toList ∧
    IntsAre fvs ((xs.take i).flatMap MFigs.figsF) ∧ oI.cls = .type "list_iterator" ∧ oI.data = .fields #[.ref D, .int (i + 1 : Nat) 0] ∧
    AllBare s'.gens ∧ s'.os = s.os ∧ D ≠ I ∧ I ≠ 16 := by
  obtain ⟨m, ps, fa, fvs, oI, F, hm, N, htr, hfi, hc, hd, hgb, hos, n1, n2, n3⟩ := J
  obtain ⟨oI', hoI', hc', hd'⟩ := hit
  have zI := N _ (.tail _ (.tail _ (.head _)))
  refine ⟨m, ps, fa, fvs, oI', F.change hs zI.2.1 zI.2.2, hm, ?_, htr, hfi, hc', hd', hgb, hos, n2, n3⟩
  have old : ∀ p ∈ [(fa, W.listOf (List.toArray fvs) 0), (D, W.listOf ws.toArray 0), (I, oI), (16, tabObj ps)], p.1 ≠ I → h'.get? p.1 = some p.2 ∧ p.1 ≠ L ∧ (hid s.heap).get? p.1 = none := fun p hp hne => ⟨(hs.2 _ hne).trans (N p hp).1, (N p hp).2⟩
  intro p hp
  rcases List.mem_cons.mp hp with rfl | hp
  · exact old _ (.head _) n1
  rcases List.mem_cons.mp hp with rfl | hp
  · exact old _ (.tail _ (.head _)) n2
  rcases List.mem_cons.mp hp with rfl | hp
  · exact ⟨hoI', zI.2⟩
  rw [List.mem_singleton.mp hp]
  exact old _ (.tail _ (.tail _ (.tail _ (.head _)))) (Ne.symm n3)
theorem linv_end {s : Shared} {L D I fa : Addr} {ws fvs : List Value} {xs : List Int} {i : Nat} {news : List (Addr × Obj)} {m : Str → Option Value} {h : Heap} {oI : Obj} {s' : Shared}
    (F : Fr (hid s.heap) L h m) (N : News (hid s.heap) L h news) (m0 : (fa, W.listOf (List.toArray fvs) 0) ∈ news) (m1 : (D, W.listOf ws.toArray 0) ∈ news) (m2 : (I, oI) ∈ news) (m3 : I < fa)
    (hm : m (Str.ofString "figures") = some (.ref fa)) (hfi : IntsAre fvs ((xs.take i).flatMap MFigs.figsF)) (hc : oI.cls = .type "list_iterator") (hd : oI.data = .fields #[.ref D, .int (i : Nat) 0]) (n2 : D ≠ I) (n3 : I ≠ 16) (n4 : D ≠ 16) (n5 : fa ≠ 16) (hL : L ≠ 16)
    (hx : Ext16 h s'.heap) (hT : TabOk s'.heap) (hgb : AllBare s'.gens) (hos : s'.os = s.os) : LInv s L D I ws xs i s' := by
  obtain ⟨ps, hp, htr⟩ := hT
  have h16 : (hid s.heap).get? 16 = none := hideAll_none _ (.head _)
  have F' : Fr (hid s.heap) L s'.heap m := by
    obtain ⟨oL, es, ep, e, r⟩ := F.ns
    exact ⟨⟨oL, es, ep, hx _ _ hL e, r⟩, fun b o e => hx b o (fun q => by rw [q, h16] at e; cases e) (F.keep b o e), F.above⟩
  refine ⟨m, ps, fa, fvs, oI, F', hm, ?_, htr, hfi, hc, hd, hgb, hos, Ne.symm (Nat.ne_of_lt m3), n2, n3⟩
  intro p hp'
  rcases List.mem_cons.mp hp' with rfl | hp'
  · exact ⟨hx _ _ n5 (N _ m0).1, (N _ m0).2⟩
  rcases List.mem_cons.mp hp' with rfl | hp'
  · exact ⟨hx _ _ n4 (N _ m1).1, (N _ m1).2⟩
  rcases List.mem_cons.mp hp' with rfl | hp'
  · exact ⟨hx _ _ n3 (N _ m2).1, (N _ m2).2⟩
  rw [List.mem_singleton.mp hp']
  exact ⟨hp, Ne.symm hL, h16⟩
theorem linv_done {s : Shared} {L D I : Addr} {ws : List Value} {xs : List Int} {i : Nat} {s' : Shared} {h' : Heap} (J : LInv s L D I ws xs i s') (hs : Heap.ExtBut I s'.heap h') :
    ∃ m ps, Fr (hid s.heap) L h' m ∧ News (hid s.heap) L h' [(16, tabObj ps)] ∧ TriplesOk ps.toList ∧ AllBare s'.gens ∧ s'.os = s.os := by
  obtain ⟨m, ps, fa, fvs, oI, F, hm, N, htr, hfi, hc, hd, hgb, hos, n1, n2, n3⟩ := J
  have zI := N _ (.tail _ (.tail _ (.head _)))
  have z16 := N _ (.tail _ (.tail _ (.tail _ (.head _))))
  refine ⟨m, ps, ⟨?_, fun b o e => ?_, F.above⟩, fun p hp => ?_, htr, hgb, hos⟩
  · obtain ⟨oL, es, ep, e, r⟩ := F.ns
    exact ⟨oL, es, ep, hs _ _ (Ne.symm zI.2.1) e, r⟩
  · exact hs _ _ (fun q => by rw [q, zI.2.2] at e; cases e) (F.keep b o e)
  · rw [List.mem_singleton.mp hp]
    exact ⟨hs _ _ (Ne.symm n3) z16.1, z16.2⟩
theorem fr_ext3 {h₀ h h' : Heap} {L : Addr} {m : Str → Option Value} (F : Fr h₀ L h m) (h16 : h₀.get? 16 = none) (hL : L ≠ 16) (x : Ext16 h h') : Fr h₀ L h' m := by
  obtain ⟨oL, es, ep, e, r⟩ := F.ns
  exact ⟨⟨oL, es, ep, x _ _ hL e, r⟩, fun b o e => x b o (fun q => by rw [q, h16] at e; cases e) (F.keep b o e), F.above⟩
local macro_rules | `(tactic| walk_at "call ref") => `(tactic| (refine halt3 ?_))
local macro_rules | `(tactic| walk_at "exec For") => `(tactic| (refine halt3 ?_))
theorem law_spec {w : World} {mg mb : Str → Option Value} {A : Around} {s : Shared} {Q E : Value → Shared → Prop} (O : OkH w mg mb s.heap) (T : TabOk s.heap) (R : Room A 13) (hgb : AllBare s.gens) {l : Addr} {ns : List Int} {vs : List Value} (hl : s.heap.IsList l vs.toArray) (hi : IntsAre vs ns) (h63 : ns.length ≤ 63)
   (hQ : ∀ s', Ext16 s.heap s'.heap → TabOk s'.heap → AllBare s'.gens → s'.os = s.os → Q (.bool true) s') : wpAny (model PySem.Challenge.rw_mj0094_01.row.prog w) A (call (.ref 62) [.ref l]) Q E s := by
  k_with_none
  have : (Mine.hd.heap_39 w.params).In s.heap → PySem.Challenge.rw_mj0094_01.Holds → True := by k_fill; intros; trivial
  have O' := O.hid T
  have X₀ := O'.K
  have T₀ := O'.T
  obtain ⟨bm, ob, M₀⟩ := O'.M
  refine' enter O R (f := 62) (binds := [(Str.ofString "script", .ref l)]) ?k6 ?k7 ?k9 ?kB ?_ ?c2 ?c3 ?c4 ?c5
  (case k6 => k_is)
  (case k7 => k_is)
  (case k9 => exact BindsTo.of_eq rfl)
  (case kB => exact locs rfl)
  (case c2 => exact rfl)
  (case c3 => exact rfl)
  (case c4 => exact rfl)
  (case c5 => decide)
  intro h₁ F'' N''
  have hk₁ : ∀ b o, s.heap.get? b = some o → h₁.get? b = some o := F''.keep
  have hl₀ := hid_list T hl
  obtain ⟨hd, dp, fr, gd, un⟩ := A
  obtain rfl : hd = none := R.handled
  have hdp := R.depth
  have hun := R.units
  dsimp only at hdp hun
  (try dsimp only)
  have F' : Fr (hid s.heap) s.heap.objs.size h₁ _ := ⟨F''.ns, fun b o e => F''.keep b o (of_hid e).2, by rw [hideAll_size]; exact F''.above⟩
  obtain ⟨ps, hp16, htr⟩ := id T
  have N' : News (hid s.heap) s.heap.objs.size h₁ [(16, tabObj ps)] := fun p hp => by
    rw [List.mem_singleton.mp hp]
    exact ⟨hk₁ _ _ hp16, Nat.ne_of_lt (Heap.lt_size hp16), hideAll_none _ (.head _)⟩
  clear F'' N''
  have h16' : 16 < s.heap.objs.size := by obtain ⟨ps, e, _⟩ := T; exact Heap.lt_size e
  have hL16 : @Ne Nat s.heap.objs.size 16 := by omega
  have hh16 : (hid s.heap).get? 16 = none := hideAll_none _ (.head _)
  k_steps
  refine Halt3.mk ?_
  refine For_gen rfl ?_
  k_steps
  rename News _ _ _ _ => lN
  rename Fr _ _ _ _ => lF
  rename IntsAre _ ([152, 5576] ++ List.take 7 ns ++ [2414]) => lI
  refine ⟨_, _, LInv s s.heap.objs.size _ _ _ (nums ns), rfl, ⟨_, (lN _ (.head _)).1, rfl, _, rfl⟩, linv_start lF lN (.head _) ?o2 (by k_mem) htr rfl hgb rfl, fun i s₂ => linv_at, ?step, ?fin⟩
  case o2 => k_mem
  case fin =>
    rintro ⟨h₂, g₂, d₂, k₂, o₂⟩ h' hJ hext
    obtain ⟨m, ps', F, N, htr', hgb', hos'⟩ := linv_done hJ hext
    clear lN lF
    dsimp only at hgb' hos'
    dsimp only
    have hfin : ∀ v s', v = Value.bool true → (∃ tk, s' = (⟨h', g₂, d₂, tk, o₂⟩ : Shared)) → Q v s' := by
      rintro v s' rfl ⟨tk, rfl⟩
      exact hQ _ (fun b o hb e => F.keep b o (hid_get e hb)) ⟨ps', (N _ (.head _)).1, htr'⟩ hgb' hos'
    k_steps
    exact hfin _ _ rfl ⟨_, rfl⟩
  case step =>
    rintro i v ⟨h₂, g₂, d₂, k₂, o₂⟩ h' hv hJ hit hs
    obtain ⟨m, ps', fa, fvs, oI, F, hm, N, htr', hfi, hc, hd, hgb', hos', n2, n3⟩ := linv_next hJ hit hs
    have n4 : _ ≠ 16 := Ne.symm (Nat.ne_of_lt (by assumption : _ ∧ _ ∧ _ ∧ _ ∧ _ ∧ 16 < _).2.2.2.2.2)
    clear lN lF hs hit hJ
    have hi' : i < (nums ns).length := by
      have := lI.length
      rw [show [152, 5576] ++ List.take 7 ns ++ [2414] = nums ns from rfl] at this
      rw [← this]
      exact (List.getElem?_eq_some_iff.mp hv).1
    obtain ⟨t, hx⟩ := lI.get i (nums ns)[i] (by rw [show [152, 5576] ++ List.take 7 ns ++ [2414] = nums ns from rfl]; simp [hi'])
    obtain rfl : v = .int (nums ns)[i] t := by rw [hx] at hv; exact (Option.some.inj hv).symm
    have hxi : (nums ns)[i]? = some (nums ns)[i] := by simp [hi']
    generalize (nums ns)[i] = xi at hxi hx hv ⊢
    have hl1 : ((List.take i (nums ns)).flatMap MFigs.figsF).length ≤ 30 := by
      have h1 := figs_all_len (List.take i (nums ns))
      have h2 := nums_len ns
      have h3 : (List.take i (nums ns)).length ≤ (nums ns).length := by rw [List.length_take]; omega
      omega
    have hl2 := (MFigs.figsF_len xi).2
    have hft := figs_take hxi
    replace F := frRe3 F (put1 hm)
    dsimp only at hgb' hos'
    dsimp only
    k_steps
    refine Halt3.mk ?_
    refine MFigs.figs_spec (O'.keeps (Fr.keep (by assumption))) ((Room.deeper R _).le3 (by decide)) ?_
    intro a₄ vs₄ h₄ tk₄ hk₄ hl₄ hi₄
    rename News _ _ _ _ => N₃
    rename Fr _ _ _ _ => F₃
    have F₄ := Fr.keeps F₃ hk₄
    have N₄ : News (hid s.heap) s.heap.objs.size h₄ _ := fun p hp => ⟨hk₄ _ _ (N₃ p hp).1, (N₃ p hp).2⟩
    clear N₃ F₃
    k_steps
    refine Halt3.mk ?_
    rename News _ _ _ _ => N₅
    rename Fr _ _ _ _ => F₅
    rename IntsAre _ (_ ++ MFigs.figsF xi) => hI₅
    have z16 := N₅ _ (.tail _ (.tail _ (.tail _ (.tail _ (.head _)))))
    refine holds_all (O'.keeps (Fr.keep F₅)) ⟨ps', z16.1, htr'⟩ (Room.deeper R _) hgb' (News.isList N₅ (.head _)) hI₅ (by rw [← hft]; exact figs_all_in _) (by rw [List.length_append]; omega) ?_
    rintro ⟨h₆, g₆, d₆, k₆, o₆⟩ hx₆ hT₆ hb₆ ho₆
    dsimp only at hx₆ hT₆ hb₆ ho₆
    have hfin := fun tk : Nat => linv_end (s' := (⟨h₆, g₆, d₆, tk, o₆⟩ : Shared)) (xs := nums ns) (i := i + 1) F₅ N₅ (.head _) (.tail _ (.tail _ (.head _))) (.tail _ (.tail _ (.tail _ (.head _)))) (by assumption : _ ∧ _ ∧ _ < _ ∧ _).2.2.1 rfl (by rw [hft]; exact hI₅) hc hd n2 n3 n4 (Ne.symm (Nat.ne_of_lt (by assumption : _ ∧ _ ∧ _ < _ ∧ 16 < _).2.2.2)) hL16 hx₆ hT₆ hb₆ (ho₆.trans hos')
    obtain ⟨ps₆, hp₆, htr₆⟩ := hT₆
    have F₇ := fr_ext3 F₅ hh16 hL16 hx₆
    have N₇ : News (hid s.heap) s.heap.objs.size h₆ [(16, tabObj ps₆)] := fun p hp => by
      rw [List.mem_singleton.mp hp]
      exact ⟨hp₆, z16.2⟩
    clear F₅ N₅
    k_steps
    exact hfin _
end Mine
end -- F_law

section -- Fin1
open PySem PySem.W PySem.Calls PyProof.Rows
set_option Elab.async false
set_option maxRecDepth 100000
set_option maxHeartbeats 8000000
namespace Mine
theorem old_of {h h' : Heap} (C : CodeHd h 20 16) (hP : h.get? 16 = some (tabObj #[])) (hx : Ext16 h h') (hT : TabOk h') : OldK h h' := by
  obtain ⟨ps, hp, _⟩ := hT
  constructor
  · intro b o e
    by_cases hb : b = 16
    · subst hb
      rw [hP] at e
      cases e
      exact .inr (.inl ⟨(C.tab hP).isCodeTable, rfl, #[], ps, rfl, by rw [Array.empty_append]; exact hp⟩)
    · exact .inl (hx b o hb e)
  · intro b o e
    by_cases hb : b = 16
    · subst hb; exact ⟨_, hp⟩
    · exact ⟨o, hx b o hb e⟩
end Mine
theorem PySem.Challenge.cw_mj0094_01_holds : PySem.Challenge.rw_mj0094_01.Holds := by
  refine Mine.hd ?_
  k_fill
  intro w s₀ s₁ mg mb G Y fa o pm cd doc dV kV ho hd hcd hD hmg hg args vals as hpre hlay hrd hwl hlo
  have KX := kIn_of Y
  refine Ground.open G ?_
  intro T B D TE TW
  have M := bmod_of_top T
  have hfa : fa = 62 := by
    have e := mg_of KX T.g (n := Str.ofString "law") (v := .ref 62) (by kernel_rfl)
    have e2 : mg (Str.ofString "law") = some (.ref fa) := hmg
    rw [e] at e2; cases e2; rfl
  subst hfa
  have hT := tab_of (x := Str.ofString "_platform") (c := 20) (P := 16) T KX rfl (by kernel_rfl)
  clear hmg ho hd hcd hD Y G B D TE TW
  have O : Mine.OkH w mg mb s₁.heap := ⟨KX, topRead_of T, M⟩
  clear T KX M
  wrow_args hpre hlay hrd hwl hlo
  rename IntsAre _ _ => hI
  rename Heap.IsList _ _ _ => hL
  rename ¬ _ => hc
  refine Mine.law_spec O ⟨#[], hT.2, trivial⟩ ⟨rfl, by decide, by decide⟩ (.of_eq hg) hL hI (by omega) ?_
  intro s' hx hT' hb hos
  refine ⟨.inl ⟨_, _, [], rfl, fun _ => rfl, ReadsW.bool true, ?_, fun _ => ⟨List.nodup_nil, fun _ hm => nomatch hm⟩⟩, Mine.old_of hT.1 hT.2 hx hT', hos, hb⟩
  first | rfl | wrow_post
end -- Fin1

#print axioms PySem.Challenge.cw_mj0094_01_holds
