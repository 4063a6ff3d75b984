import PyProof.Rows.All
import Wide.All
import OpenK.AllK
import Wide.FinOn
import PySem.Challenge.RW_wa0033_01
open PySem PySem.W PyProof.Rows
set_option Elab.async false
set_option maxRecDepth 100000
set_option maxHeartbeats 8000000
namespace Mine
def qv : Program := view PySem.Challenge.rw_wa0033_01.row.prog [0, 1, 3, 4, 6, 7, 8, 10, 11, 12, 14, 16, 17, 18, 19]
abbrev rv := OpenRow.toRowW PySem.Challenge.rw_wa0033_01.row
set_option hygiene false in
local macro_rules | `(tactic| o_head $H) => `(tactic|
  (refine holds_open (q := qv) (loose := [Str.ofString "tspecials", Str.ofString "_name_disallowed_re", Str.ofString "_value_disallowed_re", Str.ofString "_formatparam"]) (Xt := fun s => xlAt qv [] s && recOk (RowW.records rv) s) (XP := XL qv []) (Yf := Hook.obs $H) (Ya := Hook.val $H) (YP := Hook.says $H) (N := 3414)
    ?left (Hook.of $H) (Hook.keeps $H) (fun s e => xl_of s (Bool.and_eq_true_iff.mp e).1) XL.keeps (by rfl) (by rfl) (by rfl) (fun s e => recFacts_of (Bool.and_eq_true_iff.mp e).2) (by rfl) (by assumption) (by decide +kernel) ⟨rfl, rfl, rfl, rfl, rfl, by decide +kernel⟩ ?hw ?hc
   (case left => (intro w; kernel_rfl))))
open_top hd for PySem.Challenge.rw_wa0033_01
end Mine
open PySem.Spec PySem.Calls
set_option linter.all false
namespace Mine

section
open PySem.Builtin.Str

/-- the text of these signs -/
abbrev S (l : List Nat) : Str := ⟨l.toArray⟩

theorem S_eta (x : Str) : x = S x.cps.toList := by simp [S]
theorem S_len (l : List Nat) : (S l).length = l.length := by simp [S, Str.length]
theorem S_append (a b : List Nat) : S a ++ S b = S (a ++ b) := by
  show Str.append _ _ = _
  simp [Str.append, S]
theorem S_inj {a b : List Nat} : S a = S b ↔ a = b := by
  constructor
  · intro h
    have := congrArg (fun x : Str => x.cps.toList) h
    simpa using this
  · intro h; rw [h]
theorem S_beq (a b : List Nat) : (S a == S b) = (a == b) := by
  rw [Bool.eq_iff_iff, beq_iff_eq, beq_iff_eq, S_inj]
theorem S_bne (a b : List Nat) : (S a != S b) = (a != b) := by
  unfold bne; rw [S_beq]

theorem slice_ss (l : List Nat) (a b : Nat) (hab : a ≤ b) (hb : b ≤ l.length) : Txt.slice (S l) (some (a : Int)) (some (b : Int)) = S ((l.drop a).take (b - a)) := by
  unfold Txt.slice
  rw [StrLaws.sliced_plain (S l) hab (by rw [S_len]; exact hb)]
  split
  · next h =>
    rw [S_len, StrLaws.strSliceIndices_plain hab hb] at h
    simp only [List.length_map, List.length_range, Bool.and_eq_true, beq_iff_eq] at h
    have h := h.2
    rw [S_inj]
    have h1 : a = 0 := by omega
    subst h1
    rw [List.drop_zero, List.take_of_length_le]; omega
  · rfl

theorem idx_ns (b len : Nat) : strSliceIndices none (some (b : Int)) 1 len = strSliceIndices (some ((0 : Nat) : Int)) (some (b : Int)) 1 len := by
  unfold strSliceIndices
  have : max (0 : Int) (min ((0 : Nat) : Int) (len : Int)) = 0 := by omega
  simp only [show (1 : Int) > 0 by decide, if_true, show ¬ (((0 : Nat) : Int) < 0) by decide, if_false, this]
theorem idx_sn (a len : Nat) : strSliceIndices (some (a : Int)) none 1 len = strSliceIndices (some (a : Int)) (some (len : Int)) 1 len := by
  unfold strSliceIndices
  have h1 : ¬ ((len : Int) < 0) := by omega
  have : max (0 : Int) (min (len : Int) (len : Int)) = len := by omega
  simp only [show (1 : Int) > 0 by decide, if_true, h1, if_false, this]
theorem slice_ns (l : List Nat) (b : Nat) (hb : b ≤ l.length) : Txt.slice (S l) none (some (b : Int)) = S (l.take b) := by
  have := slice_ss l 0 b (Nat.zero_le _) hb
  rw [List.drop_zero, Nat.sub_zero] at this
  rw [← this]
  unfold Txt.slice
  rw [idx_ns]
theorem slice_sn (l : List Nat) (a : Nat) (ha : a ≤ l.length) : Txt.slice (S l) (some (a : Int)) none = S (l.drop a) := by
  have := slice_ss l a l.length ha (Nat.le_refl _)
  have e : (l.drop a).take (l.length - a) = l.drop a := List.take_of_length_le (by rw [List.length_drop]; exact Nat.le_refl _)
  rw [e] at this
  rw [← this]
  unfold Txt.slice
  rw [idx_sn, S_len]

theorem item_at (l : List Nat) (i : Nat) (h : i < l.length) : Txt.item (S l) (i : Int) = S [l[i]] := by
  unfold Txt.item Txt.charAt seqIndex?
  have : ¬ ((i : Int) < 0) := by omega
  simp only [this, if_false, S_len]
  have h2 : (decide (0 ≤ (i : Int)) && decide ((i : Int) < (l.length : Int))) = true := by simp; omega
  rw [h2]
  simp [h]
theorem item_at' (l : List Nat) (i : Nat) (c : Nat) (h : l[i]? = some c) : Txt.item (S l) (i : Int) = S [c] := by
  obtain ⟨hi, he⟩ := List.getElem?_eq_some_iff.mp h
  rw [item_at l i hi, he]
theorem item_last (l : List Nat) (c : Nat) (h : l.getLast? = some c) : Txt.item (S l) (-1) = S [c] := by
  have hl : l ≠ [] := by rintro rfl; simp at h
  have hp : 0 < l.length := List.length_pos_iff.mpr hl
  unfold Txt.item Txt.charAt seqIndex?
  simp only [show ((-1 : Int) < 0) by decide, if_true, S_len]
  have h2 : (decide (0 ≤ (-1 : Int) + (l.length : Int)) && decide ((-1 : Int) + (l.length : Int) < (l.length : Int))) = true := by simp; omega
  rw [h2]
  have h3 : ((-1 : Int) + (l.length : Int)).toNat = l.length - 1 := by omega
  rw [if_pos rfl]
  simp only [Option.bind_some, h3]
  rw [List.getLast?_eq_getElem?] at h
  simp [h]

theorem lower_S (l : List Nat) (h : ∀ c ∈ l, c < 128) : Txt.lower (S l) = S (l.map lo1) := by
  rw [lower_ascii (by simpa using h)]
  simp [S]

theorem in_one (l : List Nat) (c : Nat) : (occurrences (S l) (S [c]) 0 (S l).length 1).isEmpty = !decide (c ∈ l) := by
  have := empty_one (S l) c
  simpa using this

/-- the places of a sign -/
def posOf (c : Nat) : Nat → List Nat → List Nat
  | _, [] => []
  | k, x :: r => if x = c then k :: posOf c (k + 1) r else posOf c (k + 1) r
theorem posOf_append (c : Nat) : ∀ (a b : List Nat) (k : Nat), posOf c k (a ++ b) = posOf c k a ++ posOf c (k + a.length) b
  | [], b, k => by simp [posOf]
  | x :: r, b, k => by
    have ih := posOf_append c r b (k + 1)
    have e : k + 1 + r.length = k + (r.length + 1) := by omega
    simp only [List.cons_append, posOf, List.length_cons]
    split <;> rw [ih, e] <;> simp
theorem posOf_none (c : Nat) : ∀ (a : List Nat) (k : Nat), c ∉ a → posOf c k a = []
  | [], _, _ => rfl
  | x :: r, k, h => by
    have hx : x ≠ c := fun e => h (e ▸ List.mem_cons_self)
    simp only [posOf, if_neg hx]
    exact posOf_none c r (k + 1) fun hm => h (List.mem_cons_of_mem _ hm)

theorem subAt_one (l : List Nat) (c i : Nat) : subAt (S l) (S [c]) i = decide (l[i]? = some c) := by
  rw [StrLaws.subAt_eq]
  show ((l.drop i).take 1 == [c]) = _
  rw [Bool.eq_iff_iff, beq_iff_eq, decide_eq_true_iff, List.take_one, List.head?_drop]
  cases l[i]? <;> simp

theorem occ_go (l : List Nat) (c limit : Nat) : ∀ (n k free : Nat) (f : Array Nat), free ≤ k → k + n = l.length + 1 →
    (forIn (List.range' k n) (f, free) (StrLaws.occBody (S l) (S [c]) l.length limit)).run.fst.toList = f.toList ++ (posOf c k (l.drop k)).take (limit - f.size)
  | 0, k, free, f, _, hk => by
    have : l.drop k = [] := List.drop_eq_nil_iff.mpr (by omega)
    simp [this, posOf]
  | n + 1, k, free, f, hf, hk => by
    rw [List.range'_succ, List.forIn_cons]
    unfold StrLaws.occBody
    rw [subAt_one]
    by_cases hkl : k < l.length
    · have hd : l.drop k = l[k] :: l.drop (k + 1) := List.drop_eq_getElem_cons hkl
      rw [hd, posOf]
      by_cases hc : l[k] = c
      · by_cases hs : f.size < limit
        · have hcond : ((f.size < limit ∧ free ≤ k) ∧ k + Str.length (S [c]) ≤ l.length) ∧ decide (l[k]? = some c) = true := by
            refine ⟨⟨⟨hs, hf⟩, by rw [S_len]; simp; omega⟩, ?_⟩
            simp [hkl, hc]
          rw [if_pos hcond]; simp only [pure_bind]
          have := occ_go l c limit n (k + 1) (k + Str.length (S [c])) (f.push k) (by rw [S_len]; simp) (by omega)
          unfold StrLaws.occBody at this
          rw [this]
          simp only [if_pos hc, Array.toList_push, Array.size_push]
          have e : limit - f.size = (limit - (f.size + 1)) + 1 := by omega
          rw [e, List.take_succ_cons, List.append_assoc]
          rfl
        · have hcond : ¬ (((f.size < limit ∧ free ≤ k) ∧ k + Str.length (S [c]) ≤ l.length) ∧ decide (l[k]? = some c) = true) := fun h => hs h.1.1.1
          rw [if_neg hcond]; simp only [pure_bind]
          have := occ_go l c limit n (k + 1) free f (by omega) (by omega)
          unfold StrLaws.occBody at this
          rw [this]
          have e : limit - f.size = 0 := by omega
          simp [e]
      · have hcond : ¬ (((f.size < limit ∧ free ≤ k) ∧ k + Str.length (S [c]) ≤ l.length) ∧ decide (l[k]? = some c) = true) := fun h => by
          have := h.2
          simp [hkl] at this
          exact hc this
        rw [if_neg hcond]; simp only [pure_bind]
        have := occ_go l c limit n (k + 1) free f (by omega) (by omega)
        unfold StrLaws.occBody at this
        rw [this, if_neg hc]
    · have hd : l.drop k = [] := List.drop_eq_nil_iff.mpr (by omega)
      have hcond : ¬ (((f.size < limit ∧ free ≤ k) ∧ k + Str.length (S [c]) ≤ l.length) ∧ decide (l[k]? = some c) = true) := fun h => by
        have := h.1.2
        rw [S_len] at this
        simp at this
        omega
      rw [if_neg hcond]; simp only [pure_bind]
      have := occ_go l c limit n (k + 1) free f (by omega) (by omega)
      unfold StrLaws.occBody at this
      have hd2 : l.drop (k + 1) = [] := List.drop_eq_nil_iff.mpr (by omega)
      rw [this, hd2, hd]
      simp [posOf]

theorem occ_pos (l : List Nat) (c limit : Nat) : occurrences (S l) (S [c]) 0 l.length limit = (posOf c 0 l).take limit := by
  rw [StrLaws.occ_eq]
  have := occ_go l c limit (l.length + 1) 0 0 #[] (Nat.le_refl _) (by omega)
  simpa using this

theorem kind_small (l : List Nat) (h : ∀ c ∈ l, c < 256) : Builtin.Str.strKind (S l) = 1 := by
  unfold Builtin.Str.strKind
  rw [if_pos]
  rw [Array.all_eq_true']
  intro x hx
  have : x ∈ l := by simpa using hx
  simpa using h x this

theorem split_two (a b c : List Nat) (ha : 39 ∉ a) (hb : 39 ∉ b) (hs : ∀ x ∈ a ++ b ++ c, x < 256) :
    Txt.splitMax (S (a ++ 39 :: (b ++ 39 :: c))) (Str.ofString "'") 2 = [S a, S b, S c] := by
  have hq : Str.ofString "'" = S [39] := by decide +kernel
  rw [hq]
  have hocc : occurrences (S (a ++ 39 :: (b ++ 39 :: c))) (S [39]) 0 (S (a ++ 39 :: (b ++ 39 :: c))).length (limitOf (S (a ++ 39 :: (b ++ 39 :: c))) 2) = [a.length, a.length + 1 + b.length] := by
    rw [S_len, occ_pos, posOf_append, posOf_none 39 a 0 ha, List.nil_append, posOf, if_pos rfl, posOf_append, posOf_none 39 b _ hb, List.nil_append, posOf, if_pos rfl]
    show List.take 2 _ = _
    simp
  unfold Txt.splitMax
  rw [hocc]
  have hk : Builtin.Str.strKind (S (a ++ 39 :: (b ++ 39 :: c))) = 1 := kind_small _ fun x hx => by
    have hx : x ∈ a ∨ x = 39 ∨ x ∈ b ∨ x = 39 ∨ x ∈ c := by simpa using hx
    rcases hx with h | h | h | h | h
    · exact hs x (by simp [h])
    · omega
    · exact hs x (by simp [h])
    · omega
    · exact hs x (by simp [h])
  have hk2 : Builtin.Str.strKind (S [39]) = 1 := kind_small _ (by simp)
  rw [hk, hk2]
  have hc1 : ¬ ((decide ((S (a ++ 39 :: (b ++ 39 :: c))).length < (S [39]).length) || decide (1 < 1)) = true) := by
    rw [S_len, S_len]; simp
  rw [if_neg hc1]
  simp only [List.isEmpty_cons, Bool.false_eq_true, if_false]
  unfold partsBetween
  simp only [List.map_cons, List.map_nil, List.cons_append, List.nil_append, List.zip_cons_cons, List.zip_nil_right, List.cons.injEq, and_true, S_len, List.length_cons, List.length_nil]
  refine ⟨?_, ?_, ?_⟩
  · rw [S_eta (strSub _ _ _), StrLaws.strSub_toList, S_inj]; simp
  · rw [S_eta (strSub _ _ _), StrLaws.strSub_toList, S_inj]
    have e1 : a ++ 39 :: (b ++ 39 :: c) = (a ++ [39]) ++ (b ++ 39 :: c) := by simp
    show List.take _ (List.drop _ (a ++ 39 :: (b ++ 39 :: c))) = b
    rw [e1, List.drop_append_of_le_length (by simp), List.drop_of_length_le (by simp), List.nil_append]
    have e2 : a.length + 1 + b.length - (a.length + (0 + 1)) = b.length := by omega
    rw [e2]; simp
  · rw [S_eta (strSub _ _ _), StrLaws.strSub_toList, S_inj]
    have e1 : a ++ 39 :: (b ++ 39 :: c) = (a ++ 39 :: (b ++ [39])) ++ c := by simp
    show List.take _ (List.drop _ (a ++ 39 :: (b ++ 39 :: c))) = c
    rw [e1, List.drop_append_of_le_length (by simp; omega), List.drop_of_length_le (by simp; omega), List.nil_append, List.take_of_length_le]
    simp; omega
end

section
abbrev pg : Program := Challenge.rw_wa0033_01.row.prog

/-- what stands around a call -/
abbrev Ar (dp un : Nat) (fr : Option (List Env)) (gd : Option (List Code)) : Around := { handled := none, depth := dp, frames := fr, guards := gd, units := un }

/-- what the walk asks of the heap at a call -/
structure Cx (w : World) (h : Heap) : Prop where
  X : (Mine.hd.heap_39 w.params).In h
  T : ∃ p loose mean mg mb, Top p loose mean mg mb h

theorem Cx.keeps {w : World} {h h' : Heap} (C : Cx w h) (hk : ∀ b o, h.get? b = some o → h'.get? b = some o) : Cx w h' :=
  ⟨C.X.keeps hk, let ⟨p, l, m, mg, mb, T⟩ := C.T; ⟨p, l, m, mg, mb, T.keeps hk⟩⟩

section
variable {prog : Program} {w : World} {A : Around} {E : Value → Shared → Prop} {s : Shared} {K : Frag} {Q : Value → Shared → Prop}
  {p : Program} {loose : List Str} {mean : ExcName → Option Value} {mg mb : Str → Option Value}
  {name qual : Str} {params : Arguments} {body : List Stmt} {scope : Scope} {dV kV doc pm cdv ct oc : Value} {an od : Option Addr} {osl : Array (Option Value)} {f : Addr} {args : Args} {binds : List (Str × Value)}

/-- a def without cells is entered; the frame's base is the heap at the call -/
theorem enter0 {pos : List Value} {kw : List (Str × Value)} (X : K.In s.heap) (T : Top p loose mean mg mb s.heap)
    (ho : K.lookup f = some ⟨oc, od, .func (fnOf name qual params body scope dV kV doc pm an cdv ct), osl⟩) (hcd : codeIn K cdv qual = true) (hroom : A.depth < recursionLimit)
    (hbind : BindsTo s (fnOf name qual params body scope dV kV doc pm an cdv ct) ⟨pos, kw⟩ binds) (hloc : ∀ y ∈ binds, scope.names.lookup y.1 = some .local)
    (h : ∀ L h₁, Fr s.heap L h₁ (fun y => binds.reverse.lookup y) → News s.heap L h₁ [] →
      wpAny (model prog w) (A.deeper (envOf qual scope L f cdv)) (execs body (envOf qual scope L f cdv))
        (fun fl s' => Q (match fl with | .ret v => v | _ => .none) s') (fun _ _ => False) { s with heap := h₁, toks := s.toks + binds.length })
    (hco : scope.isCoroutine = false) (hgen : scope.isGenerator = false) (hk : scope.kind = .function) (hcell : ∀ x ∈ scope.names, x.2 ≠ .cell) :
    wpAny (model prog w) A (call (.ref f) pos kw) Q E s := by
  refine wpAny_call (codeAny_call_def (fd := fnOf name qual params body scope dV kV doc pm an cdv ct) (body := body) (binds := binds) hroom (X _ _ ho) rfl T.nolimit (codeRec_of X hcd) rfl hbind hcell hloc (fun h₁ hns hk₁ => ?_) hco hgen hk)
  exact wpAny_mono (h s.heap.objs.size h₁ ⟨hns, hk₁, Nat.le_refl _⟩ News.nil) (fun _ _ x => x) fun _ _ x => x.elim

/-- a def with cells -/
theorem enterC {pos : List Value} {kw : List (Str × Value)} (X : K.In s.heap) (T : Top p loose mean mg mb s.heap)
    (ho : K.lookup f = some ⟨oc, od, .func (fnOf name qual params body scope dV kV doc pm an cdv ct), osl⟩) (hcd : codeIn K cdv qual = true) (hroom : A.depth < recursionLimit)
    (hbind : BindsTo s (fnOf name qual params body scope dV kV doc pm an cdv ct) ⟨pos, kw⟩ binds)
    (hkind : (binds.all fun y => scope.names.lookup y.1 == some .local || scope.names.lookup y.1 == some .cell) = true)
    (hnd : ((cellsFrom 0 scope.names []).map (·.1)).Nodup)
    (h : ∀ L h₁ tk cells, Fr s.heap L h₁ (bindL (envOfC qual scope L f cdv).kindOf binds fun _ => none) → News s.heap L h₁ cells →
      CellsAre (bindC (envOfC qual scope L f cdv).kindOf binds fun _ => none) (cellsFrom (L + 1) scope.names []) cells →
      wpAny (model prog w) (A.deeper (envOfC qual scope L f cdv)) (execs body (envOfC qual scope L f cdv))
        (fun fl s' => Q (match fl with | .ret v => v | _ => .none) s') (fun _ _ => False) { s with heap := h₁, toks := tk })
    (hco : scope.isCoroutine = false) (hgen : scope.isGenerator = false) (hk : scope.kind = .function) :
    wpAny (model prog w) A (call (.ref f) pos kw) Q E s := by
  refine wpAny_call (codeAny_call_function (X _ _ ho) rfl hco hgen rfl (codeRec_of X hcd) (hbind _ _ _ _ ?_) (hroom := hroom))
  refine wpAny_newFunctionEnv_cells hk (kindsX hkind _) fun env' he s' x => ?_
  subst he
  refine ⟨T.nolimit.keeps x.toInCall.keep, codeAny_func ?_⟩
  obtain ⟨h₁, tk, rfl, _⟩ := x.done
  obtain ⟨cells, NC, Y⟩ := Cl.news (h₀ := s.heap) (Nat.le_refl _) fun n c hm => ⟨x.cell n c (lookup_of_mem_nodup (cellsFrom_names scope.names 0 (s.heap.objs.size + 1) [] [] rfl ▸ hnd) hm), x.above n c hm⟩
  exact wpAny_mono (h s.heap.objs.size h₁ tk cells ⟨x.toInCall.ns, x.toInCall.keep, Nat.le_refl _⟩ NC Y) (fun _ _ x => x) fun _ _ x => x.elim
end

/-- a raw contract, used within a walk -/
theorem use0 {α : Type} {M : Model} {A : Around} {E : Value → Shared → Prop} {s : Shared} {h₀ : Heap} {L : Addr} {m : Str → Option Value} {news : List (Addr × Obj)} {t : Sem α} {P : α → Shared → Prop} {Q : α → Shared → Prop}
    (F : Fr h₀ L s.heap m) (N : News h₀ L s.heap news) (c : wpAny M A t (fun r s' => Keeps s s' ∧ P r s') E s)
    (h : ∀ r h' tk, (∀ b o, s.heap.get? b = some o → h'.get? b = some o) → Fr h₀ L h' m → News h₀ L h' news → P r { s with heap := h', toks := tk } → Q r { s with heap := h', toks := tk }) :
    wpAny M A t Q E s := by
  refine wpAny_mono c (fun r s' hr => ?_) fun _ _ e => e
  obtain ⟨⟨h', tk, rfl, hk⟩, hp⟩ := hr
  exact h r h' tk hk ⟨F.ns.keeps hk, fun b o e => hk b o (F.keep b o e), F.above⟩ (fun q hq => ⟨hk _ _ (N q hq).1, (N q hq).2⟩) hp

theorem of_any {α : Type} {M : Model} {A : Around} {E : Value → Shared → Prop} {s : Shared} {t : Sem α} {P : α → Shared → Prop} (h : ∀ Q : α → Shared → Prop, (∀ r s', P r s' → Q r s') → wpAny M A t Q E s) : wpAny M A t P E s := h P fun _ _ x => x

theorem str_eq {a b : Str} {t : Tok} (h : a = b) : ∃ u, Value.str a t = Value.str b u := ⟨t, by rw [h]⟩

theorem ex_str {a b : Str} {t : Tok} (h : a = b) : ∃ u, some (Value.str a t) = some (Value.str b u) := ⟨t, by rw [h]⟩
theorem ex_int {a b : Int} {t : Tok} (h : a = b) : ∃ u, some (Value.int a t) = some (Value.int b u) := ⟨t, by rw [h]⟩

theorem newsAdd {h₀ h h' : Heap} {L a : Addr} {o : Obj} {m : Str → Option Value} {news : List (Addr × Obj)} (F : Fr h₀ L h m) (N : News h₀ L h' news) (hn : h.get? a = none) (ho : h'.get? a = some o) : News h₀ L h' ((a, o) :: news) := by
  intro q hq
  rcases List.mem_cons.mp hq with rfl | hq
  · refine ⟨ho, fun e => ?_, ?_⟩
    · obtain ⟨oL, _, _, hL, _⟩ := F.ns
      simp only at e
      rw [e, hL] at hn
      cases hn
    · cases hq : h₀.get? a with
      | none => rfl
      | some o' => rw [F.keep _ _ hq] at hn; cases hn
  · exact N q hq

theorem keeps_of_fr {s : Shared} {L : Addr} {h' : Heap} {m : Str → Option Value} {tk : Nat} (F : Fr s.heap L h' m) : Keeps s { s with heap := h', toks := tk } := ⟨h', tk, rfl, F.keep⟩

/-- the walk stops here -/
def Hold (P : Prop) : Prop := P
theorem hold_of {P : Prop} (h : Hold P) : P := h
theorem Hold.out {P : Prop} (h : P) : Hold P := h

/-- the end of a while loop's turn -/
def WEnd (I : Nat → Shared → Prop) (n : Nat) (Q : Flow → Shared → Prop) (f : Flow) (s₃ : Shared) : Prop := match f with
  | .next | .cont => ∃ m, m < n ∧ I m s₃
  | .brk => Q .next s₃
  | .ret v => Q (.ret v) s₃
/-- a while loop in a frame that raises nothing -/
theorem while_me {prog : Program} {w : World} {A : Around} {env : Env} {test : Expr} {body : List Stmt} {pos : Pos} {Q : Flow → Shared → Prop} {s : Shared} (I : Nat → Shared → Prop) (n : Nat) (hI : I n s)
    (turn : ∀ n s, I n s → wpAny (model prog w) A (isTrue test env (eval test env)) (fun b s₂ =>
      if b = true then wpAny (model prog w) A (execs body env) (WEnd I n Q) (fun _ _ => False) s₂
      else Q .next s₂) (fun _ _ => False) s) :
    wpAny (model prog w) A (exec (.While test body [] pos) env) Q (fun _ _ => False) s := by
  refine wpAny_While (codeAny_whileLoop I (fun n s' hI => ?_) n hI)
  refine wpAny_mono (turn n s' hI) (fun b s₂ h₂ => ?_) (fun _ _ h => h.elim)
  cases b with
  | false =>
    simp only [Bool.false_eq_true, if_false] at h₂ ⊢
    exact wpAny_execs_nil h₂
  | true =>
    simp only [if_true] at h₂ ⊢
    exact wpAny_mono h₂ (fun f s₃ h₃ => by cases f <;> exact h₃) (fun _ _ h => h.elim)

/-- what is known of a frame's names, written out -/
theorem know0 {m : Str → Option Value} : ∀ p ∈ ([] : List (Str × Value)), m p.1 = some p.2 := fun _ h => nomatch h
theorem know1 {m : Str → Option Value} {a : Str} {v : Value} {ps : List (Str × Value)} (e : m a = some v) (h : ∀ p ∈ ps, m p.1 = some p.2) : ∀ p ∈ (a, v) :: ps, m p.1 = some p.2 := List.forall_mem_cons.mpr ⟨e, h⟩
theorem frKnow {h₀ h : Heap} {L : Addr} {m : Str → Option Value} {ps : List (Str × Value)} (F : Fr h₀ L h m) (e : ∀ p ∈ ps, m p.1 = some p.2) : Fr h₀ L h (kstB m ps) := by
  have : kstB m ps = m := funext fun z => kstB_eq e fun _ => rfl
  rw [this]; exact F

theorem instAt_fr {h₀ h : Heap} {L x C dx : Addr} {m : Str → Option Value} {od : Obj} (F : Fr h₀ L h m) (hx : h₀.get? x = some (instObj C dx)) (hd : h₀.get? dx = some od) : InstAt h x (instObj C dx) C (some od) :=
  ⟨F.keep _ _ hx, rfl, rfl, F.keep _ _ hd⟩

/-- the rows of a table: pairs of texts -/
inductive RowsAt (h : Heap) : List Value → List (List Nat × List Nat) → Prop
  | nil : RowsAt h [] []
  | cons {a : Addr} {nm vl : List Nat} {t u : Tok} {vs : List Value} {rows : List (List Nat × List Nat)} : IsTup h a #[.str (S nm) t, .str (S vl) u] → RowsAt h vs rows → RowsAt h (.ref a :: vs) ((nm, vl) :: rows)
theorem RowsAt.keeps {h h' : Heap} (hk : ∀ b o, h.get? b = some o → h'.get? b = some o) {vs : List Value} {rows : List (List Nat × List Nat)} (x : RowsAt h vs rows) : RowsAt h' vs rows := by
  induction x with
  | nil => exact .nil
  | cons t _ ih => exact .cons (t.keeps hk) ih
theorem RowsAt.length {h : Heap} {vs : List Value} {rows : List (List Nat × List Nat)} (x : RowsAt h vs rows) : vs.length = rows.length := by
  induction x with
  | nil => rfl
  | cons _ _ ih => simp [ih]
theorem RowsAt.get {h : Heap} {vs : List Value} {rows : List (List Nat × List Nat)} (x : RowsAt h vs rows) : ∀ (i : Nat) (v : Value), vs[i]? = some v → ∃ a nm vl t u, v = .ref a ∧ rows[i]? = some (nm, vl) ∧ IsTup h a #[.str (S nm) t, .str (S vl) u] := by
  induction x with
  | nil => intro i v h; simp at h
  | cons tp _ ih =>
    intro i v h
    cases i with
    | zero => simp at h; subst h; exact ⟨_, _, _, _, _, rfl, rfl, tp⟩
    | succ i => simp at h; simpa using ih i v h
theorem RowsAt.snoc {h : Heap} {vs : List Value} {rows : List (List Nat × List Nat)} {a : Addr} {nm vl : List Nat} {t u : Tok} (x : RowsAt h vs rows) (tp : IsTup h a #[.str (S nm) t, .str (S vl) u]) : RowsAt h (vs ++ [.ref a]) (rows ++ [(nm, vl)]) := by
  induction x with
  | nil => exact .cons tp .nil
  | cons t _ ih => exact .cons t ih

/-- a Headers object with these rows -/
structure IsTable (h : Heap) (x : Addr) (rows : List (List Nat × List Nat)) (dx l : Addr) (od : Obj) (vs : List Value) : Prop where
  inst : h.get? x = some (instObj 221 dx)
  dict : h.get? dx = some od
  entry : ∃ hs tk n, od = dictOf [⟨hs, .str (Str.ofString "_headers") tk, .ref l⟩] n
  list : ∃ c, h.get? l = some (listOf vs.toArray c)
  rows : RowsAt h vs rows
theorem IsTable.keeps {h h' : Heap} {x dx l : Addr} {rows : List (List Nat × List Nat)} {od : Obj} {vs : List Value} (hk : ∀ b o, h.get? b = some o → h'.get? b = some o) (T : IsTable h x rows dx l od vs) : IsTable h' x rows dx l od vs :=
  ⟨hk _ _ T.inst, hk _ _ T.dict, T.entry, let ⟨c, e⟩ := T.list; ⟨c, hk _ _ e⟩, T.rows.keeps hk⟩

section
variable {prog : Program} {w : World} {A : Around} {s : Shared} {h₀ : Heap} {L : Addr} {m : Str → Option Value} {env : Env} {ct elt : Expr} {x : Str} {scope : Scope} {cl : List (Str × Addr)} {S : List (Addr × Obj) → Prop} {P : Nat → Value → Prop} {Fin : List Value → List (Addr × Obj) → Prop} {n : Nat}
theorem compEnd_mono {s₁ s₂ : Shared} {I C D : Addr} {oI oC oD : Obj} {rest rest' : Value → List (Addr × Obj) → Prop} {y : Value} (h : LCg.CompEnd h₀ L m s₁ I oI C oC D oD S rest y s₂) (hr : ∀ y nw, rest y nw → rest' y nw) :
    LCg.CompEnd h₀ L m s₁ I oI C oC D oD S rest' y s₂ := let ⟨h', tk, nw, e, F, N, o, hS, r⟩ := h; ⟨h', tk, nw, e, F, N, o, hS, hr _ _ r⟩

/-- what one turn of a comprehension with a test owes -/
def TestPost (prog : Program) (w : World) (A : Around) (h₀ : Heap) (L : Addr) (m : Str → Option Value) (env : Env) (elt : Expr) (scope : Scope) (cl : List (Str × Addr)) (s₁ : Shared) (I : Addr) (oI : Obj) (C : Addr) (oC : Obj) (D : Addr) (oD : Obj) (S : List (Addr × Obj) → Prop)
    (R1 R2 : Value → List (Addr × Obj) → Prop) (E' : Value → Shared → Prop) (ok : Bool) (s' : Shared) : Prop :=
  if ok = true then wpAny (model prog w) A (eval elt (compEnvC scope cl C env)) (LCg.CompEnd h₀ L m s₁ I oI C oC D oD S R1) E' s' else LCg.CompEnd h₀ L m s₁ I oI C oC D oD S R2 Value.none s'

theorem rest_indT (J : Nat → List Value → List (Addr × Obj) → Prop)
    (step : ∀ i ys news, i < n → J i ys news → ∀ v I oI C oC D m₂ h tk (E' : Value → Shared → Prop), P i v → LCg.NsObj oC m₂ → m₂ x = some v → Fr h₀ L h m → News h₀ L h ((I, oI) :: (C, oC) :: (D, LCg.lst ys) :: news) → LCg.Off3 I C D news → ((@Ne Nat I C) ∧ (@Ne Nat I D) ∧ (@Ne Nat C D)) →
      wpAny (model prog w) A (isTrue ct (compEnvC scope cl C env) (eval ct (compEnvC scope cl C env)))
        (TestPost prog w A h₀ L m env elt scope cl { s with heap := h, toks := tk } I oI C oC D (LCg.lst ys) S (fun y nw => J (i + 1) (ys ++ [y]) nw) (fun _ nw => J (i + 1) ys nw) E') E' { s with heap := h, toks := tk })
    (fin : ∀ ys nw, J n ys nw → Fin ys nw) : ∀ (k i : Nat) (ys : List Value) (news : List (Addr × Obj)), i + k = n → J i ys news → LCt.CompRestT prog w A h₀ L m env ct elt x scope cl s S P Fin k i ys news
  | 0, i, ys, news, e, hJ => fin ys news (by have : i = n := by omega
                                             exact this ▸ hJ)
  | k + 1, i, ys, news, e, hJ => by
    refine LCt.CompRestT.succ fun v I oI C oC D m₂ h tk E' hP hC hx F N off ne => ?_
    refine wpAny_mono (step i ys news (by omega) hJ v I oI C oC D m₂ h tk E' hP hC hx F N off ne) (fun ok s' h' => ?_) fun _ _ e => e
    unfold TestPost at h'
    cases ok with
    | true =>
      simp only [if_true] at h' ⊢
      exact wpAny_mono h' (fun y s₂ hy => compEnd_mono hy fun y nw r => rest_indT J step fin k (i + 1) _ nw (by omega) r) fun _ _ e => e
    | false =>
      simp only [Bool.false_eq_true, if_false] at h' ⊢
      exact compEnd_mono h' fun _ nw r => rest_indT J step fin k (i + 1) _ nw (by omega) r

theorem rest_indU (J : Nat → List Value → List (Addr × Obj) → Prop)
    (step : ∀ i ys news, i < n → J i ys news → ∀ v I oI C oC D m₂ h tk (E' : Value → Shared → Prop), P i v → LCg.NsObj oC m₂ → m₂ x = some v → Fr h₀ L h m → News h₀ L h ((I, oI) :: (C, oC) :: (D, LCg.lst ys) :: news) → LCg.Off3 I C D news → ((@Ne Nat I C) ∧ (@Ne Nat I D) ∧ (@Ne Nat C D)) →
      wpAny (model prog w) A (eval elt (compEnvC scope cl C env))
        (LCg.CompEnd h₀ L m { s with heap := h, toks := tk } I oI C oC D (LCg.lst ys) S (fun y nw => J (i + 1) (ys ++ [y]) nw)) E' { s with heap := h, toks := tk })
    (fin : ∀ ys nw, J n ys nw → Fin ys nw) : ∀ (k i : Nat) (ys : List Value) (news : List (Addr × Obj)), i + k = n → J i ys news → LCg.CompRest prog w A h₀ L m env elt x scope cl s S P Fin k i ys news
  | 0, i, ys, news, e, hJ => fin ys news (by have : i = n := by omega
                                             exact this ▸ hJ)
  | k + 1, i, ys, news, e, hJ => by
    refine LCg.CompRest.succ fun v I oI C oC D m₂ h tk E' hP hC hx F N off ne => ?_
    exact wpAny_mono (step i ys news (by omega) hJ v I oI C oC D m₂ h tk E' hP hC hx F N off ne) (fun y s₂ hy => compEnd_mono hy fun y nw r => rest_indU J step fin k (i + 1) _ nw (by omega) r) fun _ _ e => e
end

theorem strsAre_snoc {ys : List Value} {xs : List Str} {x : Str} {t : Tok} (h : StrsAre ys xs) : StrsAre (ys ++ [.str x t]) (xs ++ [x]) := by
  induction h with
  | nil => exact .cons x t .nil
  | cons y u _ ih => exact .cons y u ih

/-- the numeral of a place -/
abbrev num (k : Nat) : Str := Str.ofString (toString (k : Int))

theorem fill (w : World) (h₀ : Heap) (h : (Mine.hd.heap_39 w.params).In h₀) : Challenge.rw_wa0033_01.row.prog = Challenge.rw_wa0033_01.row.prog ∧ (Mine.hd.heap_39 w.params).In h₀ := by
  w_top off
  k_fill
  exact ⟨rfl, h⟩
end

section
theorem plainAttrs_pattern : PlainAttrs "re.Pattern" :=
  ⟨⟨"object.__getattribute__", by rw [typeLookup_type, builtinLookup_eq_fast]; kernel_rfl, by decide +kernel⟩, by rw [typeLookup_type, builtinLookup_eq_fast]; kernel_rfl⟩
theorem slot_search : Slot "re.Pattern" "search" "re.Pattern.search" :=
  .of (owner := "re.Pattern") (n := "search") (by rw [typeLookup_type, builtinLookup_eq_fast]; kernel_rfl) (by decide +kernel) (by decide +kernel) (by decide +kernel)
    (by first | exact .inl (by decide +kernel) | exact .inr (by decide +kernel)) (by rw [isSubtype_type]; kernel_rfl)
theorem type_search : typeOf (.builtin "re.Pattern.search") = pure (.type "method_descriptor") := by show builtinType _ = _; rw [builtinType_eq_fast]; kernel_rfl
theorem entry_search : entryFor table "re.Pattern.search" = some Builtin.«re.Pattern.search» := entryFor_of_tree (by kernel_rfl)

abbrev nameCode : Array Nat := #[14, 10, 4, 1, 1, 22, 0, 31, 16, 127, 0, 13, 7, 22, 0, 31, 16, 127, 0, 1]
abbrev valueCode : Array Nat := #[14, 14, 4, 1, 1, 9, 4294966783, 0, 0, 2147483648, 0, 0, 0, 0, 0, 13, 11, 9, 4294966783, 0, 0, 2147483648, 0, 0, 0, 0, 0, 1]

section
variable {code : Array Nat} {c fuel i : Nat} {yes : Bool} {seen : Sre.Seen}
theorem set_range (ho : Sre.ops[code.getD i 0]? = some .RANGE) (h : ¬ (code.getD (i + 1) 0 ≤ c ∧ c ≤ code.getD (i + 2) 0)) :
    Sre.inSet code c (fuel + 1) i yes seen = Sre.inSet code c fuel (i + 3) yes (seen.add (code.getD i 0)) := by
  rw [Sre.inSet]
  simp only [Nat.add_zero, ho]
  rw [if_neg (by simpa using h)]
theorem set_literal (ho : Sre.ops[code.getD i 0]? = some .LITERAL) (h : c ≠ code.getD (i + 1) 0) :
    Sre.inSet code c (fuel + 1) i yes seen = Sre.inSet code c fuel (i + 2) yes (seen.add (code.getD i 0)) := by
  rw [Sre.inSet]
  simp only [Nat.add_zero, ho]
  rw [if_neg (by simpa using h)]
theorem set_charset (ho : Sre.ops[code.getD i 0]? = some .CHARSET) (h : (code.getD (i + (1 + c / 32)) 0).testBit (c % 32) = false) :
    Sre.inSet code c (fuel + 1) i yes seen = Sre.inSet code c fuel (i + 9) yes (seen.add (code.getD i 0)) := by
  rw [Sre.inSet]
  simp only [Nat.add_zero, ho]
  rw [if_neg (by rw [h]; simp)]
theorem set_failure (ho : Sre.ops[code.getD i 0]? = some .FAILURE) :
    Sre.inSet code c (fuel + 1) i yes seen = .ok (!yes, seen.add (code.getD i 0)) := by
  rw [Sre.inSet]
  simp only [Nat.add_zero, ho]
end

theorem name_not (c : Nat) (h : 32 ≤ c ∧ c < 127) (seen : Sre.Seen) : ∃ seen', Sre.inSet nameCode c nameCode.size 5 true seen = .ok (false, seen') := by
  exact ⟨_, (set_range (fuel := 19) (by rfl) (by show ¬ (0 ≤ c ∧ c ≤ 31); omega)).trans ((set_literal (fuel := 18) (by rfl) (by show c ≠ 127; omega)).trans (set_failure (fuel := 17) (by rfl)))⟩

theorem bits_not : ∀ c, c < 127 → 32 ≤ c → (valueCode.getD (5 + (1 + c / 32)) 0).testBit (c % 32) = false := by decide +kernel
theorem value_not (c : Nat) (h : 32 ≤ c ∧ c < 127) (seen : Sre.Seen) : ∃ seen', Sre.inSet valueCode c valueCode.size 5 true seen = .ok (false, seen') := by
  exact ⟨_, (set_charset (fuel := 27) (by rfl) (bits_not c h.2 h.1)).trans (set_failure (fuel := 26) (by rfl))⟩

theorem admitted_none {m : Sre.M} {P : Nat → Prop} (hP : ∀ c, P c → ∀ seen, ∃ seen', Sre.inSet m.code c m.code.size 5 true seen = .ok (false, seen')) (hlim : m.lim = m.text.size) (ht : ∀ c ∈ m.text, P c) :
    ∀ fuel s seen, ∃ seen', Sre.M.admitted m fuel s seen = .ok (none, seen')
  | 0, s, seen => ⟨seen, rfl⟩
  | fuel + 1, s, seen => by
    rw [Sre.M.admitted]
    by_cases hs : s ≥ m.lim
    · exact ⟨seen, by rw [if_pos hs]⟩
    · rw [if_neg hs]
      have hlt : s < m.text.size := by omega
      have hc : m.text.getD s 0 = m.text[s] := by simp [Array.getD, hlt]
      obtain ⟨seen', e⟩ := hP _ (ht (m.text[s]) (Array.getElem_mem hlt)) seen
      rw [hc, e]
      exact admitted_none hP hlim ht fuel (s + 1) seen'

theorem said (m : Sre.M) (h1 : m.outcome = none) (h2 : m.frames = []) : ((m.say false).runFor Builtin.Re.reTurnSteps).outcome = some .failed := by
  show ((m.say false).runFor (3 + 1)).outcome = _
  rw [Sre.M.runFor]
  have e0 : (m.say false).outcome = none := h1
  rw [e0]
  simp only [Option.isSome_none, Bool.false_eq_true, if_false]
  have e1 : (m.say false).step = { (m.say false) with outcome := some .failed } := by
    unfold Sre.M.step
    rw [e0]
    have e2 : (m.say false).frames = [] := h2
    have e3 : (m.say false).answer = some false := rfl
    simp only [Option.isSome_none, Bool.false_eq_true, if_false, e2, e3]
  rw [e1]
  rfl

/-- no sign of the text is in the set -/
theorem search_fails {code text : Array Nat} (hc : code = nameCode ∨ code = valueCode) (ht : ∀ c ∈ text, 32 ≤ c ∧ c < 127) :
    ((Sre.forSearch code text 0 0 text.size false).runFor Builtin.Re.reTurnSteps).outcome = some .failed := by
  unfold Sre.forSearch
  dsimp only
  split
  · exact said _ rfl rfl
  · unfold Sre.M.attemptFrom
    have hf : ∀ m : Sre.M, m.code = code → m.hasFirstSet = true := by
      intro m hm
      unfold Sre.M.hasFirstSet
      rw [hm]
      rcases hc with rfl | rfl <;> rfl
    rw [hf _ rfl]
    simp only [Bool.not_true, Bool.false_eq_true, if_false]
    have ha : ∀ m : Sre.M, m.code = code → m.text = text → m.lim = text.size → ∀ fuel s seen, ∃ seen', Sre.M.admitted m fuel s seen = .ok (none, seen') := by
      rintro m rfl rfl hl
      exact admitted_none (P := fun c => 32 ≤ c ∧ c < 127) (fun c h seen => by
        rcases hc with e | e
        · rw [e]; exact name_not c h seen
        · rw [e]; exact value_not c h seen) hl ht
    split
    · next e =>
      refine absurd (e.symm.trans (ha _ ?_ ?_ ?_ _ _ _).choose_spec) ?_
      · rfl
      · rfl
      · rfl
      · intro h; cases h
    · exact said _ rfl rfl
    · next e =>
      refine absurd (e.symm.trans (ha _ ?_ ?_ ?_ _ _ _).choose_spec) ?_
      · rfl
      · rfl
      · rfl
      · intro h; cases h
open PySem.Builtin.Re in
theorem drive_said {M : Model} {A : Around} {E : Value → Shared → Prop} {s : Shared} {m : Sre.M} {Q : Option Sre.M → Shared → Prop} (h : (m.runFor reTurnSteps).outcome = some .failed) (hQ : Q none s) : wpAny M A (reRunToEnd m) Q E s := by
  unfold reRunToEnd
  have e : reDrive (2 ^ 64) m = pure (m.runFor reTurnSteps) := by
    show reDrive (18446744073709551615 + 1) m = _
    rw [reDrive]
    rw [h]
    rfl
  rw [e]
  refine wpAny_bind (wpAny_pure ?_)
  rw [h]
  have loop : ∀ (l : List Nat) (k : PUnit → Sem (Option Sre.M)), wpAny M A (k ⟨⟩) Q E s → wpAny M A (forIn l PUnit.unit (fun i _ => do
      if (m.runFor reTurnSteps).seen.has i = true then rule (Sre.names.getD i "")
      pure (ForInStep.yield PUnit.unit)) >>= k) Q E s := by
    intro l k hk
    refine wpAny_bind ?_
    induction l with
    | nil => rw [List.forIn_nil]; exact wpAny_pure hk
    | cons i r ih =>
      rw [List.forIn_cons]
      refine wpAny_bind ?_
      split
      · exact wpAny_bind (wpAny_rule (wpAny_pure ih))
      · exact wpAny_pure ih
  refine loop _ _ ?_
  exact wpAny_pure hQ

open PySem.Builtin.Re in
theorem search_call {prog : Program} {w : World} {A : Around} {E : Value → Shared → Prop} {s : Shared} {a c : Addr} {p fl : Value} {t₁ t₂ : Tok} {d : Option Addr} {sl : Array (Option Value)} {oc : Obj} {items : Array Value} {n : Nat} {l : List Nat} {t : Tok} {Q : Value → Shared → Prop}
    (ho : s.heap.get? a = some ⟨.type "re.Pattern", d, .fields #[p, fl, .int 0 t₁, .none, .none, .ref c, .int 0 t₂], sl⟩) (hc : s.heap.get? c = some oc) (hd : oc.data = .seq items n)
    (hcode : (items.map reRawOf).map Int.toNat = nameCode ∨ (items.map reRawOf).map Int.toNat = valueCode) (hl : ∀ c ∈ l, 32 ≤ c ∧ c < 127) (hsz : l.length ≤ 100) (h : Q .none s) :
    wpAny (model prog w) A (call (.builtin "re.Pattern.search") [.ref a, .str (S l) t]) Q E s := by
  have hargs : argsOk "re.Pattern.search" ⟨[.ref a, .str (S l) t], []⟩ := by
    unfold argsOk
    rw [signature?_of (rows := Manifest.sig_re_Pattern) (id := "re.Pattern.search") (n := ['h', 'c', 'r', 'a', 'e', 's']) (o := ['n', 'r', 'e', 't', 't', 'a', 'P', '.', 'e', 'r']) (by kernel_rfl) (by kernel_rfl)]
    kernel_rfl
  refine wpAny_call (codeAny_call_builtin slot_search.plain entry_search (slot_search.check _ _ _ _ _ _ _ _ ⟨_, ho, rfl⟩ hargs ?_))
  have e1 : reNamed "re.Pattern.search" "search" ["string", "pos", "endpos"] 1 [.str (S l) t] [] = pure [some (.str (S l) t), none, none] := by rfl
  unfold Builtin.«re.Pattern.search» reTarget
  simp only [bind_assoc]
  refine wpAny_bind (wpAny_of_eq e1 (wpAny_bind ?_))
  dsimp only
  refine wpAny_bind (wpAny_pure (wpAny_bind (wpAny_pure ?_)))
  unfold fieldsOf
  refine wpAny_bind (wpAny_bind (wpAny_load ho (wpAny_pure ?_)))
  unfold reTextOf asStr?
  refine wpAny_bind (wpAny_bind (wpAny_pure ?_))
  dsimp only
  refine wpAny_pure ?_
  dsimp only
  rw [if_neg (by simp), if_neg (by simp [reRawNat])]
  have e2 : reNoCollectionInside (.str (S l) t) 0 = pure () := by rfl
  refine wpAny_bind (wpAny_of_eq e2 (wpAny_bind ?_))
  unfold reRawItems seqItems?
  refine wpAny_bind (wpAny_bind (wpAny_load hc ?_))
  rw [hd]
  refine wpAny_pure (wpAny_pure (wpAny_pure ?_))
  dsimp only
  have e3 : min (Int.toNat 0) l.toArray.size = 0 := by simp
  have e4 : min (2 ^ 63 - 1 : Int).toNat l.toArray.size = l.toArray.size := by
    have e5 : (2 ^ 63 - 1 : Int).toNat = 9223372036854775807 := by decide +kernel
    rw [e5, List.size_toArray]
    omega
  rw [e3, e4]
  refine wpAny_bind (drive_said ?_ ?_)
  · exact search_fails hcode (by simpa using hl)
  · exact wpAny_pure h

section
variable {prog : Program} {w : World} {A : Around} {E : Value → Shared → Prop} {s : Shared} {h₀ : Heap} {L a c : Addr} {m : Str → Option Value} {K : Frag} {p fl : Value} {t₁ t₂ t : Tok} {d oc : Option Addr} {ct : Value} {sl sl' : Array (Option Value)} {items : Array Value} {n : Nat} {l : List Nat}
theorem getMethod_search {M : Model} {o : Obj} {pl : Sem Bool} {Q : Value × List Value → Shared → Prop} (F : Fr h₀ L s.heap m) (X : K.In h₀) (e : K.lookup a = some o) (hc : o.cls = .type "re.Pattern") (hd : o.dict = none) (h : Q (.builtin "re.Pattern.search", [.ref a]) s) :
    wpAny M A (getMethod (.ref a) (Str.ofString "search") pl) Q E s :=
  getMethod_builtin (T := "re.Pattern") ⟨o, F.keep _ _ (X _ _ e), hc⟩ plainAttrs_pattern slot_search type_search (fun b hb => by cases hb; exact ⟨o, F.keep _ _ (X _ _ e), hd⟩) h
theorem search_K {Q : Value → Shared → Prop} (F : Fr h₀ L s.heap m) (X : K.In h₀)
    (e : K.lookup a = some ⟨.type "re.Pattern", d, .fields #[p, fl, .int 0 t₁, .none, .none, .ref c, .int 0 t₂], sl⟩) (ec : K.lookup c = some ⟨ct, oc, .seq items n, sl'⟩)
    (hcode : (items.map Builtin.Re.reRawOf).map Int.toNat = nameCode ∨ (items.map Builtin.Re.reRawOf).map Int.toNat = valueCode) (hl : ∀ c ∈ l, 32 ≤ c ∧ c < 127) (hsz : l.length ≤ 100) (h : Q .none s) :
    wpAny (model prog w) A (call (.builtin "re.Pattern.search") [.ref a, .str (S l) t]) Q E s :=
  search_call (F.keep _ _ (X _ _ e)) (F.keep _ _ (X _ _ ec)) rfl hcode hl hsz h
end
end

section
local macro_rules | `(tactic| cell_enter) => `(tactic| (refine' enter0 ?k3 ?k5 ?k6 ?k7 ?k8 ?k9 ?kB ?_ ?c2 ?c3 ?c4 ?c5; (case k3 => k_asm); (case k5 => k_asm); (case k6 => k_is); (case k7 => k_is); (case k8 => (show (_ : Nat) < _); simp only [depth_deeper, depth_in1]; omega); (case k9 => exact BindsTo.of_eq rfl); (case c5 => decide); (case kB => exact locs rfl); (case c2 => exact rfl); (case c3 => exact rfl); (case c4 => exact rfl); k_whole; intro L' h' F' N'; (try dsimp only)))

/-- what _law_holding says -/
def holdT (one other : Str) : Str :=
  if (Txt.lower (Txt.item one (-1)) == Txt.lower (Txt.item one 0)) = true ∧
    (Builtin.Str.occurrences (Txt.lower (Txt.item other 0) ++ Txt.lower (Txt.item other (-1))) (Txt.lower (Txt.item one 0)) 0 (Str.length (Txt.lower (Txt.item other 0) ++ Txt.lower (Txt.item other (-1)))) 1).isEmpty = true
  then Txt.lower (Txt.item one 0) else Str.ofString ""

theorem holding_spec {w : World} {E : Value → Shared → Prop} {s : Shared} {dp un : Nat} {fr : Option (List Env)} {gd : Option (List Code)} (C : Cx w s.heap) (hd : dp + 20 < recursionLimit) (hu : un + 100 < cLine)
    {one other : Str} {t u : Tok} (h1 : 0 < one.length) (h2 : 0 < other.length) (h3 : one.length ≤ 100) (h4 : other.length ≤ 100) :
    wpAny (model pg w) (Ar dp un fr gd) (call (.ref 244) [.str one t, .str other u]) (fun r s' => Keeps s s' ∧ ∃ t, r = .str (holdT one other) t) E s := by
  obtain ⟨X, p, loose, mean, mg, mb, T⟩ := C
  refine of_any fun Q hQ => ?_
  k_dflt cell_enter
  k_steps
  all_goals (rename Fr _ _ _ _ => kF; refine hQ _ _ ⟨⟨_, _, rfl, kF.keep⟩, str_eq ?_⟩; clear hQ; unfold holdT)
  · rw [if_pos ⟨by assumption, by assumption⟩]
  · rw [if_neg]
    rintro ⟨h1, h2⟩
    simp_all
  · rw [if_neg]
    rintro ⟨h1, h2⟩
    simp_all
end

section
local macro_rules | `(tactic| cell_enter) => `(tactic| (refine' enter0 ?k3 ?k5 ?k6 ?k7 ?k8 ?k9 ?kB ?_ ?c2 ?c3 ?c4 ?c5; (case k3 => k_asm); (case k5 => k_asm); (case k6 => k_is); (case k7 => k_is); (case k8 => (show (_ : Nat) < _); simp only [depth_deeper, depth_in1]; omega); (case k9 => exact BindsTo.of_eq rfl); (case c5 => decide); (case kB => exact locs rfl); (case c2 => exact rfl); (case c3 => exact rfl); (case c4 => exact rfl); k_whole; intro L' h' F' N'; (try dsimp only)))


theorem three_of_map {l : List (Str × Tok)} {a b c : Str} (h : l.map (fun x => x.1) = [a, b, c]) : ∃ t1 t2 t3, l = [(a, t1), (b, t2), (c, t3)] := by
  match l, h with
  | [(x, t1), (y, t2), (z, t3)], h =>
    simp only [List.map_cons, List.map_nil, List.cons.injEq, and_true] at h
    obtain ⟨rfl, rfl, rfl⟩ := h
    exact ⟨t1, t2, t3, rfl⟩

theorem decode_spec {w : World} {E : Value → Shared → Prop} {s : Shared} {dp un : Nat} {fr : Option (List Env)} {gd : Option (List Code)} (C : Cx w s.heap) (hd : dp + 20 < recursionLimit) (hu : un + 100 < cLine)
    {x a b c : Str} {t : Tok} (h1 : x.length ≤ 100) (hx : Txt.splitMax x (Str.ofString "'") 2 = [a, b, c]) :
    wpAny (model pg w) (Ar dp un fr gd) (call (.ref 45) [.str x t]) (fun r s' => Keeps s s' ∧ ∃ l t1 t2 t3, r = .ref l ∧ s.heap.get? l = none ∧ s'.heap.get? l = some { cls := .type "list", data := .seq [.str a t1, .str b t2, .str c t3].toArray }) E s := by
  obtain ⟨X, p, loose, mean, mg, mb, T⟩ := C
  refine of_any fun Q hQ => ?_
  k_dflt cell_enter
  k_steps
  rename (List.map _ _ = Txt.splitMax _ _ _) => e1
  rw [hx] at e1
  obtain ⟨t1, t2, t3, rfl⟩ := three_of_map e1
  clear e1
  rename Fr _ _ _ _ => kF
  rename News _ _ _ _ => kN
  simp only [strValues, List.map_cons, List.map_nil] at kN
  k_steps
  dsimp only
  rename Fr _ _ _ _ => kF
  exact hQ _ _ ⟨⟨_, _, rfl, kF.keep⟩, _, t1, t2, t3, rfl, (kN _ (.head _)).2.2, (kN _ (.head _)).1⟩
end

section
local macro_rules | `(tactic| walk_at "exec While Compare cons nil") => `(tactic| ((with_reducible show wpAny _ _ (exec (Stmt.While _ _ _ _) _) _ _ _); refine hold_of ?_))
local macro_rules | `(tactic| cell_enter) => `(tactic| (refine' enter0 ?k3 ?k5 ?k6 ?k7 ?k8 ?k9 ?kB ?_ ?c2 ?c3 ?c4 ?c5; (case k3 => k_asm); (case k5 => k_asm); (case k6 => k_is); (case k7 => k_is); (case k8 => (show (_ : Nat) < _); simp only [depth_deeper, depth_in1]; omega); (case k9 => exact BindsTo.of_eq rfl); (case c5 => decide); (case kB => exact locs rfl); (case c2 => exact rfl); (case c3 => exact rfl); (case c4 => exact rfl); k_whole; intro L' h' F' N'; (try dsimp only)))




theorem parse_spec {w : World} {E : Value → Shared → Prop} {s : Shared} {dp un : Nat} {fr : Option (List Env)} {gd : Option (List Code)} (C : Cx w s.heap) (hd : dp + 20 < recursionLimit) (hu : un + 100 < cLine)
    {p q : List Nat} {c : Nat} {t : Tok} (h1 : p.length + q.length ≤ 50) (hp : 34 ∉ p) (hc : c ≠ 34) :
    wpAny (model pg w) (Ar dp un fr gd) (call (.ref 77) [.str (S ([50, 53, 55, 32, 34] ++ (p ++ 34 :: c :: q))) t]) (fun r s' => Keeps s s' ∧ ∃ t, r = .str (S p) t) E s := by
  obtain ⟨X, p', loose, mean, mg, mb, T⟩ := C
  refine of_any fun Q hQ => ?_
  generalize hl : [50, 53, 55, 32, 34] ++ (p ++ 34 :: c :: q) = l
  have hlen : l.length = 7 + p.length + q.length := by rw [← hl]; simp; omega
  have hlen2 : (S l).length = 7 + p.length + q.length := by rw [S_len, hlen]
  have hle : (S l).length ≤ 100 := by omega
  have g1 : ∀ k (h : k < p.length), l[5 + k]? = some p[k] := fun k h => by
    rw [← hl, List.getElem?_append_right (by simp)]
    simp [List.getElem?_append, h]
  have g2 : l[5 + p.length]? = some 34 := by
    rw [← hl, List.getElem?_append_right (by simp)]
    simp
  have g3 : l[5 + p.length + 1]? = some c := by
    rw [← hl, List.getElem?_append_right (by simp; omega)]
    have : 5 + p.length + 1 - [50, 53, 55, 32, 34].length = p.length + 1 := by simp; omega
    rw [this, List.getElem?_append_right (by omega)]
    simp
  have e1 : Txt.slice (S l) none (some 3) = Str.ofString "257" := by
    rw [show (3 : Int) = ((3 : Nat) : Int) from rfl, slice_ns _ _ (by omega), ← hl]
    simp only [List.cons_append, List.take_succ_cons, List.take_zero]
    decide +kernel
  have e2 : Txt.slice (S l) (some 3) (some 5) = Str.ofString " \"" := by
    rw [show (3 : Int) = ((3 : Nat) : Int) from rfl, show (5 : Int) = ((5 : Nat) : Int) from rfl, slice_ss _ _ _ (by omega) (by omega), ← hl]
    simp only [List.cons_append, List.drop_succ_cons, List.drop_zero, List.nil_append, Nat.reduceSub, List.take_succ_cons, List.take_zero]
    decide +kernel
  k_dflt (refine' enter0 (binds := [(Str.ofString "resp", Value.str (S l) t)]) ?k3 ?k5 ?k6 ?k7 ?k8 ?k9 ?kB ?_ ?c2 ?c3 ?c4 ?c5; (case k3 => k_asm); (case k5 => k_asm); (case k6 => k_is); (case k7 => k_is); (case k8 => (show (_ : Nat) < _; simp only [depth_deeper, depth_in1]; omega)); (case k9 => exact BindsTo.of_eq rfl); (case c5 => decide); (case kB => exact locs rfl); (case c2 => exact rfl); (case c3 => exact rfl); (case c4 => exact rfl); k_whole; intro L' h' F' N'; (try dsimp only [List.reverse_cons, List.reverse_nil, List.nil_append, List.cons_append] at F'))
  k_steps
  any_goals (rename ((_ != _) = true) => hne; first | (rw [e1] at hne; exact absurd hne (by decide +kernel)) | (rw [e2] at hne; exact absurd hne (by decide +kernel)))
  refine Hold.out ?_
  rename Fr _ _ _ _ => kF
  refine while_me (fun n s' => ∃ h tk m k, s' = { s with heap := h, toks := tk } ∧ Fr s.heap L' h m ∧ k ≤ p.length ∧ n = p.length + 1 - k ∧ (∃ t1, m (Str.ofString "dirname") = some (.str (S (p.take k)) t1)) ∧
    (∃ t2, m (Str.ofString "i") = some (.int (5 + (k : Int)) t2)) ∧ (∃ t3, m (Str.ofString "n") = some (.int ((S l).length : Int) t3)) ∧ (∃ t4, m (Str.ofString "resp") = some (.str (S l) t4))) (p.length + 1) ?_ ?_
  · exact ⟨_, _, _, 0, rfl, kF, Nat.zero_le _, by omega, ⟨_, rfl⟩, ⟨_, rfl⟩, ⟨_, rfl⟩, ⟨_, rfl⟩⟩
  clear kF
  rintro n s' ⟨h, tk, m, k, rfl, F, hk, rfl, ⟨t1, m1⟩, ⟨t2, m2⟩, ⟨t3, m3⟩, ⟨t4, m4⟩⟩
  have F := frKnow F (know1 m1 (know1 m2 (know1 m3 (know1 m4 know0))))
  have N : News s.heap L' h [] := News.nil
  clear m1 m2 m3 m4
  have hdl : (S (p.take k)).length ≤ 50 := by rw [S_len, List.length_take]; omega
  have hq0 : Str.ofString "\"" = S [34] := by decide +kernel
  rcases Nat.lt_or_ge k p.length with hlt | hge
  · have hi : Txt.item (S l) (5 + (k : Int)) = S [p[k]] := by
      rw [show (5 + (k : Int)) = ((5 + k : Nat) : Int) by omega, item_at' l (5 + k) _ (g1 k hlt)]
    have hq : (Txt.item (S l) (5 + (k : Int)) == Str.ofString "\"") = false := by
      rw [hi, hq0, S_beq]
      have : p[k] ≠ 34 := fun e => hp (e ▸ List.getElem_mem hlt)
      simp [this]
    k_steps
    all_goals (try dsimp only)
    all_goals (try (unfold WEnd; dsimp only))
    rename Fr _ _ _ _ => kF
    refine ⟨p.length + 1 - (k + 1), by omega, _, _, _, k + 1, rfl, kF, hlt, rfl, ex_str ?_, ex_int ?_, ⟨_, rfl⟩, ⟨_, rfl⟩⟩
    · rw [hi, S_append, ← List.take_append_getElem hlt]
    · omega
  · obtain rfl : k = p.length := by omega
    have hi : Txt.item (S l) (5 + (p.length : Int)) = S [34] := by
      rw [show (5 + (p.length : Int)) = ((5 + p.length : Nat) : Int) by omega, item_at' l (5 + p.length) _ g2]
    have hi2 : Txt.item (S l) (5 + (p.length : Int) + 1) = S [c] := by
      rw [show (5 + (p.length : Int) + 1) = ((5 + p.length + 1 : Nat) : Int) by omega, item_at' l (5 + p.length + 1) _ g3]
    have hq : (Txt.item (S l) (5 + (p.length : Int)) == Str.ofString "\"") = true := by
      rw [hi, hq0, S_beq]; rfl
    have hq2 : (Txt.item (S l) (5 + (p.length : Int) + 1) != Str.ofString "\"") = true := by
      rw [hi2, hq0, S_bne]; simp [hc]
    k_steps
    all_goals (try dsimp only)
    all_goals (try (unfold WEnd; dsimp only))
    k_steps
    dsimp only
    rename Fr _ _ _ _ => kF
    refine hQ _ _ ⟨⟨_, _, rfl, kF.keep⟩, str_eq ?_⟩
    rw [List.take_length]
end

section
local macro_rules | `(tactic| walk_at "getMethod ref") => `(tactic| (k_here; (with_reducible show wpAny _ _ (getMethod (Value.ref _) (Str.ofString "search") _) _ _ _); k_dflt (refine' getMethod_search ?k1 ?k2 ?k3 ?k4 ?k5 ?_; (case k1 => k_asm); (case k2 => k_asm); (case k3 => k_is); (case k4 => exact rfl); (case k5 => exact rfl); k_whole)))
local macro_rules | `(tactic| walk_at "call builtin:re.Pattern.search") => `(tactic| (k_here; k_dflt (refine' search_K ?k1 ?k2 ?k3 ?k4 ?k5 ?k6 ?k7 ?_; (case k1 => k_asm); (case k2 => k_asm); (case k3 => k_is); (case k4 => k_is); (case k5 => first | exact .inl (by decide +kernel) | exact .inr (by decide +kernel)); (case k6 => assumption); (case k7 => assumption); k_whole)))
local macro_rules | `(tactic| cell_enter) => `(tactic| (refine' enter0 ?k3 ?k5 ?k6 ?k7 ?k8 ?k9 ?kB ?_ ?c2 ?c3 ?c4 ?c5; (case k3 => k_asm); (case k5 => k_asm); (case k6 => k_is); (case k7 => k_is); (case k8 => (show (_ : Nat) < _); simp only [depth_deeper, depth_in1]; omega); (case k9 => exact BindsTo.of_eq rfl); (case c5 => decide); (case kB => exact locs rfl); (case c2 => exact rfl); (case c3 => exact rfl); (case c4 => exact rfl); k_whole; intro L' h' F' N'; (try dsimp only)))





theorem conv_spec {w : World} {E : Value → Shared → Prop} {s : Shared} {dp un : Nat} {fr : Option (List Env)} {gd : Option (List Code)} (C : Cx w s.heap) (hd : dp + 16 < recursionLimit) (hu : un + 80 < cLine)
    {self : Value} {l : List Nat} {b : Bool} {t : Tok} (h1 : l.length ≤ 100) (hl : ∀ c ∈ l, 32 ≤ c ∧ c < 127) :
    wpAny (model pg w) (Ar dp un fr gd) (call (.ref 122) [self, .str (S l) t] [(Str.ofString "name", .bool b)]) (fun r s' => Keeps s s' ∧ r = .str (S l) t) E s := by
  obtain ⟨X, p', loose, mean, mg, mb, T⟩ := C
  refine of_any fun Q hQ => ?_
  cases b with
  | true =>
    k_dflt (refine' enter0 (binds := [(Str.ofString "self", self), (Str.ofString "value", Value.str (S l) t), (Str.ofString "name", .bool true)]) ?k3 ?k5 ?k6 ?k7 ?k8 ?k9 ?kB ?_ ?c2 ?c3 ?c4 ?c5; (case k3 => k_asm); (case k5 => k_asm); (case k6 => k_is); (case k7 => k_is); (case k8 => (show (_ : Nat) < _; simp only [depth_deeper, depth_in1]; omega)); (case k9 => exact BindsTo.of_eq rfl); (case c5 => decide); (case kB => exact locs rfl); (case c2 => exact rfl); (case c3 => exact rfl); (case c4 => exact rfl); k_whole; intro L' h' F' N'; (try dsimp only [List.reverse_cons, List.reverse_nil, List.nil_append, List.cons_append] at F'))
    k_steps
    dsimp only
    rename Fr _ _ _ _ => kF
    exact hQ _ _ ⟨⟨_, _, rfl, kF.keep⟩, rfl⟩
  | false =>
    k_dflt (refine' enter0 (binds := [(Str.ofString "self", self), (Str.ofString "value", Value.str (S l) t), (Str.ofString "name", .bool false)]) ?k3 ?k5 ?k6 ?k7 ?k8 ?k9 ?kB ?_ ?c2 ?c3 ?c4 ?c5; (case k3 => k_asm); (case k5 => k_asm); (case k6 => k_is); (case k7 => k_is); (case k8 => (show (_ : Nat) < _; simp only [depth_deeper, depth_in1]; omega)); (case k9 => exact BindsTo.of_eq rfl); (case c5 => decide); (case kB => exact locs rfl); (case c2 => exact rfl); (case c3 => exact rfl); (case c4 => exact rfl); k_whole; intro L' h' F' N'; (try dsimp only [List.reverse_cons, List.reverse_nil, List.nil_append, List.cons_append] at F'))
    k_steps
    dsimp only
    rename Fr _ _ _ _ => kF
    exact hQ _ _ ⟨⟨_, _, rfl, kF.keep⟩, rfl⟩

theorem conv_spec' {w : World} {E : Value → Shared → Prop} {s : Shared} {dp un : Nat} {fr : Option (List Env)} {gd : Option (List Code)} (C : Cx w s.heap) (hd : dp + 16 < recursionLimit) (hu : un + 80 < cLine)
    {self : Value} {x : Str} {b : Bool} {t : Tok} (h1 : x.length ≤ 100) (hl : ∀ c ∈ x.cps.toList, 32 ≤ c ∧ c < 127) :
    wpAny (model pg w) (Ar dp un fr gd) (call (.ref 122) [self, .str x t] [(Str.ofString "name", .bool b)]) (fun r s' => Keeps s s' ∧ r = .str x t) E s := by
  have := conv_spec (E := E) (fr := fr) (gd := gd) C hd hu (self := self) (l := x.cps.toList) (b := b) (t := t) (by simpa [Str.length] using h1) hl
  rwa [← S_eta x] at this
end

section
local macro_rules | `(tactic| walk_at "getAttr ref") => `(tactic| (k_here; k_dflt (refine' get_own ?k1 ?k2 ?k3 ?k4 ?k5 ?k6 ?k7 ?k8 ?k9 ?_; (case k1 => k_asm); (case k2 => k_asm); (case k3 => exact instAt_fr (by k_asm) (by assumption) (by assumption)); (case k4 => k_is); (case k5 => k_is); (case k6 => k_is); (case k7 => k_is); (case k8 => k_get); (case k9 => k_handed); k_whole)))
local macro_rules | `(tactic| walk_at "getMethod ref") => `(tactic| (k_here; k_dflt (refine' method_inst ?k1 ?k2 ?k3 ?k4 ?k5 ?k6 ?k7 ?_; (case k1 => k_asm); (case k2 => k_asm); (case k3 => exact instAt_fr (by k_asm) (by assumption) (by assumption)); (case k4 => k_is); (case k5 => k_is); (case k6 => k_is); (case k7 => k_get); k_whole)))
local macro_rules | `(tactic| walk_at "call ref") => `(tactic| (k_here; (with_reducible show wpAny _ _ (call (Value.ref 122) [_, Value.str _ _] _) _ _ _); (show wpAny _ _ (call (Value.ref 122) [_, Value.str _ _] [(Str.ofString "name", Value.bool _)]) _ _ _); k_dflt (refine' use0 ?F ?N (conv_spec' ?C ?hd ?hu ?l1 ?l2) ?_; (case F => k_asm); (case N => k_asm); (case C => exact Cx.keeps (by assumption) (Fr.keep (by k_asm))); (case hd => (simp only [depth_deeper, depth_in1]; omega)); (case hu => (simp only [units_deeper, units_in1]; omega)); (case l1 => first | assumption | omega); (case l2 => assumption); k_whole); intro r' h' tk' kk' F' N' hr'; subst hr'; clear kk'; (try k_sweep)))
local macro_rules | `(tactic| walk_at "CompSrcT") => `(tactic| (refine hold_of ?_))

theorem getall_spec {w : World} {E : Value → Shared → Prop} {s : Shared} {dp un : Nat} {fr : Option (List Env)} {gd : Option (List Code)} (C : Cx w s.heap) (hd : dp + 20 < recursionLimit) (hu : un + 100 < cLine)
    {x dx hh : Addr} {rows : List (List Nat × List Nat)} {od : Obj} {vs : List Value} {l : List Nat} {t : Tok} (T0 : IsTable s.heap x rows dx hh od vs) (h1 : l.length ≤ 30) (hl : ∀ c ∈ l, 65 ≤ c ∧ c < 127)
    (hr : rows.length ≤ 100) (hr1 : ∀ r ∈ rows, (∀ c ∈ r.1, c < 127) ∧ r.1.length ≤ 30) :
    wpAny (model pg w) (Ar dp un fr gd) (call (.ref 160) [.ref x, .str (S l) t]) (fun r s' => Keeps s s' ∧ ∃ a ys, r = .ref a ∧ s.heap.get? a = none ∧ s'.heap.get? a = some (LCg.lst ys) ∧
      StrsAre ys ((rows.filter fun r => r.1.map lo1 == l.map lo1).map fun r => S r.2)) E s := by
  have C' := C
  obtain ⟨X, p', loose, mean, mg, mb, T⟩ := C'
  refine of_any fun Q hQ => ?_
  obtain ⟨i1, i2, ⟨hs, tk, n, rfl⟩, ⟨c3, i3'⟩, i4⟩ := T0
  have i3 : s.heap.IsList hh vs.toArray := ⟨_, i3', rfl, _, rfl⟩
  clear i3'
  have hlow : Txt.lower (S l) = S (l.map lo1) := lower_S l fun c hc => by have := hl c hc; omega
  have hlow1 : ∀ c ∈ (Txt.lower (S l)).cps.toList, 32 ≤ c ∧ c < 127 := by
    rw [hlow]
    intro c hc
    have hc : c ∈ l.map lo1 := by simpa using hc
    obtain ⟨d, hd, rfl⟩ := List.mem_map.mp hc
    have := hl d hd
    unfold lo1
    split <;> omega
  have hlow2 : (Txt.lower (S l)).length ≤ 100 := by rw [hlow, S_len, List.length_map]; omega
  have hlen : (S l).length ≤ 30 := by rw [S_len]; exact h1
  k_dflt (refine' enterC (binds := [(Str.ofString "self", Value.ref x), (Str.ofString "name", Value.str (S l) t)]) ?k3 ?k5 ?k6 ?k7 ?k8 ?k9 ?kB ?kD ?_ ?c2 ?c3 ?c4; (case k3 => k_asm); (case k5 => k_asm); (case k6 => k_is); (case k7 => k_is); (case k8 => (show (_ : Nat) < _; simp only [depth_deeper, depth_in1]; omega)); (case k9 => exact BindsTo.of_eq rfl); (case kB => exact rfl); (case kD => decide +kernel); (case c2 => exact rfl); (case c3 => exact rfl); (case c4 => exact rfl); k_whole; intro L' h' tk' cells' F' N' Y'; k_cells Y'; (try simp only [List.cons_append, List.nil_append] at N'); (try dsimp only))
  k_steps
  refine Hold.out ?_
  rename Fr _ _ _ _ => kF
  rename News _ _ _ _ => kN
  rename Obj => o9
  rename (_ = Data.cell _) => hdl
  refine LCt.CompSrcT.base rfl kF kN i3 (by rw [sizeLine_eq, List.size_toArray]; have := i4.length; omega) fun g => ?_
  refine rest_indT (n := vs.length) (fun i ys nw => nw = [(L' + 1, o9)] ∧ StrsAre ys (((rows.take i).filter fun r => r.1.map lo1 == l.map lo1).map fun r => S r.2)) ?_ ?_ _ 0 [] _ (by simp) ⟨rfl, by simp [StrsAre.nil]⟩
  · rintro i ys news hi ⟨rfl, hys⟩ v I oI C9 oC D m₂ h tk E' hP hC hx F N off ne
    obtain ⟨a, nm, vl, t1, t2, rfl, hrow, htup⟩ := i4.get i v (by simpa using hP)
    clear kF kN hP
    obtain ⟨hnm, hnl⟩ := hr1 _ (List.mem_of_getElem? hrow)
    have hlen2 : (S nm).length ≤ 30 := by rw [S_len]; exact hnl
    have htk : rows.take (i + 1) = rows.take i ++ [(nm, vl)] := by rw [List.take_add_one, hrow]; rfl
    have hlowN : Txt.lower (S nm) = S (nm.map lo1) := lower_S nm fun c hc => by have := hnm c hc; omega
    k_steps
    generalize hb : (Txt.lower (S nm) == Txt.lower (S l)) = b
    rw [hlowN, hlow, S_beq] at hb
    unfold TestPost
    cases b with
    | true =>
      rw [if_pos rfl]
      refine of_any fun Q9 hQ9 => ?_
      k_steps
      refine hQ9 _ _ (LCg.CompEnd.intro F N [(L' + 1, o9)] (fun p hp => hp) off (Or.inl i3) ⟨rfl, ?_⟩)
      rw [htk, List.filter_append, List.filter_cons_of_pos (by exact hb), List.filter_nil, List.map_append]
      exact strsAre_snoc hys
    | false =>
      rw [if_neg (by simp)]
      refine LCg.CompEnd.intro F N [(L' + 1, o9)] (fun p hp => hp) off (Or.inl i3) ⟨rfl, ?_⟩
      rw [htk, List.filter_append, List.filter_cons_of_neg (by rw [hb]; simp), List.filter_nil, List.append_nil]
      exact hys
  · rintro ys nw ⟨rfl, hys⟩
    intro D h tk F N off
    dsimp only
    refine hQ _ _ ⟨⟨_, _, rfl, F.keep⟩, D, ys, rfl, (N _ (.head _)).2.2, (N _ (.head _)).1, ?_⟩
    rw [i4.length, List.take_length] at hys
    exact hys
end

section
local macro_rules | `(tactic| walk_at "CompSrcT") => `(tactic| (refine hold_of ?_))
local macro_rules | `(tactic| walk_at "eval Name") => `(tactic| (k_here; (with_reducible show wpAny _ _ (eval (Expr.Name (Str.ofString "len") _) (compEnvC _ _ _ _)) _ _ _); k_dflt (refine LCgL.ld_built (by k_asm) (by k_asm) (by k_asm) (by k_is) PySem.boot_len (by decide) ?_)))
local macro_rules | `(tactic| walk_at "eval Name") => `(tactic| (k_here; (with_reducible show wpAny _ _ (eval (Expr.Name (Str.ofString "str") _) (compEnvC _ _ _ _)) _ _ _); k_dflt (refine LCgL.ld_built (by k_asm) (by k_asm) (by k_asm) (by k_is) PyProof.Rows.boot_str (by decide) ?_)))

theorem places_spec {w : World} {E : Value → Shared → Prop} {s : Shared} {dp un : Nat} {fr : Option (List Env)} {gd : Option (List Code)} (C : Cx w s.heap) (hd : dp + 20 < recursionLimit) (hu : un + 100 < cLine)
    {r p : List Nat} {t u : Tok} (h1 : r.length ≤ 30) (h2 : p.length ≤ r.length) (hr : ∀ c ∈ r, c < 127) (hp : ∀ c ∈ p, c < 127) :
    wpAny (model pg w) (Ar dp un fr gd) (call (.ref 237) [.str (S r) t, .str (S p) u]) (fun r' s' => Keeps s s' ∧ ∃ a ys, r' = .ref a ∧ s.heap.get? a = none ∧ s'.heap.get? a = some (LCg.lst ys) ∧
      StrsAre ys (((List.range r.length).filter fun k => ((((r ++ r).map lo1).drop k).take p.length == p.map lo1)).map num)) E s := by
  have C' := C
  obtain ⟨X, p', loose, mean, mg, mb, T⟩ := C'
  refine of_any fun Q hQ => ?_
  have hlenr : (S r).length ≤ 30 := by rw [S_len]; exact h1
  have hlenp : (S p).length ≤ 30 := by rw [S_len]; omega
  k_dflt (refine' enterC (binds := [(Str.ofString "ring", Value.str (S r) t), (Str.ofString "piece", Value.str (S p) u)]) ?k3 ?k5 ?k6 ?k7 ?k8 ?k9 ?kB ?kD ?_ ?c2 ?c3 ?c4; (case k3 => k_asm); (case k5 => k_asm); (case k6 => k_is); (case k7 => k_is); (case k8 => (show (_ : Nat) < _; simp only [depth_deeper, depth_in1]; omega)); (case k9 => exact BindsTo.of_eq rfl); (case kB => exact rfl); (case kD => decide +kernel); (case c2 => exact rfl); (case c3 => exact rfl); (case c4 => exact rfl); k_whole; intro L' h' tk' cells' F' N' Y'; obtain ⟨oT0, oP, hE', dT0, dP⟩ := CellsAre.two Y'; subst hE'; clear Y'; (try simp only [List.cons_append, List.nil_append] at N'); (try dsimp only))
  have dP' : oP.data = .cell (some (.str (S p) u)) := dP
  clear dP
  k_steps
  refine Hold.out ?_
  rename IsRange _ _ _ _ _ _ _ _ => rgX
  rename Fr _ _ _ _ => kF
  rename News _ _ _ _ => kN
  rename Obj => oT
  rename (Obj.data _ = Data.cell (some (Value.str (Txt.lower _) _))) => dT
  have hrs : Builtin.Range.rangeSize 0 ((S r).length : Int) 1 = ((r.length : Nat) : Int) := by rw [S_len]; exact rangeSize_nat _ _
  have hsm : Builtin.Range.small 0 ((S r).length : Int) 1 = true := small_one (by omega) (by omega) (by omega) (by omega)
  have hlowT : Txt.lower (S r ++ S r) = S ((r ++ r).map lo1) := by
    rw [S_append]
    exact lower_S _ fun c hc => by
      have : c ∈ r := by simpa using hc
      have := hr c this
      omega
  have hlowP : Txt.lower (S p) = S (p.map lo1) := lower_S p fun c hc => by have := hp c hc; omega
  rw [hlowT] at dT
  refine LCt.CompSrcT.range rfl kF kN rgX hsm hrs (by rw [sizeLine_eq]; omega) fun g => ?_
  refine rest_indT (n := r.length) (fun i ys nw => nw = [(L' + 1 + 1, oT), (L' + 1, oP)] ∧ StrsAre ys (((List.range i).filter fun k => ((((r ++ r).map lo1).drop k).take p.length == p.map lo1)).map num)) ?_ ?_ _ 0 [] _ (by omega) ⟨rfl, .nil⟩
  · rintro i ys news hi ⟨rfl, hys⟩ v I oI C9 oC D m₂ h tk E' ⟨t9, rfl⟩ hC hx F N off ne
    clear kF kN rgX
    have hlenT : (S ((r ++ r).map lo1)).length ≤ 60 := by rw [S_len]; simp; omega
    k_steps
    have hsl : Txt.slice (S ((r ++ r).map lo1)) (some (0 + (i : Int))) (some (0 + (i : Int) + ((S p).length : Int))) = S ((((r ++ r).map lo1).drop i).take p.length) := by
      rw [S_len, show (0 + (i : Int)) = (i : Int) by omega, show ((i : Int) + (p.length : Int)) = ((i + p.length : Nat) : Int) by omega, slice_ss _ _ _ (by omega) (by simp; omega), show i + p.length - i = p.length by omega]
    generalize hb : (Txt.slice (S ((r ++ r).map lo1)) (some (0 + (i : Int))) (some (0 + (i : Int) + ((S p).length : Int))) == Txt.lower (S p)) = b
    rw [hsl, hlowP, S_beq] at hb
    unfold TestPost
    rename Fr _ _ _ _ => kF
    rename News _ _ _ _ => kN
    cases b with
    | true =>
      rw [if_pos rfl]
      refine of_any fun Q9 hQ9 => ?_
      k_steps
      rw [Int.zero_add]
      refine hQ9 _ _ (LCg.CompEnd.intro kF kN [(L' + 1 + 1, oT), (L' + 1, oP)] (fun p hp => hp) off trivial ⟨rfl, ?_⟩)
      rw [List.range_succ, List.filter_append, List.filter_cons_of_pos (by exact hb), List.filter_nil, List.map_append]
      exact strsAre_snoc hys
    | false =>
      rw [if_neg (by simp)]
      refine LCg.CompEnd.intro kF kN [(L' + 1 + 1, oT), (L' + 1, oP)] (fun p hp => hp) off trivial ⟨rfl, ?_⟩
      rw [List.range_succ, List.filter_append, List.filter_cons_of_neg (by rw [hb]; simp), List.filter_nil, List.append_nil]
      exact hys
  · rintro ys nw ⟨rfl, hys⟩
    intro D h tk F N off
    exact hQ _ _ ⟨⟨_, _, rfl, F.keep⟩, D, ys, rfl, (N _ (.head _)).2.2, (N _ (.head _)).1, hys⟩
end

section
section
variable {prog : Program} {w : World} {A : Around} {E : Value → Shared → Prop} {s : Shared} {K : Frag} {R : Result → Shared → Prop} {g : Heap} {news : List (Addr × Obj)}
  {p : Program} {loose : List Str} {mean : ExcName → Option Value} {mg mb : Str → Option Value}
  {name qual : Str} {params : Arguments} {body : List Stmt} {scope : Scope} {dV kV doc pm cdv ct oc : Value} {an od : Option Addr} {osl : Array (Option Value)} {f : Addr} {args : Args} {binds : List (Str × Value)} {bindsD : Addr → List (Str × Value)}

/-- a def is entered; some objects are set apart from the frame's base -/
theorem enterH (hg : ∀ b o, g.get? b = some o → s.heap.get? b = some o) (hsz : g.objs.size ≤ s.heap.objs.size) (hn : ∀ q ∈ news, s.heap.get? q.1 = some q.2 ∧ g.get? q.1 = none) (X : K.In g) (T : Top p loose mean mg mb g)
    (ho : K.lookup f = some ⟨oc, od, .func (fnOf name qual params body scope dV kV doc pm an cdv ct), osl⟩) (hcd : codeIn K cdv qual = true) (hroom : A.depth < recursionLimit)
    (hbind : BindsTo s (fnOf name qual params body scope dV kV doc pm an cdv ct) args binds) (hloc : ∀ y ∈ binds, scope.names.lookup y.1 = some .local)
    (h : ∀ L h₁, Fr g L h₁ (fun y => binds.reverse.lookup y) → News g L h₁ news → (∀ b o, s.heap.get? b = some o → h₁.get? b = some o) → s.heap.get? L = none →
      wpAny (model prog w) (A.deeper (envOf qual scope L f cdv)) (execs body (envOf qual scope L f cdv))
        (fun fl s' => R (.ok (.ret (match fl with | .ret v => v | _ => .none))) s') (fun _ _ => False) { s with heap := h₁, toks := s.toks + binds.length })
    (hco : scope.isCoroutine = false) (hgen : scope.isGenerator = false) (hk : scope.kind = .function) (hcell : ∀ x ∈ scope.names, x.2 ≠ .cell) :
    codeAny (model prog w) A (.call (.ref f) args) R s := by
  refine codeAny_call_def (fd := fnOf name qual params body scope dV kV doc pm an cdv ct) (body := body) (binds := binds) hroom (hg _ _ (X _ _ ho)) rfl (T.nolimit.keeps hg) (codeRec_of (X.keeps hg) hcd) rfl hbind hcell hloc (fun h₁ hns hk₁ => ?_) hco hgen hk
  have hnew : s.heap.get? s.heap.objs.size = none := Heap.get?_none_of_le (Nat.le_refl _)
  exact wpAny_mono (h s.heap.objs.size h₁ ⟨hns, fun b o e => hk₁ b o (hg b o e), hsz⟩ (fun q hq => ⟨hk₁ _ _ (hn q hq).1, Nat.ne_of_lt (Heap.lt_size (hn q hq).1), (hn q hq).2⟩) hk₁ hnew) (fun _ _ x => x) fun _ _ x => x.elim

/-- the same, of a def with **more that is called without -/
theorem enterHD (hg : ∀ b o, g.get? b = some o → s.heap.get? b = some o) (hsz : g.objs.size ≤ s.heap.objs.size) (hn : ∀ q ∈ news, s.heap.get? q.1 = some q.2 ∧ g.get? q.1 = none) (X : K.In g) (T : Top p loose mean mg mb g)
    (ho : K.lookup f = some ⟨oc, od, .func (fnOf name qual params body scope dV kV doc pm an cdv ct), osl⟩) (hcd : codeIn K cdv qual = true) (hroom : A.depth < recursionLimit)
    (hbind : bindArgs (fnOf name qual params body scope dV kV doc pm an cdv ct) args = (alloc { cls := .type "dict", data := .dict #[] } >>= fun d => pure (bindsD d))) (hloc : ∀ d, ∀ y ∈ bindsD d, scope.names.lookup y.1 = some .local)
    (h : ∀ D L h₁ tk, Fr g L h₁ (fun y => (bindsD D).reverse.lookup y) → News g L h₁ ((D, dictOf [] 0) :: news) → (∀ b o, s.heap.get? b = some o → h₁.get? b = some o) → s.heap.get? L = none →
      s.heap.get? D = none → (D == sysModules) = false →
      wpAny (model prog w) (A.deeper (envOf qual scope L f cdv)) (execs body (envOf qual scope L f cdv))
        (fun fl s' => R (.ok (.ret (match fl with | .ret v => v | _ => .none))) s') (fun _ _ => False) { s with heap := h₁, toks := tk })
    (hco : scope.isCoroutine = false) (hgen : scope.isGenerator = false) (hk : scope.kind = .function) (hcell : ∀ x ∈ scope.names, x.2 ≠ .cell) :
    codeAny (model prog w) A (.call (.ref f) args) R s := by
  refine codeAny_call_function (fd := fnOf name qual params body scope dV kV doc pm an cdv ct) (body := body) hroom (hg _ _ (X _ _ ho)) rfl hco hgen rfl (codeRec_of (X.keeps hg) hcd) ?_
  rw [hbind]
  refine wpAny_bind (wpAny_alloc (wpAny_pure ?_))
  have hnew : ∀ a, s.heap.objs.size ≤ a → s.heap.get? a = none := fun a ha => Heap.get?_none_of_le ha
  refine wpAny_newFunctionEnv hcell (hloc _) (fun h₀ hns₀ hsb₀ => ⟨((T.nolimit.keeps hg).push _).fresh _ hsb₀, codeAny_func ?_⟩) hk
  have up : ∀ b o, s.heap.get? b = some o → h₀.get? b = some o := fun b o e => hsb₀.extBut b o (fun q => by
    have := Heap.lt_size e
    rw [q, Heap.size_push] at this
    exact Nat.lt_irrefl _ (Nat.lt_of_succ_lt this)) (Heap.get?_push_of_some _ (Heap.get?_push_of_some _ e))
  have hD : h₀.get? s.heap.objs.size = some { cls := .type "dict", data := .dict #[] } := hsb₀.extBut _ _ (by rw [Heap.size_push]; exact Nat.ne_of_lt (Nat.lt_succ_self _)) (Heap.get?_push_of_some _ (Heap.get?_push_size _ rfl))
  have gn : ∀ a, s.heap.objs.size ≤ a → g.get? a = none := fun a ha => Heap.get?_none_of_le (Nat.le_trans hsz ha)
  refine wpAny_mono (h s.heap.objs.size (s.heap.push { cls := .type "dict", data := .dict #[] }).objs.size h₀ _ ⟨hns₀, fun b o e => up b o (hg b o e), by rw [Heap.size_push]; omega⟩ (fun q hq => ?_) up (hnew _ (by rw [Heap.size_push]; omega)) (hnew _ (Nat.le_refl _)) (beq_eq_false_iff_ne.mpr (Nat.ne_of_gt (modules_low (T.nolimit.keeps hg))))) (fun _ _ x => x) fun _ _ x => x.elim
  rcases List.mem_cons.mp hq with rfl | hq
  · exact ⟨hD, by rw [Heap.size_push]; exact Nat.ne_of_lt (Nat.lt_succ_self _), gn _ (Nat.le_refl _)⟩
  · have := Heap.lt_size (hn q hq).1
    exact ⟨up _ _ (hn q hq).1, by rw [Heap.size_push]; exact Nat.ne_of_lt (Nat.lt_succ_of_lt this), (hn q hq).2⟩
end

theorem cls_ne {h : Heap} {a b : Addr} {o o' : Obj} (ha : h.get? a = some o) (hb : h.get? b = some o') (hc : o.cls ≠ o'.cls) : a ≠ b := by
  rintro rfl
  rw [ha] at hb
  cases hb
  exact hc rfl

theorem tup_at {h : Heap} {a : Addr} {x y : Str} {t u : Tok} {n : Nat} {d : Option Addr} {sl : Array (Option Value)} (e : h.get? a = some ⟨.type "tuple", d, .seq #[.str x t, .str y u] n, sl⟩) : IsTup h a #[.str x t, .str y u] := ⟨_, e, rfl, _, rfl⟩

theorem frKnowB {h₀ h : Heap} {L : Addr} {m : Str → Option Value} {b : Str} {v' : Value} {ps : List (Str × Value)} (F : Fr h₀ L h (fun y => if y = b then some v' else m y)) (hne : (ps.all fun p => decide (p.1 ≠ b)) = true) (e : ∀ p ∈ ps, m p.1 = some p.2) :
    Fr h₀ L h (kstB (fun y => if y = b then some v' else m y) ((b, v') :: ps)) :=
  frKnow F (List.forall_mem_cons.mpr ⟨if_pos rfl, fun p hp => (if_neg (of_decide_eq_true (List.all_eq_true.mp hne p hp))).trans (e p hp)⟩)

/-- the end of a turn of a loop over a range -/
def REnd (h₀ : Heap) (L I : Addr) (oI : Obj) (J : (Str → Option Value) → List (Addr × Obj) → Prop) (s₁ : Shared) (Q : Flow → Shared → Prop) (f : Flow) (s₂ : Shared) : Prop := match f with
  | .ret v => Q (.ret v) s₂
  | .brk => Q .next s₂
  | _ => ∃ h' tk m' nx', s₂ = { s₁ with heap := h', toks := tk } ∧ Fr h₀ L h' m' ∧ News h₀ L h' ((I, oI) :: nx') ∧ (∀ q ∈ nx', q.1 ≠ I) ∧ J m' nx'
theorem REnd.next {h₀ : Heap} {L I : Addr} {oI : Obj} {J : (Str → Option Value) → List (Addr × Obj) → Prop} {s₁ : Shared} {Q : Flow → Shared → Prop} {h' : Heap} {tk : Nat} {m' : Str → Option Value} {nx' : List (Addr × Obj)}
    (F : Fr h₀ L h' m') (N : News h₀ L h' ((I, oI) :: nx')) (off : ∀ q ∈ nx', q.1 ≠ I) (j : J m' nx') : REnd h₀ L I oI J s₁ Q .next { s₁ with heap := h', toks := tk } := ⟨h', tk, m', nx', rfl, F, N, off, j⟩

section
variable {prog : Program} {w : World} {A : Around} {s : Shared} {env : Env} {h₀ : Heap} {x : Str} {body : List Stmt} {Q : Flow → Shared → Prop} {E : Value → Shared → Prop}
theorem range_me {r : Addr} {a b : Int} {t₀ u₀ v₀ : Tok} {n : Nat} {m₀ : Str → Option Value} {news : List (Addr × Obj)} (J : Nat → (Str → Option Value) → List (Addr × Obj) → Prop)
    (hh : A.handled = none) (hr : IsRange s.heap r a b 1 t₀ u₀ v₀) (hsmall : Builtin.Range.small a b 1 = true) (hn : Builtin.Range.rangeSize a b 1 = (n : Int)) (F : Fr h₀ env.locals s.heap m₀) (N : News h₀ env.locals s.heap news) (hj : J 0 m₀ news)
    (turn : ∀ (i : Nat) t (m₁ : Str → Option Value) nx I oI h tk, i < n → J i m₁ nx → (∀ q ∈ nx, q.1 ≠ I) →
      Fr h₀ env.locals h (fun y => if y = x then some (.int (a + (i : Int)) t) else m₁ y) → News h₀ env.locals h ((I, oI) :: nx) →
      wpAny (model prog w) A (execs body env) (REnd h₀ env.locals I oI (J (i + 1)) { s with heap := h, toks := tk } Q) E { s with heap := h, toks := tk })
    (done : ∀ (m₁ : Str → Option Value) nx h tk, J n m₁ nx → Fr h₀ env.locals h m₁ → News h₀ env.locals h nx → Q .next { s with heap := h, toks := tk }) :
    wpAny (model prog w) A (pyIter (.ref r)) (fun it s₂ => LoopAtV prog w A h₀ env x body Q E it s₂) E s := by
  refine wpAny_pyIter_range hr hsmall ?_
  have hIL : s.heap.objs.size ≠ env.locals := fun e => absurd F.ns.lt (e ▸ Nat.lt_irrefl _)
  have hI₀ : h₀.get? s.heap.objs.size = none := next_is_new F
  refine ⟨s.heap.objs.size, [s.heap.objs.size], [s.heap.objs.size], n, _, _, m₀, news, J, rfl, Walks.range hh _ a 1 n, ?_, ?_, ?_, by show IsRangeIter _ _ _ _ _; rw [hn]; simpa using Heap.get?_push_size _ rfl, F.push _, fun q hq => ⟨Heap.get?_push_of_some _ (N q hq).1, (N q hq).2⟩, hj, ?_, ?_⟩
  · intro hm
    exact hIL (List.mem_singleton.mp hm).symm
  · intro c hc
    rw [List.mem_singleton.mp hc]; exact hI₀
  · intro q hq hI
    exact absurd (Heap.lt_size (N q hq).1) ((List.mem_singleton.mp hI) ▸ Nat.lt_irrefl _)
  · rintro i v m₁ nx s₁ own ⟨h, tk, rfl⟩ hi ⟨t, rfl⟩ hJ off ownfp ownat allown hst F₁ N₁
    obtain ⟨oI, hoI⟩ : ∃ oI, h.get? s.heap.objs.size = some oI := ⟨_, hst⟩
    have hmem : (s.heap.objs.size, oI) ∈ own := allown _ (List.mem_singleton.mpr rfl) hI₀ oI hoI
    have offI : ∀ q ∈ nx, q.1 ≠ s.heap.objs.size := fun q hq e => off q hq (List.mem_singleton.mpr e)
    have e1 : a + (i : Int) * 1 = a + (i : Int) := by omega
    rw [e1] at F₁
    refine wpAny_mono (turn i t m₁ nx s.heap.objs.size oI h tk hi hJ offI F₁ (fun q hq => ?_)) (fun f s₂ z => ?_) fun _ _ e => e
    · rcases List.mem_cons.mp hq with rfl | hq
      · exact N₁ _ (List.mem_append_left _ hmem)
      · exact N₁ _ (List.mem_append_right _ hq)
    · have fin : (∃ h' tk' m' nx', s₂ = { s with heap := h', toks := tk' } ∧ Fr h₀ env.locals h' m' ∧ News h₀ env.locals h' ((s.heap.objs.size, oI) :: nx') ∧ (∀ q ∈ nx', q.1 ≠ s.heap.objs.size) ∧ J (i + 1) m' nx') →
          LoopStepU h₀ env.locals [s.heap.objs.size] own (J (i + 1)) { s with heap := h, toks := tk } .next s₂ := by
        rintro ⟨h', tk', m', nx', rfl, F', N', off', j'⟩
        refine ⟨rfl, h', tk', m', nx', rfl, F', fun q hq => ?_, fun q hq hI => off' q hq (List.mem_singleton.mp hI), j'⟩
        rcases List.mem_append.mp hq with hq | hq
        · have ha := List.mem_singleton.mp (ownfp q hq)
          have ho := ownat q hq
          have : q = (s.heap.objs.size, oI) := by
            obtain ⟨q1, q2⟩ := q
            simp only at ha ho
            subst ha
            have ho : h.get? s.heap.objs.size = some q2 := ho
            rw [hoI] at ho
            cases ho
            rfl
          rw [this]
          exact N' _ (.head _)
        · exact N' _ (.tail _ hq)
      cases f with
      | ret v => exact .ret z
      | brk => exact .brk z
      | next => exact .next (fin z)
      | cont => exact .cont (fin z)
  · rintro h' tk m' nx F' N' _ hJ
    exact done m' nx h' tk hJ F' N'
end
end

section

theorem init_spec {w : World} {R : Result → Shared → Prop} {s : Shared} {dp un : Nat} {fr : Option (List Env)} {gd : Option (List Code)} {b₀ : Heap} (hb : ∀ b o, b₀.get? b = some o → s.heap.get? b = some o) (C : Cx w b₀) (hd : dp + 20 < recursionLimit) (hu : un + 100 < cLine)
    {x dx : Addr} (hx : s.heap.get? x = some (instObj 221 dx)) (hdx : s.heap.get? dx = some (dictOf [] 0)) (x0 : b₀.get? x = none) (d0 : b₀.get? dx = none)
    (hR : ∀ h' tk l hs tk' n c, (∀ b o, b ≠ dx → s.heap.get? b = some o → h'.get? b = some o) → h'.get? dx = some (dictOf [⟨hs, .str (Str.ofString "_headers") tk', .ref l⟩] n) → s.heap.get? l = none → h'.get? l = some (listOf #[] c) → R (.ok (.ret .none)) { s with heap := h', toks := tk }) :
    codeAny (model pg w) (Ar dp un fr gd) (.call (.ref 115) ⟨[.ref x], []⟩) R s := by
  have C' := C
  obtain ⟨X0, p', loose, mean, mg, mb, T0⟩ := C'
  have hxd : x ≠ dx := by
    intro e
    rw [e, hdx] at hx
    cases hx
  have hbg : ∀ b o, b₀.get? b = some o → (hideAll s.heap [x, dx]).get? b = some o := fun b o e => hideAll_get _ (hb b o e) (by
    intro hm
    rcases List.mem_cons.mp hm with rfl | hm
    · rw [x0] at e; cases e
    · rw [List.mem_singleton.mp hm, d0] at e; cases e)
  have X := X0.keeps hbg
  have T := T0.keeps hbg
  have hg : ∀ b o, (hideAll s.heap [x, dx]).get? b = some o → s.heap.get? b = some o := fun b o e => of_hideAll _ e
  have hgs : (hideAll s.heap [x, dx]).objs.size ≤ s.heap.objs.size := Nat.le_of_eq (hideAll_size _ _)
  have hgn : ∀ q ∈ [(x, (instObj 221 dx : Obj)), (dx, dictOf [] 0)], s.heap.get? q.1 = some q.2 ∧ (hideAll s.heap [x, dx]).get? q.1 = none := by
    intro q hq
    rcases List.mem_cons.mp hq with rfl | hq
    · exact ⟨hx, hideAll_none _ (by simp)⟩
    · rw [List.mem_singleton.mp hq]; exact ⟨hdx, hideAll_none _ (by simp)⟩
  have hgk : ∀ b o, b ≠ x → b ≠ dx → s.heap.get? b = some o → (hideAll s.heap [x, dx]).get? b = some o := fun b o e1 e2 e => hideAll_get _ e (by
    intro hm
    rcases List.mem_cons.mp hm with h | hm
    · exact e1 h
    · exact e2 (List.mem_singleton.mp hm))
  generalize hideAll s.heap [x, dx] = g at X T hg hgs hgn hgk
  k_dflt (refine' enterH (news := [(x, (instObj 221 dx : Obj)), (dx, dictOf [] 0)]) (binds := [(Str.ofString "self", Value.ref x), (Str.ofString "headers", .none)]) ?kg ?ks ?kn ?k3 ?k5 ?k6 ?k7 ?k8 ?k9 ?kB ?_ ?c2 ?c3 ?c4 ?c5; (case kg => exact hg); (case ks => exact hgs); (case kn => exact hgn); (case k3 => k_asm); (case k5 => k_asm); (case k6 => k_is); (case k7 => k_is); (case k8 => (show dp < recursionLimit; omega)); (case k9 => first | exact BindsTo.of_eq rfl | exact binds_K (Frag.In.keeps (by assumption) hg) rfl (by k_is) rfl rfl rfl); (case c5 => decide); (case kB => exact locs rfl); (case c2 => exact rfl); (case c3 => exact rfl); (case c4 => exact rfl); k_whole; intro L' h' F' N' up' Ln'; (try dsimp only [List.reverse_cons, List.reverse_nil, List.nil_append, List.cons_append] at F'))
  k_steps
  dsimp only
  rename Fr _ _ _ _ => kF
  rename News _ _ _ _ => kN
  rename (_ < _ ∧ _ < _ ∧ _ < _) => _l3
  rename (_ < _ ∧ _ < _) => l2
  have e1 := kN _ (.head _)
  have e2 := kN _ (.tail _ (.head _))
  have e3 := kN _ (.tail _ (.tail _ (.head _)))
  refine hR _ _ _ _ _ _ _ (fun b o hne e => ?_) e3.1 ?_ e1.1
  · by_cases hbx : b = x
    · subst hbx
      rw [hx] at e
      cases e
      exact e2.1
    · exact kF.keep _ _ (hgk b o hbx hne e)
  · cases hq : s.heap.get? _ with
    | none => rfl
    | some o =>
      have := hgk _ o (Nat.ne_of_gt l2.1) (Nat.ne_of_gt l2.2) hq
      rw [e1.2.2] at this
      cases this
end

section
local macro_rules | `(tactic| walk_at "getAttr ref") => `(tactic| (k_here; k_dflt (refine' get_own ?k1 ?k2 ?k3 ?k4 ?k5 ?k6 ?k7 ?k8 ?k9 ?_; (case k1 => k_asm); (case k2 => k_asm); (case k3 => exact instAt_fr (by k_asm) (by assumption) (by assumption)); (case k4 => k_is); (case k5 => k_is); (case k6 => k_is); (case k7 => k_is); (case k8 => k_get); (case k9 => k_handed); k_whole)))
local macro_rules | `(tactic| walk_at "getMethod ref") => `(tactic| (k_here; k_dflt (refine' method_inst ?k1 ?k2 ?k3 ?k4 ?k5 ?k6 ?k7 ?_; (case k1 => k_asm); (case k2 => k_asm); (case k3 => exact instAt_fr (by k_asm) (by assumption) (by assumption)); (case k4 => k_is); (case k5 => k_is); (case k6 => k_is); (case k7 => k_get); k_whole)))
local macro_rules | `(tactic| walk_at "call ref") => `(tactic| (k_here; (with_reducible show wpAny _ _ (call (Value.ref 122) [_, Value.str _ _] _) _ _ _); (show wpAny _ _ (call (Value.ref 122) [_, Value.str _ _] [(Str.ofString "name", Value.bool _)]) _ _ _); k_dflt (refine' use0 ?F ?N (conv_spec' ?C ?hd ?hu ?l1 ?l2) ?_; (case F => k_asm); (case N => k_asm); (case C => exact Cx.keeps (by assumption) (Fr.keep (by k_asm))); (case hd => (simp only [depth_deeper, depth_in1]; omega)); (case hu => (simp only [units_deeper, units_in1]; omega)); (case l1 => first | assumption | omega); (case l2 => assumption); k_whole); intro r' h' tk' kk' F' N' hr'; subst hr'; clear kk'; (try k_sweep)))

theorem addh_spec {w : World} {E : Value → Shared → Prop} {Q : Value → Shared → Prop} {s : Shared} {dp un : Nat} {fr : Option (List Env)} {gd : Option (List Code)} {b₀ : Heap} (hb : ∀ b o, b₀.get? b = some o → s.heap.get? b = some o) (C0 : Cx w b₀) (hd : dp + 30 < recursionLimit) (hu : un + 150 < cLine)
    {x dx l : Addr} {hs : Int} {tk n c : Nat} {vs : List Value} {nm : List Nat} {v : Str} {t u : Tok} (hx : s.heap.get? x = some (instObj 221 dx)) (hdx : s.heap.get? dx = some (dictOf [⟨hs, .str (Str.ofString "_headers") tk, .ref l⟩] n)) (hl : s.heap.get? l = some (listOf vs.toArray c)) (l0 : b₀.get? l = none)
    (hn1 : nm.length ≤ 30) (hn2 : ∀ c ∈ nm, 32 ≤ c ∧ c < 127) (hv1 : v.length ≤ 30) (hv2 : ∀ c ∈ v.cps.toList, 32 ≤ c ∧ c < 127) (hvs : vs.length ≤ 100)
    (hQ : ∀ h' tk' a t' u', (∀ b o, b ≠ l → s.heap.get? b = some o → h'.get? b = some o) → h'.get? l = some (listOf (vs ++ [Value.ref a]).toArray (c + 1)) → s.heap.get? a = none → IsTup h' a #[.str (S nm) t', .str v u'] → Q .none { s with heap := h', toks := tk' }) :
    wpAny (model pg w) (Ar dp un fr gd) (call (.ref 218) [.ref x, .str (S nm) t, .str v u]) Q E s := by
  obtain ⟨X0, p', loose, mean, mg, mb, T0⟩ := C0
  have hbg : ∀ b o, b₀.get? b = some o → (hideAll s.heap [l]).get? b = some o := fun b o e => hideAll_get _ (hb b o e) (by
    intro hm
    rw [List.mem_singleton.mp hm, l0] at e; cases e)
  have X := X0.keeps hbg
  have T := T0.keeps hbg
  have C : Cx w (hideAll s.heap [l]) := ⟨X, _, _, _, _, _, T⟩
  have hg : ∀ b o, (hideAll s.heap [l]).get? b = some o → s.heap.get? b = some o := fun b o e => of_hideAll _ e
  have hgs : (hideAll s.heap [l]).objs.size ≤ s.heap.objs.size := Nat.le_of_eq (hideAll_size _ _)
  have hgn : ∀ q ∈ [(l, (listOf vs.toArray c : Obj))], s.heap.get? q.1 = some q.2 ∧ (hideAll s.heap [l]).get? q.1 = none := by
    intro q hq
    rw [List.mem_singleton.mp hq]; exact ⟨hl, hideAll_none _ (by simp)⟩
  have hgk : ∀ b o, b ≠ l → s.heap.get? b = some o → (hideAll s.heap [l]).get? b = some o := fun b o e1 e => hideAll_get _ e (by
    intro hm
    exact e1 (List.mem_singleton.mp hm))
  generalize hideAll s.heap [l] = g at X T C hg hgs hgn hgk
  have hx' : g.get? x = some (instObj 221 dx) := hgk _ _ (by rintro rfl; rw [hx] at hl; cases hl) hx
  have hdx' : g.get? dx = some (dictOf [⟨hs, .str (Str.ofString "_headers") tk, .ref l⟩] n) := hgk _ _ (by rintro rfl; rw [hdx] at hl; exact absurd (congrArg (fun o : Option Obj => o.map Obj.cls) hl) (by simp)) hdx
  have hn3 : (S nm).length ≤ 30 := by rw [S_len]; exact hn1
  have hn4 : ∀ c ∈ (S nm).cps.toList, 32 ≤ c ∧ c < 127 := by simpa using hn2
  refine wpAny_call ?_
  k_dflt (refine' enterHD (news := [(l, (listOf vs.toArray c : Obj))]) (bindsD := fun d => [(Str.ofString "self", Value.ref x), (Str.ofString "_name", Value.str (S nm) t), (Str.ofString "_value", Value.str v u), (Str.ofString "_params", Value.ref d)]) ?kg ?ks ?kn ?k3 ?k5 ?k6 ?k7 ?k8 ?k9 ?kB ?_ ?c2 ?c3 ?c4 ?c5; (case kg => exact hg); (case ks => exact hgs); (case kn => exact hgn); (case k3 => k_asm); (case k5 => k_asm); (case k6 => k_is); (case k7 => k_is); (case k8 => (show dp < recursionLimit; omega)); (case k9 => exact rfl); (case c5 => decide); (case kB => exact fun _ => locs rfl); (case c2 => exact rfl); (case c3 => exact rfl); (case c4 => exact rfl); k_whole; intro D' L' h' tk' F' N' up' Ln' Dn' lo'; (try dsimp only [List.reverse_cons, List.reverse_nil, List.nil_append, List.cons_append] at F'))
  have hsD : (dictOf [] 0).IsDictOf (PySem.strKind pg w) [] := kp_isDict (ex := []) 0 0 (by simp)
  have fsD : PyProof.V.FlatPairs PyData.str [] [] := .nil
  k_steps
  rename Fr _ _ _ _ => kF
  rename News _ _ _ _ => kN
  have z0 := kN _ (.head _)
  have z3 := kN _ (.tail _ (.tail _ (.tail _ (.head _))))
  have hj : Txt.join (Str.ofString "; ") [v] = v := by
    unfold Txt.join Builtin.Str.glued
    simp
  rw [hj] at z0
  refine append_at (hsz := by rw [sizeLine_eq, List.size_toArray]; omega) z3.1 fun h9 hs9 ho9 => ?_
  have kF9 := kF.change hs9 z3.2.1 z3.2.2
  clear kN
  k_steps
  dsimp only
  rename Fr _ _ _ _ => kFz
  have hal := cls_ne z0.1 z3.1 (by simp)
  have htp := tup_at ((hs9.2 _ hal).trans z0.1)
  refine hQ h9 _ _ _ _ ?k ?l ?f htp
  case l => rw [← List.push_toArray]; exact ho9
  case k => exact fun b o hne e => kFz.keep _ _ (hgk b o hne e)
  case f =>
    cases hq : s.heap.get? _ with
    | none => rfl
    | some o =>
      have := hgk _ o hal hq
      rw [z0.2.2] at this
      cases this
end

section
local macro_rules | `(tactic| walk_at "getAttr ref") => `(tactic| (k_here; k_dflt (refine' get_own ?k1 ?k2 ?k3 ?k4 ?k5 ?k6 ?k7 ?k8 ?k9 ?_; (case k1 => k_asm); (case k2 => k_asm); (case k3 => exact instAt_fr (by k_asm) (by assumption) (by assumption)); (case k4 => k_is); (case k5 => k_is); (case k6 => k_is); (case k7 => k_is); (case k8 => k_get); (case k9 => k_handed); k_whole)))
local macro_rules | `(tactic| walk_at "getMethod ref") => `(tactic| (k_here; k_dflt (refine' method_inst ?k1 ?k2 ?k3 ?k4 ?k5 ?k6 ?k7 ?_; (case k1 => k_asm); (case k2 => k_asm); (case k3 => exact instAt_fr (by k_asm) (by assumption) (by assumption)); (case k4 => k_is); (case k5 => k_is); (case k6 => k_is); (case k7 => k_get); k_whole)))
local macro_rules | `(tactic| walk_at "call ref") => `(tactic| ((with_reducible show wpAny _ _ (call (Value.ref 77) _ _) _ _ _); refine hold_of ?_))
local macro_rules | `(tactic| walk_at "call ref") => `(tactic| ((with_reducible show wpAny _ _ (call (Value.ref 218) _ _) _ _ _); refine hold_of ?_))
local macro_rules | `(tactic| walk_at "call ref") => `(tactic| ((with_reducible show wpAny _ _ (call (Value.ref 221) _ _) _ _ _); refine hold_of ?_))
local macro_rules | `(tactic| walk_at "pyIter ref") => `(tactic| (refine hold_of ?_))
local macro_rules | `(tactic| walk_at "exec For Name Call cons nil") => `(tactic| (k_here; (rename Fr _ _ _ _ => lF'); (with_unfolding_all refine' For_invVF lF' ?k1 ?k2 ?_; (case k1 => exact rfl); (case k2 => exact rfl); k_whole)))

/-- the row of a ring that begins at k -/
abbrev rowOf (r : List Nat) (k : Nat) : List Nat := r.drop k ++ r.take k
/-- what a table tells -/
abbrev tabRows (r : List Nat) (z n : Nat) : List (List Nat × List Nat) := (List.range n).map fun k => ((rowOf r k).take z, (num k).cps.toList)

inductive RowsL (tl : List (Addr × Obj)) : List Value → List (List Nat × List Nat) → Prop
  | nil : RowsL tl [] []
  | snoc {a : Addr} {o : Obj} {nm vl : List Nat} {t u : Tok} {n : Nat} {vs : List Value} {rows : List (List Nat × List Nat)} : RowsL tl vs rows → (a, o) ∈ tl → o.cls = .type "tuple" → o.data = .seq #[.str (S nm) t, .str (S vl) u] n → RowsL tl (vs ++ [.ref a]) (rows ++ [(nm, vl)])
theorem RowsL.mono {tl tl' : List (Addr × Obj)} (h : ∀ q ∈ tl, q ∈ tl') {vs : List Value} {rows : List (List Nat × List Nat)} (x : RowsL tl vs rows) : RowsL tl' vs rows := by
  induction x with
  | nil => exact .nil
  | snoc _ hm hc hd ih => exact .snoc ih (h _ hm) hc hd
theorem RowsL.length {tl : List (Addr × Obj)} {vs : List Value} {rows : List (List Nat × List Nat)} (x : RowsL tl vs rows) : vs.length = rows.length := by
  induction x with
  | nil => rfl
  | snoc _ _ _ _ ih => simp [ih]
theorem RowsL.at {h : Heap} {tl : List (Addr × Obj)} (hh : ∀ q ∈ tl, h.get? q.1 = some q.2) {vs : List Value} {rows : List (List Nat × List Nat)} (x : RowsL tl vs rows) : RowsAt h vs rows := by
  induction x with
  | nil => exact .nil
  | snoc _ hm hc hd ih => exact ih.snoc ⟨_, hh _ hm, hc, _, hd⟩

/-- a Headers object in the ledger -/
structure TabL (tl : List (Addr × Obj)) (x : Addr) (rows : List (List Nat × List Nat)) (dx l : Addr) (od : Obj) (vs : List Value) (c : Nat) : Prop where
  inst : (x, (instObj 221 dx : Obj)) ∈ tl
  dict : (dx, od) ∈ tl
  entry : ∃ hs tk n, od = dictOf [⟨hs, .str (Str.ofString "_headers") tk, .ref l⟩] n
  list : (l, (listOf vs.toArray c : Obj)) ∈ tl
  rows : RowsL tl vs rows
theorem TabL.at {h : Heap} {tl : List (Addr × Obj)} {x dx l : Addr} {rows : List (List Nat × List Nat)} {od : Obj} {vs : List Value} {c : Nat} (hh : ∀ q ∈ tl, h.get? q.1 = some q.2) (T : TabL tl x rows dx l od vs c) : IsTable h x rows dx l od vs :=
  ⟨hh _ T.inst, hh _ T.dict, T.entry, ⟨c, hh _ T.list⟩, T.rows.at hh⟩
theorem TabL.mono {tl tl' : List (Addr × Obj)} {x dx l : Addr} {rows : List (List Nat × List Nat)} {od : Obj} {vs : List Value} {c : Nat} (h : ∀ q ∈ tl, q ∈ tl') (T : TabL tl x rows dx l od vs c) : TabL tl' x rows dx l od vs c :=
  ⟨h _ T.inst, h _ T.dict, T.entry, h _ T.list, T.rows.mono h⟩

theorem num_ok : ∀ i, i < 20 → (num i).length ≤ 30 ∧ ∀ c ∈ (num i).cps.toList, 32 ≤ c ∧ c < 127 := by decide +kernel

theorem table_spec {w : World} {E : Value → Shared → Prop} {s : Shared} {dp un : Nat} {fr : Option (List Env)} {gd : Option (List Code)} (C : Cx w s.heap) (hd : dp + 60 < recursionLimit) (hu : un + 300 < cLine)
    {r : List Nat} {z : Nat} {t u : Tok} (h1 : r.length ≤ 20) (hr : ∀ c ∈ r, 65 ≤ c ∧ c < 127) (hz : 0 < z) (hz2 : z < r.length) :
    wpAny (model pg w) (Ar dp un fr gd) (call (.ref 232) [.str (S r) t, .int (z : Int) u]) (fun r' s' => Keeps s s' ∧ ∃ x tl dx l od vs c, r' = .ref x ∧ (∀ q ∈ tl, s'.heap.get? q.1 = some q.2 ∧ s.heap.get? q.1 = none) ∧ TabL tl x (tabRows r z r.length) dx l od vs c) E s := by
  have C' := C
  obtain ⟨X, p', loose, mean, mg, mb, T⟩ := C'
  refine of_any fun Q hQ => ?_
  have hlenr : (S r).length ≤ 20 := by rw [S_len]; exact h1
  k_dflt (refine' enter0 (binds := [(Str.ofString "ring", Value.str (S r) t), (Str.ofString "size", Value.int (z : Int) u)]) ?k3 ?k5 ?k6 ?k7 ?k8 ?k9 ?kB ?_ ?c2 ?c3 ?c4 ?c5; (case k3 => k_asm); (case k5 => k_asm); (case k6 => k_is); (case k7 => k_is); (case k8 => (show (_ : Nat) < _; simp only [depth_deeper, depth_in1]; omega)); (case k9 => exact BindsTo.of_eq rfl); (case c5 => decide); (case kB => exact locs rfl); (case c2 => exact rfl); (case c3 => exact rfl); (case c4 => exact rfl); k_whole; intro L' h' F' N'; (try dsimp only [List.reverse_cons, List.reverse_nil, List.nil_append, List.cons_append] at F'))
  k_steps
  refine Hold.out ?_
  show wpAny _ _ (call (Value.ref 221) [] []) _ _ _
  k_dflt (refine' call_cls F' X N' ?hm ?hi ?hf ?_; (case hm => k_is); (case hi => k_is); (case hf => k_is))
  intro x dx h2 F2 N2 _ hlt
  have i1 := N2 _ (.head _)
  have i2 := N2 _ (.tail _ (.head _))
  refine init_spec (b₀ := s.heap) F2.keep C ?_ ?_ i1.1 i2.1 i1.2.2 i2.2.2 ?_
  · show dp + 1 + 1 + 20 < recursionLimit
    omega
  · show un + 3 + 1 + 100 < cLine
    omega
  intro h3 tk3 l hs tk4 n c hk3 hdx3 hl0 hl3
  have F3 : Fr s.heap L' h3 _ := ⟨F2.ns.at' fun o e => hk3 _ o (Ne.symm i2.2.1) e, fun b o e => hk3 b o (fun q => by rw [q, i2.2.2] at e; cases e) (F2.keep b o e), F2.above⟩
  have N3 : News s.heap L' h3 [(x, instObj 221 dx), (dx, dictOf [⟨hs, .str (Str.ofString "_headers") tk4, .ref l⟩] n), (l, listOf #[] c)] := by
    have hxd : x ≠ dx := Nat.ne_of_gt hlt
    have Lat : ∃ oL, h2.get? L' = some oL := let ⟨oL, _, _, e, _⟩ := F2.ns; ⟨oL, e⟩
    intro q hq
    rcases List.mem_cons.mp hq with rfl | hq
    · exact ⟨hk3 _ _ hxd i1.1, i1.2⟩
    · rcases List.mem_cons.mp hq with rfl | hq
      · exact ⟨hdx3, i2.2⟩
      · rw [List.mem_singleton.mp hq]
        refine ⟨hl3, ?_, ?_⟩
        · rintro e
          obtain ⟨oL, hL⟩ := Lat
          simp only at e
          rw [e, hL] at hl0
          cases hl0
        · cases hq2 : s.heap.get? l with
          | none => rfl
          | some o => rw [F2.keep _ _ hq2] at hl0; cases hl0
  clear F2 N2 F' N'
  dsimp only [InitBack]
  refine ⟨rfl, ?_⟩
  k_steps
  refine Hold.out ?_
  rename IsRange _ _ _ _ _ _ _ _ => rgX
  rename Fr _ _ _ _ => kF
  rename News _ _ _ _ => kN
  have hrs : Builtin.Range.rangeSize 0 ((S r).length : Int) 1 = ((r.length : Nat) : Int) := by rw [S_len]; exact rangeSize_nat _ _
  have hsm : Builtin.Range.small 0 ((S r).length : Int) 1 = true := small_one (by omega) (by omega) (by omega) (by omega)
  have kN' : News s.heap L' _ ((x, (instObj 221 dx : Obj)) :: (dx, dictOf [⟨hs, .str (Str.ofString "_headers") tk4, .ref l⟩] n) :: (l, listOf ([] : List Value).toArray c) :: []) := kN
  refine range_me (fun i m nx => ∃ vs tl c', nx = (x, (instObj 221 dx : Obj)) :: (dx, dictOf [⟨hs, .str (Str.ofString "_headers") tk4, .ref l⟩] n) :: (l, listOf vs.toArray c') :: tl ∧ RowsL tl vs (tabRows r z i) ∧ (∀ q ∈ tl, q.2.cls = .type "tuple") ∧
    m (Str.ofString "table") = some (.ref x) ∧ (∃ t, m (Str.ofString "ring") = some (.str (S r) t)) ∧ (∃ t, m (Str.ofString "size") = some (.int (z : Int) t))) rfl rgX hsm hrs kF kN' ?_ ?_ ?_
  · exact ⟨[], [], c, rfl, .nil, (fun _ h => nomatch h), rfl, ⟨_, rfl⟩, ⟨_, rfl⟩⟩
  · clear kF kN kN' rgX
    rintro i t9 m₁ nx I oI h tk9 hi ⟨vs, tl, c', rfl, hrows, htup, m1, ⟨t1, m2⟩, ⟨t2, m3⟩⟩ off F N
    have F9 := frKnowB (ps := [(Str.ofString "table", .ref x), (Str.ofString "ring", .str (S r) t1), (Str.ofString "size", .int (z : Int) t2)]) F (by rfl) (know1 m1 (know1 m2 (know1 m3 know0)))
    clear F m1 m2 m3
    have hrow : Txt.slice (S r) (some (0 + (i : Int))) none ++ Txt.slice (S r) none (some (0 + (i : Int))) = S (rowOf r i) := by
      rw [Int.zero_add, slice_sn _ _ (by omega), slice_ns _ _ (by omega), S_append]
    have hrl : (rowOf r i).length = r.length := by simp [rowOf]; omega
    k_steps
    refine Hold.out ?_
    obtain ⟨c9, q9, hq9⟩ : ∃ c9 q9, (rowOf r i).drop z = c9 :: q9 := by
      cases hd : (rowOf r i).drop z with
      | nil => exact absurd (List.drop_eq_nil_iff.mp hd) (by omega)
      | cons a b => exact ⟨a, b, rfl⟩
    have hrc : ∀ c ∈ rowOf r i, 65 ≤ c ∧ c < 127 := fun c hc => by
      rcases List.mem_append.mp hc with hc | hc
      · exact hr c (List.mem_of_mem_drop hc)
      · exact hr c (List.mem_of_mem_take hc)
    have hval : Str.ofString "257 \"" ++ Txt.slice (S (rowOf r i)) none (some (z : Int)) ++ Str.ofString "\"" ++ Txt.slice (S (rowOf r i)) (some (z : Int)) none = S ([50, 53, 55, 32, 34] ++ ((rowOf r i).take z ++ 34 :: c9 :: q9)) := by
      rw [slice_sn _ _ (by omega), slice_ns _ _ (by omega), hq9, show Str.ofString "257 \"" = S [50, 53, 55, 32, 34] from by decide +kernel, show Str.ofString "\"" = S [34] from by decide +kernel, S_append, S_append, S_append]
      simp
    rw [hrow, hval]
    have hq9l : ((rowOf r i).drop z).length = q9.length + 1 := by rw [hq9]; rfl
    rename Fr _ _ _ _ => kF
    rename News _ _ _ _ => kN
    refine use0 kF kN (parse_spec (C.keeps kF.keep) ?_ ?_ ?_ ?_ ?_) ?_
    · show dp + 1 + 20 < recursionLimit
      omega
    · show un + 3 + 100 < cLine
      omega
    · rw [List.length_drop] at hq9l
      rw [List.length_take]
      omega
    · intro hm
      have := hrc 34 (List.mem_of_mem_take hm)
      omega
    · have : c9 ∈ (rowOf r i).drop z := by rw [hq9]; exact .head _
      have := hrc c9 (List.mem_of_mem_drop this)
      omega
    rintro _ h5 tk5 hk5 F5 N5 ⟨t5, rfl⟩
    clear kF kN hk5
    k_steps
    refine Hold.out ?_
    rw [Int.zero_add]
    rename Fr _ _ _ _ => kF
    rename News _ _ _ _ => kN
    have zI := kN _ (.head _)
    have zx := kN _ (.tail _ (.head _))
    have zd := kN _ (.tail _ (.tail _ (.head _)))
    have zl := kN _ (.tail _ (.tail _ (.tail _ (.head _))))
    have hvl : vs.length = i := by rw [hrows.length]; simp
    have hno := num_ok i (by omega)
    refine addh_spec (b₀ := s.heap) kF.keep C ?_ ?_ zx.1 zd.1 zl.1 zl.2.2 (by rw [List.length_take]; omega) (fun c hc => by have := hrc c (List.mem_of_mem_take hc); omega) hno.1 hno.2 (by omega) ?_
    · show dp + 1 + 30 < recursionLimit
      omega
    · show un + 3 + 150 < cLine
      omega
    intro h6 tk6 a t6 u6 hk6 hl6 ha6 htp6
    obtain ⟨o6, ho6, hc6, n6, hd6⟩ := htp6
    have hLl : L' ≠ l := Ne.symm zl.2.1
    have Lat := kF.ns
    obtain ⟨oL, _, _, hoL, _⟩ := id Lat
    have F6 := (⟨kF.ns.at' fun o e => hk6 _ o hLl e, fun b o e => hk6 b o (fun q => by rw [q, zl.2.2] at e; cases e) (kF.keep b o e), kF.above⟩ : Fr s.heap L' h6 _)
    have haL : a ≠ L' := by rintro rfl; rw [hoL] at ha6; cases ha6
    have haI : a ≠ I := by rintro rfl; rw [zI.1] at ha6; cases ha6
    have ha0 : s.heap.get? a = none := by
      cases hq : s.heap.get? a with
      | none => rfl
      | some o => rw [kF.keep _ _ hq] at ha6; cases ha6
    have N6 : News s.heap L' h6 ((I, oI) :: (x, (instObj 221 dx : Obj)) :: (dx, dictOf [⟨hs, .str (Str.ofString "_headers") tk4, .ref l⟩] n) :: (l, listOf (vs ++ [Value.ref a]).toArray (c' + 1)) :: (a, o6) :: tl) := by
      intro q hq
      rcases List.mem_cons.mp hq with rfl | hq
      · exact ⟨hk6 _ _ (Ne.symm (off (l, _) (.tail _ (.tail _ (.head _))))) zI.1, zI.2⟩
      · rcases List.mem_cons.mp hq with rfl | hq
        · exact ⟨hk6 _ _ (cls_ne zx.1 zl.1 (by simp)) zx.1, zx.2⟩
        · rcases List.mem_cons.mp hq with rfl | hq
          · exact ⟨hk6 _ _ (cls_ne zd.1 zl.1 (by simp)) zd.1, zd.2⟩
          · rcases List.mem_cons.mp hq with rfl | hq
            · exact ⟨hl6, zl.2⟩
            · rcases List.mem_cons.mp hq with rfl | hq
              · exact ⟨ho6, haL, ha0⟩
              · have zq := kN q (.tail _ (.tail _ (.tail _ (.tail _ hq))))
                exact ⟨hk6 _ _ (cls_ne zq.1 zl.1 (by rw [htup q hq]; simp)) zq.1, zq.2⟩
    clear kF kN
    k_steps
    refine REnd.next (by assumption) N6 ?_ ⟨vs ++ [Value.ref a], (a, o6) :: tl, c' + 1, rfl, ?_, ?_, rfl, ⟨_, rfl⟩, ⟨_, rfl⟩⟩
    · intro q hq
      rcases List.mem_cons.mp hq with rfl | hq
      · exact off (x, _) (.head _)
      · rcases List.mem_cons.mp hq with rfl | hq
        · exact off (dx, _) (.tail _ (.head _))
        · rcases List.mem_cons.mp hq with rfl | hq
          · exact off (l, (listOf vs.toArray c' : Obj)) (.tail _ (.tail _ (.head _)))
          · rcases List.mem_cons.mp hq with rfl | hq
            · exact haI
            · exact off q (.tail _ (.tail _ (.tail _ hq)))
    · have e : tabRows r z (i + 1) = tabRows r z i ++ [((rowOf r i).take z, (num i).cps.toList)] := by simp [tabRows, List.range_succ]
      rw [e]
      refine .snoc (hrows.mono fun q hq => .tail _ hq) (.head _) hc6 (n := n6) (t := t6) (u := u6) ?_
      rw [hd6, ← S_eta (num i)]
    · intro q hq
      rcases List.mem_cons.mp hq with rfl | hq
      · exact hc6
      · exact htup q hq
  · rintro m₁ nx h tk9 ⟨vs, tl, c', rfl, hrows, htup, m1, ⟨t1, m2⟩, ⟨t2, m3⟩⟩ F N
    have F9 := frKnow (ps := [(Str.ofString "table", .ref x)]) F (know1 m1 know0)
    clear F
    have hN : ∀ q ∈ (x, (instObj 221 dx : Obj)) :: (dx, dictOf [⟨hs, .str (Str.ofString "_headers") tk4, .ref l⟩] n) :: (l, listOf vs.toArray c') :: tl, h.get? q.1 = some q.2 ∧ s.heap.get? q.1 = none := fun q hq => ⟨(N q hq).1, (N q hq).2.2⟩
    dsimp only
    k_steps
    dsimp only
    refine hQ _ _ ⟨⟨_, _, rfl, F9.keep⟩, x, _, dx, l, _, vs, c', rfl, hN, .head _, .tail _ (.head _), ⟨_, _, _, rfl⟩, .tail _ (.tail _ (.head _)), hrows.mono fun q hq => .tail _ (.tail _ (.tail _ hq))⟩
end

section
section
open PyProof.Rows.LCg
variable {prog : Program} {w : World} {A : Around} {E : Value → Shared → Prop} {s : Shared} {h₀ : Heap} {L : Addr} {m : Str → Option Value} {env : Env}

/-- what a turn of a dict comprehension owes -/
def DEnd (h₀ : Heap) (L : Addr) (m : Str → Option Value) (s₁ : Shared) (I : Addr) (oI : Obj) (C : Addr) (oC : Obj) (D : Addr) (oD : Obj) (J : List (Int × Value) → List (Addr × Obj) → Prop) (kvs : List (Int × Value)) (kv vv : Value) (s₂ : Shared) : Prop :=
  ∃ h' tk news' k t, s₂ = { s₁ with heap := h', toks := tk } ∧ kv = .int k t ∧ Fr h₀ L h' m ∧ News h₀ L h' ((I, oI) :: (C, oC) :: (D, oD) :: news') ∧ Off3 I C D news' ∧ J (stored kvs k vv) news'

theorem dc_block {kx vx iter : Expr} {x : Str} {px : Pos} {scope : Scope} {cl : List (Str × Addr)} {pos : Pos} {s₂ : Shared} {I : Addr} {n : Nat} {a : Int} {news : List (Addr × Obj)}
    (J : Nat → List (Int × Value) → List (Addr × Obj) → Prop) {RR : Value → Addr → Result → Shared → Prop}
    (hh : A.handled = none) (hsz : n ≤ sizeLine) (hst : IsRangeIter s₂.heap I (a + (0 : Nat) * 1) ((n : Int) - (0 : Nat)) 1) (hIlt : I < s₂.heap.objs.size)
    (hcell : ∀ y ∈ scope.names, y.2 ≠ .cell) (hkind : scope.kind = .function) (hx : scope.names.lookup x = some .local)
    (F : Fr h₀ L s₂.heap m) (N : News h₀ L s₂.heap news) (hIL : L ≠ I) (hI₀ : h₀.get? I = none) (off : ∀ p ∈ news, p.1 ≠ I) (hJ : J 0 [] news)
    (step : ∀ (i : Nat) kvs nw, i < n → J i kvs nw → ∀ t oI C oC D oD m₂ h tk (E' : Value → Shared → Prop), NsObj oC m₂ → m₂ x = some (.int (a + (i : Int)) t) → Fr h₀ L h m → News h₀ L h ((I, oI) :: (C, oC) :: (D, oD) :: nw) → Off3 I C D nw → ((@Ne Nat I C) ∧ (@Ne Nat I D) ∧ (@Ne Nat C D)) →
      wpAny (model prog w) A (eval kx (compEnvC scope cl C env)) (fun kv s₄ => wpAny (model prog w) A (eval vx (compEnvC scope cl C env)) (fun vv s₅ =>
        DEnd h₀ L m { s₂ with heap := h, toks := tk } I oI C oC D oD (J (i + 1)) kvs kv vv s₅) E' s₄) E' { s₂ with heap := h, toks := tk })
    (hRR : ∀ D oD C h tk m' kvs nw, Fr h₀ L h m → News h₀ L h ((D, oD) :: nw) → oD.IsDictOf (intKind prog w) kvs → Off1 D nw → h.Ns C m' → h₀.get? C = none → C ≠ L → C ≠ D → (∀ p ∈ nw, p.1 ≠ C) → J n kvs nw → RR (.ref D) C (.ok .next) { s₂ with heap := h, toks := tk }) :
    wpAny (model prog w) A newDict (fun acc s₃ => wpAny (model prog w) A (newFunctionEnv scope env.globals cl [] env.qual none .none (some env)) (fun cenv s₄ =>
      codeAny (model prog w) A (.compStart (.DictComp kx vx [⟨.Name x px, iter, [], 0⟩] scope pos) 0 (.ref I) acc { cenv with scope := relabel scope env }) (RR acc cenv.locals) s₄) E s₃) E s₂ := by
  have W := range_walks (prog := prog) (w := w) (I := I) hh a n
  refine wpAny_newObj_type (wpAny_newFunctionEnv hcell (by intro y hy; simp at hy) (fun h₁ hns₁ hsb₁ => ?_) hkind)
  dsimp only at hns₁ hsb₁ ⊢
  have hnew : (s₂.heap.push { cls := .type "dict", dict := none, data := .dict #[] }).DictOf (intKind prog w) s₂.heap.objs.size [] := Heap.DictOf.new s₂.heap
  generalize hH2 : s₂.heap.push { cls := .type "dict", dict := none, data := .dict #[] } = H2 at hns₁ hsb₁ hnew ⊢
  have hC : H2.objs.size = s₂.heap.objs.size + 1 := by rw [← hH2, Heap.size_push]
  have hDC : s₂.heap.objs.size ≠ H2.objs.size := by rw [hC]; exact Nat.ne_of_lt (Nat.lt_succ_self _)
  have below : ∀ b, b < s₂.heap.objs.size → b ≠ H2.objs.size ∧ b ≠ s₂.heap.objs.size := fun b hb => ⟨by rw [hC]; exact Nat.ne_of_lt (Nat.lt_succ_of_lt hb), Nat.ne_of_lt hb⟩
  have old : ∀ b o, s₂.heap.get? b = some o → h₁.get? b = some o := fun b o e => hsb₁.extBut b o (below b (Heap.lt_size e)).1 (Heap.get?_push_of_some _ (hH2 ▸ Heap.get?_push_of_some _ e))
  have hacc : h₁.DictOf (intKind prog w) s₂.heap.objs.size [] := hnew.at fun o e => hsb₁.extBut _ _ hDC (Heap.get?_push_of_some _ e)
  have hst₁ : IsRangeIter h₁ I (a + (0 : Nat) * 1) ((n : Int) - (0 : Nat)) 1 := old _ _ hst
  have fresh : ∀ a, s₂.heap.objs.size ≤ a → s₂.heap.get? a = none := fun a ha => Heap.get?_none_of_le ha
  have fresh₀ : ∀ a, s₂.heap.objs.size ≤ a → h₀.get? a = none := fun a ha => by
    cases e : h₀.get? a with
    | none => rfl
    | some o' => have := F.keep a o' e; rw [fresh a ha] at this; cases this
  have hD₀ : h₀.get? s₂.heap.objs.size = none := fresh₀ _ (Nat.le_refl _)
  have hC₀ : h₀.get? H2.objs.size = none := fresh₀ _ (by rw [hC]; exact Nat.le_succ _)
  have hLlt : L < s₂.heap.objs.size := F.ns.lt
  have hDL : s₂.heap.objs.size ≠ L := Ne.symm (below L hLlt).2
  have hCL : H2.objs.size ≠ L := Ne.symm (below L hLlt).1
  have hCI : I ≠ H2.objs.size := (below I hIlt).1
  have hDI : I ≠ s₂.heap.objs.size := (below I hIlt).2
  have off₀ : Off3 I H2.objs.size s₂.heap.objs.size news := Off3.of fun p hp => ⟨off p hp, (below _ (Heap.lt_size (N p hp).1)).1, (below _ (Heap.lt_size (N p hp).1)).2⟩
  have loop : ∀ s₃ : Shared, s₃ = { s₂ with heap := h₁, toks := s₂.toks + ([] : List (Str × Value)).length } →
      codeAny (model prog w) A (.compLoop (.DictComp kx vx [⟨.Name x px, iter, [], 0⟩] scope pos) 0 (.ref I) (.ref s₂.heap.objs.size) (compEnvC scope cl H2.objs.size env))
        (RR (.ref s₂.heap.objs.size) H2.objs.size) s₃ := by
    rintro s₃ rfl
    refine codeAny_compLoop_testsD
      (fun k s' => ∃ h' tk i kvs m' news' oD, s' = { s₂ with heap := h', toks := tk } ∧ i ≤ n ∧ k = n + 1 - i ∧ kvs.length ≤ i ∧ IsRangeIter h' I (a + (i : Nat) * 1) ((n : Int) - (i : Nat)) 1 ∧ Fr h₀ L h' m ∧ h'.Ns H2.objs.size m' ∧
        oD.IsDictOf (intKind prog w) kvs ∧ News h₀ L h' ((s₂.heap.objs.size, oD) :: news') ∧ Off3 I H2.objs.size s₂.heap.objs.size news' ∧ J i kvs news') ?_ (n + 1) ?_
    · rintro k s' ⟨h', tk, i, kvs, m', news', oD, rfl, hi, rfl, hyl, hst', F', hn', hoD, N', off', hJ'⟩
      by_cases hlt : i < n
      · refine W.item i _ _ _ hlt hst' fun v h₂ tk₂ hPv hst₂ hk₂ => ?_
        obtain ⟨t, rfl⟩ := hPv
        refine wpAny_assign_Name (wpAny_storeName_local (lookup_relabel_local hx) (hn'.at' fun o e => hk₂ _ o (by simpa using Ne.symm hCI) e) (fun h₃ hn₃ hs₃ => ?_) (by simp [compEnvC, relabel, hkind]))
        refine wpAny_tests_nil ?_
        simp only [if_true]
        have hst₃ : IsRangeIter h₃ I (a + ((i + 1 : Nat) : Int) * 1) ((n : Int) - ((i + 1 : Nat) : Int)) 1 := hs₃.extBut _ _ hCI hst₂
        obtain ⟨oI, heI⟩ : ∃ oI, h₃.get? I = some oI := ⟨_, hst₃⟩
        obtain ⟨oC, heC, hoC⟩ := ns_obj hn₃
        have F₃ : Fr h₀ L h₃ m := (fr_but F' hk₂ hIL hI₀).change hs₃ hCL hC₀
        have off3 := off'.mem
        have N₂ : News h₀ L h₂ ((s₂.heap.objs.size, oD) :: news') := news_but N' hk₂ fun p hp => by
          rcases List.mem_cons.mp hp with rfl | hp
          · exact Ne.symm hDI
          · exact (off3 p hp).1
        have N₃ : News h₀ L h₃ ((I, oI) :: (H2.objs.size, oC) :: (s₂.heap.objs.size, oD) :: news') := fun p hp => by
          rcases List.mem_cons.mp hp with rfl | hp
          · exact ⟨heI, Ne.symm hIL, hI₀⟩
          · rcases List.mem_cons.mp hp with rfl | hp
            · exact ⟨heC, hCL, hC₀⟩
            · have z := N₂ p hp
              refine ⟨hs₃.extBut _ _ ?_ z.1, z.2⟩
              rcases List.mem_cons.mp hp with rfl | hp
              · exact hDC
              · exact (off3 p hp).2.1
        refine wpAny_mono (step i kvs news' hlt hJ' t oI H2.objs.size oC s₂.heap.objs.size oD _ h₃ _ _ hoC (by simp) F₃ N₃ off' ⟨hCI, hDI, Ne.symm hDC⟩) (fun kv s₄ h₄ => wpAny_mono h₄ (fun vv s₅ h₅ => ?_) fun _ _ e => e) fun _ _ e => e
        obtain ⟨h₅, tk₅, news₅, kk, tt, rfl, rfl, F₅, N₅, off₅, J₅⟩ := h₅
        have zI := (N₅ (I, oI) List.mem_cons_self).1
        have zC := (N₅ (H2.objs.size, oC) (List.mem_cons_of_mem _ List.mem_cons_self)).1
        have zD := (N₅ (s₂.heap.objs.size, oD) (List.mem_cons_of_mem _ (List.mem_cons_of_mem _ List.mem_cons_self))).1
        have N₅' : News h₀ L h₅ news₅ := fun p hp => N₅ p (List.mem_cons_of_mem _ (List.mem_cons_of_mem _ (List.mem_cons_of_mem _ hp)))
        have hst₅ : IsRangeIter h₅ I (a + ((i + 1 : Nat) : Int) * 1) ((n : Int) - ((i + 1 : Nat) : Int)) 1 := by
          have e : h₃.get? I = some _ := hst₃
          show h₅.get? I = some _
          rw [zI, ← heI]; exact e
        have hkv : kvs.length ≤ sizeLine := by omega
        refine wpAny_dictSet_pairs (hsz := hkv) (intKind_is _ _ _ _) (Heap.dictOf_iff.mpr ⟨oD, zD, hoD⟩) fun h₆ hl₆ hs₆ => ?_
        obtain ⟨oD', zD', hoD'⟩ := Heap.dictOf_iff.mp hl₆
        have off4 := off₅.mem
        refine ⟨n + 1 - (i + 1), by omega, h₆, _, i + 1, _, _, news₅, oD', rfl, hlt, rfl, by have := stored_length_le kvs kk vv; omega, hs₆.extBut _ _ hDI hst₅, F₅.change hs₆ hDL hD₀,
          (hoC.ns zC).sameBut hs₆ (Ne.symm hDC), hoD', fun p hp => ?_, off₅, J₅⟩
        rcases List.mem_cons.mp hp with rfl | hp
        · exact ⟨zD', hDL, hD₀⟩
        · exact ⟨hs₆.extBut _ _ (off4 p hp).2.2 (N₅' p hp).1, (N₅' p hp).2⟩
      · obtain rfl : i = n := Nat.le_antisymm hi (Nat.not_lt.mp hlt)
        refine W.done _ _ _ hst' fun h₂ tk₂ hk₂ => ?_
        have off3 := off'.mem
        exact hRR _ oD _ h₂ tk₂ _ kvs news' (fr_but F' hk₂ hIL hI₀) (news_but N' hk₂ fun p hp => by
          rcases List.mem_cons.mp hp with rfl | hp
          · exact Ne.symm hDI
          · exact (off3 p hp).1) hoD off'.one (hn'.at' fun o e => hk₂ _ o (by simpa using Ne.symm hCI) e) hC₀ hCL (Ne.symm hDC) (fun p hp => (off3 p hp).2.1) hJ'
    · obtain ⟨oD, zD, hoD⟩ := Heap.dictOf_iff.mp hacc
      refine ⟨h₁, _, 0, [], _, news, oD, rfl, Nat.zero_le _, rfl, Nat.le_refl _, hst₁, F.keeps old, hns₁, hoD, fun p hp => ?_, off₀, hJ⟩
      rcases List.mem_cons.mp hp with rfl | hp
      · exact ⟨zD, hDL, hD₀⟩
      · exact ⟨old _ _ (N p hp).1, (N p hp).2⟩
  exact codeAny_compStart_dict (loop _ rfl) (W.self 0 _ _ _ hst₁ (loop _ rfl))

theorem DictComp_me {kx vx iter : Expr} {x : Str} {px : Pos} {scope : Scope} {cl : List (Str × Addr)} {pos : Pos} {Q : Value → Shared → Prop}
    (J : Nat → List (Int × Value) → List (Addr × Obj) → Prop)
    (hh : A.handled = none) (hclos : closureFor scope env = pure cl) (hcell : ∀ y ∈ scope.names, y.2 ≠ .cell) (hkind : scope.kind = .function)
    (hnames : ∀ y ∈ scope.names, y.2 = .local → scope.names.lookup y.1 = some .local) (hx : scope.names.lookup x = some .local)
    (h : wpAny (model prog w) A (eval iter env) (fun xv s₁ => ∃ r a b t u v n news, xv = .ref r ∧ Fr h₀ L s₁.heap m ∧ News h₀ L s₁.heap news ∧ IsRange s₁.heap r a b 1 t u v ∧ Builtin.Range.small a b 1 = true ∧ Builtin.Range.rangeSize a b 1 = ((n : Nat) : Int) ∧ n ≤ sizeLine ∧
      J 0 [] news ∧
      (∀ (s₂ : Shared), (∃ g, s₂ = { s₁ with heap := g }) → ∀ (i : Nat) kvs nw, i < n → J i kvs nw → ∀ I t oI C oC D oD m₂ h tk (E' : Value → Shared → Prop), NsObj oC m₂ → m₂ x = some (.int (a + (i : Int)) t) → Fr h₀ L h m → News h₀ L h ((I, oI) :: (C, oC) :: (D, oD) :: nw) → Off3 I C D nw → ((@Ne Nat I C) ∧ (@Ne Nat I D) ∧ (@Ne Nat C D)) →
        wpAny (model prog w) A (eval kx (compEnvC scope cl C env)) (fun kv s₄ => wpAny (model prog w) A (eval vx (compEnvC scope cl C env)) (fun vv s₅ =>
          DEnd h₀ L m { s₂ with heap := h, toks := tk } I oI C oC D oD (J (i + 1)) kvs kv vv s₅) E' s₄) E' { s₂ with heap := h, toks := tk }) ∧
      (∀ (s₂ : Shared), (∃ g, s₂ = { s₁ with heap := g }) → ∀ D oD h tk kvs nw, Fr h₀ L h m → News h₀ L h ((D, oD) :: nw) → oD.IsDictOf (intKind prog w) kvs → Off1 D nw → J n kvs nw → Q (.ref D) { s₂ with heap := h, toks := tk })) E s)
    (hs : ∀ x, foldedSetIterable iter env x = pure x := by intro _; rfl) :
    wpAny (model prog w) A (eval (.DictComp kx vx [⟨.Name x px, iter, [], 0⟩] scope pos) env) Q E s := by
  rw [arm_eval_DictComp]
  refine wpAny_comprehension_free (use := none) rfl hs hclos hkind hnames (wpAny_mono h (fun xv s₁ h₁ => ?_) fun _ _ e => e)
  obtain ⟨r, a, b, t, u, v, n, news, rfl, F, N, hr, hsm, hn, hsz, hJ, step, fin⟩ := h₁
  refine wpAny_pyIter_range hr hsm ?_
  refine dc_block J hh hsz (by show IsRangeIter _ _ _ _ _; rw [hn]; simpa using Heap.get?_push_size _ rfl) (by show s₁.heap.objs.size < (s₁.heap.push _).objs.size; rw [Heap.size_push]; exact Nat.lt_succ_self _) hcell hkind hx
    (F.keeps fun _ _ e => Heap.get?_push_of_some _ e) (N.grown fun _ _ e => Heap.get?_push_of_some _ e) (Nat.ne_of_lt F.ns.lt) (next_is_new F) (fun p hp => Nat.ne_of_lt (Heap.lt_size (N p hp).1)) hJ
    (fun i kvs nw hi j t oI C oC D oD m₂ h tk E' => step _ ⟨_, rfl⟩ i kvs nw hi j _ t oI C oC D oD m₂ h tk E') ?_
  intro D oD C h tk m' kvs nw F' N' hoD o1 hn' hC₀ hCL hCD offC j
  refine ⟨m', hn', fun h'' hs'' => fin { s₁ with heap := h } ⟨_, rfl⟩ D oD h'' tk kvs nw (F'.change hs'' hCL hC₀) (fun p hp => ?_) hoD o1 j⟩
  refine ⟨hs''.extBut _ _ ?_ (N' p hp).1, (N' p hp).2⟩
  rcases List.mem_cons.mp hp with rfl | hp
  · exact Ne.symm hCD
  · exact offC p hp
end
end

section
/-- the pieces of a cut -/
abbrev pc0 (l : List Nat) (b e : Nat) : List Nat := (l.drop b).take (e - b)
abbrev pc1 (l : List Nat) (b e : Nat) : List Nat := l.drop e ++ l.take b
/-- the places of a piece -/
def plc (l p : List Nat) : List Nat := (List.range l.length).filter fun k => ((l ++ l).drop k).take p.length == p
def uniq (l : List Nat) (b e : Nat) : Bool := (plc l (pc0 l b e)).length == 1 && (plc l (pc1 l b e)).length == 1
def hld (one other : List Nat) : List Nat :=
  if (one.getLastD 0 == one.headD 0 && !(one.headD 0 == other.headD 0 || one.headD 0 == other.getLastD 0)) = true then [one.headD 0] else []
def turnF (l : List Nat) (e b : Nat) (st : Nat × List Nat) : Nat × List Nat :=
  if uniq l b e = true then (st.1 + 1, st.2 ++ (hld (pc0 l b e) (pc1 l b e) ++ hld (pc1 l b e) (pc0 l b e))) else st
def innerF (l : List Nat) (e : Nat) (st : Nat × List Nat) : Nat → Nat × List Nat
  | 0 => st
  | j + 1 => turnF l e j (innerF l e st j)
def outerF (l : List Nat) : Nat → Nat × List Nat
  | 0 => (0, [])
  | i + 1 => innerF l (i + 1) (outerF l i) (i + 1)
def againF (l : List Nat) : List Nat := ((List.range (l.length - 1)).map (· + 1)).filter fun k => l.drop k ++ l.take k == l
def lawF (l : List Nat) : Bool :=
  if againF l != [] then (outerF l (l.length - 1)).1 == 0
  else ([97, 98].filter fun c => decide (c ∈ (outerF l (l.length - 1)).2)) == ([97, 98].filter fun c => decide (c ∈ l))

def allL : Nat → List (List Nat)
  | 0 => [[]]
  | n + 1 => (allL n).flatMap fun l => [97 :: l, 98 :: l]
theorem mem_allL : ∀ (n : Nat) (l : List Nat), l.length = n → (∀ c ∈ l, c = 97 ∨ c = 98) → l ∈ allL n
  | 0, [], _, _ => by simp [allL]
  | n + 1, c :: l, hl, hc => by
    have ih := mem_allL n l (by simpa using hl) fun x hx => hc x (.tail _ hx)
    rw [allL, List.mem_flatMap]
    exact ⟨l, ih, by rcases hc c (.head _) with rfl | rfl <;> simp⟩
theorem law5 : ∀ l ∈ allL 5, lawF l = true := by decide +kernel
theorem law6 : ∀ l ∈ allL 6, lawF l = true := by decide +kernel
theorem law7 : ∀ l ∈ allL 7, lawF l = true := by decide +kernel
theorem law_plain (l : List Nat) (h5 : 5 ≤ l.length ∧ l.length ≤ 7) (hc : ∀ c ∈ l, c = 97 ∨ c = 98) : lawF l = true := by
  have : l.length = 5 ∨ l.length = 6 ∨ l.length = 7 := by omega
  rcases this with h | h | h
  · exact law5 l (mem_allL _ _ h hc)
  · exact law6 l (mem_allL _ _ h hc)
  · exact law7 l (mem_allL _ _ h hc)
theorem lo1_ab (r : List Nat) (hc : ∀ c ∈ r, c = 97 ∨ c = 98 ∨ c = 65 ∨ c = 66) : ∀ c ∈ r.map lo1, c = 97 ∨ c = 98 := by
  intro c h
  obtain ⟨d, hd, rfl⟩ := List.mem_map.mp h
  rcases hc d hd with rfl | rfl | rfl | rfl <;> decide
abbrev rowOf' (r : List Nat) (k : Nat) : List Nat := r.drop k ++ r.take k
/-- a table tells a piece's places -/
theorem tab_places (r p : List Nat) (k z : Nat) (hk : k ≤ r.length) (hz : z ≤ r.length) (hp : p.length = z) :
    ((((rowOf' r k).take z).map lo1 == p.map lo1) = ((((r ++ r).map lo1).drop k).take p.length == p.map lo1)) := by
  have e : (rowOf' r k).take z = ((r ++ r).drop k).take z := by
    unfold rowOf'
    rw [List.drop_append_of_le_length hk, List.take_append, List.take_append, List.take_take, List.length_drop, Nat.min_eq_left (by omega)]
  rw [e, List.map_take, List.map_drop, hp]
end

section
theorem strOk_S (l : List Nat) (h : ∀ c ∈ l, c < 128) : PyData.strOk (S l) = true := by
  unfold PyData.strOk
  simp [S]
  intro c hc
  have := h c hc
  omega
theorem reads_strs {h : Heap} : ∀ {ys : List Value} {xs : List Str}, StrsAre ys xs → ∃ as, ReadsAll h ys (xs.map .str) as
  | _, _, .nil => ⟨_, .nil⟩
  | _, _, .cons y t r => let ⟨_, z⟩ := reads_strs r; ⟨_, .cons (.str y t) z⟩
theorem canAll_strs : ∀ (xs : List Str), (∀ x ∈ xs, PyData.strOk x = true) → PyData.canLayAll0 (xs.map .str) = true
  | [], _ => by simp [PyData.canLayAll0]
  | x :: xs, h => by
    have := canAll_strs xs fun y hy => h y (.tail _ hy)
    simp [PyData.canLayAll0, PyData.canLay0, this, h x (.head _)]
theorem depth_strs : ∀ (xs : List Str), PyData.depthAll (xs.map .str) = 0
  | [] => by simp [PyData.depthAll]
  | x :: xs => by simp [PyData.depthAll, PyData.depth, depth_strs xs]
/-- the places of a piece round the ring, as texts -/
def placesT (r p : List Nat) : List Str := ((List.range r.length).filter fun k => (((r ++ r).map lo1).drop k).take p.length == p.map lo1).map num
/-- lists of texts in the ledger, one for each piece -/
inductive ToldL (A : List Nat → List Str) (tl : List (Addr × Obj)) : List (List Nat) → List Value → Prop
  | nil : ToldL A tl [] []
  | snoc {a : Addr} {zs : List Value} {p : List Nat} {ps : List (List Nat)} {ys : List Value} : ToldL A tl ps ys → (a, (LCg.lst zs : Obj)) ∈ tl → StrsAre zs (A p) → ToldL A tl (ps ++ [p]) (ys ++ [.ref a])
theorem ToldL.mono {A : List Nat → List Str} {tl tl' : List (Addr × Obj)} (h : ∀ q ∈ tl, q ∈ tl') {ps : List (List Nat)} {ys : List Value} (x : ToldL A tl ps ys) : ToldL A tl' ps ys := by
  induction x with
  | nil => exact .nil
  | snoc _ hm hs ih => exact .snoc ih (h _ hm) hs
theorem ToldL.inv {A : List Nat → List Str} {tl : List (Addr × Obj)} {l : List (List Nat)} {ys : List Value} (x : ToldL A tl l ys) :
    (l = [] ∧ ys = []) ∨ ∃ ps p ys' a zs, l = ps ++ [p] ∧ ys = ys' ++ [.ref a] ∧ ToldL A tl ps ys' ∧ (a, (LCg.lst zs : Obj)) ∈ tl ∧ StrsAre zs (A p) := by
  cases x with
  | nil => exact .inl ⟨rfl, rfl⟩
  | snoc x m s => exact .inr ⟨_, _, _, _, _, rfl, rfl, x, m, s⟩
theorem ToldL.two {A : List Nat → List Str} {tl : List (Addr × Obj)} {p q : List Nat} {ys : List Value} (x : ToldL A tl [p, q] ys) :
    ∃ a b zs ws, ys = [.ref a, .ref b] ∧ (a, (LCg.lst zs : Obj)) ∈ tl ∧ (b, (LCg.lst ws : Obj)) ∈ tl ∧ StrsAre zs (A p) ∧ StrsAre ws (A q) := by
  rcases x.inv with ⟨e, _⟩ | ⟨ps, q', ys', b, ws, e, rfl, x1, m1, s1⟩
  · cases e
  · have e1 := congrArg List.reverse e
    simp at e1
    obtain ⟨e2, e3⟩ := e1
    have e4 : ps = [p] := by simpa using congrArg List.reverse e3.symm
    subst e4 e2
    rcases x1.inv with ⟨e, _⟩ | ⟨ps, p', ys', a, zs, e, rfl, x2, m2, s2⟩
    · cases e
    · have e1 := congrArg List.reverse e
      simp at e1
      obtain ⟨e2, e3⟩ := e1
      subst e2 e3
      rcases x2.inv with ⟨_, rfl⟩ | ⟨_, _, _, _, _, e, _⟩
      · exact ⟨_, _, _, _, rfl, m2, m1, s2, s1⟩
      · simp at e
section
variable {prog : Program} {w : World} {A : Around} {E : Value → Shared → Prop} {s : Shared} {Q : Value → Shared → Prop}
theorem none_in {l : Addr} {a b c : Str} {t1 t2 t3 : Tok} (hl : s.heap.get? l = some { cls := .type "list", data := .seq [Value.str a t1, Value.str b t2, Value.str c t3].toArray }) (ha : PyData.strOk a = true) (hb : PyData.strOk b = true) (hc : PyData.strOk c = true)
    (hu : A.units + 4 < cLine) (h : Q (.bool false) s) : wpAny (model prog w) A (compareOp .In .none (.ref l)) Q E s := by
  refine SeqAt.in_list_reads (xs := [.str a, .str b, .str c]) (d := .none) (.list hl rfl rfl (.cons (.str _ _) (.cons (.str _ _) (.cons (.str _ _) .nil)))) .none ?_ rfl ?_ ?_
  · simp [PyData.canLayAll0, PyData.canLay0, ha, hb, hc]
  · have e : PyData.depthAll [PyData.str a, PyData.str b, PyData.str c] = 0 := depth_strs [a, b, c]
    rw [e]; omega
  · exact h
theorem told_same {D D' a0 a1 b0 b1 : Addr} {ys0 ys1 zs0 zs1 : List Value} {xs0 xs1 : List Str}
    (hD : s.heap.get? D = some (LCg.lst [.ref a0, .ref a1])) (hD' : s.heap.get? D' = some (LCg.lst [.ref b0, .ref b1]))
    (h0 : s.heap.get? a0 = some (LCg.lst ys0)) (h1 : s.heap.get? a1 = some (LCg.lst ys1)) (h2 : s.heap.get? b0 = some (LCg.lst zs0)) (h3 : s.heap.get? b1 = some (LCg.lst zs1))
    (y0 : StrsAre ys0 xs0) (y1 : StrsAre ys1 xs1) (z0 : StrsAre zs0 xs0) (z1 : StrsAre zs1 xs1) (o0 : ∀ x ∈ xs0, PyData.strOk x = true) (o1 : ∀ x ∈ xs1, PyData.strOk x = true) (hu : A.units + 4 < cLine) (h : Q (.bool false) s) :
    wpAny (model prog w) A (compareOp .NotEq (.ref D) (.ref D')) Q E s := by
  obtain ⟨_, r0⟩ := reads_strs (h := s.heap) y0
  obtain ⟨_, r1⟩ := reads_strs (h := s.heap) y1
  obtain ⟨_, q0⟩ := reads_strs (h := s.heap) z0
  obtain ⟨_, q1⟩ := reads_strs (h := s.heap) z1
  have R : Reads s.heap (.ref D) (.list [.list (xs0.map .str), .list (xs1.map .str)]) _ := .list hD rfl rfl (.cons (.list h0 rfl rfl r0) (.cons (.list h1 rfl rfl r1) .nil))
  have R' : Reads s.heap (.ref D') (.list [.list (xs0.map .str), .list (xs1.map .str)]) _ := .list hD' rfl rfl (.cons (.list h2 rfl rfl q0) (.cons (.list h3 rfl rfl q1) .nil))
  have c : (PyData.list [.list (xs0.map .str), .list (xs1.map .str)]).canLay0 = true := by
    simp [PyData.canLayAll0, PyData.canLay0, canAll_strs _ o0, canAll_strs _ o1]
  refine SeqAt.compareNe_reads R R' c c ?_ ?_
  · have e : (PyData.list [.list (xs0.map .str), .list (xs1.map .str)]).depth = 2 := by simp [PyData.depthAll, PyData.depth, depth_strs]
    rw [e]; omega
  · rw [SeqAt.eqv_refl _ c]; exact h
theorem reads_ints {h : Heap} : ∀ {ys : List Value} {xs : List Int}, IntsAre ys xs → ∃ as, ReadsAll h ys (xs.map .int) as
  | _, _, .nil => ⟨_, .nil⟩
  | _, _, .cons y t r => let ⟨_, z⟩ := reads_ints r; ⟨_, .cons (.int y t) z⟩
theorem canAll_ints : ∀ (xs : List Int), PyData.canLayAll0 (xs.map .int) = true
  | [] => by simp [PyData.canLayAll0]
  | x :: xs => by simp [PyData.canLayAll0, PyData.canLay0, canAll_ints xs]
theorem depth_ints : ∀ (xs : List Int), PyData.depthAll (xs.map .int) = 0
  | [] => by simp [PyData.depthAll]
  | x :: xs => by simp [PyData.depthAll, PyData.depth, depth_ints xs]
theorem ints_ne {D D' : Addr} {ys : List Value} {xs : List Int} {o : Obj} {c : Nat} (hD : s.heap.get? D = some (LCg.lst ys)) (hD' : s.heap.get? D' = some o) (hc : o.cls = .type "list") (hd : o.data = .seq #[] c) (y : IntsAre ys xs)
    (hu : A.units + 4 < cLine) (h : Q (.bool (!xs.isEmpty)) s) : wpAny (model prog w) A (compareOp .NotEq (.ref D) (.ref D')) Q E s := by
  obtain ⟨_, r0⟩ := reads_ints (h := s.heap) y
  have c1 : (PyData.list (xs.map .int)).canLay0 = true := by simp [PyData.canLay0, canAll_ints]
  refine SeqAt.compareNe_reads (.list hD rfl rfl r0) (.list (xs := []) hD' hc hd .nil) c1 rfl ?_ ?_
  · have e : (PyData.list (xs.map .int)).depth = 1 := by simp [PyData.depth, depth_ints]
    rw [e]; omega
  · have e : PyData.eqv (.list (xs.map .int)) (.list []) = xs.isEmpty := by cases xs <;> rfl
    rw [e]; exact h
theorem strs_eq {D D' : Addr} {ys zs : List Value} {xs ws : List Str} {n n' : Nat} (hD : s.heap.get? D = some ({ cls := .type "list", data := .seq ys.toArray n } : Obj)) (hD' : s.heap.get? D' = some ({ cls := .type "list", data := .seq zs.toArray n' } : Obj)) (y : StrsAre ys xs) (z : StrsAre zs ws)
    (o0 : ∀ x ∈ xs, PyData.strOk x = true) (e : xs = ws) (hu : A.units + 4 < cLine) (h : Q (.bool true) s) : wpAny (model prog w) A (compareOp .Eq (.ref D) (.ref D')) Q E s := by
  subst e
  obtain ⟨_, r0⟩ := reads_strs (h := s.heap) y
  obtain ⟨_, r1⟩ := reads_strs (h := s.heap) z
  have c : (PyData.list (xs.map .str)).canLay0 = true := by simp [PyData.canLay0, canAll_strs _ o0]
  refine SeqAt.compareEq_reads (.list hD rfl rfl r0) (.list hD' rfl rfl r1) c c ?_ ?_
  · have e : (PyData.list (xs.map .str)).depth = 1 := by simp [PyData.depth, depth_strs]
    rw [e]; omega
  · rw [SeqAt.eqv_refl _ c]; exact h
end
end

section
/-- a value is a text of one sign among these -/
def oneIn (T : List Nat) : Value → Bool
  | .str x _ => T.any fun c => x == S [c]
  | _ => false
theorem oneIn_S (T : List Nat) (a : Nat) (u : Tok) : oneIn T (.str (S [a]) u) = decide (a ∈ T) := by
  unfold oneIn
  rw [Bool.eq_iff_iff]
  simp only [List.any_eq_true, decide_eq_true_eq]
  constructor
  · rintro ⟨c, hc, e⟩
    rw [S_beq] at e
    have := eq_of_beq e
    simp at this
    exact this ▸ hc
  · intro h
    exact ⟨a, h, by simp⟩
theorem paired_eq {F : Value → Value → Prop} (hF : ∀ a b, F a b → b = a) : ∀ {l : List Value} {m : List Value}, Paired F l m → m = l
  | _, _, .nil => rfl
  | _, _, .cons h r => by rw [hF _ _ h, paired_eq hF r]
section
variable {prog : Program} {w : World} {A : Around} {E : Value → Shared → Prop} {s : Shared} {h₀ : Heap} {L : Addr} {m : Str → Option Value} {news : List (Addr × Obj)} {env : Env}
theorem comp_sign {ct elt : Expr} {x : Str} {px p3 : Pos} {k3 : Nat} {scope : Scope} {cl : List (Str × Addr)} {pos : Pos} {Q : Value → Shared → Prop} (T : List Nat)
    (hh : A.handled = none) (hclos : closureFor scope env = pure cl) (hcell : ∀ y ∈ scope.names, y.2 ≠ .cell) (hkind : scope.kind = .function)
    (hnames : ∀ y ∈ scope.names, y.2 = .local → scope.names.lookup y.1 = some .local) (hx : scope.names.lookup x = some .local)
    (F : Fr h₀ L s.heap m) (N : News h₀ L s.heap news)
    (test : ∀ C oC m₂ (s₃ : Shared) a u (E' : Value → Shared → Prop), (a = 97 ∨ a = 98) → LCg.NsObj oC m₂ → m₂ x = some (.str (S [a]) u) → Fr h₀ L s₃.heap m → News h₀ L s₃.heap ((C, oC) :: news) →
      wpAny (model prog w) A (isTrue ct (compEnvC scope cl C env) (eval ct (compEnvC scope cl C env))) (fun ok s' => ok = decide (a ∈ T) ∧ Keeps s₃ s') E' s₃)
    (elm : ∀ C oC m₂ (s₃ : Shared) v (E' : Value → Shared → Prop), LCg.NsObj oC m₂ → m₂ x = some v → Fr h₀ L s₃.heap m → News h₀ L s₃.heap ((C, oC) :: news) →
      wpAny (model prog w) A (eval elt (compEnvC scope cl C env)) (fun y s' => y = v ∧ Keeps s₃ s') E' s₃)
    (fin : ∀ D ys h tk n, Fr h₀ L h m → News h₀ L h ((D, ({ cls := .type "list", data := .seq (List.toArray ys) n } : Obj)) :: news) → StrsAre ys (([97, 98].filter fun c => decide (c ∈ T)).map fun c => S [c]) → Q (.ref D) { s with heap := h, toks := tk })
    (hs : ∀ x, foldedSetIterable (.Constant (.str (Str.ofString "ab")) k3 p3) env x = pure x := by intro _; rfl) :
    wpAny (model prog w) A (eval (.ListComp elt [⟨.Name x px, .Constant (.str (Str.ofString "ab")) k3 p3, [ct], 0⟩] scope pos) env) Q E s := by
  refine wpAny_ListComp_free (oneIn T) (fun a b => b = a) hclos hcell hkind hnames hx (wpAny_Constant_str (wpAny_pyIter_ascii (by decide +kernel) ?_)) hs
  have hI₀ : h₀.get? s.heap.objs.size = none := next_is_new F
  have hIL : s.heap.objs.size ≠ L := fun e => absurd F.ns.lt (e ▸ Nat.lt_irrefl _)
  have turn : ∀ C (s₃ : Shared), s.heap.objs.size + 1 ≤ C → (∀ b o, b ∉ [s.heap.objs.size] → (s.heap.push { cls := .type "str_ascii_iterator", data := .fields #[.str (Str.ofString "ab") s.toks, .int 0 0] }).get? b = some o → s₃.heap.get? b = some o) → ∀ m₂, s₃.heap.Ns C m₂ →
      ∃ oC, LCg.NsObj oC m₂ ∧ Fr h₀ L s₃.heap m ∧ News h₀ L s₃.heap ((C, oC) :: news) := by
    intro C s₃ hC hk m₂ hn
    obtain ⟨oC, heC, hoC⟩ := LCg.ns_obj hn
    have up : ∀ b o, s.heap.get? b = some o → s₃.heap.get? b = some o := fun b o e => hk b o (fun hm => Nat.lt_irrefl _ ((List.mem_singleton.mp hm) ▸ Heap.lt_size e)) (Heap.get?_push_of_some _ e)
    refine ⟨oC, hoC, F.keeps up, fun q hq => ?_⟩
    rcases List.mem_cons.mp hq with rfl | hq
    · refine ⟨heC, fun e => ?_, ?_⟩
      · have h1 : @LT.lt Nat _ L s.heap.objs.size := F.ns.lt
        have h2 : @Eq Nat C L := e
        have h3 : @LE.le Nat _ (s.heap.objs.size + 1) C := hC
        omega
      · cases hq : h₀.get? C with
        | none => rfl
        | some o =>
          have h1 : @LT.lt Nat _ C s.heap.objs.size := Heap.lt_size (F.keep _ _ hq)
          have h3 : @LE.le Nat _ (s.heap.objs.size + 1) C := hC
          omega
    · exact ⟨up _ _ (N q hq).1, (N q hq).2⟩
  refine ⟨s.heap.objs.size, [s.heap.objs.size], [s.heap.objs.size], (Str.ofString "ab").cps.size, _, _, rfl, Walks.strAscii hh _ (Str.ofString "ab") s.toks, ?_, ⟨_, Heap.get?_push_size _ rfl, rfl, rfl⟩, ?_, ⟨?_, ?_⟩, ?_⟩
  · rw [sizeLine_eq, show (Str.ofString "ab").cps.size = 2 from by decide +kernel]; omega
  · intro b hb
    rw [List.mem_singleton.mp hb]
    show s.heap.objs.size < (s.heap.push _).objs.size
    rw [Heap.size_push]; exact Nat.lt_succ_self _
  · rintro C i v s₃ m₃ E' hC ⟨c, u, hc, rfl⟩ hn hm hk _
    obtain ⟨oC, hoC, F3, N3⟩ := turn C s₃ (by have : (s.heap.push _).objs.size ≤ C := hC; rw [Heap.size_push] at this; exact this) hk m₃ hn
    have hab : c = 97 ∨ c = 98 := by
      have e : (Str.ofString "ab").cps = #[97, 98] := by decide +kernel
      rw [e] at hc
      have h2 : i = 0 ∨ i = 1 ∨ 2 ≤ i := by omega
      rcases h2 with rfl | rfl | h2
      · left; simpa using hc.symm
      · right; simpa using hc.symm
      · rw [Array.getElem?_eq_none (by simpa using h2)] at hc; cases hc
    refine wpAny_tests_one ?_
    refine wpAny_mono (test C oC m₃ s₃ c u E' hab hoC hm F3 N3) (fun ok s' h' => ⟨?_, h'.2⟩) fun _ _ e => e
    rw [h'.1]
    exact (oneIn_S T c u).symm
  · rintro C i v s₃ m₃ E' hC ⟨c, u, hc, rfl⟩ _ hn hm hk _
    obtain ⟨oC, hoC, F3, N3⟩ := turn C s₃ (by have : (s.heap.push _).objs.size ≤ C := hC; rw [Heap.size_push] at this; exact this) hk m₃ hn
    exact elm C oC m₃ s₃ _ E' hoC hm F3 N3
  · intro D h' tk ys vs hD hl hp hlen hP hPair hk
    have e2 : (Str.ofString "ab").cps = #[97, 98] := by decide +kernel
    have hl2 : vs.length = 2 := by rw [hlen, e2]; rfl
    obtain ⟨v0, v1, rfl⟩ : ∃ v0 v1, vs = [v0, v1] := by
      match vs, hl2 with
      | [a, b], _ => exact ⟨a, b, rfl⟩
    obtain ⟨c0, u0, hc0, rfl⟩ := hP 0 v0 rfl
    obtain ⟨c1, u1, hc1, rfl⟩ := hP 1 v1 rfl
    rw [e2] at hc0 hc1
    have : c0 = 97 := by simpa using hc0.symm
    subst this
    have : c1 = 98 := by simpa using hc1.symm
    subst this
    have hys := paired_eq (fun a b h => h) hPair
    obtain ⟨n, hn⟩ := hp
    have up : ∀ b o, s.heap.get? b = some o → h'.get? b = some o := fun b o e => hk b o (fun hm => Nat.lt_irrefl _ ((List.mem_singleton.mp hm) ▸ Heap.lt_size e)) (Heap.get?_push_of_some _ e)
    have hD0 : s.heap.get? D = none := by
      cases e : s.heap.get? D with
      | none => rfl
      | some o => rw [Heap.get?_push_of_some _ e] at hD; cases hD
    refine fin D ys.toList h' tk n (F.keeps up) (newsAdd F (N.grown up) hD0 (by rw [hn])) ?_
    rw [hys, List.filter_cons, List.filter_cons, List.filter_nil, List.filter_cons, List.filter_cons, List.filter_nil]
    have r0 := oneIn_S T 97 u0
    have r1 := oneIn_S T 98 u1
    rw [show oneIn T (Value.str ⟨#[97]⟩ u0) = _ from r0, show oneIn T (Value.str ⟨#[98]⟩ u1) = _ from r1]
    cases decide (97 ∈ T) <;> cases decide (98 ∈ T)
    · exact .nil
    · exact .cons _ _ .nil
    · exact .cons _ _ .nil
    · exact .cons _ _ (.cons _ _ .nil)
end
end

section
variable {prog : Program} {w : World} {A : Around} {s : Shared} {K : Frag} {Q : Value → Shared → Prop} {R : Result → Shared → Prop}
  {p : Program} {loose : List Str} {mean : ExcName → Option Value} {mg mb : Str → Option Value}
  {name qual : Str} {params : Arguments} {body : List Stmt} {scope : Scope} {dV kV doc pm cdv ct oc : Value} {an od : Option Addr} {osl : Array (Option Value)} {f : Addr} {args : Args} {binds : List (Str × Value)}
/-- a def with cells, as code -/
theorem enterCC {pos : List Value} {kw : List (Str × Value)} (hQR : ∀ r s', Q r s' → R (.ok (.ret r)) s') (X : K.In s.heap) (T : Top p loose mean mg mb s.heap)
    (ho : K.lookup f = some ⟨oc, od, .func (fnOf name qual params body scope dV kV doc pm an cdv ct), osl⟩) (hcd : codeIn K cdv qual = true) (hroom : A.depth < recursionLimit)
    (hbind : BindsTo s (fnOf name qual params body scope dV kV doc pm an cdv ct) ⟨pos, kw⟩ binds)
    (hkind : (binds.all fun y => scope.names.lookup y.1 == some .local || scope.names.lookup y.1 == some .cell) = true)
    (hnd : ((cellsFrom 0 scope.names []).map (·.1)).Nodup)
    (h : ∀ L h₁ tk cells, Fr s.heap L h₁ (bindL (envOfC qual scope L f cdv).kindOf binds fun _ => none) → News s.heap L h₁ cells →
      CellsAre (bindC (envOfC qual scope L f cdv).kindOf binds fun _ => none) (cellsFrom (L + 1) scope.names []) cells →
      wpAny (model prog w) (A.deeper (envOfC qual scope L f cdv)) (execs body (envOfC qual scope L f cdv))
        (fun fl s' => Q (match fl with | .ret v => v | _ => .none) s') (fun _ _ => False) { s with heap := h₁, toks := tk })
    (hco : scope.isCoroutine = false) (hgen : scope.isGenerator = false) (hk : scope.kind = .function) :
    codeAny (model prog w) A (.call (.ref f) ⟨pos, kw⟩) R s := by
  refine codeAny_call_function (X _ _ ho) rfl hco hgen rfl (codeRec_of X hcd) (hbind _ _ _ _ ?_) (hroom := hroom)
  refine wpAny_newFunctionEnv_cells hk (kindsX hkind _) fun env' he s' x => ?_
  subst he
  refine ⟨T.nolimit.keeps x.toInCall.keep, codeAny_func ?_⟩
  obtain ⟨h₁, tk, rfl, _⟩ := x.done
  obtain ⟨cells, NC, Y⟩ := Cl.news (h₀ := s.heap) (Nat.le_refl _) fun n c hm => ⟨x.cell n c (lookup_of_mem_nodup (cellsFrom_names scope.names 0 (s.heap.objs.size + 1) [] [] rfl ▸ hnd) hm), x.above n c hm⟩
  exact wpAny_mono (h s.heap.objs.size h₁ tk cells ⟨x.toInCall.ns, x.toInCall.keep, Nat.le_refl _⟩ NC Y) (fun _ _ x => hQR _ _ x) fun _ _ x => x.elim
end
/-- where the walk of the law stands -/
inductive Mk : Nat → Prop
  | mk (n : Nat) : Mk n

section
/-- the letter of a number -/
def chr4 (n : Int) : Nat := if Int.fmod n 4 = 0 then 97 else if Int.fmod n 4 = 1 then 98 else if Int.fmod n 4 = 2 then 65 else 66
/-- the ring of a script -/
def ringOf (ns : List Int) : List Nat := (ns.take 7 ++ [0, 1, 0, 1, 2].drop ns.length).map chr4
theorem chr4_item (n : Int) : Txt.item (Str.ofString "abAB") (Int.fmod n 4) = S [chr4 n] := by
  have h0 := Int.fmod_nonneg_of_pos n (show (0 : Int) < 4 by decide)
  have h1 := Int.fmod_lt_of_pos n (show (0 : Int) < 4 by decide)
  unfold chr4
  generalize Int.fmod n 4 = k at h0 h1
  have : k = 0 ∨ k = 1 ∨ k = 2 ∨ k = 3 := by omega
  rcases this with rfl | rfl | rfl | rfl <;> decide +kernel
theorem join_S (l : List Nat) : Txt.join (Str.ofString "") (l.map fun c => S [c]) = S l := by
  have e : Str.ofString "" = S [] := by decide +kernel
  rw [e]
  have fold : ∀ (l : List Nat) (acc : Array Nat), (l.map fun c => S [c]).foldl (fun acc p => acc ++ (S []).cps ++ p.cps) acc = acc ++ l.toArray := by
    intro l
    induction l with
    | nil => intro acc; simp
    | cons c l ih =>
      intro acc
      rw [List.map_cons, List.foldl_cons, ih]
      apply Array.ext'
      simp
  cases l with
  | nil => rfl
  | cons c l =>
    show (⟨_⟩ : Str) = ⟨_⟩
    rw [List.map_cons, List.drop_one, List.tail_cons, List.headD_cons, fold]
    congr 1
    apply Array.ext'
    simp
theorem valueAt_stored (kvs : List (Int × Value)) (k q : Int) (v : Value) : valueAt (stored kvs k v) q = if q = k then some v else valueAt kvs q := by
  unfold valueAt stored
  by_cases h : kvs.any (fun kv => kv.1 = k) = true
  · rw [if_pos h, List.find?_map]
    simp only [Function.comp_def]
    induction kvs with
    | nil => simp at h
    | cons kv kvs ih =>
      by_cases h2 : kv.1 = k
      · simp only [h2, if_true, List.find?_cons]
        by_cases h3 : q = k
        · subst h3; simp [h2]
        · have : decide (k = q) = false := decide_eq_false fun e => h3 e.symm
          simp only [this, if_neg h3]
          by_cases h4 : kvs.any (fun kv => kv.1 = k) = true
          · have := ih h4
            rw [if_neg h3] at this
            exact this
          · have e : ∀ kv ∈ kvs, kv.1 ≠ k := fun kv hkv e => h4 (List.any_eq_true.mpr ⟨kv, hkv, decide_eq_true e⟩)
            clear ih h h4
            induction kvs with
            | nil => rfl
            | cons a l ih2 =>
              have ha := e a (.head _)
              simp only [List.find?_cons, if_neg ha]
              by_cases h5 : a.1 = q
              · simp [h5, h3]
              · simp only [decide_eq_false h5]
                exact ih2 fun kv hkv => e kv (.tail _ hkv)
      · have h4 : kvs.any (fun kv => kv.1 = k) = true := by simpa [h2] using h
        have := ih h4
        simp only [List.find?_cons, if_neg h2]
        by_cases h5 : kv.1 = q
        · have : ¬ q = k := fun e => h2 (h5.trans e)
          simp [h5, this, h2]
        · simp only [decide_eq_false h5]
          exact this
  · rw [if_neg h, List.find?_append]
    have e : ∀ kv ∈ kvs, kv.1 ≠ k := fun kv hkv e => h (List.any_eq_true.mpr ⟨kv, hkv, decide_eq_true e⟩)
    by_cases h3 : q = k
    · subst h3
      rw [if_pos rfl]
      have : kvs.find? (fun kv => decide (kv.1 = q)) = none := List.find?_eq_none.mpr fun kv hkv => by simpa using e kv hkv
      rw [this]; simp
    · rw [if_neg h3]
      have : decide (k = q) = false := decide_eq_false fun e => h3 e.symm
      simp [this]




theorem tab_strs (r p : List Nat) (hp : p.length ≤ r.length) : (((tabRows r p.length r.length).filter fun q => q.1.map lo1 == p.map lo1).map fun q => S q.2) = placesT r p := by
  unfold tabRows placesT
  rw [List.filter_map, List.map_map]
  have e1 : ((fun q : List Nat × List Nat => S q.2) ∘ fun k => ((rowOf r k).take p.length, (num k).cps.toList)) = num := funext fun k => (S_eta (num k)).symm
  rw [e1]
  refine congrArg (List.map num) (List.filter_congr fun k hk => ?_)
  exact tab_places r p k p.length (Nat.le_of_lt (List.mem_range.mp hk)) hp rfl

theorem num_strOk : ∀ k, k < 20 → PyData.strOk (num k) = true := by decide +kernel
theorem places_ok (r p : List Nat) (h : r.length ≤ 20) : ∀ x ∈ placesT r p, PyData.strOk x = true := by
  intro x hx
  obtain ⟨k, hk, rfl⟩ := List.mem_map.mp hx
  exact num_strOk k (by have := List.mem_range.mp (List.mem_filter.mp hk).1; omega)
theorem places_len (r p : List Nat) : (placesT r p).length = (plc (r.map lo1) (p.map lo1)).length := by
  unfold placesT plc
  simp only [List.length_map, List.map_append]
theorem pc0_map (r : List Nat) (b e : Nat) : (pc0 r b e).map lo1 = pc0 (r.map lo1) b e := by simp [pc0, List.map_take, List.map_drop]
theorem pc1_map (r : List Nat) (b e : Nat) : (pc1 r b e).map lo1 = pc1 (r.map lo1) b e := by simp [pc1, List.map_take, List.map_drop]
theorem strsAre_length {ys : List Value} {xs : List Str} (h : StrsAre ys xs) : ys.length = xs.length := by
  induction h with
  | nil => rfl
  | cons _ _ _ ih => simp [ih]
theorem hld_T (p q : List Nat) (hp : 0 < p.length) (hq : 0 < q.length) (h1 : ∀ c ∈ p, c < 128) (h2 : ∀ c ∈ q, c < 128) : holdT (S p) (S q) = S (hld (p.map lo1) (q.map lo1)) := by
  obtain ⟨a, p', rfl⟩ : ∃ a p', p = a :: p' := by cases p with | nil => simp at hp | cons a p' => exact ⟨a, p', rfl⟩
  obtain ⟨b, q', rfl⟩ : ∃ a p', q = a :: p' := by cases q with | nil => simp at hq | cons a p' => exact ⟨a, p', rfl⟩
  obtain ⟨c, hc⟩ : ∃ c, (a :: p').getLast? = some c := ⟨_, List.getLast?_eq_some_getLast (by simp)⟩
  obtain ⟨d, hd⟩ : ∃ c, (b :: q').getLast? = some c := ⟨_, List.getLast?_eq_some_getLast (by simp)⟩
  have ma : a < 128 := h1 a (.head _)
  have mb : b < 128 := h2 b (.head _)
  have mc : c < 128 := h1 c (List.mem_of_getLast? hc)
  have md : d < 128 := h2 d (List.mem_of_getLast? hd)
  have low : ∀ x : Nat, x < 128 → Txt.lower (S [x]) = S [lo1 x] := fun x hx => lower_S [x] (by simpa using hx)
  have i0 : Txt.item (S (a :: p')) 0 = S [a] := item_at' (a :: p') 0 a rfl
  have i1 : Txt.item (S (b :: q')) 0 = S [b] := item_at' (b :: q') 0 b rfl
  have gl : ((a :: p').map lo1).getLastD 0 = lo1 c := by
    rw [List.getLastD_eq_getLast?, List.getLast?_map, hc]; rfl
  have gl2 : ((b :: q').map lo1).getLastD 0 = lo1 d := by
    rw [List.getLastD_eq_getLast?, List.getLast?_map, hd]; rfl
  unfold holdT hld
  rw [item_last _ c hc, item_last _ d hd, i0, i1, low a ma, low b mb, low c mc, low d md, S_append, in_one, S_beq, gl, gl2]
  simp only [List.map_cons, List.headD_cons, List.cons_append, List.nil_append]
  have e0 : Str.ofString "" = S [] := by decide +kernel
  rw [e0]
  by_cases x1 : lo1 c = lo1 a <;> by_cases x2 : lo1 a = lo1 b <;> by_cases x3 : lo1 a = lo1 d <;> simp [x1, x2, x3]
theorem hld_len (p q : List Nat) : (hld p q).length ≤ 1 := by
  unfold hld; split <;> simp
theorem turnF_len (l : List Nat) (e b : Nat) (st : Nat × List Nat) : (turnF l e b st).2.length ≤ st.2.length + 2 := by
  unfold turnF
  split
  · have h1 := hld_len (pc0 l b e) (pc1 l b e)
    have h2 := hld_len (pc1 l b e) (pc0 l b e)
    simp only [List.length_append]
    omega
  · omega
theorem innerF_len (l : List Nat) (e : Nat) (st : Nat × List Nat) : ∀ j, (innerF l e st j).2.length ≤ st.2.length + 2 * j
  | 0 => by simp [innerF]
  | j + 1 => by
    have := turnF_len l e j (innerF l e st j)
    have := innerF_len l e st j
    simp only [innerF]
    omega
theorem outerF_len (l : List Nat) : ∀ i, i ≤ 7 → (outerF l i).2.length ≤ 16 * i
  | 0, _ => by simp [outerF]
  | i + 1, h => by
    have h1 := outerF_len l i (by omega)
    have h2 := innerF_len l (i + 1) (outerF l i) (i + 1)
    simp only [outerF]
    omega
local macro_rules | `(tactic| walk_at "call builtin:len") => `(tactic| ((rename Mk 11 => hMk); (refine hold_of ?_)))
local macro_rules | `(tactic| walk_at "subscriptTail") => `(tactic| ((rename Mk 11 => hMk); ((with_reducible show wpAny _ _ (subscriptTail (Expr.List _ _) _ _ _) _ _ _); refine hold_of ?_)))
local macro_rules | `(tactic| walk_at "eval DictComp") => `(tactic| ((rename Mk 11 => hMk); (refine hold_of ?_)))
local macro_rules | `(tactic| walk_at "CompSrc") => `(tactic| ((rename Mk 11 => hMk); (refine hold_of ?_)))
local macro_rules | `(tactic| walk_at "binaryOp Add ref ref") => `(tactic| ((rename Mk 11 => hMk); (refine hold_of ?_)))
local macro_rules | `(tactic| walk_at "call builtin:str.join") => `(tactic| ((rename Mk 11 => hMk); (refine hold_of ?_)))
local macro_rules | `(tactic| walk_at "call ref") => `(tactic| ((rename Mk 12 => hMk); ((with_reducible show wpAny _ _ (call (Value.ref 232) _ _) _ _ _); refine hold_of ?_)))
local macro_rules | `(tactic| walk_at "pyIter ref") => `(tactic| ((rename Mk 12 => hMk); (refine hold_of ?_)))
local macro_rules | `(tactic| walk_at "exec For Name Call cons nil") => `(tactic| ((rename Mk 12 => hMk); (refine hold_of ?_)))
local macro_rules | `(tactic| k_all) => `(tactic| assumption)
local macro_rules | `(tactic| walk_at "pyIter ref") => `(tactic| ((rename Mk 13 => hMk); (refine hold_of ?_)))
local macro_rules | `(tactic| walk_at "exec For Name Call cons nil") => `(tactic| ((rename Mk 13 => hMk); (k_here; (rename Fr _ _ _ _ => lF'); (with_unfolding_all refine' For_invVF lF' ?k1 ?k2 ?_; (case k1 => exact rfl); (case k2 => exact rfl); k_whole))))
local macro_rules | `(tactic| walk_at "call ref") => `(tactic| ((rename Mk 13 => hMk); ((with_reducible show wpAny _ _ (call (Value.ref 45) _ _) _ _ _); refine hold_of ?_)))
local macro_rules | `(tactic| walk_at "pyIter ref") => `(tactic| ((rename Mk 14 => hMk); (refine hold_of ?_)))
local macro_rules | `(tactic| walk_at "exec For Name Call cons nil") => `(tactic| ((rename Mk 14 => hMk); (k_here; (rename Fr _ _ _ _ => lF'); (with_unfolding_all refine' For_invVF lF' ?k1 ?k2 ?_; (case k1 => exact rfl); (case k2 => exact rfl); k_whole))))
local macro_rules | `(tactic| walk_at "CompSrcT") => `(tactic| ((rename Mk 14 => hMk); (refine hold_of ?_)))
local macro_rules | `(tactic| walk_at "CompSrc") => `(tactic| ((rename Mk 14 => hMk); (refine hold_of ?_)))
local macro_rules | `(tactic| walk_at "call ref") => `(tactic| ((rename Mk 14 => hMk); ((with_reducible show wpAny _ _ (call (Value.ref 45) _ _) _ _ _); refine hold_of ?_)))
local macro_rules | `(tactic| walk_at "eval Name") => `(tactic| ((rename Mk 14 => hMk); (k_here; (with_reducible show wpAny _ _ (eval (Expr.Name (Str.ofString "len") _) (compEnvC _ _ _ _)) _ _ _); k_dflt (refine LCgL.ld_built (by k_asm) (by k_asm) (by k_asm) (by k_is) PySem.boot_len (by decide) ?_))))
local macro_rules | `(tactic| walk_at "eval Name") => `(tactic| ((rename Mk 14 => hMk); (k_here; (with_reducible show wpAny _ _ (eval (Expr.Name (Str.ofString "str") _) (compEnvC _ _ _ _)) _ _ _); k_dflt (refine LCgL.ld_built (by k_asm) (by k_asm) (by k_asm) (by k_is) PyProof.Rows.boot_str (by decide) ?_))))
local macro_rules | `(tactic| walk_at "compareOp NotEq ref ref") => `(tactic| ((rename Mk 14 => hMk); (refine hold_of ?_)))
local macro_rules | `(tactic| walk_at "compareOp Eq ref ref") => `(tactic| ((rename Mk 14 => hMk); (refine hold_of ?_)))
local macro_rules | `(tactic| walk_at "eval ListComp") => `(tactic| ((rename Mk 14 => hMk); ((with_reducible show wpAny _ _ (eval (Expr.ListComp _ [Comprehension.mk _ (Expr.Constant _ _ _) _ _] _ _) _) _ _ _); refine hold_of ?_)))
local macro_rules | `(tactic| walk_at "pyIter ref") => `(tactic| ((rename Mk 15 => hMk); (refine hold_of ?_)))
local macro_rules | `(tactic| walk_at "exec For Name Call cons nil") => `(tactic| ((rename Mk 15 => hMk); (k_here; (rename Fr _ _ _ _ => lF'); (with_unfolding_all refine' For_invVF lF' ?k1 ?k2 ?_; (case k1 => exact rfl); (case k2 => exact rfl); k_whole))))
local macro_rules | `(tactic| walk_at "CompSrcT") => `(tactic| ((rename Mk 15 => hMk); (refine hold_of ?_)))
local macro_rules | `(tactic| walk_at "CompSrc") => `(tactic| ((rename Mk 15 => hMk); (refine hold_of ?_)))
local macro_rules | `(tactic| walk_at "call ref") => `(tactic| ((rename Mk 15 => hMk); ((with_reducible show wpAny _ _ (call (Value.ref 45) _ _) _ _ _); refine hold_of ?_)))
local macro_rules | `(tactic| walk_at "pyIter ref") => `(tactic| ((rename Mk 16 => hMk); (refine hold_of ?_)))
local macro_rules | `(tactic| walk_at "exec For Name Call cons nil") => `(tactic| ((rename Mk 16 => hMk); (k_here; (rename Fr _ _ _ _ => lF'); (with_unfolding_all refine' For_invVF lF' ?k1 ?k2 ?_; (case k1 => exact rfl); (case k2 => exact rfl); k_whole))))
local macro_rules | `(tactic| walk_at "CompSrcT") => `(tactic| ((rename Mk 16 => hMk); (refine hold_of ?_)))
local macro_rules | `(tactic| walk_at "CompSrc") => `(tactic| ((rename Mk 16 => hMk); (refine hold_of ?_)))
local macro_rules | `(tactic| walk_at "call ref") => `(tactic| ((rename Mk 16 => hMk); ((with_reducible show wpAny _ _ (call (Value.ref 45) _ _) _ _ _); refine hold_of ?_)))
local macro_rules | `(tactic| walk_at "compareOp In") => `(tactic| ((rename Mk 16 => hMk); ((with_reducible show wpAny _ _ (compareOp CmpOp.In Value.none _) _ _ _); refine hold_of ?_)))
local macro_rules | `(tactic| walk_at "compareOp NotEq ref ref") => `(tactic| ((rename Mk 16 => hMk); (refine hold_of ?_)))
local macro_rules | `(tactic| walk_at "pyIter ref") => `(tactic| ((rename Mk 17 => hMk); (refine hold_of ?_)))
local macro_rules | `(tactic| walk_at "exec For Name Call cons nil") => `(tactic| ((rename Mk 17 => hMk); (k_here; (rename Fr _ _ _ _ => lF'); (with_unfolding_all refine' For_invVF lF' ?k1 ?k2 ?_; (case k1 => exact rfl); (case k2 => exact rfl); k_whole))))
local macro_rules | `(tactic| walk_at "CompSrcT") => `(tactic| ((rename Mk 17 => hMk); (refine hold_of ?_)))
local macro_rules | `(tactic| walk_at "CompSrc") => `(tactic| ((rename Mk 17 => hMk); (refine hold_of ?_)))
local macro_rules | `(tactic| walk_at "call ref") => `(tactic| ((rename Mk 17 => hMk); ((with_reducible show wpAny _ _ (call (Value.ref 45) _ _) _ _ _); refine hold_of ?_)))
local macro_rules | `(tactic| walk_at "compareOp In") => `(tactic| ((rename Mk 17 => hMk); ((with_reducible show wpAny _ _ (compareOp CmpOp.In Value.none _) _ _ _); refine hold_of ?_)))
local macro_rules | `(tactic| walk_at "compareOp NotEq ref ref") => `(tactic| ((rename Mk 17 => hMk); (refine hold_of ?_)))
local macro_rules | `(tactic| walk_at "eval Name") => `(tactic| ((rename Mk 17 => hMk); (k_here; (with_reducible show wpAny _ _ (eval (Expr.Name (Str.ofString "len") _) (compEnvC _ _ _ _)) _ _ _); k_dflt (refine LCgL.ld_built (by k_asm) (by k_asm) (by k_asm) (by k_is) PySem.boot_len (by decide) ?_))))
local macro_rules | `(tactic| walk_at "eval Name") => `(tactic| ((rename Mk 17 => hMk); (k_here; (with_reducible show wpAny _ _ (eval (Expr.Name (Str.ofString "str") _) (compEnvC _ _ _ _)) _ _ _); k_dflt (refine LCgL.ld_built (by k_asm) (by k_asm) (by k_asm) (by k_is) PyProof.Rows.boot_str (by decide) ?_))))
local macro_rules | `(tactic| walk_at "subscriptTail") => `(tactic| ((rename Mk 17 => hMk); ((with_reducible show wpAny _ _ (subscriptTail (Expr.Name _ _) _ (Value.ref _) (Value.int _ _)) _ _ _); refine hold_of ?_)))
local macro_rules | `(tactic| walk_at "getMethod ref") => `(tactic| ((rename Mk 17 => hMk); (refine hold_of ?_)))
local macro_rules | `(tactic| walk_at "call ref") => `(tactic| ((rename Mk 17 => hMk); ((with_reducible show wpAny _ _ (call (Value.ref 160) _ _) _ _ _); refine hold_of ?_)))
local macro_rules | `(tactic| walk_at "call ref") => `(tactic| ((rename Mk 17 => hMk); ((with_reducible show wpAny _ _ (call (Value.ref 237) _ _) _ _ _); refine hold_of ?_)))
local macro_rules | `(tactic| walk_at "call ref") => `(tactic| ((rename Mk 17 => hMk); ((with_reducible show wpAny _ _ (call (Value.ref 244) _ _) _ _ _); refine hold_of ?_)))
local macro_rules | `(tactic| walk_at "pyIter ref") => `(tactic| ((rename Mk 18 => hMk); (refine hold_of ?_)))
local macro_rules | `(tactic| walk_at "exec For Name Call cons nil") => `(tactic| ((rename Mk 18 => hMk); (k_here; (rename Fr _ _ _ _ => lF'); (with_unfolding_all refine' For_invVF lF' ?k1 ?k2 ?_; (case k1 => exact rfl); (case k2 => exact rfl); k_whole))))
local macro_rules | `(tactic| walk_at "CompSrcT") => `(tactic| ((rename Mk 18 => hMk); (refine hold_of ?_)))
local macro_rules | `(tactic| walk_at "CompSrc") => `(tactic| ((rename Mk 18 => hMk); (refine hold_of ?_)))
local macro_rules | `(tactic| walk_at "call ref") => `(tactic| ((rename Mk 18 => hMk); ((with_reducible show wpAny _ _ (call (Value.ref 45) _ _) _ _ _); refine hold_of ?_)))
local macro_rules | `(tactic| walk_at "compareOp In") => `(tactic| ((rename Mk 18 => hMk); ((with_reducible show wpAny _ _ (compareOp CmpOp.In Value.none _) _ _ _); refine hold_of ?_)))
local macro_rules | `(tactic| walk_at "compareOp NotEq ref ref") => `(tactic| ((rename Mk 18 => hMk); (refine hold_of ?_)))
local macro_rules | `(tactic| walk_at "eval Name") => `(tactic| ((rename Mk 18 => hMk); (k_here; (with_reducible show wpAny _ _ (eval (Expr.Name (Str.ofString "len") _) (compEnvC _ _ _ _)) _ _ _); k_dflt (refine LCgL.ld_built (by k_asm) (by k_asm) (by k_asm) (by k_is) PySem.boot_len (by decide) ?_))))
local macro_rules | `(tactic| walk_at "eval Name") => `(tactic| ((rename Mk 18 => hMk); (k_here; (with_reducible show wpAny _ _ (eval (Expr.Name (Str.ofString "str") _) (compEnvC _ _ _ _)) _ _ _); k_dflt (refine LCgL.ld_built (by k_asm) (by k_asm) (by k_asm) (by k_is) PyProof.Rows.boot_str (by decide) ?_))))
local macro_rules | `(tactic| walk_at "subscriptTail") => `(tactic| ((rename Mk 18 => hMk); ((with_reducible show wpAny _ _ (subscriptTail (Expr.Name _ _) _ (Value.ref _) (Value.int _ _)) _ _ _); refine hold_of ?_)))
local macro_rules | `(tactic| walk_at "getMethod ref") => `(tactic| ((rename Mk 18 => hMk); (refine hold_of ?_)))
local macro_rules | `(tactic| walk_at "call ref") => `(tactic| ((rename Mk 18 => hMk); ((with_reducible show wpAny _ _ (call (Value.ref 160) _ _) _ _ _); refine hold_of ?_)))
local macro_rules | `(tactic| walk_at "call ref") => `(tactic| ((rename Mk 18 => hMk); ((with_reducible show wpAny _ _ (call (Value.ref 237) _ _) _ _ _); refine hold_of ?_)))
local macro_rules | `(tactic| walk_at "call ref") => `(tactic| ((rename Mk 18 => hMk); ((with_reducible show wpAny _ _ (call (Value.ref 244) _ _) _ _ _); refine hold_of ?_)))
local macro_rules | `(tactic| walk_at "pyIter ref") => `(tactic| ((rename Mk 19 => hMk); (refine hold_of ?_)))
local macro_rules | `(tactic| walk_at "exec For Name Call cons nil") => `(tactic| ((rename Mk 19 => hMk); (k_here; (rename Fr _ _ _ _ => lF'); (with_unfolding_all refine' For_invVF lF' ?k1 ?k2 ?_; (case k1 => exact rfl); (case k2 => exact rfl); k_whole))))
local macro_rules | `(tactic| walk_at "CompSrcT") => `(tactic| ((rename Mk 19 => hMk); (refine hold_of ?_)))
local macro_rules | `(tactic| walk_at "CompSrc") => `(tactic| ((rename Mk 19 => hMk); (refine hold_of ?_)))
local macro_rules | `(tactic| walk_at "call ref") => `(tactic| ((rename Mk 19 => hMk); ((with_reducible show wpAny _ _ (call (Value.ref 45) _ _) _ _ _); refine hold_of ?_)))
local macro_rules | `(tactic| walk_at "compareOp In") => `(tactic| ((rename Mk 19 => hMk); ((with_reducible show wpAny _ _ (compareOp CmpOp.In Value.none _) _ _ _); refine hold_of ?_)))
local macro_rules | `(tactic| walk_at "compareOp NotEq ref ref") => `(tactic| ((rename Mk 19 => hMk); (refine hold_of ?_)))
local macro_rules | `(tactic| walk_at "eval Name") => `(tactic| ((rename Mk 19 => hMk); (k_here; (with_reducible show wpAny _ _ (eval (Expr.Name (Str.ofString "len") _) (compEnvC _ _ _ _)) _ _ _); k_dflt (refine LCgL.ld_built (by k_asm) (by k_asm) (by k_asm) (by k_is) PySem.boot_len (by decide) ?_))))
local macro_rules | `(tactic| walk_at "eval Name") => `(tactic| ((rename Mk 19 => hMk); (k_here; (with_reducible show wpAny _ _ (eval (Expr.Name (Str.ofString "str") _) (compEnvC _ _ _ _)) _ _ _); k_dflt (refine LCgL.ld_built (by k_asm) (by k_asm) (by k_asm) (by k_is) PyProof.Rows.boot_str (by decide) ?_))))
local macro_rules | `(tactic| walk_at "getMethod ref") => `(tactic| ((rename Mk 19 => hMk); (refine hold_of ?_)))
local macro_rules | `(tactic| walk_at "call ref") => `(tactic| ((rename Mk 19 => hMk); ((with_reducible show wpAny _ _ (call (Value.ref 160) _ _) _ _ _); refine hold_of ?_)))
local macro_rules | `(tactic| walk_at "call ref") => `(tactic| ((rename Mk 19 => hMk); ((with_reducible show wpAny _ _ (call (Value.ref 237) _ _) _ _ _); refine hold_of ?_)))
local macro_rules | `(tactic| walk_at "call ref") => `(tactic| ((rename Mk 19 => hMk); ((with_reducible show wpAny _ _ (call (Value.ref 244) _ _) _ _ _); refine hold_of ?_)))
local macro_rules | `(tactic| walk_at "call builtin:len") => `(tactic| ((rename Mk 19 => hMk); ((with_reducible show wpAny _ _ (call (Value.builtin "len") [Value.ref _]) _ _ _); refine hold_of ?_)))
local macro_rules | `(tactic| walk_at "loadName") => `(tactic| ((rename Mk 19 => hMk); ((with_reducible show wpAny _ _ (loadName _ (Str.ofString "found")) _ _ _); refine hold_of ?_)))
local macro_rules | `(tactic| walk_at "pyIter ref") => `(tactic| ((rename Mk 20 => hMk); (refine hold_of ?_)))
local macro_rules | `(tactic| walk_at "exec For Name Call cons nil") => `(tactic| ((rename Mk 20 => hMk); (k_here; (rename Fr _ _ _ _ => lF'); (with_unfolding_all refine' For_invVF lF' ?k1 ?k2 ?_; (case k1 => exact rfl); (case k2 => exact rfl); k_whole))))
local macro_rules | `(tactic| walk_at "CompSrcT") => `(tactic| ((rename Mk 20 => hMk); (refine hold_of ?_)))
local macro_rules | `(tactic| walk_at "CompSrc") => `(tactic| ((rename Mk 20 => hMk); (refine hold_of ?_)))
local macro_rules | `(tactic| walk_at "call ref") => `(tactic| ((rename Mk 20 => hMk); ((with_reducible show wpAny _ _ (call (Value.ref 45) _ _) _ _ _); refine hold_of ?_)))
local macro_rules | `(tactic| walk_at "compareOp In") => `(tactic| ((rename Mk 20 => hMk); ((with_reducible show wpAny _ _ (compareOp CmpOp.In Value.none _) _ _ _); refine hold_of ?_)))
local macro_rules | `(tactic| walk_at "compareOp NotEq ref ref") => `(tactic| ((rename Mk 20 => hMk); (refine hold_of ?_)))
local macro_rules | `(tactic| walk_at "eval Name") => `(tactic| ((rename Mk 20 => hMk); (k_here; (with_reducible show wpAny _ _ (eval (Expr.Name (Str.ofString "len") _) (compEnvC _ _ _ _)) _ _ _); k_dflt (refine LCgL.ld_built (by k_asm) (by k_asm) (by k_asm) (by k_is) PySem.boot_len (by decide) ?_))))
local macro_rules | `(tactic| walk_at "eval Name") => `(tactic| ((rename Mk 20 => hMk); (k_here; (with_reducible show wpAny _ _ (eval (Expr.Name (Str.ofString "str") _) (compEnvC _ _ _ _)) _ _ _); k_dflt (refine LCgL.ld_built (by k_asm) (by k_asm) (by k_asm) (by k_is) PyProof.Rows.boot_str (by decide) ?_))))
local macro_rules | `(tactic| walk_at "getMethod ref") => `(tactic| ((rename Mk 20 => hMk); (refine hold_of ?_)))
local macro_rules | `(tactic| walk_at "call ref") => `(tactic| ((rename Mk 20 => hMk); ((with_reducible show wpAny _ _ (call (Value.ref 160) _ _) _ _ _); refine hold_of ?_)))
local macro_rules | `(tactic| walk_at "call ref") => `(tactic| ((rename Mk 20 => hMk); ((with_reducible show wpAny _ _ (call (Value.ref 237) _ _) _ _ _); refine hold_of ?_)))
local macro_rules | `(tactic| walk_at "call ref") => `(tactic| ((rename Mk 20 => hMk); ((with_reducible show wpAny _ _ (call (Value.ref 244) _ _) _ _ _); refine hold_of ?_)))
local macro_rules | `(tactic| walk_at "call builtin:len") => `(tactic| ((rename Mk 20 => hMk); ((with_reducible show wpAny _ _ (call (Value.builtin "len") [Value.ref _]) _ _ _); refine hold_of ?_)))
local macro_rules | `(tactic| walk_at "loadName") => `(tactic| ((rename Mk 20 => hMk); ((with_reducible show wpAny _ _ (loadName _ (Str.ofString "found")) _ _ _); refine hold_of ?_)))
theorem law_code {w : World} {s : Shared} {dp un : Nat} {fr : Option (List Env)} {gd : Option (List Code)} (C : Cx w s.heap) (hd : dp + 80 < recursionLimit) (hu : un + 400 < cLine)
    {ls : Addr} {sv : List Value} {ns : List Int} (hl : s.heap.IsList ls sv.toArray) (hi : IntsAre sv ns) (hn : ns.length ≤ 63) :
    codeAny (model pg w) (Ar dp un fr gd) (.call (.ref 249) ⟨[.ref ls], []⟩) (fun r s' => Keeps s s' ∧ r = .ok (.ret (.bool true))) s := by
  have C' := C
  obtain ⟨X, p', loose, mean, mg, mb, T⟩ := C'
  obtain ⟨Q, hQ, hQR⟩ : ∃ Q : Value → Shared → Prop, (∀ r s', Keeps s s' ∧ r = .bool true → Q r s') ∧ (∀ r s', Q r s' → Keeps s s' ∧ (.ok (.ret r) : Result) = .ok (.ret (.bool true))) := ⟨_, fun _ _ h => h, fun r s' h => ⟨h.1, by rw [h.2]⟩⟩
  have hMk := Mk.mk 11
  have hsl : sv.length = ns.length := hi.length
  k_dflt (refine' enterCC (Q := Q) hQR (binds := [(Str.ofString "script", Value.ref ls)]) ?k3 ?k5 ?k6 ?k7 ?k8 ?k9 ?kB ?kD ?_ ?c2 ?c3 ?c4; (case k3 => k_asm); (case k5 => k_asm); (case k6 => k_is); (case k7 => k_is); (case k8 => (show (_ : Nat) < _; simp only [depth_deeper, depth_in1]; omega)); (case k9 => exact BindsTo.of_eq rfl); (case kB => exact rfl); (case kD => decide +kernel); (case c2 => exact rfl); (case c3 => exact rfl); (case c4 => exact rfl); k_whole; intro L' h' tk' cells' F' N' Y';  (try simp only [List.cons_append, List.nil_append] at N'); (try dsimp only))
  obtain ⟨o1, o2, o3, hE, d1, d2, d3⟩ := CellsAre.three Y'; subst hE; clear Y'
  have hml : (ns.take 7 ++ ns.drop 0).length = 0 → True := fun _ => trivial
  clear hml
  have d1' : o1.data = .cell none := d1
  have d2' : o2.data = .cell none := d2
  have d3' : o3.data = .cell none := d3
  clear d1 d2 d3
  k_steps
  refine Hold.out ?_
  rename Fr _ _ _ _ => kF
  refine len_list (kF.lst hl) ?_ ?_
  · rw [List.size_toArray]; omega
  rw [List.size_toArray, hsl]
  k_steps
  refine Hold.out ?_
  rename Fr _ _ _ _ => kF
  rename News _ _ _ _ => kN
  refine kba_turn (value' := PySem.Expr.Name (PySem.Str.ofString "_") ⟨0, 0, 0, 0⟩) (fun _ => rfl) ?_
  refine kmk_slice_ints (vs := [_, _, _, _, _]) kF kN (kN.isList (.head _)) (IsPart.int _ _) IsPart.none (ns := [0, 1, 0, 1, 2]) (ms := [0, 1, 0, 1, 2].drop ns.length) (c := 5 - ns.length) ?_ ?_ ?_ ?_ ?_ ?_ ?_
  · exact .cons _ _ (.cons _ _ (.cons _ _ (.cons _ _ (.cons _ _ .nil))))
  · exact kmk_from (.cons _ _ (.cons _ _ (.cons _ _ (.cons _ _ (.cons _ _ .nil))))) (by omega)
  · rw [List.length_drop]; rfl
  · intro D1 ws1 h' F' N' l1 hI hC hL
    clear kF kN
    refine kmk_add_ints F' N' (N'.isList (.tail _ (.tail _ (.head _)))) (N'.isList (.head _)) (by assumption) hI ?_ ?_
    · intro D2 ws2 h2 F2 N2 l2 hI2
      have N3 : News s.heap L' h2 [(D2, (listOf ws2.toArray 0 : Obj)), (L' + 1 + 1 + 1, o1), (L' + 1 + 1, o2), (L' + 1, o3)] := fun q hq => by
        rcases List.mem_cons.mp hq with rfl | hq
        · exact N2 _ (.head _)
        · exact N2 _ (.tail _ (.tail _ (.tail _ (.tail _ hq))))
      have hlen : (ns.take 7 ++ [0, 1, 0, 1, 2].drop ns.length).length ≤ 7 := by rw [List.length_append, List.length_take, List.length_drop]; show _ + (5 - _) ≤ 7; omega
      have hwl := hI2.length
      clear F' N' l2 hI hC hL l1
      k_steps
      refine Hold.out ?_
      rename Fr _ _ _ _ => kF
      rename News _ _ _ _ => kN
      try clear N2
      refine LCg.CompSrc.ledger rfl kF kN (.head _) (by rw [sizeLine_eq, List.size_toArray]; omega) fun g => ?_
      refine rest_indU (n := ws2.length) (fun i ys nw => nw = [(D2, (listOf ws2.toArray 0 : Obj)), (L' + 1 + 1 + 1, o1), (L' + 1 + 1, o2), (L' + 1, o3)] ∧ StrsAre ys ((((ns.take 7 ++ [0, 1, 0, 1, 2].drop ns.length).take i).map chr4).map fun c => S [c])) ?_ ?_ _ 0 [] _ (by simp) ⟨rfl, by simp [StrsAre.nil]⟩
      · rintro i ys nw hi ⟨rfl, hys⟩ v I oI C9 oC D m₂ h tk E' hP hC hx F N off ne
        obtain ⟨k, t9, rfl, hrow⟩ := hI2.at i v (by simpa using hP)
        clear kF kN hP
        refine of_any fun Q9 hQ9 => ?_
        k_steps
        rw [chr4_item]
        refine hQ9 _ _ (LCg.CompEnd.intro F N [(D2, (listOf ws2.toArray 0 : Obj)), (L' + 1 + 1 + 1, o1), (L' + 1 + 1, o2), (L' + 1, o3)] (fun p hp => hp) off (Or.inr ⟨_, .head _, rfl, _, rfl⟩) ⟨rfl, ?_⟩)
        rw [List.take_add_one, hrow]
        simp only [Option.toList_some, List.map_append, List.map_cons, List.map_nil]
        exact strsAre_snoc hys
      · rintro ys nw ⟨rfl, hys⟩
        intro D h tk F N off
        rw [hwl, List.take_length] at hys
        clear kF kN
        dsimp only
        k_steps
        refine Hold.out ?_
        refine join_list (items := ys.toArray) (ys := (ringOf ns).map fun c => S [c]) ?_ ?_ ?_ ?_
        · exact N.isList (.head _)
        · exact hys
        · have hr7 : (ringOf ns).length ≤ 7 := by unfold ringOf; rw [List.length_map]; exact hlen
          rw [List.map_map, List.length_map]
          have e0 : (Str.ofString "").length = 0 := by decide +kernel
          have e1 : (((ringOf ns).map (Str.length ∘ fun c => S [c])).sum) = (ringOf ns).length := by
            generalize ringOf ns = l
            induction l with
            | nil => rfl
            | cons c l ih => rw [List.map_cons, List.sum_cons, ih, List.length_cons, Function.comp, S_len, List.length_singleton]; omega
          rw [e0, e1]
          omega
        intro t5 k5
        rw [show (ringOf ns).map (fun c => S [c]) = (ringOf ns).map fun c => S [c] from rfl, join_S]
        dsimp only
        have N4 : News s.heap L' h [(L' + 1 + 1 + 1, o1), (L' + 1 + 1, o2), (L' + 1, o3)] := fun q hq => N q (.tail _ (.tail _ hq))
        clear N off hi hI2 hys hlen hwl hsl hn
        generalize hring : ringOf ns = r at *
        k_steps
        refine Hold.out ?_
        rename Fr _ _ _ _ => kF
        rename News _ _ _ _ => kN
        rename Obj => o5
        rename (_ = Data.cell (some _)) => d3
        have hr5 : 5 ≤ r.length ∧ r.length ≤ 7 := by
          rw [← hring]
          unfold ringOf
          rw [List.length_map, List.length_append, List.length_take, List.length_drop]
          show 5 ≤ _ + (5 - _) ∧ _ + (5 - _) ≤ 7
          omega
        have hrc : ∀ c ∈ r, c = 97 ∨ c = 98 ∨ c = 65 ∨ c = 66 := by
          rw [← hring]
          intro c hc
          obtain ⟨q, _, rfl⟩ := List.mem_map.mp hc
          unfold chr4
          split
          · simp
          · split
            · simp
            · split <;> simp
        clear hring
        rename Mk _ => hMk0
        clear hMk0
        have hMk := Mk.mk 12
        have hlr : (S r).length ≤ 7 := by rw [S_len]; exact hr5.2
        obtain ⟨m0, kF'⟩ : ∃ m, Fr s.heap L' _ m := ⟨_, kF⟩
        clear kF
        refine DictComp_me (L := L') (h₀ := s.heap) (m := m0)
          (fun i kvs nw => ∃ tl, nw = (L' + 1 + 1 + 1, o1) :: (L' + 1 + 1, o2) :: (L' + 1, o5) :: tl ∧ (∀ q ∈ tl, q.1 ≠ L' + 1 + 1 + 1 ∧ q.1 ≠ L' + 1 + 1 ∧ q.1 ≠ L' + 1) ∧
            ∀ z : Nat, 0 < z → z < i + 1 → ∃ x dx l od vs c, valueAt kvs (z : Int) = some (.ref x) ∧ TabL tl x (tabRows r z r.length) dx l od vs c)
          rfl (by with_unfolding_all rfl) (by decide) (by with_unfolding_all rfl) (by decide) (by with_unfolding_all rfl) ?_ (by intro _; with_unfolding_all rfl)
        refine of_any fun Q9 hQ9 => ?_
        k_steps
        rename IsRange _ _ _ _ _ _ _ _ => rgX
        rename Fr _ _ _ _ => kF
        rename News _ _ _ _ => kN
        have hrs : Builtin.Range.rangeSize 1 ((S r).length : Int) 1 = ((r.length - 1 : Nat) : Int) := by
          rw [S_len]
          unfold Builtin.Range.rangeSize
          rw [if_pos (by decide), if_pos (by omega)]
          omega
        have hsm : Builtin.Range.small 1 ((S r).length : Int) 1 = true := small_one (by omega) (by omega) (by omega) (by omega)
        refine hQ9 _ _ ⟨_, _, _, _, _, _, r.length - 1, _, rfl, kF, kN, rgX, hsm, hrs, by rw [sizeLine_eq]; omega, ⟨[], rfl, (fun _ h => nomatch h), fun z _ _ => by omega⟩, ?_, ?_⟩
        · clear hQ9 kF kN rgX
          rintro s₂ ⟨g9, rfl⟩ i kvs nw hi ⟨tl, rfl, htl, htab⟩ I t oI C9 oC D9 oD m₂ h9 tk9 E' hC hx F N off ne
          k_steps
          refine Hold.out ?_
          rename Fr _ _ _ _ => kF
          rename News _ _ _ _ => kN
          rw [show (1 : Int) + (i : Int) = ((i + 1 : Nat) : Int) by omega]
          have hr1 : ∀ c ∈ r, 65 ≤ c ∧ c < 127 := fun c hc => by rcases hrc c hc with rfl | rfl | rfl | rfl <;> omega
          refine wpAny_mono (table_spec (E := E') (C.keeps kF.keep) ?_ ?_ ?_ hr1 ?_ ?_) ?_ fun _ _ e => e
          · show dp + 1 + 60 < recursionLimit
            omega
          · show un + 3 + 300 < cLine
            omega
          · omega
          · omega
          · omega
          rintro _ _ ⟨⟨h10, tk10, rfl, hk10⟩, x, tl', dx, l, od, vs, c, rfl, hnew, hT⟩
          have F10 : Fr s.heap L' h10 m0 := ⟨kF.ns.keeps hk10, fun b o e => hk10 b o (kF.keep b o e), kF.above⟩
          have far : ∀ (b : Addr) o, h9.get? b = some o → ∀ q ∈ tl', @Ne Nat q.1 b := fun b o e q hq e2 => by
            have := (hnew q hq).2
            have e3 : q.1 = b := e2
            rw [e3, e] at this
            cases this
          have zI := kN _ (.head _)
          have zC := kN _ (.tail _ (.head _))
          have zD := kN _ (.tail _ (.tail _ (.head _)))
          have z1 := kN _ (.tail _ (.tail _ (.tail _ (.head _))))
          have z2 := kN _ (.tail _ (.tail _ (.tail _ (.tail _ (.head _)))))
          have z3 := kN _ (.tail _ (.tail _ (.tail _ (.tail _ (.tail _ (.head _))))))
          obtain ⟨oL, _, _, hoL, _⟩ := id kF.ns
          refine ⟨h10, tk10, (L' + 1 + 1 + 1, o1) :: (L' + 1 + 1, o2) :: (L' + 1, o5) :: (tl' ++ tl), _, t, rfl, rfl, F10, ?_, ?_, tl' ++ tl, rfl, ?_, ?_⟩
          · intro q hq
            have key : q ∈ tl' ∨ q ∈ (I, oI) :: (C9, oC) :: (D9, oD) :: (L' + 1 + 1 + 1, o1) :: (L' + 1 + 1, o2) :: (L' + 1, o5) :: tl := by
              simp only [List.mem_cons, List.mem_append] at hq ⊢
              rcases hq with hq | hq | hq | hq | hq | hq | hq | hq <;> simp [hq]
            rcases key with hq | hq
            · refine ⟨(hnew q hq).1, far L' oL hoL q hq, ?_⟩
              cases hq2 : s.heap.get? q.1 with
              | none => rfl
              | some o => have := (hnew q hq).2; rw [kF.keep _ _ hq2] at this; cases this
            · exact ⟨hk10 _ _ (kN q hq).1, (kN q hq).2⟩
          · have o3 := off.mem
            refine LCg.Off3.of fun p hp => ?_
            have key : p ∈ tl' ∨ p ∈ (L' + 1 + 1 + 1, o1) :: (L' + 1 + 1, o2) :: (L' + 1, o5) :: tl := by
              simp only [List.mem_cons, List.mem_append] at hp ⊢
              rcases hp with hp | hp | hp | hp | hp <;> simp [hp]
            rcases key with hp | hp
            · exact ⟨far I oI zI.1 p hp, far C9 oC zC.1 p hp, far D9 oD zD.1 p hp⟩
            · exact o3 p hp
          · intro q hq
            rcases List.mem_append.mp hq with hq | hq
            · exact ⟨far _ _ z1.1 q hq, far _ _ z2.1 q hq, far _ _ z3.1 q hq⟩
            · exact htl q hq
          · intro z hz1 hz2
            rw [valueAt_stored]
            by_cases hzi : z = i + 1
            · subst hzi
              rw [if_pos (by omega)]
              exact ⟨x, dx, l, od, vs, c, rfl, hT.mono fun q hq => List.mem_append_left _ hq⟩
            · rw [if_neg (by omega)]
              obtain ⟨x1, dx1, l1, od1, vs1, c1, e1, t1⟩ := htab z hz1 (by omega)
              exact ⟨x1, dx1, l1, od1, vs1, c1, e1, t1.mono fun q hq => List.mem_append_right _ hq⟩
        · clear hQ9 kF kN rgX
          rintro s₂ ⟨g9, rfl⟩ D9 oD h9 tk9 kvs nw F N hoD off ⟨tl, rfl, htl, htab⟩
          dsimp only
          obtain ⟨n1, n2, n3, n4⟩ := off
          obtain ⟨tl2, htl2⟩ : ∃ tl2, tl2 = (D9, oD) :: tl := ⟨_, rfl⟩
          have hm1 : ∀ q ∈ tl2, q.1 ≠ L' + 1 + 1 + 1 := fun q hq => by
            rw [htl2] at hq
            rcases List.mem_cons.mp hq with rfl | hq
            · exact Ne.symm n1
            · exact (htl q hq).1
          have hm2 : ∀ q ∈ tl2, q.1 ≠ L' + 1 + 1 := fun q hq => by
            rw [htl2] at hq
            rcases List.mem_cons.mp hq with rfl | hq
            · exact Ne.symm n2
            · exact (htl q hq).2.1
          have hm3 : ∀ q ∈ tl2, q.1 ≠ L' + 1 := fun q hq => by
            rw [htl2] at hq
            rcases List.mem_cons.mp hq with rfl | hq
            · exact Ne.symm n3
            · exact (htl q hq).2.2
          have hDm : (D9, oD) ∈ tl2 := by rw [htl2]; exact .head _
          have htab2 : ∀ z : Nat, 0 < z → z < r.length → ∃ x dx l od vs c, valueAt kvs (z : Int) = some (.ref x) ∧ TabL tl2 x (tabRows r z r.length) dx l od vs c := fun z h1 h2 => by
            obtain ⟨x1, dx1, l1, od1, vs1, c1, e1, t1⟩ := htab z h1 (by omega)
            exact ⟨x1, dx1, l1, od1, vs1, c1, e1, t1.mono fun q hq => by rw [htl2]; exact .tail _ hq⟩
          have N2 : News s.heap L' h9 ((L' + 1 + 1 + 1, o1) :: (L' + 1 + 1, o2) :: (L' + 1, o5) :: tl2) := fun q hq => N q (by
            rw [htl2] at hq
            simp only [List.mem_cons] at hq ⊢
            rcases hq with hq | hq | hq | hq | hq <;> simp [hq])
          clear N n1 n2 n3 n4 htl htab htl2 tl
          k_steps
          refine Hold.out ?_
          clear hrs hsm hl
          rename (Obj.data _ = Data.cell (some (Value.ref _))) => dT
          rename (Obj.data _ = Data.cell (some (Value.str (Str.ofString "") _))) => dF
          rename Fr _ _ _ _ => kF
          rename News _ _ _ _ => kN
          rename Mk _ => hMk0
          clear hMk0
          have hMk := Mk.mk 13
          obtain ⟨m1, kF', hm1'⟩ : ∃ m, Fr s.heap L' _ m ∧ m (Str.ofString "pairs") = some (.int 0 _) := ⟨_, kF, rfl⟩
          clear kF
          k_steps
          refine Hold.out ?_
          rename IsRange _ _ _ _ _ _ _ _ => rgX
          rename Fr _ _ _ _ => kF
          rename News _ _ _ _ => kN
          have hrs : Builtin.Range.rangeSize 1 ((S r).length : Int) 1 = ((r.length - 1 : Nat) : Int) := by
            rw [S_len]
            unfold Builtin.Range.rangeSize
            rw [if_pos (by decide), if_pos (by omega)]
            omega
          have hsm : Builtin.Range.small 1 ((S r).length : Int) 1 = true := small_one (by omega) (by omega) (by omega) (by omega)
          have e0 : Str.ofString "" = S [] := by decide +kernel
          rw [e0] at dF
          refine range_me (fun i m nx => ∃ oF oT, nx = (L' + 1 + 1 + 1, oF) :: (L' + 1 + 1, oT) :: (L' + 1, o5) :: tl2 ∧ oT.data = .cell (some (.ref D9)) ∧ (∃ t, oF.data = .cell (some (.str (S (outerF (r.map lo1) i).2) t))) ∧ ∃ t, m (Str.ofString "pairs") = some (.int (((outerF (r.map lo1) i).1 : Nat) : Int) t))
            rfl rgX hsm hrs kF kN ?_ ?_ ?_
          · exact ⟨_, _, rfl, dT, ⟨_, dF⟩, ⟨_, hm1'⟩⟩
          · clear kF kN rgX dF dT hm1' e0
            rintro i t9 m₁ nx I oI h tk9 hi ⟨oF, oT, rfl, dT, ⟨t8, dF⟩, t7, hm⟩ off F N
            have F9 := frKnowB (ps := [(Str.ofString "pairs", .int (((outerF (r.map lo1) i).1 : Nat) : Int) t7)]) F (by rfl) (know1 hm know0)
            replace N : News s.heap L' h _ := N
            replace F9 : Fr s.heap L' h _ := F9
            clear F hm hrs hsm
            k_steps
            refine Hold.out ?_
            rename IsRange _ _ _ _ _ _ _ _ => rgX
            rename Fr _ _ _ _ => kF
            rename News _ _ _ _ => kN
            rename Mk _ => hMk0
            clear hMk0
            have hMk := Mk.mk 15
            have hrs : Builtin.Range.rangeSize 0 (1 + (i : Int)) 1 = ((i + 1 : Nat) : Int) := by
              unfold Builtin.Range.rangeSize
              rw [if_pos (by decide), if_pos (by omega)]
              omega
            have hsm : Builtin.Range.small 0 (1 + (i : Int)) 1 = true := small_one (by omega) (by omega) (by omega) (by omega)
            have ho := hm1
            have kN' : News s.heap L' _ ((L' + 1 + 1 + 1, oF) :: (L' + 1 + 1, oT) :: (L' + 1, o5) :: (I, oI) :: tl2) := fun q hq => kN q (by
              simp only [List.mem_cons] at hq ⊢
              rcases hq with hq | hq | hq | hq | hq <;> simp [hq])
            refine range_me (fun j m nx => ∃ oF, nx = (L' + 1 + 1 + 1, oF) :: (L' + 1 + 1, oT) :: (L' + 1, o5) :: (I, oI) :: tl2 ∧ (∃ t, oF.data = .cell (some (.str (S (innerF (r.map lo1) (i + 1) (outerF (r.map lo1) i) j).2) t))) ∧
                (∃ t, m (Str.ofString "pairs") = some (.int (((innerF (r.map lo1) (i + 1) (outerF (r.map lo1) i) j).1 : Nat) : Int) t)) ∧ (∃ t, m (Str.ofString "end") = some (.int (1 + (i : Int)) t)))
              rfl rgX hsm hrs kF kN' ?_ ?_ ?_
            · exact ⟨_, rfl, ⟨_, dF⟩, ⟨_, rfl⟩, ⟨_, rfl⟩⟩
            · clear kF kN kN' rgX dF hrs hsm
              rintro j t9 m₂ nx I2 oI2 h2 tk9 hj ⟨oF, rfl, ⟨t8, dF⟩, ⟨t7, hm⟩, ⟨t6, hme⟩⟩ off2 F N
              have F9 := frKnowB (ps := [(Str.ofString "pairs", .int _ t7), (Str.ofString "end", .int _ t6)]) F (by rfl) (know1 hm (know1 hme know0))
              replace N : News s.heap L' h2 _ := N
              replace F9 : Fr s.heap L' h2 _ := F9
              clear F hm hme
              k_steps
              refine Hold.out ?_
              rename Fr _ _ _ _ => kF
              rename News _ _ _ _ => kN
              have hje : j < i + 1 := hj
              have hval : Txt.slice (S r) none (some (0 + (j : Int))) ++ Str.ofString "'" ++ Txt.slice (S r) (some (0 + (j : Int))) (some (1 + (i : Int))) ++ Str.ofString "'" ++ Txt.slice (S r) (some (1 + (i : Int))) none =
                  S (r.take j ++ 39 :: (pc0 r j (i + 1) ++ 39 :: r.drop (i + 1))) := by
                rw [show (0 : Int) + (j : Int) = (j : Int) by omega, show (1 : Int) + (i : Int) = ((i + 1 : Nat) : Int) by omega, slice_ns _ _ (by omega), slice_ss _ _ _ (by omega) (by omega), slice_sn _ _ (by omega), show Str.ofString "'" = S [39] from by decide +kernel, S_append, S_append, S_append, S_append]
                simp [pc0]
              rw [hval]
              have h39 : ∀ c ∈ r, c ≠ 39 ∧ c < 256 := fun c hc => by rcases hrc c hc with rfl | rfl | rfl | rfl <;> omega
              have hx : Txt.splitMax (S (r.take j ++ 39 :: (pc0 r j (i + 1) ++ 39 :: r.drop (i + 1)))) (Str.ofString "'") 2 = [S (r.take j), S (pc0 r j (i + 1)), S (r.drop (i + 1))] := by
                refine split_two _ _ _ (fun h => (h39 _ (List.mem_of_mem_take h)).1 rfl) (fun h => (h39 _ (List.mem_of_mem_drop (List.mem_of_mem_take h))).1 rfl) fun c hc => ?_
                simp only [List.mem_append] at hc
                rcases hc with (hc | hc) | hc
                · exact (h39 _ (List.mem_of_mem_take hc)).2
                · exact (h39 _ (List.mem_of_mem_drop (List.mem_of_mem_take hc))).2
                · exact (h39 _ (List.mem_of_mem_drop hc)).2
              refine wpAny_mono (decode_spec (C.keeps kF.keep) ?_ ?_ ?_ hx) ?_ fun _ _ e => e
              · show dp + 1 + 20 < recursionLimit
                omega
              · show un + 3 + 100 < cLine
                omega
              · rw [S_len]
                simp only [pc0, List.length_append, List.length_cons, List.length_take, List.length_drop]
                omega
              rintro _ _ ⟨⟨h5, tk5, rfl, hk5⟩, l, u1, u2, u3, rfl, hln, hl5⟩
              have F5 : Fr s.heap L' h5 _ := ⟨kF.ns.keeps hk5, fun b o e => hk5 b o (kF.keep b o e), kF.above⟩
              have N5 := newsAdd kF (fun q hq => ⟨hk5 _ _ (kN q hq).1, (kN q hq).2⟩ : News s.heap L' h5 _) hln hl5
              obtain ⟨n1, n2, n3⟩ : @Ne Nat l (L' + 1 + 1 + 1) ∧ @Ne Nat l (L' + 1 + 1) ∧ @Ne Nat l (L' + 1) := by
                have z1 := (kN _ (.tail _ (.head _))).1
                have z2 := (kN _ (.tail _ (.tail _ (.head _)))).1
                have z3 := (kN _ (.tail _ (.tail _ (.tail _ (.head _))))).1
                dsimp only at z1 z2 z3 hln
                refine ⟨?_, ?_, ?_⟩ <;> (intro e; have e' : l = _ := e; rw [e'] at hln; simp_all)
              clear kF kN hval hx hln hl5
              rename Mk _ => hMk0
              clear hMk0
              have hMk := Mk.mk 16
              k_steps
              refine Hold.out ?_
              have ok : ∀ (q : List Nat), (∀ c ∈ q, c ∈ r) → PyData.strOk (S q) = true := fun q hq => strOk_S q fun c hc => by rcases hrc c (hq c hc) with rfl | rfl | rfl | rfl <;> omega
              rename Fr _ _ _ _ => kF
              rename News _ _ _ _ => kN
              refine none_in (kN _ (.head _)).1 (ok _ fun c hc => List.mem_of_mem_take hc) (ok _ fun c hc => List.mem_of_mem_drop (List.mem_of_mem_take hc)) (ok _ fun c hc => List.mem_of_mem_drop hc) ?_ ?_
              · show un + 3 + 4 < cLine
                omega
              have q1 : (S (r.drop (i + 1))).length ≤ 7 := by rw [S_len, List.length_drop]; omega
              have q2 : (S (r.take j)).length ≤ 7 := by rw [S_len, List.length_take]; omega
              clear hk5
              k_steps
              refine Hold.out ?_
              rename Fr _ _ _ _ => kF
              rename News _ _ _ _ => kN
              rw [S_append] at kN
              rename Mk _ => hMk0
              clear hMk0
              have hMk := Mk.mk 17
              rename_i tP kk aa lP hq l1P hP
              have kN1 : News s.heap L' hP ((lP, (listOf #[Value.str (S (pc0 r j (i + 1))) u2, Value.str (S (pc1 r j (i + 1))) tP] 0 : Obj)) :: (I2, oI2) :: (L' + 1 + 1 + 1, oF) :: (L' + 1 + 1, oT) :: (L' + 1, o5) :: (I, oI) :: tl2) := fun q hq => kN q (by
                simp only [List.mem_cons] at hq ⊢
                rcases hq with hq | hq | hq | hq | hq | hq | hq
                · exact .inl hq
                all_goals simp [hq])
              clear kN
              refine LCg.CompSrc.ledger rfl kF kN1 (.head _) (by rw [sizeLine_eq]; exact (by decide : (2 : Nat) ≤ 16777216)) fun g => ?_
              refine rest_indU (n := 2) (fun k ys nw => ∃ tl3, nw = (lP, (listOf #[Value.str (S (pc0 r j (i + 1))) u2, Value.str (S (pc1 r j (i + 1))) tP] 0 : Obj)) :: (I2, oI2) :: (L' + 1 + 1 + 1, oF) :: (L' + 1 + 1, oT) :: (L' + 1, o5) :: (I, oI) :: tl3 ∧
                  (∀ q ∈ tl2, q ∈ tl3) ∧ (∀ q ∈ tl3, q ∈ tl2 ∨ (@Ne Nat q.1 (L' + 1 + 1 + 1) ∧ @Ne Nat q.1 (L' + 1 + 1) ∧ @Ne Nat q.1 (L' + 1) ∧ @Ne Nat q.1 I ∧ @Ne Nat q.1 I2)) ∧ ToldL (placesT r) tl3 ([pc0 r j (i + 1), pc1 r j (i + 1)].take k) ys) ?_ ?_ _ 0 [] _ rfl ?_
              · clear kF kN1
                rintro k ys news hk ⟨tl3, rfl, hsub, hne3, htold⟩ v I3 oI3 C9 oC D m₃ h6 tk6 E' hP hC hx F N off3 ne
                obtain ⟨pc, up, rfl, hpc⟩ : ∃ pc up, v = .str (S pc) up ∧ [pc0 r j (i + 1), pc1 r j (i + 1)][k]? = some pc := by
                  have h2 : k = 0 ∨ k = 1 := by omega
                  rcases h2 with rfl | rfl
                  · cases hP; exact ⟨_, _, rfl, rfl⟩
                  · cases hP; exact ⟨_, _, rfl, rfl⟩
                have hpl : 0 < pc.length ∧ pc.length < r.length ∧ ∀ c ∈ pc, c ∈ r := by
                  have h2 : k = 0 ∨ k = 1 := by omega
                  rcases h2 with rfl | rfl
                  · cases hpc
                    refine ⟨by rw [List.length_take, List.length_drop]; omega, by rw [List.length_take, List.length_drop]; omega, fun c hc => List.mem_of_mem_drop (List.mem_of_mem_take hc)⟩
                  · cases hpc
                    refine ⟨by rw [List.length_append, List.length_take, List.length_drop]; omega, by rw [List.length_append, List.length_take, List.length_drop]; omega, fun c hc => ?_⟩
                    rcases List.mem_append.mp hc with hc | hc
                    · exact List.mem_of_mem_drop hc
                    · exact List.mem_of_mem_take hc
                have hlp : (S pc).length ≤ 7 := by rw [S_len]; omega
                clear hP
                k_steps
                refine Hold.out ?_
                obtain ⟨x, dx, hh, od, vs, c, hval, hTab⟩ := htab2 pc.length hpl.1 hpl.2.1
                replace hTab := hTab.mono hsub
                rename Fr _ _ _ _ => kF
                rename News _ _ _ _ => kN
                have Nt : ∀ q ∈ tl3, (_ : Heap).get? q.1 = some q.2 := fun q hq => (kN q (.tail _ (.tail _ (.tail _ (.tail _ (.tail _ (.tail _ (.tail _ (.tail _ (.tail _ hq)))))))))).1
                rw [S_len]
                refine tail_any (Heap.dictOf_iff.mpr ⟨oD, Nt _ (hsub _ hDm), hoD⟩ : Heap.DictOf (intKind pg w) _ D9 kvs).typeIs slot_dict_getitem.lookup (wpAny_getItem_of (knd := intKind pg w) (k := (pc.length : Int)) (intKind_is _ _ _ _) (Heap.dictOf_iff.mpr ⟨oD, Nt _ (hsub _ hDm), hoD⟩ : Heap.DictOf (intKind pg w) _ D9 kvs).mapOf hval ?_) (by with_unfolding_all rfl)
                obtain ⟨hs9, tk9', n9, rfl⟩ := hTab.entry
                k_steps
                refine Hold.out ?_
                have i1 := Nt _ hTab.inst
                have i2 := Nt _ hTab.dict
                k_dflt (refine' method_inst kF X (⟨i1, rfl, rfl, i2⟩ : InstAt _ x (instObj 221 dx) 221 (some (dictOf [⟨hs9, .str (Str.ofString "_headers") tk9', .ref hh⟩] n9))) ?k4 ?k5 ?k6 ?k7 ?_; (case k4 => k_is); (case k5 => k_is); (case k6 => k_is); (case k7 => k_get); k_whole)
                k_steps
                refine Hold.out ?_
                have hr1 : ∀ q ∈ tabRows r pc.length r.length, (∀ c ∈ q.1, c < 127) ∧ q.1.length ≤ 30 := by
                  intro q hq
                  obtain ⟨a, ha, rfl⟩ := List.mem_map.mp hq
                  refine ⟨fun c hc => ?_, by rw [List.length_take]; omega⟩
                  have hc := List.mem_of_mem_take hc
                  have : c ∈ r := by
                    rcases List.mem_append.mp hc with hc | hc
                    · exact List.mem_of_mem_drop hc
                    · exact List.mem_of_mem_take hc
                  rcases hrc c this with rfl | rfl | rfl | rfl <;> omega
                refine wpAny_mono (getall_spec (C.keeps kF.keep) ?_ ?_ (hTab.at Nt) (by omega) (fun c hc => by rcases hrc c (hpl.2.2 c hc) with rfl | rfl | rfl | rfl <;> omega) (by simp; omega) hr1) ?_ fun _ _ e => e
                · show dp + 1 + 20 < recursionLimit
                  omega
                · show un + 3 + 100 < cLine
                  omega
                rintro _ _ ⟨⟨h7, tk7, rfl, hk7⟩, a7, ys7, rfl, hn7, ha7, hs7⟩
                rw [tab_strs r pc (by omega)] at hs7
                have F7 : Fr s.heap L' h7 _ := ⟨kF.ns.keeps hk7, fun b o e => hk7 b o (kF.keep b o e), kF.above⟩
                have far : ∀ (b : Addr) o, Heap.get? h6 b = some o → @Ne Nat a7 b := fun b o e e2 => by
                  have e3 : a7 = b := e2
                  have e4 : Heap.get? h6 a7 = none := hn7
                  rw [e3, e] at e4
                  cases e4
                have f1 := far _ _ (kN _ (.head _)).1
                have f2 := far _ _ (kN _ (.tail _ (.head _))).1
                have f3 := far _ _ (kN _ (.tail _ (.tail _ (.head _)))).1
                have f5 := far _ _ (kN _ (.tail _ (.tail _ (.tail _ (.tail _ (.head _)))))).1
                have f6 := far _ _ (kN _ (.tail _ (.tail _ (.tail _ (.tail _ (.tail _ (.head _))))))).1
                have f7 := far _ _ (kN _ (.tail _ (.tail _ (.tail _ (.tail _ (.tail _ (.tail _ (.head _)))))))).1
                have f8 := far _ _ (kN _ (.tail _ (.tail _ (.tail _ (.tail _ (.tail _ (.tail _ (.tail _ (.head _))))))))).1
                have f9 := far _ _ (kN _ (.tail _ (.tail _ (.tail _ (.tail _ (.tail _ (.tail _ (.tail _ (.tail _ (.head _)))))))))).1
                have N7 := newsAdd kF (fun q hq => ⟨hk7 _ _ (kN q hq).1, (kN q hq).2⟩ : News s.heap L' h7 _) hn7 ha7
                have o3 := off3.mem
                refine LCg.CompEnd.intro F7 N7 ((lP, (listOf #[Value.str (S (pc0 r j (i + 1))) u2, Value.str (S (pc1 r j (i + 1))) tP] 0 : Obj)) :: (I2, oI2) :: (L' + 1 + 1 + 1, oF) :: (L' + 1 + 1, oT) :: (L' + 1, o5) :: (I, oI) :: (a7, LCg.lst ys7) :: tl3) ?_ ?_ ?_ ?_
                · intro q hq
                  simp only [List.mem_cons] at hq ⊢
                  rcases hq with hq | hq | hq | hq | hq | hq | hq | hq | hq | hq | hq
                  all_goals simp [hq]
                · refine LCg.Off3.of fun q hq => ?_
                  have key : q = (a7, LCg.lst ys7) ∨ q ∈ (lP, (listOf #[Value.str (S (pc0 r j (i + 1))) u2, Value.str (S (pc1 r j (i + 1))) tP] 0 : Obj)) :: (I2, oI2) :: (L' + 1 + 1 + 1, oF) :: (L' + 1 + 1, oT) :: (L' + 1, o5) :: (I, oI) :: tl3 := by
                    simp only [List.mem_cons] at hq ⊢
                    rcases hq with hq | hq | hq | hq | hq | hq | hq | hq
                    all_goals simp [hq]
                  rcases key with rfl | hq
                  · exact ⟨f1, f2, f3⟩
                  · exact o3 q hq
                · exact Or.inr ⟨_, .head _, rfl, _, rfl⟩
                · refine ⟨(a7, LCg.lst ys7) :: tl3, rfl, fun q hq => .tail _ (hsub q hq), fun q hq => ?_, ?_⟩
                  · rcases List.mem_cons.mp hq with rfl | hq
                    · exact .inr ⟨f6, f7, f8, f9, f5⟩
                    · exact hne3 q hq
                  · rw [List.take_add_one, hpc]
                    exact .snoc (htold.mono fun q hq => .tail _ hq) (.head _) hs7
              · clear kF kN1
                rintro ys nw ⟨tl3, rfl, hsub, hne3, htold⟩
                intro D h6 tk6 F N off3
                dsimp only
                rename Mk _ => hMk0
                clear hMk0
                have hMk := Mk.mk 18
                obtain ⟨a0, a1, zs0, zs1, rfl, ma0, ma1, sa0, sa1⟩ := ToldL.two htold
                obtain ⟨e1, e2, e3, e4, e5, e6, _⟩ := off3
                k_steps
                refine Hold.out ?_
                rename Fr _ _ _ _ => kF
                rename News _ _ _ _ => kN
                refine LCg.CompSrc.ledger rfl kF kN (.tail _ (.head _)) (by rw [sizeLine_eq]; exact (by decide : (2 : Nat) ≤ 16777216)) fun g => ?_
                refine rest_indU (n := 2) (fun k zs nw => ∃ tl4, nw = (D, LCg.lst [.ref a0, .ref a1]) :: (lP, (listOf #[Value.str (S (pc0 r j (i + 1))) u2, Value.str (S (pc1 r j (i + 1))) tP] 0 : Obj)) :: (I2, oI2) :: (L' + 1 + 1 + 1, oF) :: (L' + 1 + 1, oT) :: (L' + 1, o5) :: (I, oI) :: tl4 ∧
                    (∀ q ∈ tl3, q ∈ tl4) ∧ (∀ q ∈ tl4, q ∈ tl3 ∨ (@Ne Nat q.1 (L' + 1 + 1 + 1) ∧ @Ne Nat q.1 (L' + 1 + 1) ∧ @Ne Nat q.1 (L' + 1) ∧ @Ne Nat q.1 I ∧ @Ne Nat q.1 I2)) ∧ ToldL (placesT r) tl4 ([pc0 r j (i + 1), pc1 r j (i + 1)].take k) zs) ?_ ?_ _ 0 [] _ rfl ?_
                · clear kF kN
                  rintro k ys news hk ⟨tl4, rfl, hsub4, hne4, htold4⟩ v I3 oI3 C9 oC D3 m₃ h6 tk6 E' hP hC hx F N off3 ne
                  obtain ⟨pc, up, rfl, hpc⟩ : ∃ pc up, v = .str (S pc) up ∧ [pc0 r j (i + 1), pc1 r j (i + 1)][k]? = some pc := by
                    have h2 : k = 0 ∨ k = 1 := by omega
                    rcases h2 with rfl | rfl
                    · cases hP; exact ⟨_, _, rfl, rfl⟩
                    · cases hP; exact ⟨_, _, rfl, rfl⟩
                  have hpl : 0 < pc.length ∧ pc.length < r.length ∧ ∀ c ∈ pc, c ∈ r := by
                    have h2 : k = 0 ∨ k = 1 := by omega
                    rcases h2 with rfl | rfl
                    · cases hpc
                      refine ⟨by rw [List.length_take, List.length_drop]; omega, by rw [List.length_take, List.length_drop]; omega, fun c hc => List.mem_of_mem_drop (List.mem_of_mem_take hc)⟩
                    · cases hpc
                      refine ⟨by rw [List.length_append, List.length_take, List.length_drop]; omega, by rw [List.length_append, List.length_take, List.length_drop]; omega, fun c hc => ?_⟩
                      rcases List.mem_append.mp hc with hc | hc
                      · exact List.mem_of_mem_drop hc
                      · exact List.mem_of_mem_take hc
                  have hlp : (S pc).length ≤ 7 := by rw [S_len]; omega
                  clear hP
                  k_steps
                  refine Hold.out ?_
                  rename Fr _ _ _ _ => kF
                  rename News _ _ _ _ => kN
                  have hr127 : ∀ c ∈ r, c < 127 := fun c hc => by rcases hrc c hc with rfl | rfl | rfl | rfl <;> omega
                  refine wpAny_mono (places_spec (C.keeps kF.keep) ?_ ?_ (by omega) (by omega) hr127 (fun c hc => hr127 c (hpl.2.2 c hc))) ?_ fun _ _ e => e
                  · show dp + 1 + 20 < recursionLimit
                    omega
                  · show un + 3 + 100 < cLine
                    omega
                  rintro _ _ ⟨⟨h7, tk7, rfl, hk7⟩, a7, ys7, rfl, hn7, ha7, hs7⟩
                  have F7 : Fr s.heap L' h7 _ := ⟨kF.ns.keeps hk7, fun b o e => hk7 b o (kF.keep b o e), kF.above⟩
                  have far : ∀ (b : Addr) o, Heap.get? h6 b = some o → @Ne Nat a7 b := fun b o e e2 => by
                    have e3 : a7 = b := e2
                    have e4 : Heap.get? h6 a7 = none := hn7
                    rw [e3, e] at e4
                    cases e4
                  have f1 := far _ _ (kN _ (.head _)).1
                  have f2 := far _ _ (kN _ (.tail _ (.head _))).1
                  have f3 := far _ _ (kN _ (.tail _ (.tail _ (.head _)))).1
                  have f5 := far _ _ (kN _ (.tail _ (.tail _ (.tail _ (.tail _ (.tail _ (.head _))))))).1
                  have f6 := far _ _ (kN _ (.tail _ (.tail _ (.tail _ (.tail _ (.tail _ (.tail _ (.head _)))))))).1
                  have f7 := far _ _ (kN _ (.tail _ (.tail _ (.tail _ (.tail _ (.tail _ (.tail _ (.tail _ (.head _))))))))).1
                  have f8 := far _ _ (kN _ (.tail _ (.tail _ (.tail _ (.tail _ (.tail _ (.tail _ (.tail _ (.tail _ (.head _)))))))))).1
                  have f9 := far _ _ (kN _ (.tail _ (.tail _ (.tail _ (.tail _ (.tail _ (.tail _ (.tail _ (.tail _ (.tail _ (.head _))))))))))).1
                  have N7 := newsAdd kF (fun q hq => ⟨hk7 _ _ (kN q hq).1, (kN q hq).2⟩ : News s.heap L' h7 _) hn7 ha7
                  have o3 := off3.mem
                  refine LCg.CompEnd.intro F7 N7 ((D, LCg.lst [.ref a0, .ref a1]) :: (lP, (listOf #[Value.str (S (pc0 r j (i + 1))) u2, Value.str (S (pc1 r j (i + 1))) tP] 0 : Obj)) :: (I2, oI2) :: (L' + 1 + 1 + 1, oF) :: (L' + 1 + 1, oT) :: (L' + 1, o5) :: (I, oI) :: (a7, LCg.lst ys7) :: tl4) ?_ ?_ ?_ ?_
                  · intro q hq
                    simp only [List.mem_cons] at hq ⊢
                    rcases hq with hq | hq | hq | hq | hq | hq | hq | hq | hq | hq | hq | hq
                    all_goals simp [hq]
                  · refine LCg.Off3.of fun q hq => ?_
                    have key : q = (a7, LCg.lst ys7) ∨ q ∈ (D, LCg.lst [.ref a0, .ref a1]) :: (lP, (listOf #[Value.str (S (pc0 r j (i + 1))) u2, Value.str (S (pc1 r j (i + 1))) tP] 0 : Obj)) :: (I2, oI2) :: (L' + 1 + 1 + 1, oF) :: (L' + 1 + 1, oT) :: (L' + 1, o5) :: (I, oI) :: tl4 := by
                      simp only [List.mem_cons] at hq ⊢
                      rcases hq with hq | hq | hq | hq | hq | hq | hq | hq | hq
                      all_goals simp [hq]
                    rcases key with rfl | hq
                    · exact ⟨f1, f2, f3⟩
                    · exact o3 q hq
                  · exact Or.inr ⟨_, .tail _ (.head _), rfl, _, rfl⟩
                  · refine ⟨(a7, LCg.lst ys7) :: tl4, rfl, fun q hq => .tail _ (hsub4 q hq), fun q hq => ?_, ?_⟩
                    · rcases List.mem_cons.mp hq with rfl | hq
                      · exact .inr ⟨f6, f7, f8, f9, f5⟩
                      · exact hne4 q hq
                    · rw [List.take_add_one, hpc]
                      exact .snoc (htold4.mono fun q hq => .tail _ hq) (.head _) hs7
                · clear kF kN
                  rintro ys nw ⟨tl4, rfl, hsub4, hne4, htold4⟩
                  intro D4 h6 tk6 F N off4
                  obtain ⟨b0, b1, ws0, ws1, rfl, mb0, mb1, sb0, sb1⟩ := ToldL.two htold4
                  dsimp only
                  k_steps
                  refine Hold.out ?_
                  rename Fr _ _ _ _ => kF
                  rename News _ _ _ _ => kN
                  rename Mk _ => hMk0
                  clear hMk0
                  have hMk := Mk.mk 19
                  have N0 := fun q hq => (kN q (.tail _ (.tail _ (.tail _ (.tail _ (.tail _ (.tail _ (.tail _ (.tail _ hq))))))))).1
                  refine told_same (kN _ (.tail _ (.head _))).1 (kN _ (.head _)).1 (N0 _ (hsub4 _ ma0)) (N0 _ (hsub4 _ ma1)) (N0 _ mb0) (N0 _ mb1) sa0 sa1 sb0 sb1 (places_ok _ _ (by omega)) (places_ok _ _ (by omega)) ?_ ?_
                  · show un + 3 + 4 < cLine
                    omega
                  have hz0 : zs0.length = (plc (r.map lo1) (pc0 (r.map lo1) j (i + 1))).length := by rw [strsAre_length sa0, places_len, pc0_map]
                  have hz1 : zs1.length = (plc (r.map lo1) (pc1 (r.map lo1) j (i + 1))).length := by rw [strsAre_length sa1, places_len, pc1_map]
                  have is0 : Heap.IsList h6 a0 zs0.toArray := ⟨_, N0 _ (hsub4 _ ma0), rfl, _, rfl⟩
                  have is1 : Heap.IsList h6 a1 zs1.toArray := ⟨_, N0 _ (hsub4 _ ma1), rfl, _, rfl⟩
                  have hlz0 : zs0.length ≤ 7 := by rw [hz0]; exact Nat.le_trans (List.length_filter_le _ _) (by rw [List.length_range, List.length_map]; exact hr5.2)
                  have hlz1 : zs1.length ≤ 7 := by rw [hz1]; exact Nat.le_trans (List.length_filter_le _ _) (by rw [List.length_range, List.length_map]; exact hr5.2)
                  clear N0
                  k_steps
                  refine Hold.out ?_
                  refine len_list (items := zs0.toArray) is0 (by rw [List.size_toArray]; omega) ?_
                  rw [List.size_toArray]
                  have mk2 : ∀ q ∈ (I2, oI2) :: (L' + 1 + 1 + 1, oF) :: (L' + 1 + 1, oT) :: (L' + 1, o5) :: (I, oI) :: tl2, q ∈ (D4, (LCg.lst [.ref b0, .ref b1] : Obj)) :: (D, (LCg.lst [.ref a0, .ref a1] : Obj)) :: (lP, (listOf #[Value.str (S (pc0 r j (i + 1))) u2, Value.str (S (pc1 r j (i + 1))) tP] 0 : Obj)) :: (I2, oI2) :: (L' + 1 + 1 + 1, oF) :: (L' + 1 + 1, oT) :: (L' + 1, o5) :: (I, oI) :: tl4 := fun q hq => by
                    simp only [List.mem_cons] at hq ⊢
                    rcases hq with hq | hq | hq | hq | hq | hq
                    · simp [hq]
                    · simp [hq]
                    · simp [hq]
                    · simp [hq]
                    · simp [hq]
                    · simp [hsub4 _ (hsub _ hq)]
                  have off3 : ∀ q ∈ (L' + 1 + 1 + 1, oF) :: (L' + 1 + 1, oT) :: (L' + 1, o5) :: (I, oI) :: tl2, q.1 ≠ I2 := off2
                  by_cases u0 : zs0.length = 1
                  · have hb0 : (((zs0.length : Nat) : Int) == 1) = true := by rw [u0]; rfl
                    k_steps
                    refine Hold.out ?_
                    refine len_list (items := zs1.toArray) is1 (by rw [List.size_toArray]; omega) ?_
                    rw [List.size_toArray]
                    by_cases u1 : zs1.length = 1
                    · have hb1 : (((zs1.length : Nat) : Int) == 1) = true := by rw [u1]; rfl
                      k_steps
                      refine Hold.out ?_
                      rename News _ _ _ _ => kN
                      rename Fr _ _ _ _ => kF
                      refine wpAny_loadName_cell (c := L' + 1 + 1 + 1) (v := .str (S (innerF (r.map lo1) (i + 1) (outerF (r.map lo1) i) j).2) t8) rfl rfl rfl ⟨_, (kN _ (.tail _ (.tail _ (.tail _ (.tail _ (.head _)))))).1, dF⟩ ?_
                      k_steps
                      refine Hold.out ?_
                      rename Mk _ => hMk0
                      clear hMk0
                      have hMk := Mk.mk 20
                      have hr127 : ∀ c ∈ r, c < 128 := fun c hc => by rcases hrc c hc with rfl | rfl | rfl | rfl <;> omega
                      have hp0 : 0 < (pc0 r j (i + 1)).length ∧ (pc0 r j (i + 1)).length ≤ 7 := by simp only [pc0, List.length_take, List.length_drop]; omega
                      have hp1 : 0 < (pc1 r j (i + 1)).length ∧ (pc1 r j (i + 1)).length ≤ 7 := by simp only [pc1, List.length_append, List.length_take, List.length_drop]; omega
                      have hc0 : ∀ c ∈ pc0 r j (i + 1), c < 128 := fun c hc => hr127 c (List.mem_of_mem_drop (List.mem_of_mem_take hc))
                      have hc1 : ∀ c ∈ pc1 r j (i + 1), c < 128 := fun c hc => hr127 c (by
                        rcases List.mem_append.mp hc with hc | hc
                        · exact List.mem_of_mem_drop hc
                        · exact List.mem_of_mem_take hc)
                      refine use0 kF kN (holding_spec (C.keeps kF.keep) ?_ ?_ ?_ ?_ ?_ ?_) ?_
                      · show dp + 1 + 20 < recursionLimit
                        omega
                      · show un + 3 + 100 < cLine
                        omega
                      · rw [S_len]; exact hp0.1
                      · rw [S_len]; exact hp1.1
                      · rw [S_len]; omega
                      · rw [S_len]; omega
                      rintro _ h7 tk7 hk7 F7 N7 ⟨t71, rfl⟩
                      clear kF kN hk7
                      k_steps
                      refine Hold.out ?_
                      rename Fr _ _ _ _ => kF
                      rename News _ _ _ _ => kN
                      refine use0 kF kN (holding_spec (C.keeps kF.keep) ?_ ?_ ?_ ?_ ?_ ?_) ?_
                      · show dp + 1 + 20 < recursionLimit
                        omega
                      · show un + 3 + 100 < cLine
                        omega
                      · rw [S_len]; exact hp1.1
                      · rw [S_len]; exact hp0.1
                      · rw [S_len]; omega
                      · rw [S_len]; omega
                      rintro _ h8 tk8 hk8 F8 N8 ⟨t81, rfl⟩
                      clear kF kN hk8
                      rw [hld_T _ _ hp0.1 hp1.1 hc0 hc1, hld_T _ _ hp1.1 hp0.1 hc1 hc0, pc0_map, pc1_map]
                      have g0 : (S (hld (pc0 (r.map lo1) j (i + 1)) (pc1 (r.map lo1) j (i + 1)))).length ≤ 1 := by rw [S_len]; exact hld_len _ _
                      have g1 : (S (hld (pc1 (r.map lo1) j (i + 1)) (pc0 (r.map lo1) j (i + 1)))).length ≤ 1 := by rw [S_len]; exact hld_len _ _
                      have g2 : (S (innerF (r.map lo1) (i + 1) (outerF (r.map lo1) i) j).2).length ≤ 200 := by
                        rw [S_len]
                        have h1 := outerF_len (r.map lo1) i (by omega)
                        have h2 := innerF_len (r.map lo1) (i + 1) (outerF (r.map lo1) i) j
                        omega
                      dsimp only
                      k_steps
                      rename Fr _ _ _ _ => kF
                      rename News _ _ _ _ => kN
                      have zc := kN _ (.tail _ (.tail _ (.tail _ (.tail _ (.head _)))))
                      refine wpAny_storeName_cell (c := L' + 1 + 1 + 1) rfl rfl rfl ⟨_, zc.1, dF⟩ (fun h9 hc9 hs9 => ?_)
                      obtain ⟨oF9, e9, d9⟩ := hc9
                      have F9 := kF.change hs9 zc.2.1 zc.2.2
                      have off9 : ∀ q ∈ (L' + 1 + 1 + 1, oF9) :: (L' + 1 + 1, oT) :: (L' + 1, o5) :: (I, oI) :: tl2, q.1 ≠ I2 := fun q hq => by
                        rcases List.mem_cons.mp hq with rfl | hq
                        · exact off3 (L' + 1 + 1 + 1, oF) (.head _)
                        · exact off3 q (.tail _ hq)
                      have N9 : News s.heap L' h9 ((I2, oI2) :: (L' + 1 + 1 + 1, oF9) :: (L' + 1 + 1, oT) :: (L' + 1, o5) :: (I, oI) :: tl2) := fun q hq => by
                        have key : q = (L' + 1 + 1 + 1, oF9) ∨ (q ∈ (I2, oI2) :: (L' + 1 + 1 + 1, oF) :: (L' + 1 + 1, oT) :: (L' + 1, o5) :: (I, oI) :: tl2 ∧ @Ne Nat q.1 (L' + 1 + 1 + 1)) := by
                          rcases List.mem_cons.mp hq with rfl | hq
                          · exact .inr ⟨.head _, Ne.symm (off3 (L' + 1 + 1 + 1, oF) (.head _))⟩
                          · rcases List.mem_cons.mp hq with rfl | hq
                            · exact .inl rfl
                            · refine .inr ⟨.tail _ (.tail _ hq), ?_⟩
                              rcases List.mem_cons.mp hq with rfl | hq
                              · exact neN (by dsimp only; omega)
                              · rcases List.mem_cons.mp hq with rfl | hq
                                · exact neN (by dsimp only; omega)
                                · rcases List.mem_cons.mp hq with rfl | hq
                                  · exact Ne.symm (off (L' + 1 + 1 + 1, _) (.head _))
                                  · exact hm1 q hq
                        rcases key with rfl | ⟨hq, hne⟩
                        · exact ⟨e9, zc.2⟩
                        · have z := kN q (mk2 q hq)
                          exact ⟨hs9.extBut _ _ hne z.1, z.2⟩
                      clear kF kN
                      k_steps
                      have huq : uniq (r.map lo1) j (i + 1) = true := by
                        unfold uniq
                        rw [← hz0, ← hz1, u0, u1]; rfl
                      have hst : innerF (r.map lo1) (i + 1) (outerF (r.map lo1) i) (j + 1) = ((innerF (r.map lo1) (i + 1) (outerF (r.map lo1) i) j).1 + 1, (innerF (r.map lo1) (i + 1) (outerF (r.map lo1) i) j).2 ++ (hld (pc0 (r.map lo1) j (i + 1)) (pc1 (r.map lo1) j (i + 1)) ++ hld (pc1 (r.map lo1) j (i + 1)) (pc0 (r.map lo1) j (i + 1)))) := by
                        show turnF _ _ _ _ = _
                        unfold turnF
                        rw [if_pos huq]
                      rw [S_append, S_append] at d9
                      refine REnd.next (nx' := (L' + 1 + 1 + 1, oF9) :: (L' + 1 + 1, oT) :: (L' + 1, o5) :: (I, oI) :: tl2) (by assumption) N9 off9 ⟨oF9, rfl, ⟨_, by rw [hst]; exact d9⟩, ⟨_, by rw [hst]; rfl⟩, ⟨t6, rfl⟩⟩
                    · have hb1 : (((zs1.length : Nat) : Int) == 1) = false := beq_eq_false_iff_ne.mpr (by omega)
                      k_steps
                      have huq : uniq (r.map lo1) j (i + 1) = false := by
                        unfold uniq
                        rw [← hz0, ← hz1, beq_eq_false_iff_ne.mpr u1, Bool.and_false]
                      have hst : innerF (r.map lo1) (i + 1) (outerF (r.map lo1) i) (j + 1) = innerF (r.map lo1) (i + 1) (outerF (r.map lo1) i) j := by
                        show turnF _ _ _ _ = _
                        unfold turnF
                        rw [huq, if_neg (by decide)]
                      refine REnd.next (nx' := (L' + 1 + 1 + 1, oF) :: (L' + 1 + 1, oT) :: (L' + 1, o5) :: (I, oI) :: tl2) (by assumption) (fun q hq => kN q (mk2 q hq)) off3 ⟨oF, rfl, ⟨t8, by rw [hst]; exact dF⟩, ⟨t7, by rw [hst]; rfl⟩, ⟨t6, rfl⟩⟩
                  · have hb0 : (((zs0.length : Nat) : Int) == 1) = false := beq_eq_false_iff_ne.mpr (by omega)
                    k_steps
                    have huq : uniq (r.map lo1) j (i + 1) = false := by
                      unfold uniq
                      rw [← hz0, ← hz1, beq_eq_false_iff_ne.mpr u0, Bool.false_and]
                    have hst : innerF (r.map lo1) (i + 1) (outerF (r.map lo1) i) (j + 1) = innerF (r.map lo1) (i + 1) (outerF (r.map lo1) i) j := by
                      show turnF _ _ _ _ = _
                      unfold turnF
                      rw [huq, if_neg (by decide)]
                    refine REnd.next (nx' := (L' + 1 + 1 + 1, oF) :: (L' + 1 + 1, oT) :: (L' + 1, o5) :: (I, oI) :: tl2) (by assumption) (fun q hq => kN q (mk2 q hq)) off3 ⟨oF, rfl, ⟨t8, by rw [hst]; exact dF⟩, ⟨t7, by rw [hst]; rfl⟩, ⟨t6, rfl⟩⟩
                · exact ⟨tl3, rfl, (fun _ h => h), (fun _ h => .inl h), .nil⟩
              · exact ⟨tl2, rfl, (fun _ h => h), (fun _ h => .inl h), .nil⟩
            · clear kF kN kN' rgX dF hrs hsm
              rintro m₂ nx h2 tk9 ⟨oF, rfl, ⟨t8, dF⟩, ⟨t7, hm⟩, ⟨t6, hme⟩⟩ F N
              replace N : News s.heap L' h2 _ := N
              replace F : Fr s.heap L' h2 _ := F
              dsimp only
              k_steps
              have off9 : ∀ q ∈ (L' + 1 + 1 + 1, oF) :: (L' + 1 + 1, oT) :: (L' + 1, o5) :: tl2, q.1 ≠ I := fun q hq => by
                rcases List.mem_cons.mp hq with rfl | hq
                · have z := off _ (.head _)
                  exact z
                · exact off q (.tail _ hq)
              refine REnd.next (nx' := (L' + 1 + 1 + 1, oF) :: (L' + 1 + 1, oT) :: (L' + 1, o5) :: tl2) F (fun q hq => N q ?_) off9 ⟨oF, oT, rfl, dT, ⟨t8, dF⟩, ⟨t7, hm⟩⟩
              simp only [List.mem_cons] at hq ⊢
              rcases hq with hq | hq | hq | hq | hq <;> simp [hq]
          · clear kF kN rgX dF dT hm1' e0
            rintro m₁ nx h tk9 ⟨oF, oT, rfl, dT, ⟨t8, dF⟩, t7, hm⟩ F N
            have F9 := frKnow (ps := [(Str.ofString "pairs", .int (((outerF (r.map lo1) (r.length - 1)).1 : Nat) : Int) t7)]) F (know1 hm know0)
            replace N : News s.heap L' h _ := N
            replace F9 : Fr s.heap L' h _ := F9
            clear F hm hrs hsm
            dsimp only
            rename Mk _ => hMk0
            clear hMk0
            have hMk := Mk.mk 14
            have hlow : Txt.lower (S r) = S (r.map lo1) := lower_S r fun c hc => by rcases hrc c hc with rfl | rfl | rfl | rfl <;> omega
            k_steps
            refine Hold.out ?_
            rename Fr _ _ _ _ => kF
            rename News _ _ _ _ => kN
            rename IsRange _ _ _ _ _ _ _ _ => rgX
            obtain ⟨o6, t6, d6, kN6⟩ : ∃ o6 t6, o6.data = .cell (some (.str (S (r.map lo1)) t6)) ∧ News s.heap L' _ ((L' + 1 + 1 + 1, oF) :: (L' + 1 + 1, oT) :: (L' + 1, o6) :: tl2) := ⟨_, _, by rw [← hlow]; assumption, kN⟩
            rw [hlow] at rgX
            clear hlow
            clear kN
            have hll : (S (r.map lo1)).length ≤ 7 := by rw [S_len, List.length_map]; exact hr5.2
            have hrs : Builtin.Range.rangeSize 1 ((S (r.map lo1)).length : Int) 1 = ((r.length - 1 : Nat) : Int) := by
              rw [S_len, List.length_map]
              unfold Builtin.Range.rangeSize
              rw [if_pos (by decide), if_pos (by omega)]
              omega
            have hsm : Builtin.Range.small 1 ((S (r.map lo1)).length : Int) 1 = true := small_one (by omega) (by omega) (by omega) (by omega)
            generalize hl : r.map lo1 = l at *
            have hl5 : l.length = r.length := by rw [← hl, List.length_map]
            refine LCt.CompSrcT.range rfl kF kN6 rgX hsm hrs (by rw [sizeLine_eq]; omega) fun g => ?_
            refine rest_indT (n := r.length - 1) (fun i ys nw => nw = (L' + 1 + 1 + 1, oF) :: (L' + 1 + 1, oT) :: (L' + 1, o6) :: tl2 ∧ IntsAre ys ((((List.range i).map (· + 1)).filter fun k => l.drop k ++ l.take k == l).map fun k : Nat => (k : Int))) ?_ ?_ _ 0 [] _ (by omega) ⟨rfl, .nil⟩
            · rintro i ys news hi ⟨rfl, hys⟩ v I oI C9 oC D m₂ h tk E' ⟨t9, rfl⟩ hC hx F N off ne
              clear kF kN6 rgX
              k_steps
              have hsl : Txt.slice (S l) (some (1 + (i : Int))) none ++ Txt.slice (S l) none (some (1 + (i : Int))) = S (l.drop (i + 1) ++ l.take (i + 1)) := by
                rw [show (1 : Int) + (i : Int) = ((i + 1 : Nat) : Int) by omega, slice_sn _ _ (by omega), slice_ns _ _ (by omega), S_append]
              generalize hb : (Txt.slice (S l) (some (1 + (i : Int))) none ++ Txt.slice (S l) none (some (1 + (i : Int))) == S l) = b
              rw [hsl, S_beq] at hb
              unfold TestPost
              rename Fr _ _ _ _ => kF
              rename News _ _ _ _ => kN
              cases b with
              | true =>
                rw [if_pos rfl]
                refine of_any fun Q9 hQ9 => ?_
                k_steps
                refine hQ9 _ _ (LCg.CompEnd.intro kF kN ((L' + 1 + 1 + 1, oF) :: (L' + 1 + 1, oT) :: (L' + 1, o6) :: tl2) (fun p hp => hp) off trivial ⟨rfl, ?_⟩)
                rw [List.range_succ, List.map_append, List.filter_append, List.map_cons, List.map_nil, List.filter_cons_of_pos (by exact hb), List.filter_nil, List.map_append]
                refine hys.append ?_
                rw [show (1 : Int) + (i : Int) = ((i + 1 : Nat) : Int) by omega]
                exact .cons _ _ .nil
              | false =>
                rw [if_neg (by simp)]
                refine LCg.CompEnd.intro kF kN ((L' + 1 + 1 + 1, oF) :: (L' + 1 + 1, oT) :: (L' + 1, o6) :: tl2) (fun p hp => hp) off trivial ⟨rfl, ?_⟩
                rw [List.range_succ, List.map_append, List.filter_append, List.map_cons, List.map_nil, List.filter_cons_of_neg (by rw [hb]; simp), List.filter_nil, List.append_nil]
                exact hys
            · clear kF kN6 rgX
              rintro ys nw ⟨rfl, hys⟩
              intro D h tk F N off
              dsimp only
              have hlaw := law_plain l (by omega) (by rw [← hl]; exact lo1_ab r hrc)
              have hag : (((List.range (r.length - 1)).map (· + 1)).filter fun k => l.drop k ++ l.take k == l) = againF l := by unfold againF; rw [hl5]
              rw [hag] at hys
              unfold lawF at hlaw
              rw [hl5] at hlaw
              k_steps
              refine Hold.out ?_
              rename Fr _ _ _ _ => kF
              rename News _ _ _ _ => kN
              refine ints_ne (kN _ (.tail _ (.head _))).1 (kN _ (.head _)).1 rfl rfl hys ?_ ?_
              · show un + 3 + 4 < cLine
                omega
              rw [show ((againF l).map fun k : Nat => (k : Int)).isEmpty = (againF l).isEmpty by cases againF l <;> rfl]
              cases hga : againF l with
              | cons a b =>
                rw [hga, if_pos (by rfl)] at hlaw
                have hz : (((outerF l (r.length - 1)).1 : Nat) : Int) = 0 := by
                  have := eq_of_beq hlaw
                  omega
                rw [show (!(a :: b).isEmpty) = true from rfl]
                k_steps
                rename Fr _ _ _ _ => kF
                dsimp only
                exact hQ _ _ ⟨⟨_, _, rfl, kF.keep⟩, by rw [hz]; rfl⟩
              | nil =>
                rw [hga, if_neg (by decide)] at hlaw
                rw [show (!([] : List Nat).isEmpty) = false from rfl]
                k_steps
                refine Hold.out ?_
                rename Fr _ _ _ _ => kF
                rename News _ _ _ _ => kN
                refine comp_sign (outerF l (r.length - 1)).2 rfl (by with_unfolding_all rfl) (by decide) (by with_unfolding_all rfl) (by decide) (by with_unfolding_all rfl) kF kN ?_ ?_ ?_ (by intro _; with_unfolding_all rfl)
                · clear kF kN
                  intro C8 oC m₂ s₃ a u E' hab hC hx F N
                  refine of_any fun Q9 hQ9 => ?_
                  k_steps
                  exact hQ9 _ _ ⟨by rw [in_one, Bool.not_not], ⟨s₃.heap, s₃.toks, rfl, fun _ _ e => e⟩⟩
                · clear kF kN
                  intro C8 oC m₂ s₃ v E' hC hx F N
                  refine of_any fun Q9 hQ9 => ?_
                  k_steps
                  exact hQ9 _ _ ⟨rfl, ⟨s₃.heap, s₃.toks, rfl, fun _ _ e => e⟩⟩
                · clear kF kN
                  intro D1 ys1 h1 tk1 n1 F N hs1
                  k_steps
                  refine Hold.out ?_
                  rename Fr _ _ _ _ => kF
                  rename News _ _ _ _ => kN
                  refine comp_sign l rfl (by with_unfolding_all rfl) (by decide) (by with_unfolding_all rfl) (by decide) (by with_unfolding_all rfl) kF kN ?_ ?_ ?_ (by intro _; with_unfolding_all rfl)
                  · clear kF kN
                    intro C8 oC m₂ s₃ a u E' hab hC hx F N
                    refine of_any fun Q9 hQ9 => ?_
                    k_steps
                    exact hQ9 _ _ ⟨by rw [in_one, Bool.not_not], ⟨s₃.heap, s₃.toks, rfl, fun _ _ e => e⟩⟩
                  · clear kF kN
                    intro C8 oC m₂ s₃ v E' hC hx F N
                    refine of_any fun Q9 hQ9 => ?_
                    k_steps
                    exact hQ9 _ _ ⟨rfl, ⟨s₃.heap, s₃.toks, rfl, fun _ _ e => e⟩⟩
                  · clear kF kN
                    intro D2 ys2 h2 tk2 n2 F N hs2
                    k_steps
                    refine Hold.out ?_
                    rename Fr _ _ _ _ => kF
                    rename News _ _ _ _ => kN
                    refine strs_eq (kN _ (.tail _ (.head _))).1 (kN _ (.head _)).1 hs1 hs2 ?_ ?_ ?_ ?_
                    · intro x hx
                      obtain ⟨c, hc, rfl⟩ := List.mem_map.mp hx
                      refine strOk_S [c] fun d hd => ?_
                      have hc := (List.mem_filter.mp hc).1
                      simp at hc hd
                      omega
                    · rw [eq_of_beq hlaw]
                    · show un + 3 + 4 < cLine
                      omega
                    k_steps
                    dsimp only
                    exact hQ _ _ ⟨⟨_, _, rfl, kF.keep⟩, rfl⟩
    · rw [sizeLine_eq, List.length_take, List.length_drop]; show _ + (5 - _) ≤ _; omega
  · with_unfolding_all rfl
  · intro _; with_unfolding_all rfl
  · rw [sizeLine_eq]; show 5 ≤ _; omega
end
end Mine

theorem PySem.Challenge.cw_wa0033_01_holds : PySem.Challenge.rw_wa0033_01.Holds := by
  refine Mine.hd ?_
  k_fill
  intro w s₀ s₁ mg mb G Y fa o pm cd doc dV kV ho hd hcd hD hmg hg args vals as hpre hlay hrd hwl hlo
  have KX := kIn_of Y
  have X := (Ground.X G).1
  have V := (Ground.X G).2
  refine Ground.open G ?_
  intro T B D TE TW
  refine guard_noD D (by decide +kernel) ?_
  clear D
  obtain ⟨_, _, M⟩ := bmod_of_top T
  have TA := at_of_top T
  obtain ⟨_, _, he, B0⟩ := based_of_top T rfl hmg ho hd
  have he' : cd = _ := he
  subst he'
  clear he
  wrow_args hpre hlay hrd hwl hlo
  first | refine callC_kw (enter_call ?_) | refine enter_call ?_ | refine callC_kw (enter_callW ?_) | refine enter_callW ?_ | w_how
  w_top on
  refine codeAny_mono ?_ (fun _ _ g => GoodW.toG g)
  have hlaw : mg (Str.ofString "law") = some (.ref 249) := mg_of KX T.g (by k_is)
  have efa : fa = 249 := by
    have e := Eq.trans (Eq.symm hmg) hlaw
    injection e with e
    injection e
  subst efa
  rename_i ns _ _ _ _ _ _ _ lsA sv _ hL _ _ _ hI _ hcond _
  refine codeAny_mono (Mine.law_code (dp := callerA.depth) (un := callerA.units) (fr := callerA.frames) (gd := callerA.guards) ⟨KX, _, _, _, _, _, T⟩ (by decide +kernel) (by decide +kernel) hL hI (by omega)) ?_
  rintro _ _ ⟨⟨h', tk, rfl, hk⟩, rfl⟩
  refine ⟨.inl ⟨.bool true, .bool true, [], rfl, raisesW_false ?_, .bool true, ?_, unshared_nil⟩, hk, rfl, hg⟩
  · wrow_none_raised
  · wrow_post
