import PyProof.Rows.All
import Wide.All
import OpenK.AllK
import Wide.FinOn
import PySem.Challenge.RW_wf0004_01
open PySem PySem.W PyProof.Rows PySem.Calls
set_option Elab.async false
set_option maxRecDepth 100000
/-! part W0 -/
namespace Mine
abbrev pw := PySem.Challenge.pw_wf0004_01
def kept : List Nat := [1, 3, 4, 6, 7, 9, 10, 11, 12, 14, 15, 16, 17, 18, 19, 20]
def q : Program := view pw kept
def loose : List Str := [Str.ofString "b1_set"]

def defAt (i : Nat) : DefRec := match pw.main.body[i]? with
  | some (.FunctionDef n a b _ _ _ sc _ _ ps) => ⟨n, a, b, sc, ps⟩
  | _ => ⟨"", ⟨[], [], none, [], [], none, []⟩, [], ⟨.function, [], false, false, []⟩, ⟨0,0,0,0⟩⟩

theorem recs_q : recsOf q = [1, 4, 7, 11, 12, 14, 15, 16, 17, 18, 19, 20].map defAt := by kernel_rfl

theorem fn_at {i : Nat} {nm : Str} {ps : Arguments} {bd : List Stmt} {dl rt tp} {sc : Scope} {ts bi pos} (hb : pw.main.body[i]? = some (.FunctionDef nm ps bd dl rt tp sc ts bi pos))
    (hi : [1, 4, 7, 11, 12, 14, 15, 16, 17, 18, 19, 20].contains i = true) {mean : ExcName → Option Value} {mg mb : Str → Option Value} {h : Heap} (T : Top q loose mean mg mb h) :
    ∃ a o pm code doc, mg nm = some (.ref a) ∧ h.get? a = some o ∧ o.data = .func (docDef nm ps bd sc pm code doc) ∧ h.CodeRec code nm := by
  have e : defAt i = ⟨nm, ps, bd, sc, pos⟩ := by unfold defAt; rw [hb]
  have hm : defAt i ∈ recsOf q := by rw [recs_q]; exact List.mem_map_of_mem (List.contains_iff_mem.mp hi)
  have := T.fn _ hm
  rw [e] at this
  exact this

/-- what the top left of the set of table B.1 -/
def b1List : List Int := [65024, 65025, 65026, 65027, 65028, 65029, 6150, 65030, 65031, 65032, 65033, 6155, 6156, 6157, 8203, 8204, 8205, 65034, 65035, 65036, 65037, 65038, 65039, 173, 847, 8288, 65279]

/-- room around a call -/
structure Rm (A : Around) (d u : Nat) : Prop where
  hh : A.handled = none
  hd : A.depth + d < recursionLimit
  hu : A.units + u < cLine
  hf : ∃ fs, A.frames = some fs

abbrev Stays (h h' : Heap) : Prop := ∀ b o, h.get? b = some o → h'.get? b = some o
end Mine
namespace Mine
theorem enter_fn {w : World} {A : Around} {E : Value → Shared → Prop} {s : Shared} {Q : Value → Shared → Prop} {mean : ExcName → Option Value} {mg mb : Str → Option Value}
    {nm : Str} {ps : Arguments} {bd : List Stmt} {sc : Scope} {pm code doc : Value} {f : Addr} {o : Obj} {args : List Value} {binds : List (Str × Value)} {d u : Nat}
    (R : Rm A d u) (T : Top q loose mean mg mb s.heap) (ho : s.heap.get? f = some o) (hdata : o.data = .func (docDef nm ps bd sc pm code doc)) (hcd : s.heap.CodeRec code nm)
    (hbind : bindArgs (docDef nm ps bd sc pm code doc) ⟨args, []⟩ = pure binds) (hloc : ∀ x ∈ binds, sc.names.lookup x.1 = some .local)
    (h : ∀ h₁ tk, Fr s.heap s.heap.objs.size h₁ (fun x => binds.reverse.lookup x) → Rm (A.deeper (envOf nm sc s.heap.objs.size f code)) (d - 1) (u - 3) → Top q loose mean mg mb s.heap →
      wpAny (model pw w) (A.deeper (envOf nm sc s.heap.objs.size f code)) (execs bd (envOf nm sc s.heap.objs.size f code))
        (fun fl s' => Q (match fl with | .ret v => v | _ => .none) s') (fun _ _ => False) { s with heap := h₁, toks := tk })
    (hd : 1 ≤ d := by decide) (hu : 3 ≤ u := by decide)
    (hco : sc.isCoroutine = false := by rfl) (hgen : sc.isGenerator = false := by rfl) (hk : sc.kind = .function := by rfl)
    (hcell : ∀ x ∈ sc.names, x.2 ≠ .cell := by decide) :
    wpAny (model pw w) A (call (.ref f) args) Q E s := by
  have hd' := R.hd
  have hu' := R.hu
  obtain ⟨fs, hfs⟩ := R.hf
  refine wpAny_call (call_plain_ret (by omega) ho hdata T.nolimit hcd hbind hloc (fun h₁ F => ?_) hco hgen hk hcell)
  refine h h₁ _ F ⟨R.hh, ?_, ?_, ⟨envOf nm sc s.heap.objs.size f code :: fs, ?_⟩⟩ T
  · show A.depth + 1 + (d - 1) < recursionLimit; omega
  · show A.units + 3 + (u - 3) < cLine; omega
  · show A.frames.map _ = _; rw [hfs]; rfl
end Mine

namespace Mine
/-- what stands of the top through the whole call -/
structure Gd (mean : ExcName → Option Value) (mg mb : Str → Option Value) (h : Heap) : Prop where
  T : Top q loose mean mg mb h
  b1 : ∃ b o, mg (Str.ofString "b1_set") = some (.ref b) ∧ h.get? b = some o ∧ o.IntSetOf (fun k => b1List.contains k) 27
theorem Gd.keeps {mean : ExcName → Option Value} {mg mb : Str → Option Value} {h h' : Heap} (G : Gd mean mg mb h) (k : Stays h h') : Gd mean mg mb h' :=
  ⟨G.T.keeps k, let ⟨b, o, h1, h2, h3⟩ := G.b1; ⟨b, o, h1, k _ _ h2, h3⟩⟩
theorem Gd.fn {mean : ExcName → Option Value} {mg mb : Str → Option Value} {h : Heap} (G : Gd mean mg mb h) {i : Nat} {nm : Str} {ps : Arguments} {bd : List Stmt} {dl rt tp} {sc : Scope} {ts bi pos} (hb : pw.main.body[i]? = some (.FunctionDef nm ps bd dl rt tp sc ts bi pos))
    (hi : [1, 4, 7, 11, 12, 14, 15, 16, 17, 18, 19, 20].contains i = true) : ∃ a o fd, mg nm = some (.ref a) ∧ h.get? a = some o ∧ o.data = .func fd :=
  let ⟨a, o, _, _, _, h, h', h'', _⟩ := fn_at hb hi G.T; ⟨a, o, _, h, h', h''⟩
theorem frPut {h₀ h : Heap} {L : Addr} {m : Str → Option Value} {x : Str} {v : Value} (F : Fr h₀ L h m) (hx : m x = some v) : Fr h₀ L h (fun y => if y = x then some v else m y) := by
  have e : (fun y => if y = x then some v else m y) = m := by
    funext y
    by_cases h : y = x
    · rw [if_pos h, h, hx]
    · rw [if_neg h]
  rw [e]
  exact F
theorem frPuts {h₀ h : Heap} {L : Addr} {m : Str → Option Value} (ps : List (Str × Value)) (F : Fr h₀ L h m) (hx : ∀ p ∈ ps, m p.1 = some p.2) : Fr h₀ L h (kstB m ps) := by
  have e : kstB m ps = m := by
    funext y
    exact kstB_eq hx fun _ => rfl
  rw [e]
  exact F
theorem kstB_id {m : Str → Option Value} {ps : List (Str × Value)} (hx : ∀ p ∈ ps, m p.1 = some p.2) : kstB m ps = m := by
  funext y
  exact kstB_eq hx fun _ => rfl
theorem newsOne {h₀ h : Heap} {L : Addr} {news : List (Addr × Obj)} {p : Addr × Obj} (N : News h₀ L h news) (hp : p ∈ news) : News h₀ L h [p] := fun q hq => by
  rw [List.mem_singleton.mp hq]
  exact N p hp
abbrev tupO (vs : List Value) (n : Nat := 0) : Obj := { cls := .type "tuple", data := .seq vs.toArray n }
abbrev listO (vs : List Value) (n : Nat := 0) : Obj := { cls := .type "list", data := .seq vs.toArray n }
theorem newsStays {h₀ h h' : Heap} {L : Addr} {news : List (Addr × Obj)} (N : News h₀ L h news) (st : Stays h h') : News h₀ L h' news := fun p hp => ⟨st _ _ (N p hp).1, (N p hp).2⟩
theorem Rm.less {A : Around} {d u d' u' : Nat} (R : Rm A d u) (hd : d' ≤ d) (hu : u' ≤ u) : Rm A d' u' := ⟨R.hh, by have := R.hd; omega, by have := R.hu; omega, R.hf⟩
end Mine

/-! part P1 -/
namespace Mine
open PySem.Builtin.Str PySem.StrLaws

theorem occ_skip (x : Str) (c limit : Nat) : ∀ (L : List Nat) (st : Array Nat × Nat), (∀ i ∈ L, x.cps.toList[i]? ≠ some c) → (forIn L st (occBody x ⟨#[c]⟩ x.length limit)).run = st
  | [], st, _ => rfl
  | a :: L, st, h => by
    rw [List.forIn_cons]
    unfold occBody
    rw [if_neg (fun hc => h a (.head _) ((subAt_one x c a).mp ⟨hc.1.2, hc.2⟩))]
    exact occ_skip x c limit L st fun i hi => h i (.tail _ hi)
theorem occ_full (x y : Str) (hi limit : Nat) : ∀ (L : List Nat) (st : Array Nat × Nat), limit ≤ st.1.size → (forIn L st (occBody x y hi limit)).run = st
  | [], st, _ => rfl
  | a :: L, st, h => by
    rw [List.forIn_cons]
    unfold occBody
    rw [if_neg (fun hc => by have := hc.1.1.1; omega)]
    exact occ_full x y hi limit L st h
theorem occ_hit (x : Str) (c limit a : Nat) (L : List Nat) (st : Array Nat × Nat) (hx : x.cps.toList[a]? = some c) (h1 : st.1.size < limit) (h2 : st.2 ≤ a) :
    (forIn (a :: L) st (occBody x ⟨#[c]⟩ x.length limit)).run = (forIn L (st.1.push a, a + 1) (occBody x ⟨#[c]⟩ x.length limit)).run := by
  rw [List.forIn_cons]
  have := (subAt_one x c a).mpr hx
  unfold occBody
  rw [if_pos ⟨⟨⟨h1, h2⟩, this.1⟩, this.2⟩]
  rfl
theorem forIn_app {α β : Type} (L M : List α) (st : β) (f : α → β → Id (ForInStep β)) (hf : ∀ a b, ∃ b', f a b = pure (ForInStep.yield b')) : (forIn (L ++ M) st f).run = (forIn M (forIn L st f).run f).run := by
  induction L generalizing st with
  | nil => rfl
  | cons a L ih =>
    rw [List.cons_append, List.forIn_cons, List.forIn_cons]
    obtain ⟨b', e⟩ := hf a st
    rw [e]
    exact ih b'
theorem occBody_yields (s sub : Str) (hi limit : Nat) : ∀ a b, ∃ b', occBody s sub hi limit a b = pure (ForInStep.yield b') := fun a b => by
  unfold occBody
  split
  · exact ⟨_, rfl⟩
  · exact ⟨_, rfl⟩

theorem occ_two (A B C : List Nat) (c : Nat) (hA : c ∉ A) (hB : c ∉ B) (x : Str) (hx : x.cps.toList = A ++ c :: (B ++ c :: C)) :
    occurrences x ⟨#[c]⟩ 0 x.length 2 = [A.length, A.length + 1 + B.length] := by
  rw [occ_eq]
  have hl : x.length = A.length + 1 + B.length + 1 + C.length := by
    show x.cps.size = _
    rw [← Array.length_toList, hx]; simp; omega
  have hr : List.range' 0 (x.length + 1 - 0) = List.range' 0 A.length ++ (A.length :: (List.range' (A.length + 1) B.length ++ ((A.length + 1 + B.length) :: List.range' (A.length + 1 + B.length + 1) (C.length + 1)))) := by
    rw [hl]
    have e1 : A.length + 1 + B.length + 1 + C.length + 1 - 0 = A.length + ((B.length + ((C.length + 1) + 1)) + 1) := by omega
    rw [e1, ← List.range'_append_1, List.range'_succ, ← List.range'_append_1, List.range'_succ]
    simp only [Nat.zero_add]
  have s1 : (forIn (List.range' 0 A.length) ((#[] : Array Nat), 0) (occBody x ⟨#[c]⟩ x.length 2)).run = (#[], 0) := occ_skip x c 2 _ _ (fun i hi hc => by
    rw [List.mem_range'_1] at hi
    rw [hx, List.getElem?_append_left (by omega)] at hc
    exact hA (List.mem_of_getElem? hc))
  have s2 : (forIn (List.range' (A.length + 1) B.length) ((#[] : Array Nat).push A.length, A.length + 1) (occBody x ⟨#[c]⟩ x.length 2)).run = ((#[] : Array Nat).push A.length, A.length + 1) := occ_skip x c 2 _ _ (fun i hi hc => by
    rw [List.mem_range'_1] at hi
    rw [hx, List.getElem?_append_right (by omega), show i - A.length = (i - A.length - 1) + 1 by omega, List.getElem?_cons_succ, List.getElem?_append_left (by omega)] at hc
    exact hB (List.mem_of_getElem? hc))
  rw [hr, forIn_app _ _ _ _ (occBody_yields _ _ _ _), s1, occ_hit x c 2 _ _ _ (by rw [hx]; simp) (by simp) (by simp)]
  rw [forIn_app _ _ _ _ (occBody_yields _ _ _ _), s2,
    occ_hit x c 2 _ _ _ (by rw [hx, List.getElem?_append_right (by omega), show A.length + 1 + B.length - A.length = B.length + 1 by omega]; simp) (by simp) (by simp)]
  rw [occ_full _ _ _ _ _ _ (by simp)]
  simp

theorem split_law (A B C : List Nat) (hA : 39 ∉ A) (hB : 39 ∉ B) : Txt.splitMax ⟨(A ++ 39 :: (B ++ 39 :: C)).toArray⟩ ⟨#[39]⟩ 2 = [⟨A.toArray⟩, ⟨B.toArray⟩, ⟨C.toArray⟩] := by
  unfold Txt.splitMax
  have h0 : (decide ((⟨(A ++ 39 :: (B ++ 39 :: C)).toArray⟩ : Str).length < (⟨#[39]⟩ : Str).length) || decide (Builtin.Str.strKind ⟨(A ++ 39 :: (B ++ 39 :: C)).toArray⟩ < Builtin.Str.strKind ⟨#[39]⟩)) = false := by
    have h1 : (⟨#[39]⟩ : Str).length = 1 := rfl
    have h2 : Builtin.Str.strKind ⟨#[39]⟩ = 1 := by decide +kernel
    have h3 : 1 ≤ Builtin.Str.strKind ⟨(A ++ 39 :: (B ++ 39 :: C)).toArray⟩ := by
      unfold Builtin.Str.strKind
      split
      · exact Nat.le_refl _
      · split <;> decide
    have h4 : 1 ≤ (⟨(A ++ 39 :: (B ++ 39 :: C)).toArray⟩ : Str).length := by
      show 1 ≤ (A ++ 39 :: (B ++ 39 :: C)).toArray.size
      simp; omega
    rw [h1, h2]
    simp only [Bool.or_eq_false_iff, decide_eq_false_iff_not]
    omega
  have hk : limitOf ⟨(A ++ 39 :: (B ++ 39 :: C)).toArray⟩ 2 = 2 := rfl
  rw [h0, hk, occ_two A B C 39 hA hB _ (by simp)]
  simp only [Bool.false_eq_true, if_false, List.isEmpty_cons]
  rw [partsBetween_eq]
  have e : ∀ a b : Str, a.cps.toList = b.cps.toList → a = b := fun a b h => by
    cases a; cases b; simp only [Str.mk.injEq]; exact Array.toList_inj.mp h
  have hL : (⟨(A ++ 39 :: (B ++ 39 :: C)).toArray⟩ : Str).length = A.length + (1 + (B.length + (1 + C.length))) := by
    show (A ++ 39 :: (B ++ 39 :: C)).toArray.size = _
    simp; omega
  simp only [partsFrom, show (⟨#[39]⟩ : Str).length = 1 from rfl, List.cons.injEq, and_true]
  refine ⟨e _ _ ?_, e _ _ ?_, e _ _ ?_⟩
  · rw [strSub_toList]; simp
  · rw [strSub_toList]
    simp only [List.toList_toArray]
    rw [List.drop_append, List.drop_eq_nil_of_le (by omega), show A.length + 1 - A.length = 1 by omega]
    simp only [List.nil_append, List.drop_succ_cons, List.drop_zero, show A.length + 1 + B.length - (A.length + 1) = B.length by omega]
    rw [List.take_left]
  · rw [strSub_toList, hL]
    simp only [List.toList_toArray]
    rw [List.drop_append, List.drop_eq_nil_of_le (by omega), show A.length + 1 + B.length + 1 - A.length = (B.length + 1) + 1 by omega]
    simp only [List.nil_append, List.drop_succ_cons]
    rw [List.drop_append, List.drop_eq_nil_of_le (by omega), show B.length + 1 - B.length = 1 by omega]
    simp only [List.nil_append, List.drop_succ_cons, List.drop_zero]
    rw [List.take_of_length_le (by omega)]
end Mine

/-! part W1 -/
namespace Mine
section
variable {w : World} {A : Around} {E : Value → Shared → Prop} {s : Shared} {Q : Value → Shared → Prop} {mean : ExcName → Option Value} {mg mb : Str → Option Value} {f : Addr} {d u : Nat}

set_option maxHeartbeats 4000000 in
theorem isEof_spec {n : Int} {t : Tok} (R : Rm A d u) (G : Gd mean mg mb s.heap) (hf : mg (Str.ofString "ISEOF") = some (.ref f))
   (hQ : ∀ h' tk', Stays s.heap h' → Q (.bool (n == 0)) { s with heap := h', toks := tk' }) (hd : 1 ≤ d := by decide) (hu : 3 ≤ u := by decide) :
   wpAny (model pw w) A (call (.ref f) [.int n t]) Q E s := by
  obtain ⟨f', o, pm, code, doc, h1, h2, h3, h4⟩ := fn_at (i := 12) rfl rfl G.T
  rw [hf] at h1
  cases h1
  refine enter_fn (binds := [(Str.ofString "x", .int n t)]) R G.T h2 h3 h4 rfl (locs rfl) (fun h₁ tk F R' T' => ?_) hd hu
  clear h3 T'
  have T : Top q loose mean mg mb s.heap := G.T
  w_top on
  repeat' walk1
  exact hQ _ _ F.keep

set_option maxHeartbeats 4000000 in
theorem isTerm_spec {n : Int} {t : Tok} (R : Rm A d u) (G : Gd mean mg mb s.heap) (hf : mg (Str.ofString "ISTERMINAL") = some (.ref f))
   (hQ : ∀ h' tk', Stays s.heap h' → Q (.bool (decide (n < 256))) { s with heap := h', toks := tk' }) (hd : 1 ≤ d := by decide) (hu : 3 ≤ u := by decide) :
   wpAny (model pw w) A (call (.ref f) [.int n t]) Q E s := by
  obtain ⟨f', o, pm, code, doc, h1, h2, h3, h4⟩ := fn_at (i := 11) rfl rfl G.T
  rw [hf] at h1
  cases h1
  refine enter_fn (binds := [(Str.ofString "x", .int n t)]) R G.T h2 h3 h4 rfl (locs rfl) (fun h₁ tk F R' T' => ?_) hd hu
  clear h3 T'
  have T : Top q loose mean mg mb s.heap := G.T
  w_top on
  repeat' walk1
  exact hQ _ _ F.keep

set_option maxHeartbeats 4000000 in
theorem inB1_spec {k : Nat} {t : Tok} (R : Rm A d u) (G : Gd mean mg mb s.heap) (hf : mg (Str.ofString "in_table_b1") = some (.ref f))
   (hQ : ∀ h' tk', Stays s.heap h' → Q (.bool (b1List.contains (k : Int))) { s with heap := h', toks := tk' }) (hd : 1 ≤ d := by decide) (hu : 3 ≤ u := by decide) :
   wpAny (model pw w) A (call (.ref f) [.str ⟨#[k]⟩ t]) Q E s := by
  obtain ⟨f', o, pm, code, doc, h1, h2, h3, h4⟩ := fn_at (i := 7) rfl rfl G.T
  obtain ⟨b, ob, hb1, hb2, hb3⟩ := G.b1
  rw [hf] at h1
  cases h1
  refine enter_fn (binds := [(Str.ofString "code", .str ⟨#[k]⟩ t)]) R G.T h2 h3 h4 rfl (locs rfl) (fun h₁ tk F R' T' => ?_) hd hu
  clear h3 T'
  have T : Top q loose mean mg mb s.heap := G.T
  have hl : (⟨#[k]⟩ : Str).length = 1 := rfl
  w_top on
  repeat' walk1
  dsimp only
  refine wpAny_inSet_of (knd := intKind _ _) (k := (k : Int)) (S := fun k => b1List.contains k) (n := 27) ?_ rfl ((hb3 (model pw w).prog w).setOf (h := h₁) (F.keep _ _ hb2) (by decide)) ?_
  · simp [intKind, Value.isInt]
  · repeat' walk1
    exact hQ _ _ F.keep

set_option maxHeartbeats 4000000 in
theorem decode_spec {Ac Bc Cc : List Nat} {t : Tok} (R : Rm A d u) (G : Gd mean mg mb s.heap) (hf : mg (Str.ofString "decode_rfc2231") = some (.ref f))
   (hA : 39 ∉ Ac) (hB : 39 ∉ Bc) (hlen : (⟨(Ac ++ 39 :: (Bc ++ 39 :: Cc)).toArray⟩ : Str).length ≤ 1000)
   (hQ : ∀ l t1 t2 t3 h' tk', Stays s.heap h' → h'.IsList l #[.str ⟨Ac.toArray⟩ t1, .str ⟨Bc.toArray⟩ t2, .str ⟨Cc.toArray⟩ t3] → Q (.ref l) { s with heap := h', toks := tk' }) (hd : 1 ≤ d := by decide) (hu : 3 ≤ u := by decide) :
   wpAny (model pw w) A (call (.ref f) [.str ⟨(Ac ++ 39 :: (Bc ++ 39 :: Cc)).toArray⟩ t]) Q E s := by
  obtain ⟨f', o, pm, code, doc, h1, h2, h3, h4⟩ := fn_at (i := 4) rfl rfl G.T
  rw [hf] at h1
  cases h1
  refine enter_fn (binds := [(Str.ofString "s", .str ⟨(Ac ++ 39 :: (Bc ++ 39 :: Cc)).toArray⟩ t)]) R G.T h2 h3 h4 rfl (locs rfl) (fun h₁ tk F R' T' => ?_) hd hu
  clear h3 T'
  have T : Top q loose mean mg mb s.heap := G.T
  w_top on
  have N : News s.heap s.heap.objs.size h₁ [] := News.nil
  repeat' walk1
  have hx : Str.ofString "'" = ⟨#[39]⟩ := by decide +kernel
  (rename (List.map _ _ = Txt.splitMax _ _ _) => hl)
  rw [hx, split_law Ac Bc Cc hA hB] at hl
  rename List (Str × Tok) => l
  rcases l with _ | ⟨⟨a1, t1⟩, _ | ⟨⟨a2, t2⟩, _ | ⟨⟨a3, t3⟩, _ | ⟨_, _⟩⟩⟩⟩ <;> simp only [List.map_nil, List.map_cons, List.cons.injEq, reduceCtorEq, and_false, and_true, false_and] at hl
  obtain ⟨rfl, rfl, rfl⟩ := hl
  simp only [strValues, List.map_cons, List.map_nil] at *
  repeat' walk1
  all_goals try dsimp only
  · rename (_ : Int) ≤ 2 => hc
    exact absurd hc (by simp)
  · rename Fr _ _ _ _ => F
    rename News _ _ _ _ => N
    exact hQ _ t1 t2 t3 _ _ F.keep (News.isList N (.head _))

local macro_rules | `(tactic| walk_at "call ref") => `(tactic| ((rename Fr _ _ _ _ => F9); (rename News _ _ _ _ => N9); (refine isTerm_spec (by assumption) (Gd.keeps (by assumption) F9.keep) (by assumption) ?_ (by first | decide | omega) (by first | decide | omega)); intro h9 tk9 st9; (have F8 := F9.after st9); (have N8 := newsStays N9 st9); clear F9 N9; try dsimp only))
set_option maxHeartbeats 4000000 in
theorem turned_spec {x y z : Int} {t1 t2 t3 : Tok} (R : Rm A d u) (G : Gd mean mg mb s.heap) (hf : mg (Str.ofString "_law_turned") = some (.ref f))
   (hQ : ∀ T h' tk' x' y' z' u1 u2 u3, Stays s.heap h' → (x', y', z') = (if x - y + z < 0 then (x + 2 * z, z, y - x - z) else if x - 2 * y < 0 then (2 * y - x, y, x - y + z) else (x - 2 * y, x - y + z, y)) →
     s.heap.get? T = none → h'.get? T = some (tupO [.int x' u1, .int y' u2, .int z' u3]) → Q (.ref T) { s with heap := h', toks := tk' }) (hd : 2 ≤ d := by decide) (hu : 6 ≤ u := by decide) :
   wpAny (model pw w) A (call (.ref f) [.int x t1, .int y t2, .int z t3]) Q E s := by
  obtain ⟨f', o, pm, code, doc, h1, h2, h3, h4⟩ := fn_at (i := 18) rfl rfl G.T
  rw [hf] at h1
  cases h1
  refine enter_fn (binds := [(Str.ofString "x", .int x t1), (Str.ofString "y", .int y t2), (Str.ofString "z", .int z t3)]) R G.T h2 h3 h4 rfl (locs rfl) (fun h₁ tk F R' T' => ?_) (by omega) (by omega)
  clear h3 T'
  have T : Top q loose mean mg mb s.heap := G.T
  obtain ⟨ft, oft, fdt, hft, hoft, hdft⟩ := G.fn (i := 11) rfl rfl
  w_top on
  have N : News s.heap s.heap.objs.size h₁ [] := News.nil
  repeat' walk1
  all_goals try dsimp only
  all_goals (rename Fr _ _ _ _ => F; rename News _ _ _ _ => N)
  · exact hQ _ _ _ _ _ _ _ _ _ F.keep (by rw [if_pos (by omega)]) (N.fresh (.head _)) (N.get (.head _))
  · exact hQ _ _ _ _ _ _ _ _ _ F.keep (by rw [if_neg (by omega), if_pos (by omega)]) (N.fresh (.head _)) (N.get (.head _))
  · exact hQ _ _ _ _ _ _ _ _ _ F.keep (by rw [if_neg (by omega), if_neg (by omega)]) (N.fresh (.head _)) (N.get (.head _))
end
end Mine

/-! part W2 -/
namespace Mine
/-- the reader's own arithmetic -/
def vloop (val b : Int) : List Int → Option Int
  | [] => if Builtin.bitAnd b 64 = 0 then some val else none
  | b' :: r => if Builtin.bitAnd b 64 = 0 then some val else if val.natAbs < 2 ^ 64 then vloop (Builtin.bitOr (val * 2 ^ (6 : Int).toNat) (Builtin.bitAnd b' 63)) b' r else none
def vparse : List Int → Option Int
  | [] => none
  | b :: r => vloop (Builtin.bitAnd b 63) b r

def IterO (o : Obj) (l : Addr) (i : Nat) : Prop := o.cls = .type "list_iterator" ∧ o.data = .fields #[.ref l, .int i 0]

theorem stays_hide {h : Heap} {a : Addr} : Stays (h.hide a) h := fun _ _ e => Heap.of_hide e
theorem stays_in_hide {h₀ h : Heap} {a : Addr} (k : Stays h₀ h) (n : h₀.get? a = none) : Stays h₀ (h.hide a) := fun b o e => (Heap.hide_ne h (fun q => by subst q; rw [n] at e; cases e)).trans (k b o e)

section
variable {w : World} {A : Around} {E : Value → Shared → Prop} {s : Shared} {Q : Value → Shared → Prop} {mean : ExcName → Option Value} {mg mb : Str → Option Value} {f : Addr} {d u : Nat}

/-- a call with one of the caller's objects held open -/
theorem enter_fnH {nm : Str} {ps : Arguments} {bd : List Stmt} {sc : Scope} {pm code doc : Value} {o : Obj} {args : List Value} {it : Addr} {oi : Obj} (binds : List (Str × Value))
    (R : Rm A d u) (T : Top q loose mean mg mb (s.heap.hide it)) (hi : s.heap.get? it = some oi) (ho : s.heap.get? f = some o) (hdata : o.data = .func (docDef nm ps bd sc pm code doc)) (hcd : s.heap.CodeRec code nm)
    (hbind : bindArgs (docDef nm ps bd sc pm code doc) ⟨args, []⟩ = pure binds) (hloc : ∀ x ∈ binds, sc.names.lookup x.1 = some .local)
    (h : ∀ h₁ tk, Fr (s.heap.hide it) s.heap.objs.size h₁ (fun x => binds.reverse.lookup x) → News (s.heap.hide it) s.heap.objs.size h₁ [(it, oi)] → Rm (A.deeper (envOf nm sc s.heap.objs.size f code)) (d - 1) (u - 3) →
      wpAny (model pw w) (A.deeper (envOf nm sc s.heap.objs.size f code)) (execs bd (envOf nm sc s.heap.objs.size f code))
        (fun fl s' => Q (match fl with | .ret v => v | _ => .none) s') (fun _ _ => False) { s with heap := h₁, toks := tk })
    (hd : 1 ≤ d := by decide) (hu : 3 ≤ u := by decide)
    (hco : sc.isCoroutine = false := by rfl) (hgen : sc.isGenerator = false := by rfl) (hk : sc.kind = .function := by rfl)
    (hcell : ∀ x ∈ sc.names, x.2 ≠ .cell := by decide) :
    wpAny (model pw w) A (call (.ref f) args) Q E s := by
  have hd' := R.hd
  have hu' := R.hu
  obtain ⟨fs, hfs⟩ := R.hf
  refine wpAny_call (call_plain_ret (by omega) ho hdata (T.nolimit.keeps stays_hide) hcd hbind hloc (fun h₁ F => ?_) hco hgen hk hcell)
  refine h h₁ _ ⟨F.ns, fun b o e => F.keep b o (Heap.of_hide e), Nat.le_of_eq (Heap.hide_size _ _)⟩ (fun p hp => ?_) ⟨R.hh, ?_, ?_, ⟨envOf nm sc s.heap.objs.size f code :: fs, ?_⟩⟩
  · obtain rfl := List.mem_singleton.mp hp
    exact ⟨F.keep _ _ hi, Nat.ne_of_lt (Heap.lt_size hi), Heap.hide_self _ _⟩
  · show A.depth + 1 + (d - 1) < recursionLimit; omega
  · show A.units + 3 + (u - 3) < cLine; omega
  · show A.frames.map _ = _; rw [hfs]; rfl

theorem next_listN {h₀ : Heap} {L : Addr} {m : Str → Option Value} {it l : Addr} {o : Obj} {i : Nat} {vs : List Value} {v : Value} (F : Fr h₀ L s.heap m) (N : News h₀ L s.heap [(it, o)]) (ho : IterO o l i) (hl : h₀.IsList l vs.toArray) (hv : vs[i]? = some v)
    (h : ∀ h' o', Fr h₀ L h' m → News h₀ L h' [(it, o')] → IterO o' l (i + 1) → Q v { s with heap := h' }) : wpAny (model pw w) A (call (.builtin "next") [.ref it]) Q E s := by
  have hm := N (it, o) (.head _)
  have hit : s.heap.IsListIter it l i := ⟨o, hm.1, ho.1, ho.2⟩
  obtain ⟨ol, hol, hcl, nl, hdl⟩ := id hl
  have hol' := F.keep _ _ hol
  refine call_function_entry (by decide +kernel) (by decide +kernel) kdk_entry_next (kdk_args_next _) ?_
  unfold Builtin.«next»
  refine wpAny_bind (m := someArgs "next" 1 2 _) (wpAny_of_eq (a := [Value.ref it]) (by first | rfl | kernel_rfl!) ?_)
  dsimp only
  refine wpAny_bind (wpAny_specialOf (name := Str.ofString "__next__") hit.typeIs slot_listiter_next.lookup ?_)
  refine wpAny_ite_split (fun hab => absurd hab (by decide)) (fun _ => ?_)
  refine wpAny_bind (wpAny_callSpecial?_slot (name := Str.ofString "__next__") hit.typeIs slot_listiter_next
    (wpAny_call_entry slot_listiter_next hit.typeIs entry_listiter_next ?_ (args_listiter_next _)))
  show wpAny _ _ (field (.ref it) 0 >>= _) _ _ s
  refine wpAny_bind (wpAny_field hm.1 ho.2 (x := .ref l) rfl ?_)
  show wpAny _ _ (if (Value.ref l == Value.none) = true then _ else _) _ _ s
  rw [if_neg (show ¬ ((Value.ref l == Value.none) = true) from Bool.false_ne_true)]
  show wpAny _ _ (field (.ref it) 1 >>= _) _ _ s
  refine wpAny_bind (wpAny_field hm.1 ho.2 (x := .int i 0) rfl ?_)
  show wpAny _ _ (seqItems? (.ref l) >>= _) _ _ s
  refine wpAny_bind (wpAny_seqItems hol' hdl ?_)
  have hv' : vs.toArray[i]? = some v := by simpa using hv
  simp only [Int.toNat_natCast, hv']
  refine wpAny_bind (wpAny_setField hm.1 ho.2 (by simp) (wpAny_pure ⟨v, rfl, wpAny_pure ?_⟩))
  have hs : Heap.SameBut it s.heap (s.heap.update it (Obj.mapFields (·.setIfInBounds 1 (rawInt ((i : Int) + 1))))) := Heap.SameBut.update ..
  refine ⟨_, rfl, h _ (Obj.mapFields (·.setIfInBounds 1 (rawInt ((i : Int) + 1))) o) (F.change hs hm.2.1 hm.2.2) (fun p hp => ?_) ⟨(Obj.cls_mapFields ..).trans ho.1, by rw [Obj.data_mapFields ho.2]; simp [rawInt]⟩⟩
  obtain rfl := List.mem_singleton.mp hp
  exact ⟨Heap.get?_update_self _ hm.1 (Obj.isFreed_of_fields (Obj.data_mapFields ho.2 _)), hm.2⟩
end
end Mine

/-! part W3 -/
namespace Mine
section
variable {w : World} {A : Around} {E : Value → Shared → Prop} {s : Shared} {Q : Value → Shared → Prop} {mean : ExcName → Option Value} {mg mb : Str → Option Value} {f : Addr} {d u : Nat}

set_option maxHeartbeats 4000000 in
theorem varint_spec {it l : Addr} {oi : Obj} {vs : List Value} {ns : List Int} {r : Int} (R : Rm A d u) (G : Gd mean mg mb (s.heap.hide it)) (hf : mg (Str.ofString "_parse_varint") = some (.ref f))
   (hi : s.heap.get? it = some oi) (ho : IterO oi l 0) (hl : (s.heap.hide it).IsList l vs.toArray) (hns : IntsAre vs ns) (hp : vparse ns = some r)
   (hQ : ∀ t h' tk', Stays (s.heap.hide it) h' → Q (.int r t) { s with heap := h', toks := tk' }) (hd : 1 ≤ d := by decide) (hu : 3 ≤ u := by decide) :
   wpAny (model pw w) A (call (.ref f) [.ref it]) Q E s := by
  obtain ⟨f', o, pm, code, doc, h1, h2, h3, h4⟩ := fn_at (i := 1) rfl rfl G.T
  rw [hf] at h1
  cases h1
  refine enter_fnH [(Str.ofString "iterator", .ref it)] R G.T hi (Heap.of_hide h2) h3 (h4.keeps stays_hide) rfl (locs rfl) (fun h₁ tk F N R' => ?_) hd hu
  clear h3
  have T : Top q loose mean mg mb (s.heap.hide it) := G.T
  w_top on
  repeat' walk1
  cases ns with
  | nil => cases hp
  | cons n0 ns0 =>
  obtain ⟨t0, hv0⟩ := hns.get 0 n0 rfl
  (rename Fr _ _ _ _ => F); (rename News _ _ _ _ => N)
  refine next_listN F N ho hl hv0 (fun h' o' F' N' ho' => ?_)
  clear F N
  repeat' ((fail_if_success (with_reducible show wpAny _ _ (exec (Stmt.While _ _ _ _) _) _ _ _)); walk1)
  (rename Fr _ _ _ _ => F); (rename News _ _ _ _ => N)
  refine While_inv2 (fun n m news => ∃ (i : Nat) (val b : Int) (o : Obj) (t1 t2 : Tok), n = ns0.length + 1 - i ∧ i ≤ ns0.length + 1 ∧ news = [(it, o)] ∧ IterO o l i ∧ m (Str.ofString "val") = some (.int val t1) ∧ m (Str.ofString "b") = some (.int b t2) ∧ m (Str.ofString "iterator") = some (.ref it) ∧ vloop val b ((n0 :: ns0).drop i) = some r) F N
    ⟨1, _, n0, _, _, t0, rfl, by omega, rfl, ho', rfl, rfl, rfl, hp⟩ (fun n m₁ news₁ h₂ tk₂ F₁ N₁ hJ => ?_) PassesOwn.never
  obtain ⟨i, val, b, o₁, t1, t2, rfl, hil, rfl, ho₁, hm1, hm2, hm3, hv⟩ := hJ
  replace F₁ := frPuts [(Str.ofString "val", .int val t1), (Str.ofString "b", .int b t2), (Str.ofString "iterator", .ref it)] F₁ (by simp [hm1, hm2, hm3])
  simp only [kstB] at F₁
  clear F N F' N'
  repeat' walk1
  · rename Builtin.bitAnd b 64 ≠ 0 => hc
    have hi' : i < (n0 :: ns0).length := by
      rcases Nat.lt_or_ge i (n0 :: ns0).length with h | h
      · exact h
      · rw [List.drop_eq_nil_of_le h] at hv
        simp [vloop, hc] at hv
    obtain ⟨n1, hn1⟩ : ∃ n1, (n0 :: ns0)[i]? = some n1 := ⟨_, List.getElem?_eq_getElem hi'⟩
    have hdr : (n0 :: ns0).drop i = n1 :: (n0 :: ns0).drop (i + 1) := by
      rw [List.drop_eq_getElem_cons hi']
      rw [List.getElem?_eq_getElem hi'] at hn1
      rw [Option.some.inj hn1]
    rw [hdr, vloop, if_neg hc] at hv
    by_cases hb : val.natAbs < 2 ^ 64
    · rw [if_pos hb] at hv
      obtain ⟨t3, hv3⟩ := hns.get i n1 hn1
      clear hm1 hm2 hm3
      repeat' walk1
      (rename Fr _ _ _ _ => F); (rename News _ _ _ _ => N)
      refine next_listN F N ho₁ hl hv3 (fun h' o' F' N' ho' => ?_)
      clear F N
      repeat' walk1
      (rename Fr _ _ _ _ => F); (rename News _ _ _ _ => N)
      exact ⟨_, _, _, _, ns0.length + 1 - (i + 1), rfl, F, N, by simp only [List.length_cons] at hi'; omega, i + 1, _, n1, o', _, t3, rfl, by simp only [List.length_cons] at hi'; omega, rfl, ho', rfl, rfl, rfl, hv⟩
    · rw [if_neg hb] at hv
      cases hv
  · skip
    have hc' : Builtin.bitAnd b 64 = 0 := by first | assumption | (rename ¬ _ => hc; exact Classical.not_not.mp hc)
    have hr : val = r := by
      cases hd' : (n0 :: ns0).drop i with
      | nil => rw [hd', vloop, if_pos hc'] at hv; exact Option.some.inj hv
      | cons a b' => rw [hd', vloop, if_pos hc'] at hv; exact Option.some.inj hv
    subst hr
    dsimp only
    exact hQ _ _ _ F₁.keep
end
end Mine

/-! part W4 -/
namespace Mine
section
variable {w : World} {A : Around} {E : Value → Shared → Prop} {s : Shared} {mean : ExcName → Option Value} {mg mb : Str → Option Value} {f : Addr} {d u : Nat}
variable {scope : Scope} {C : Addr} {env : Env} {x : Str} {pos : Pos} {v : Value} {m : Str → Option Value}

theorem cname_local {Q : Value → Shared → Prop} (hn : s.heap.Ns C m) (hm : m x = some v) (h : Q v s) (hk : scope.kind = .function := by rfl) (hl : (compEnv scope C env).kindOf x = some .local := by rfl)
    (hd : (x == ("__debug__" : Str)) = false := by decide) : wpAny (model pw w) A (eval (.Name x pos) (compEnv scope C env)) Q E s :=
  wpAny_Name (wpAny_loadName_local hk hl hn hm h) hd
theorem cname_glob {Q : Value → Shared → Prop} (G : Gd mean mg mb s.heap) (hv : mg x = some v) (h : Q v s) (hk : scope.kind = .function := by rfl) (hx : (compEnv scope C env).kindOf x = some .globalImplicit := by rfl)
    (he : env.globals = mainGlobals := by rfl) (hd : (x == ("__debug__" : Str)) = false := by decide) : wpAny (model pw w) A (eval (.Name x pos) (compEnv scope C env)) Q E s :=
  Name_function_global hk hx (loadGlobal_global (env := compEnv scope C env) (show s.heap.Ns env.globals mg by rw [he]; exact G.T.g) hv h) hd
def isBlt (x : Str) : Bool := !(startupNames ++ loose ++ (recsOf q).map (·.name) ++ (litsOf q).map (·.1) ++ (clssOf q loose).map (·.name)).contains x && x != "__name__"
theorem cname_blt {Q : Value → Shared → Prop} (G : Gd mean mg mb s.heap) (hv : bootBuiltins x = some v) (hi : isBlt x = true) (h : Q v s) (hk : scope.kind = .function := by rfl) (hx : (compEnv scope C env).kindOf x = some .globalImplicit := by rfl)
    (he : env.globals = mainGlobals := by rfl) (hb : env.builtins = builtinsNs := by rfl) (hd : (x == ("__debug__" : Str)) = false := by decide) : wpAny (model pw w) A (eval (.Name x pos) (compEnv scope C env)) Q E s := by
  unfold isBlt at hi
  simp only [Bool.and_eq_true, Bool.not_eq_true', bne_iff_ne, ne_eq] at hi
  have h0 := hi.1
  have hne : ∀ l : List Str, l.contains x = false → x ∉ l := fun l e hm => by rw [List.contains_iff_mem.mpr hm] at e; cases e
  have h1 := hne _ h0
  simp only [List.mem_append, not_or] at h1
  obtain ⟨⟨⟨⟨a1, a2⟩, a3⟩, a4⟩, a5⟩ := h1
  exact Name_function_global hk hx (loadGlobal_builtin (env := compEnv scope C env) (show s.heap.Ns env.globals mg by rw [he]; exact G.T.g) (G.T.free x a1 a2 a3 a4 a5) (show s.heap.Ns env.builtins mb by rw [hb]; exact G.T.b) ((G.T.builtins x hi.2).trans hv) h) hd
theorem blt_ord : isBlt (Str.ofString "ord") = true := by decide +kernel
theorem blt_iter : isBlt (Str.ofString "iter") = true := by decide +kernel

theorem tests_one {c : PySem.Expr} {env : Env} {Q : Bool → Shared → Prop} (h : wpAny (model pw w) A (isTrue c env (eval c env)) Q E s) :
    wpAny (model pw w) A (forIn [c] true fun c r => if r = true then do let ok ← isTrue c env (eval c env); pure (ForInStep.yield ok) else pure (ForInStep.yield r)) Q E s := by
  rw [List.forIn_cons]
  refine wpAny_bind ?_
  rw [if_pos rfl]
  refine wpAny_bind (wpAny_mono h (fun b s' hb => ?_) fun _ _ e => e)
  exact wpAny_pure (by show wpAny _ _ (forIn ([] : List PySem.Expr) b _) _ _ _; rw [List.forIn_nil]; exact wpAny_pure hb)
theorem tests_none {env : Env} {Q : Bool → Shared → Prop} (h : Q true s) :
    wpAny (model pw w) A (forIn ([] : List PySem.Expr) true fun c r => if r = true then do let ok ← isTrue c env (eval c env); pure (ForInStep.yield ok) else pure (ForInStep.yield r)) Q E s := by
  rw [List.forIn_nil]; exact wpAny_pure h

/-- the signs of a text, as values -/
theorem signs_keep : ∀ (cs : List Nat) (vs : List Value), vs.length = cs.length → (∀ (j : Nat) (v : Value), vs[j]? = some v → ∃ (c : Nat) (u : Tok), cs[j]? = some c ∧ v = Value.str ⟨#[c]⟩ u) →
    ∀ ys, Paired (fun v y => y = v) (vs.filter (fun v => match v with | Value.str c _ => !b1List.contains ((c.cps.getD 0 0 : Nat) : Int) | _ => true)) ys → StrsAre ys ((cs.filter (fun k : Nat => !b1List.contains (k : Int))).map fun k => ⟨#[k]⟩)
  | [], vs, hl, _, ys, hp => by
    obtain rfl : vs = [] := List.eq_nil_of_length_eq_zero hl
    cases hp
    exact .nil
  | c :: cs, [], hl, _, _, _ => by cases hl
  | c :: cs, v :: vs, hl, hv, ys, hp => by
    obtain ⟨c', u, hc, rfl⟩ := hv 0 v rfl
    obtain rfl : c = c' := Option.some.inj hc
    have ih := signs_keep cs vs (Nat.succ.inj hl) (fun j v' h => hv (j + 1) v' h)
    simp only [List.filter_cons] at hp ⊢
    have e : ((⟨#[c]⟩ : Str).cps.getD 0 0) = c := rfl
    simp only [e] at hp
    cases hb : b1List.contains ((c : Nat) : Int) with
    | true =>
      simp only [hb, Bool.not_true, Bool.false_eq_true, if_false] at hp ⊢
      exact ih ys hp
    | false =>
      simp only [hb, Bool.not_false, if_true, List.map_cons] at hp ⊢
      cases hp with
      | cons h1 h2 => subst h1; exact .cons _ _ (ih _ h2)
theorem ords_of : ∀ (cs : List Nat) (vs : List Value), vs.length = cs.length → (∀ (j : Nat) (v : Value), vs[j]? = some v → ∃ (c : Nat) (u : Tok), cs[j]? = some c ∧ v = Value.str ⟨#[c]⟩ u) →
    ∀ ys, Paired (fun v y => ∃ c u t, v = Value.str ⟨#[c]⟩ u ∧ y = Value.int ((c : Nat) : Int) t) vs ys → IntsAre ys (cs.map Int.ofNat)
  | [], vs, hl, _, ys, hp => by
    obtain rfl : vs = [] := List.eq_nil_of_length_eq_zero hl
    cases hp
    exact .nil
  | c :: cs, [], hl, _, _, _ => by cases hl
  | c :: cs, v :: vs, hl, hv, ys, hp => by
    obtain ⟨c', u, hc, rfl⟩ := hv 0 v rfl
    obtain rfl : c = c' := Option.some.inj hc
    have ih := ords_of cs vs (Nat.succ.inj hl) (fun j v' h => hv (j + 1) v' h)
    cases hp with
    | cons h1 h2 =>
      obtain ⟨c1, u1, t1, e1, rfl⟩ := h1
      simp only [Value.str.injEq, Str.mk.injEq, Array.mk.injEq, List.cons.injEq, and_true] at e1
      obtain ⟨rfl, rfl⟩ := e1
      exact .cons _ _ (ih _ h2)

theorem ones_sum : ∀ l : List Nat, ((l.map fun k => (⟨#[k]⟩ : Str)).map (·.length)).sum = l.length
  | [] => rfl
  | k :: l => by
    simp only [List.map_cons, List.sum_cons, List.length_cons]
    rw [ones_sum l]
    show 1 + l.length = _
    omega
theorem join_signs (l : List Nat) : Txt.join (Str.ofString "") (l.map fun k => (⟨#[k]⟩ : Str)) = ⟨l.toArray⟩ := by
  unfold Txt.join
  rw [StrLaws.glued_eq_join, show Str.ofString "" = ⟨#[]⟩ by decide +kernel]
  exact join_ones l

theorem iter_list {Q : Value → Shared → Prop} {D : Addr} {vs : Array Value} (hl : s.heap.IsList D vs) (h : Q (.ref s.heap.objs.size) { s with heap := s.heap.push { cls := .type "list_iterator", data := .fields #[.ref D, .int 0 0] } }) :
    wpAny (model pw w) A (call (.builtin "iter") [.ref D]) Q E s := by
  refine call_function_entry (by decide +kernel) (by decide +kernel) kdk_entry_iter (kdk_args_iter _) ?_
  unfold Builtin.«iter»
  refine wpAny_bind (m := someArgs "iter" 1 2 _) (wpAny_of_eq (a := [Value.ref D]) (by first | rfl | kernel_rfl!) ?_)
  show wpAny _ _ (pyIter (.ref D) >>= _) _ _ _
  refine wpAny_bind (wpAny_pyIter_list hl ?_)
  exact wpAny_pure ⟨_, rfl, h⟩

def keepSign (v : Value) : Bool := match v with
  | .str c _ => !b1List.contains ((c.cps.getD 0 0 : Nat) : Int)
  | _ => true

local macro_rules | `(tactic| walk_at "eval Name") => `(tactic| ((with_reducible show wpAny _ _ (eval (Expr.Name _ _) (compEnv _ _ _)) _ _ _); with_unfolding_all first
  | refine cname_local (by assumption) (by assumption) ?_
  | refine cname_glob (by assumption) (by assumption) ?_
  | refine cname_blt (by assumption) (by boot_fast) (by first | exact blt_ord | exact blt_iter) ?_))

set_option maxHeartbeats 4000000 in
theorem read_spec {cs Ac Bc Cc : List Nat} {rx ry rz : Int} {t : Tok} {Q : Value → Shared → Prop} (R : Rm A d u) (G : Gd mean mg mb s.heap) (hf : mg (Str.ofString "_law_read") = some (.ref f))
   (hsh : cs.filter (fun k : Nat => !b1List.contains (k : Int)) = Ac ++ 39 :: (Bc ++ 39 :: Cc)) (hA : 39 ∉ Ac) (hB : 39 ∉ Bc) (hlen : cs.length ≤ 1000)
   (hx : vparse (Ac.map Int.ofNat) = some rx) (hy : vparse (Bc.map Int.ofNat) = some ry) (hz : vparse (Cc.map Int.ofNat) = some rz)
   (hQ : ∀ l t1 t2 t3 n h' tk', Stays s.heap h' → s.heap.get? l = none → h'.get? l = some (listO [.int rx t1, .int ry t2, .int rz t3] n) → Q (.ref l) { s with heap := h', toks := tk' }) (hd : 3 ≤ d := by decide) (hu : 12 ≤ u := by decide) :
   wpAny (model pw w) A (call (.ref f) [.str ⟨cs.toArray⟩ t]) Q E s := by
  obtain ⟨f', o, pm, code, doc, h1, h2, h3, h4⟩ := fn_at (i := 17) rfl rfl G.T
  rw [hf] at h1
  cases h1
  refine enter_fn (binds := [(Str.ofString "text", .str ⟨cs.toArray⟩ t)]) R G.T h2 h3 h4 rfl (locs rfl) (fun h₁ tk F R' T' => ?_) (by omega) (by omega)
  clear h3 T'
  have T : Top q loose mean mg mb s.heap := G.T
  obtain ⟨fb, ofb, fdb, hfb, hofb, hdfb⟩ := G.fn (i := 7) rfl rfl
  obtain ⟨fd', ofd, fdd, hfd, hofd, hdfd⟩ := G.fn (i := 4) rfl rfl
  obtain ⟨fv, ofv, fdv, hfv, hofv, hdfv⟩ := G.fn (i := 1) rfl rfl
  w_top on
  have N : News s.heap s.heap.objs.size h₁ [] := News.nil
  repeat' ((fail_if_success (with_reducible show wpAny _ _ (eval (Expr.ListComp _ _ _ _) _) _ _ _)); walk1)
  refine wpAny_ListComp_walk keepSign (fun v y => y = v) (by decide) (by decide) rfl (by decide) rfl ?_
  repeat' ((fail_if_success (with_reducible show wpAny _ _ (pyIter _) _ _ _)); walk1)
  refine wpAny_pyIter_str (fun oi St W hst => ?_)
  (rename Fr _ _ _ _ => F); (rename News _ _ _ _ => N)
  refine ⟨_, _, _, _, _, _, rfl, W _ R'.hh, ?_, hst, ?_, ⟨?_, ?_⟩, ?_⟩
  · show cs.toArray.size ≤ sizeLine
    have := sizeLine_eq
    simp only [List.size_toArray]; omega
  · intro b hb
    rw [List.mem_singleton.mp hb, Heap.size_push]
    exact Nat.lt_succ_self _
  · intro C i v s₃ m₃ E' hP hn hm hk htk
    obtain ⟨c, u', hc, rfl⟩ := hP
    have st3 : Stays s.heap s₃.heap := fun b o e => hk b o (fun hb => by
      have := Heap.lt_size (F.keep b o e)
      rw [List.mem_singleton.mp hb] at this
      exact absurd this (Nat.lt_irrefl _)) (Heap.get?_push_of_some _ (F.keep b o e))
    have G3 : Gd mean mg mb s₃.heap := G.keeps st3
    have hofb3 := st3 _ _ hofb
    refine tests_one ?_
    clear hk F N hQ hst
    repeat' walk1
    refine inB1_spec R' G3 hfb (fun h' tk' st' => ?_) (by omega) (by omega)
    repeat' walk1
    all_goals exact ⟨_, _, rfl, st'⟩
  · intro C i v s₃ m₃ E' hP hp hn hm hk htk
    clear hk F N hQ hst
    repeat' walk1
    all_goals exact ⟨_, _, rfl, fun _ _ e => e⟩
  intro D h' tk' ys vs hD hl hpl hvl hP hF hk
  dsimp only at hD hk
  have st : Stays h₁ h' := fun b o e => hk b o (fun hb => by
    have := Heap.lt_size e
    rw [List.mem_singleton.mp hb] at this
    exact absurd this (Nat.lt_irrefl _)) (Heap.get?_push_of_some _ e)
  have F1 := F.after st
  have N1 := newsStays N st
  have hS := signs_keep cs vs (by simpa using hvl) (fun j v h => by
    obtain ⟨c, u', hc, hv⟩ := hP j v h
    exact ⟨c, u', by simpa using hc, hv⟩) ys.toList hF
  rw [hsh] at hS
  clear hk F N hst hD hpl hF hP
  repeat' walk1
  generalize hL : Ac ++ 39 :: (Bc ++ 39 :: Cc) = L at hS
  have hLn : L.length ≤ 1000 := by rw [← hL, ← hsh]; exact Nat.le_trans (List.length_filter_le _ _) hlen
  refine join_listW (x := Str.ofString "") hl hS (by decide +kernel) (by rw [ones_sum, List.length_map]; omega) (fun t' k => ?_)
  rw [join_signs, ← hL]
  clear hS hl hvl
  repeat' ((fail_if_success (with_reducible show wpAny _ _ (eval (Expr.ListComp _ _ _ _) _) _ _ _)); walk1)
  refine wpAny_ListComp_walk (fun _ => true) (fun v y => ∀ c t0, v = .str c t0 → ∃ r t', vparse (c.cps.toList.map Int.ofNat) = some r ∧ y = .int r t') (by decide) (by decide) rfl (by decide) rfl ?_
  repeat' ((fail_if_success (with_reducible show wpAny _ _ (call (Value.ref _) _) _ _ _)); walk1)
  (rename Fr _ _ _ _ => F); (rename News _ _ _ _ => N)
  have hlE : (⟨(Ac ++ 39 :: (Bc ++ 39 :: Cc)).toArray⟩ : Str).length ≤ 1000 := by
    show (Ac ++ 39 :: (Bc ++ 39 :: Cc)).toArray.size ≤ 1000
    rw [hL, List.size_toArray]; exact hLn
  refine decode_spec R' (G.keeps F.keep) hfd hA hB hlE (fun l t1 t2 t3 h2' tk2 st2 hl2 => ?_) (by omega) (by omega)
  have F2 := F.after st2
  clear N F F1 N1
  refine wpAny_pyIter_list hl2 ?_
  obtain ⟨ol, hol, _⟩ := id hl2
  have hlt := Heap.lt_size hol
  refine ⟨_, _, _, _, _, _, rfl, Walks.list R'.hh _ l (Nat.ne_of_lt hlt) _, ?_, ⟨⟨_, Heap.get?_push_size _ rfl, rfl, rfl⟩, hl2.at fun o e => Heap.get?_push_of_some _ e⟩, ?_, ⟨?_, ?_⟩, ?_⟩
  · show 3 ≤ sizeLine
    have := sizeLine_eq
    omega
  · intro b hb
    rw [Heap.size_push]
    rcases List.mem_cons.mp hb with h | h
    · rw [h]; exact Nat.lt_succ_self _
    · rw [List.mem_singleton.mp h]; exact Nat.lt_succ_of_lt hlt
  · intro C i v s₃ m₃ E' hP hn hm hk htk
    exact tests_none ⟨rfl, _, _, rfl, fun _ _ e => e⟩
  · intro C i v s₃ m₃ E' hP _ hn hm hk htk
    have st3 : Stays s.heap s₃.heap := fun b o e => hk b o (fun hb => by
      have := Heap.lt_size (F2.keep b o e)
      rw [List.mem_singleton.mp hb] at this
      exact absurd this (Nat.lt_irrefl _)) (Heap.get?_push_of_some _ (F2.keep b o e))
    have G3 : Gd mean mg mb s₃.heap := G.keeps st3
    have hofv3 := st3 _ _ hofv
    obtain ⟨c1, tt, r1, rfl, hr1, hln⟩ : ∃ (c1 : List Nat) (tt : Tok) (r1 : Int), v = Value.str ⟨c1.toArray⟩ tt ∧ vparse (c1.map Int.ofNat) = some r1 ∧ c1.length ≤ 1000 := by
      rw [← hL] at hLn
      simp only [List.length_append, List.length_cons] at hLn
      rcases i with _ | _ | _ | i
      · exact ⟨Ac, t1, rx, (Option.some.inj hP).symm, hx, by omega⟩
      · exact ⟨Bc, t2, ry, (Option.some.inj hP).symm, hy, by omega⟩
      · exact ⟨Cc, t3, rz, (Option.some.inj hP).symm, hz, by omega⟩
      · cases hP
    clear hk F2 hQ hl2 hol hlt
    repeat' ((fail_if_success (with_reducible show wpAny _ _ (eval (Expr.ListComp _ _ _ _) _) _ _ _)); walk1)
    refine wpAny_ListComp_walk (fun _ => true) (fun v y => ∃ (c : Nat) (u t : Tok), v = Value.str ⟨#[c]⟩ u ∧ y = Value.int (c : Int) t) (by decide) (by decide) rfl (by decide) rfl ?_
    repeat' ((fail_if_success (with_reducible show wpAny _ _ (pyIter _) _ _ _)); walk1)
    refine wpAny_pyIter_str (fun oi St W hst => ?_)
    refine ⟨_, _, _, _, _, _, rfl, W _ R'.hh, ?_, hst, ?_, ⟨?_, ?_⟩, ?_⟩
    · show c1.toArray.size ≤ sizeLine
      have := sizeLine_eq
      simp only [List.size_toArray]; omega
    · intro b hb
      rw [List.mem_singleton.mp hb, Heap.size_push]
      exact Nat.lt_succ_self _
    · intro C i v s₃ m₃ E' hP hn hm hk htk
      exact tests_none ⟨rfl, _, _, rfl, fun _ _ e => e⟩
    · intro C2 i2 v2 s₄ m₄ E2 hP2 _ hn2 hm2 hk2 htk2
      obtain ⟨c, u', hc, rfl⟩ := hP2
      have G4 : Gd mean mg mb s₄.heap := G3.keeps fun b o e => hk2 b o (fun hb => by
        have := Heap.lt_size e
        rw [List.mem_singleton.mp hb] at this
        exact absurd this (Nat.lt_irrefl _)) (Heap.get?_push_of_some _ e)
      clear hn hm G3 hk2 hst
      repeat' walk1
      all_goals exact ⟨_, _, rfl, fun _ _ e => e⟩
    intro D2 h2 tk2' ys2 vs2 hD2 hlD2 hpl2 hvl2 hP2 hF2 hk2
    dsimp only at hD2 hk2
    have stA : Stays s₃.heap h2 := fun b o e => hk2 b o (fun hb => by
      have := Heap.lt_size e
      rw [List.mem_singleton.mp hb] at this
      exact absurd this (Nat.lt_irrefl _)) (Heap.get?_push_of_some _ e)
    have hI2 := ords_of c1 vs2 (by simpa using hvl2) (fun j v h => by
      obtain ⟨c, u', hc, hv⟩ := hP2 j v h
      exact ⟨c, u', by simpa using hc, hv⟩) ys2.toList (by rw [List.filter_eq_self.mpr fun _ _ => rfl] at hF2; exact hF2)
    have hn2 : s₃.heap.get? h2.objs.size = none := by
      cases e : s₃.heap.get? h2.objs.size with
      | none => rfl
      | some o => exact absurd (Heap.lt_size (stA _ _ e)) (Nat.lt_irrefl _)
    have hlD2' : (Heap.hide (h2.push { cls := .type "list_iterator", data := .fields #[.ref D2, .int 0 0] }) h2.objs.size).IsList D2 ys2.toList.toArray := by
      rw [Array.toArray_toList]
      refine hlD2.at fun o e => (Heap.hide_ne _ ?_).trans (Heap.get?_push_of_some _ e)
      exact Nat.ne_of_lt (Heap.lt_size e)
    have G5 : Gd mean mg mb (Heap.hide (h2.push { cls := .type "list_iterator", data := .fields #[.ref D2, .int 0 0] }) h2.objs.size) :=
      G3.keeps (stays_in_hide (fun b o e => Heap.get?_push_of_some _ (stA b o e)) hn2)
    clear hk2 hP2 hF2 hst hvl2 hpl2 hn hm hD2
    repeat' walk1
    refine iter_list hlD2 ?_
    have hofv5 := Heap.get?_push_of_some ({ cls := .type "list_iterator", data := .fields #[.ref D2, .int 0 0] } : Obj) (stA _ _ hofv3)
    repeat' walk1
    dsimp only
    refine varint_spec (it := h2.objs.size) R' G5 hfv (Heap.get?_push_size _ rfl) ⟨rfl, rfl⟩ hlD2' hI2 hr1 (fun t h' tk' st' => ?_) (by omega) (by omega)
    repeat' walk1
    · rename (Value.str _ _ = Value.str _ _) => e
      cases e
      simpa using hr1
    · exact ⟨_, _, rfl, fun b o e => st' _ _ (stays_in_hide (fun b o e => Heap.get?_push_of_some _ (stA b o e)) hn2 b o e)⟩
  · intro D h' tk' ys vs hD hlD hpl hvl hP hF hk
    dsimp only at hD hk
    have stA : Stays h2' h' := fun b o e => hk b o (fun hb => by
      have := Heap.lt_size e
      rw [List.mem_singleton.mp hb] at this
      exact absurd this (Nat.lt_irrefl _)) (Heap.get?_push_of_some _ e)
    rw [List.filter_eq_self.mpr fun _ _ => rfl] at hF
    have hvs : vs = [.str ⟨Ac.toArray⟩ t1, .str ⟨Bc.toArray⟩ t2, .str ⟨Cc.toArray⟩ t3] := by
      apply List.ext_getElem?
      intro j
      cases h : vs[j]? with
      | some v => simpa using (hP j v h).symm
      | none =>
        have h1 := List.getElem?_eq_none_iff.mp h
        have h2 : vs.length = 3 := hvl
        exact (List.getElem?_eq_none (by simp only [List.length_cons, List.length_nil]; omega)).symm
    subst hvs
    obtain ⟨y1, y2, y3, hys, e1, e2, e3⟩ : ∃ y1 y2 y3, ys.toList = [y1, y2, y3] ∧ (∃ t', y1 = .int rx t') ∧ (∃ t', y2 = .int ry t') ∧ ∃ t', y3 = .int rz t' := by
      generalize hys : ys.toList = yl at hF
      cases hF with
      | cons h1 hF =>
        cases hF with
        | cons h2 hF =>
          cases hF with
          | cons h3 hF =>
            cases hF
            obtain ⟨r1, t1', p1, q1⟩ := h1 _ _ rfl
            obtain ⟨r2, t2', p2, q2⟩ := h2 _ _ rfl
            obtain ⟨r3, t3', p3, q3⟩ := h3 _ _ rfl
            simp only [List.toList_toArray] at p1 p2 p3
            rw [hx] at p1; rw [hy] at p2; rw [hz] at p3
            cases p1; cases p2; cases p3
            exact ⟨_, _, _, rfl, ⟨_, q1⟩, ⟨_, q2⟩, ⟨_, q3⟩⟩
    obtain ⟨u1, rfl⟩ := e1
    obtain ⟨u2, rfl⟩ := e2
    obtain ⟨u3, rfl⟩ := e3
    clear hk hF hP
    obtain ⟨nn, hpl⟩ := hpl
    repeat' walk1
    dsimp only
    refine hQ D u1 u2 u3 nn h' tk' (fun b o e => stA _ _ (F2.keep b o e)) ?_ ?_
    · cases e : s.heap.get? D with
      | none => rfl
      | some o =>
        have := Heap.get?_push_of_some ({ cls := .type "list_iterator", data := .fields #[.ref l, .int 0 0] } : Obj) (F2.keep _ _ e)
        rw [hD] at this
        cases this
    · rw [hpl, ← hys]
end
end Mine

/-! part W5 -/
namespace Mine
section
variable {prog : Program} {w : World} {A : Around} {E : Value → Shared → Prop} {s : Shared}

theorem nextOf_tup_item {it l : Addr} {i : Nat} {items : Array Value} {x : Value} {Q : Value → Shared → Prop} (hit : s.heap.IsTupleIter it l i) (hl : s.heap.IsTuple l items) (hx : items[i]? = some x)
    (hQ : ∀ h', h'.IsTupleIter it l (i + 1) → Heap.SameBut it s.heap h' → Q x { s with heap := h' }) : wpAny (model prog w) A (Builtin.SmallTypes.nextOf (.ref it)) Q E s := by
  obtain ⟨o, ho, hc, hd⟩ := id hit
  obtain ⟨ol, hol, _, nl, hdl⟩ := hl
  unfold Builtin.SmallTypes.nextOf
  refine wpAny_bind (wpAny_callSpecial?_slot (name := Str.ofString "__next__") hit.typeIs F.slot_tuple_iterator_next
    (wpAny_call_entry F.slot_tuple_iterator_next hit.typeIs F.entry_tuple_iterator_next ?_ (F.args_tuple_iterator_next_1 _)))
  show wpAny _ _ (field (.ref it) 0 >>= _) _ _ s
  refine wpAny_bind (wpAny_field ho hd (x := .ref l) rfl ?_)
  show wpAny _ _ (if (Value.ref l == Value.none) = true then _ else _) _ _ s
  rw [if_neg (show ¬ ((Value.ref l == Value.none) = true) from Bool.false_ne_true)]
  show wpAny _ _ (field (.ref it) 1 >>= _) _ _ s
  refine wpAny_bind (wpAny_field ho hd (x := .int i 0) rfl ?_)
  show wpAny _ _ (seqItems? (.ref l) >>= _) _ _ s
  refine wpAny_bind (wpAny_seqItems hol hdl ?_)
  simp only [Int.toNat_natCast, hx]
  refine wpAny_bind (wpAny_setField ho hd (by simp) (wpAny_pure ⟨x, rfl, wpAny_pure (hQ _ ?_ (Heap.SameBut.update ..))⟩))
  exact ⟨_, Heap.get?_update_self _ ho (Obj.isFreed_of_fields (Obj.data_mapFields hd _)), (Obj.cls_mapFields ..).trans hc, by rw [Obj.data_mapFields hd]; simp [rawInt]⟩

theorem nextOf_tup_end {it l : Addr} {i : Nat} {items : Array Value} {Q : Value → Shared → Prop} (hh : A.handled = none) (hit : s.heap.IsTupleIter it l i) (hl : s.heap.IsTuple l items) (hx : items[i]? = none)
    (hE : ∀ h' e, Heap.ExtBut it s.heap h' → (∃ o, h'.get? e = some o ∧ o.cls = .type "StopIteration") → E (.ref e) { s with heap := h' }) : wpAny (model prog w) A (Builtin.SmallTypes.nextOf (.ref it)) Q E s := by
  obtain ⟨o, ho, hc, hd⟩ := id hit
  obtain ⟨ol, hol, _, nl, hdl⟩ := hl
  unfold Builtin.SmallTypes.nextOf
  refine wpAny_bind (wpAny_callSpecial?_slot (name := Str.ofString "__next__") hit.typeIs F.slot_tuple_iterator_next
    (wpAny_call_entry F.slot_tuple_iterator_next hit.typeIs F.entry_tuple_iterator_next ?_ (F.args_tuple_iterator_next_1 _)))
  show wpAny _ _ (field (.ref it) 0 >>= _) _ _ s
  refine wpAny_bind (wpAny_field ho hd (x := .ref l) rfl ?_)
  show wpAny _ _ (if (Value.ref l == Value.none) = true then _ else _) _ _ s
  rw [if_neg (show ¬ ((Value.ref l == Value.none) = true) from Bool.false_ne_true)]
  show wpAny _ _ (field (.ref it) 1 >>= _) _ _ s
  refine wpAny_bind (wpAny_field ho hd (x := .int i 0) rfl ?_)
  show wpAny _ _ (seqItems? (.ref l) >>= _) _ _ s
  refine wpAny_bind (wpAny_seqItems hol hdl ?_)
  simp only [Int.toNat_natCast, hx]
  refine wpAny_bind (wpAny_rule (wpAny_bind (wpAny_setField ho hd (by simp) ?_)))
  show wpAny _ _ (newExc (.type "StopIteration") [] >>= _) _ _ _
  refine wpAny_bind ?_
  simp only [newExc, newTuple]
  refine wpAny_bind (wpAny_newObj_type ?_ (by size_fits))
  refine wpAny_bind (m := firstArgMember _ _) (wpAny_of_eq (a := Value.none) (by first | rfl | (simp only [firstArgMember]; rfl)) ?_)
  refine wpAny_newObj_type ?_ (by size_fits)
  simp only [raiseNew]
  refine wpAny_bind (wpAny_handled ?_)
  first | rw [show A.in1.handled = none from hh] | rw [hh]
  refine wpAny_bind (wpAny_pure (wpAny_throw ?_))
  exact hE _ _ (((Heap.SameBut.update ..).extBut.push _).push _) ⟨_, Heap.get?_push_size _ rfl, rfl⟩

theorem draws_tup (hh : A.handled = none) (it l : Addr) (hne : l ≠ it) (items : Array Value) :
    Draws prog w A it [it, l] items.size (fun i v => items[i]? = some v) (fun i h => h.IsTupleIter it l i ∧ h.IsTuple l items) where
  live := fun _ _ st => let ⟨o, ho, _⟩ := st.1; ⟨o, ho⟩
  frame := fun _ _ _ st hk => ⟨st.1.at fun o e => hk it (by simp) o e, st.2.at fun o e => hk l (by simp) o e⟩
  item := fun i s Q E hi st hQ => by
    refine nextOf_tup_item st.1 st.2 (x := items[i]) (by simp [hi]) fun h' hit' hs' => ?_
    exact hQ _ h' s.toks (by simp [hi]) ⟨hit', st.2.extBut hs'.extBut hne⟩ hs'
  done := fun s Q E st hE => nextOf_tup_end hh st.1 st.2 (by simp) hE

theorem meets_enum_tup (l : Addr) (items : Array Value) (n : Nat) (dct : Option Addr) (sl : Array (Option Value)) :
    Meets (Builtin.«enumerate.__new__» ⟨[.type "enumerate", .ref l], []⟩) (fun _ R s => s.heap.get? l = some { cls := .type "tuple", dict := dct, data := .seq items n, slots := sl } ∧
      R (.ok (.ret (.ref (s.heap.push { cls := .type "tuple_iterator", data := .fields #[.ref l, .int 0 0] }).objs.size)))
        { s with heap := (s.heap.push { cls := .type "tuple_iterator", data := .fields #[.ref l, .int 0 0] }).push { cls := .type "enumerate", data := .fields #[.none, .bool false, .ref s.heap.objs.size, rawInt 0, .none, .none] } }) :=
  .of_wp fun prog w A R s h => by
    obtain ⟨hp, g, d, tk, os⟩ := s; obtain ⟨hl, h⟩ := h
    have hsub := sub_enumerate
    have hL : Heap.IsTuple (Shared.heap ⟨hp, g, d, tk, os⟩) l items := ⟨_, hl, rfl, n, rfl⟩
    wp_walk using AutoSeq1.wpAny_loadPart' hl
    refine wpAny_stack_any fun st => wpAny_pure ?_
    split
    · rename_i c _ _ _ _ _
      cases (c == Value.type "enumerate")
      · wp_walk using AutoSeq1.wpAny_loadPart' hl, wpAny_pyIter_tuple hL
        exact ⟨_, rfl, h⟩
      · wp_walk using AutoSeq1.wpAny_loadPart' hl, wpAny_pyIter_tuple hL
        exact ⟨_, rfl, h⟩
    · wp_walk using AutoSeq1.wpAny_loadPart' hl, wpAny_pyIter_tuple hL
      exact ⟨_, rfl, h⟩

set_option maxHeartbeats 1000000 in
theorem call_enum_tup {l : Addr} {items : Array Value} {Q : Value → Shared → Prop} (hL : s.heap.IsTuple l items)
    (h : ∀ h', IsEnum h' (s.heap.objs.size + 1) s.heap.objs.size 0 .none → h'.IsTupleIter s.heap.objs.size l 0 → h'.objs.size = s.heap.objs.size + 2 →
      Stays s.heap h' → Q (.ref (s.heap.objs.size + 1)) { s with heap := h' }) :
    wpAny (model prog w) A (call (.type "enumerate") [.ref l]) Q E s := by
  obtain ⟨⟨c, dct, dt, sl⟩, hl, hc, n, hd⟩ := hL
  replace hc : c = .type "tuple" := hc
  replace hd : dt = .seq items n := hd
  subst hc hd
  refine callType_new F.called_enumerate (by decide) (F.typeCall_enumerate_1 _) (F.newCall_enumerate_1 _) (fun obj => F.args_object_init_2 obj _) F.entry_enumerate_new
    (meets_enum_tup l items n dct sl) ⟨hl, ?_⟩
  have hz : (s.heap.push { cls := .type "tuple_iterator", data := .fields #[.ref l, .int 0 0] }).objs.size = s.heap.objs.size + 1 := Heap.size_push ..
  show _ ∧ _
  rw [hz]
  have he : IsEnum ((s.heap.push { cls := .type "tuple_iterator", data := .fields #[.ref l, .int 0 0] }).push
      { cls := .type "enumerate", data := .fields #[.none, .bool false, .ref s.heap.objs.size, rawInt 0, .none, .none] }) (s.heap.objs.size + 1) s.heap.objs.size 0 .none := by
    have := Heap.get?_push_size (s.heap.push { cls := .type "tuple_iterator", data := .fields #[.ref l, .int 0 0] })
      (o := { cls := .type "enumerate", data := .fields #[.none, .bool false, .ref s.heap.objs.size, rawInt 0, .none, .none] }) rfl
    rw [hz] at this; exact this
  exact ⟨⟨_, he, rfl⟩, h _ he ⟨_, Heap.get?_push_of_some _ (Heap.get?_push_size _ rfl), rfl, rfl⟩ (by rw [Heap.size_push, hz]) fun b o x => Heap.get?_push_of_some _ (Heap.get?_push_of_some _ x)⟩

def valKind : ItemKind Value := ⟨fun a v => v = a, fun v => some v, fun _ _ h => by rw [h]⟩

/-- a loop over enumerate of a tuple that stands in the base -/
theorem enum_tup {Q : Value → Shared → Prop} {h₀ : Heap} {L : Addr} {m : Str → Option Value} {l : Addr} {vs : List Value} (hh : A.handled = none) (hl : h₀.IsTuple l vs.toArray) (F : Fr h₀ L s.heap m)
    (h : ∀ h' e, Fr h₀ L h' m → PairSrcL prog w A E h₀ L valKind vs (.ref e) { s with heap := h' } m [] → Q (.ref e) { s with heap := h' }) :
    wpAny (model prog w) A (call (.type "enumerate") [.ref l]) Q E s := by
  have hls : s.heap.IsTuple l vs.toArray := hl.at fun o e => F.keep l o e
  obtain ⟨ol, hol, _⟩ := id hl
  have hlt : l < h₀.objs.size := Heap.lt_size hol
  have hLs : L < s.heap.objs.size := F.ns.lt
  have hab : h₀.objs.size ≤ L := F.above
  refine call_enum_tup hls fun h' he hit hsz hk => ?_
  have F' : Fr h₀ L h' m := ⟨F.ns.keeps hk, fun b o e => hk b o (F.keep b o e), F.above⟩
  refine h h' _ F' fun env hL => ?_
  subst hL
  have hl2 : l < s.heap.objs.size := Nat.lt_trans (Nat.lt_of_lt_of_le hlt hab) hLs
  refine enumSrc (draws_tup (A := A.in1) hh s.heap.objs.size l (Nat.ne_of_lt hl2) vs.toArray) he ⟨hit, hls.at fun o e => hk l o e⟩ (Nat.succ_ne_self _) ?_ (by simp) ?_
    (Heap.get?_none_of_le (Nat.le_trans hab (Nat.le_of_lt (Nat.lt_succ_of_lt hLs)))) (Heap.get?_none_of_le (Nat.le_trans hab (Nat.le_of_lt hLs))) (fun _ _ _ hq => nomatch hq) (by simp) (fun i x hx => ⟨x, by simpa using hx, rfl⟩) F' News.nil
  · intro hm
    rcases List.mem_cons.mp hm with e | hm
    · exact Nat.succ_ne_self _ e
    · exact Nat.ne_of_gt (Nat.lt_succ_of_lt hl2) (List.mem_singleton.mp hm)
  · intro hm
    rcases List.mem_cons.mp hm with e | hm
    · exact Nat.ne_of_lt (Nat.lt_succ_of_lt hLs) e
    · rcases List.mem_cons.mp hm with e | hm
      · exact Nat.ne_of_lt hLs e
      · exact Nat.ne_of_gt (Nat.lt_of_lt_of_le hlt hab) (List.mem_singleton.mp hm)
end
end Mine

/-! part P2 -/
namespace Mine

theorem and63 : ∀ b : Nat, b < 256 → Builtin.bitAnd (b : Int) 63 = (b : Int) % 64 := by decide +kernel
theorem and64 : ∀ b : Nat, b < 256 → Builtin.bitAnd (b : Int) 64 = if b % 128 < 64 then 0 else 64 := by decide +kernel
theorem or_low (n k : Nat) (hk : k < 64) : Builtin.bitOr ((n : Int) * 2 ^ (6 : Int).toNat) (k : Int) = (n : Int) * 64 + k := by
  have e : (n : Int) * 2 ^ (6 : Int).toNat = ((n * 64 : Nat) : Int) := by
    rw [show (6 : Int).toNat = 6 from rfl]; omega
  rw [e, bitOr_and, bitAnd_pp (by omega) (by omega)]
  have h0 : (n * 64) &&& k = 0 := by
    have h1 : k &&& 63 = k := by rw [show (63 : Nat) = 2 ^ 6 - 1 from rfl, Nat.and_two_pow_sub_one_eq_mod]; exact Nat.mod_eq_of_lt hk
    have h2 : (n * 64) &&& 63 = 0 := by rw [show (63 : Nat) = 2 ^ 6 - 1 from rfl, Nat.and_two_pow_sub_one_eq_mod]; omega
    rw [← h1, Nat.and_comm k 63, ← Nat.and_assoc, h2, Nat.zero_and]
  rw [Int.toNat_natCast, Int.toNat_natCast, h0]
  omega

/-- the number that octets tell -/
def ev : List Nat → Nat
  | [] => 0
  | b :: r => (b % 64) * 64 ^ r.length + ev r
def Shape : List Nat → Prop
  | [] => False
  | [b] => b < 256 ∧ b % 128 < 64
  | b :: r => (b < 256 ∧ 64 ≤ b % 128) ∧ Shape r

theorem vloop_shape : ∀ (r : List Nat) (b val : Nat), Shape (b :: r) → r.length ≤ 4 → val < 64 ^ (5 - r.length) → vloop (val : Int) (b : Int) (r.map Int.ofNat) = some ((val * 64 ^ r.length + ev r : Nat) : Int)
  | [], b, val, h, _, _ => by
    obtain ⟨h1, h2⟩ := h
    rw [List.map_nil, vloop, and64 b h1, if_pos h2, if_pos rfl]
    simp [ev]
  | b' :: r, b, val, h, hl, hv => by
    obtain ⟨⟨h1, h2⟩, h3⟩ := h
    have hb' : b' < 256 := by
      cases r with
      | nil => exact h3.1
      | cons _ _ => exact h3.1.1
    simp only [List.length_cons] at hl hv ⊢
    rw [List.map_cons, vloop, and64 b h1, if_neg (by omega)]
    have hb : ((val : Int)).natAbs < 2 ^ 64 := by
      rw [Int.natAbs_natCast]
      refine Nat.lt_of_lt_of_le hv ?_
      have : 64 ^ (5 - (r.length + 1)) ≤ 64 ^ 5 := Nat.pow_le_pow_right (by decide) (by omega)
      exact Nat.le_trans this (by decide)
    rw [if_pos hb, show Int.ofNat b' = (b' : Int) from rfl, and63 b' hb', show ((b' : Int) % 64) = ((b' % 64 : Nat) : Int) by omega, or_low val _ (Nat.mod_lt _ (by decide))]
    rw [show ((val : Int) * 64 + ((b' % 64 : Nat) : Int)) = ((val * 64 + b' % 64 : Nat) : Int) by omega]
    have e5 : 5 - r.length = (5 - (r.length + 1)) + 1 := by omega
    rw [vloop_shape r b' (val * 64 + b' % 64) h3 (by omega) (by rw [e5, Nat.pow_succ]; have := Nat.mod_lt b' (show 0 < 64 by decide); omega)]
    rw [ev, Nat.pow_succ, Nat.add_mul, Nat.mul_assoc, Nat.mul_comm 64 (64 ^ r.length), Nat.add_assoc]

theorem vparse_shape (os : List Nat) (h : Shape os) (hl : os.length ≤ 4) : vparse (os.map Int.ofNat) = some ((ev os : Nat) : Int) := by
  cases os with
  | nil => exact h.elim
  | cons b r =>
    have hb : b < 256 := by
      cases r with
      | nil => exact h.1
      | cons _ _ => exact h.1.1
    simp only [List.length_cons] at hl
    rw [List.map_cons, vparse, show Int.ofNat b = (b : Int) from rfl, and63 b hb, show ((b : Int) % 64) = ((b % 64 : Nat) : Int) by omega,
      vloop_shape r b (b % 64) h (by omega) ?_]
    · rfl
    · have e : 64 ^ 1 ≤ 64 ^ (5 - r.length) := Nat.pow_le_pow_right (by decide) (by omega)
      have := Nat.mod_lt b (show 0 < 64 by decide)
      omega

/-- the figures on the way: the rest still to be written, and what stands -/
def FigOk (v : Nat) (left : Nat) (fs : List Nat) : Prop := Shape fs ∧ (∀ f ∈ fs, f < 128) ∧ left * 64 ^ fs.length + ev fs = v ∧ (fs.length = 1 ∨ fs.length = 2 ∨ (fs.length = 3 ∧ left = 0))
theorem figOk_start {v : Nat} (hv : v < 262144) : FigOk v (v / 64) [v % 64] := by
  have h := Nat.mod_lt v (show 0 < 64 by decide)
  refine ⟨⟨by omega, by omega⟩, ?_, ?_, .inl rfl⟩
  · intro f hf
    rw [List.mem_singleton.mp hf]; omega
  · show v / 64 * 64 ^ 1 + (v % 64 % 64 * 64 ^ 0 + 0) = v
    omega
theorem shape_cons {b : Nat} {r : List Nat} (h : Shape r) (h1 : b < 256) (h2 : 64 ≤ b % 128) : Shape (b :: r) := by
  cases r with
  | nil => exact h.elim
  | cons a r => exact ⟨⟨h1, h2⟩, h⟩
theorem figOk_turn {v left : Nat} {fs : List Nat} (hv : v < 262144) (h : FigOk v left fs) (hl : 0 < left) : FigOk v (left / 64) ((64 + left % 64) :: fs) := by
  obtain ⟨h1, h2, h3, h4⟩ := h
  have hm := Nat.mod_lt left (show 0 < 64 by decide)
  refine ⟨shape_cons h1 (by omega) (by omega), ?_, ?_, ?_⟩
  · intro f hf
    rcases List.mem_cons.mp hf with rfl | hf
    · omega
    · exact h2 f hf
  · rw [List.length_cons, ev, Nat.pow_succ, show (64 + left % 64) % 64 = left % 64 by omega, ← h3]
    have e : left = left / 64 * 64 + left % 64 := by omega
    calc left / 64 * (64 ^ fs.length * 64) + (left % 64 * 64 ^ fs.length + ev fs) = (left / 64 * 64 + left % 64) * 64 ^ fs.length + ev fs := by
          rw [Nat.add_mul, Nat.mul_comm (64 ^ fs.length) 64, Nat.mul_assoc, Nat.add_assoc]
      _ = left * 64 ^ fs.length + ev fs := by rw [← e]
  · rcases h4 with h4 | h4 | ⟨h4, h5⟩
    · exact .inr (.inl (by rw [List.length_cons, h4]))
    · refine .inr (.inr ⟨by rw [List.length_cons, h4], ?_⟩)
      rw [h4] at h3
      have e : (64 : Nat) ^ 2 = 4096 := rfl
      rw [e] at h3
      omega
    · omega
theorem figOk_end {v : Nat} {fs : List Nat} (h : FigOk v 0 fs) : Shape fs ∧ (∀ f ∈ fs, f < 128) ∧ ev fs = v ∧ fs.length ≤ 3 := by
  obtain ⟨h1, h2, h3, h4⟩ := h
  exact ⟨h1, h2, by omega, by omega⟩

/-- the octets that bear the figures -/
def MatchAll : List Nat → List Nat → Prop
  | [], [] => True
  | o :: os, f :: fs => (o = f ∨ o = f + 128) ∧ MatchAll os fs
  | _, _ => False
theorem matchAll_snoc : ∀ {os fs : List Nat} {o f : Nat}, MatchAll os fs → (o = f ∨ o = f + 128) → MatchAll (os ++ [o]) (fs ++ [f])
  | [], [], _, _, _, h => ⟨h, trivial⟩
  | _ :: _, _ :: _, _, _, h, h' => ⟨h.1, matchAll_snoc h.2 h'⟩
theorem matchAll_length : ∀ {os fs : List Nat}, MatchAll os fs → os.length = fs.length
  | [], [], _ => rfl
  | _ :: _, _ :: _, h => by rw [List.length_cons, List.length_cons, matchAll_length h.2]
theorem matchAll_ev : ∀ {os fs : List Nat}, MatchAll os fs → ev os = ev fs
  | [], [], _ => rfl
  | o :: os, f :: fs, h => by
    rw [ev, ev, matchAll_length h.2, matchAll_ev h.2]
    rcases h.1 with rfl | rfl
    · rfl
    · rw [show (f + 128) % 64 = f % 64 by omega]
theorem matchAll_shape : ∀ {os fs : List Nat}, MatchAll os fs → (∀ f ∈ fs, f < 128) → Shape fs → Shape os
  | [], [], _, _, h => h
  | [o], [f], h, hf, hs => by
    have := hf f (.head _)
    have h2 := hs.2
    exact ⟨by rcases h.1 with rfl | rfl <;> omega, by rcases h.1 with rfl | rfl <;> omega⟩
  | o :: o' :: os, f :: f' :: fs, h, hf, hs => by
    have := hf f (.head _)
    have h2 := hs.1.2
    exact ⟨⟨by rcases h.1 with rfl | rfl <;> omega, by rcases h.1 with rfl | rfl <;> omega⟩, matchAll_shape h.2 (fun x hx => hf x (.tail _ hx)) hs.2⟩
  | [_], _ :: _ :: _, h, _, _ => h.2.elim
  | _ :: _ :: _, [_], h, _, _ => h.2.elim
theorem part_parse {v : Nat} {os fs : List Nat} (hf : FigOk v 0 fs) (hm : MatchAll os fs) : vparse (os.map Int.ofNat) = some (v : Int) := by
  obtain ⟨h1, h2, h3, h4⟩ := figOk_end hf
  rw [vparse_shape os (matchAll_shape hm h2 h1) (by rw [matchAll_length hm]; omega), matchAll_ev hm, h3]

/-- parts with an apostrophe between two of them -/
def glue : List (List Nat) → List Nat
  | [] => []
  | [p] => p
  | p :: r => p ++ 39 :: glue r
theorem glue_snoc : ∀ (ps : List (List Nat)) (p : List Nat), ps ≠ [] → glue (ps ++ [p]) = glue ps ++ 39 :: p
  | [], _, h => absurd rfl h
  | [a], p, _ => rfl
  | a :: b :: r, p, _ => by
    show a ++ 39 :: glue ((b :: r) ++ [p]) = (a ++ 39 :: glue (b :: r)) ++ 39 :: p
    rw [glue_snoc (b :: r) p (by simp)]
    simp

/-- what a written text is good for -/
def Written (cs : List Nat) (x y z : Int) : Prop := cs.length ≤ 1000 ∧ ∃ A B C : List Nat, cs.filter (fun k : Nat => !b1List.contains (k : Int)) = A ++ 39 :: (B ++ 39 :: C) ∧ 39 ∉ A ∧ 39 ∉ B ∧
  vparse (A.map Int.ofNat) = some x ∧ vparse (B.map Int.ofNat) = some y ∧ vparse (C.map Int.ofNat) = some z
/-- on the way, k parts stand -/
def Half (vals : List Nat) (k : Nat) (cs : List Nat) : Prop := cs.length ≤ 8 * k ∧ ∃ ps : List (List Nat), ps.length = k ∧ cs.filter (fun k : Nat => !b1List.contains (k : Int)) = glue ps ∧
  ∀ (j : Nat) (p : List Nat), ps[j]? = some p → (j < 2 → 39 ∉ p) ∧ ∃ v, vals[j]? = some v ∧ vparse (p.map Int.ofNat) = some ((v : Nat) : Int)
theorem half_zero (vals : List Nat) : Half vals 0 [] := ⟨by simp, [], rfl, rfl, fun j p h => by simp at h⟩
theorem half_three {x y z : Nat} {cs : List Nat} (h : Half [x, y, z] 3 cs) : Written cs x y z := by
  obtain ⟨hl, ps, h1, h2, h3⟩ := h
  match ps, h1 with
  | [a, b, c], _ =>
    obtain ⟨a1, v1, e1, p1⟩ := h3 0 a rfl
    obtain ⟨a2, v2, e2, p2⟩ := h3 1 b rfl
    obtain ⟨a3, v3, e3, p3⟩ := h3 2 c rfl
    cases e1; cases e2; cases e3
    exact ⟨by omega, a, b, c, h2, a1 (by decide), a2 (by decide), p1, p2, p3⟩
/-- the parts so far, and the apostrophe behind them -/
def Mid (vals : List Nat) (k : Nat) (cs : List Nat) : Prop := cs.length ≤ 8 * k + 1 ∧ ∃ ps : List (List Nat), ps.length = k ∧ cs.filter (fun k : Nat => !b1List.contains (k : Int)) = (if k = 0 then [] else glue ps ++ [39]) ∧
  ∀ (j : Nat) (p : List Nat), ps[j]? = some p → (j < 2 → 39 ∉ p) ∧ ∃ v, vals[j]? = some v ∧ vparse (p.map Int.ofNat) = some ((v : Nat) : Int)
theorem half_mid_zero {vals : List Nat} {cs : List Nat} (h : Half vals 0 cs) : Mid vals 0 cs := by
  obtain ⟨h1, ps, h2, h3, h4⟩ := h
  refine ⟨by omega, ps, h2, ?_, h4⟩
  rw [if_pos rfl, h3, List.eq_nil_of_length_eq_zero h2]
  rfl
theorem half_mid {vals : List Nat} {k : Nat} {cs : List Nat} (h : Half vals k cs) (hk : k ≠ 0) : Mid vals k (cs ++ [39]) := by
  obtain ⟨h1, ps, h2, h3, h4⟩ := h
  refine ⟨by simp; omega, ps, h2, ?_, h4⟩
  rw [if_neg hk, List.filter_append, h3]
  rfl
theorem mid_half {vals : List Nat} {k v : Nat} {cs cs' os fs : List Nat} (h : Mid vals k cs) (hv : vals[k]? = some v) (hf : FigOk v 0 fs) (hm : MatchAll os fs) (ho : k < 2 → 39 ∉ os)
    (hc : cs'.filter (fun k : Nat => !b1List.contains (k : Int)) = cs.filter (fun k : Nat => !b1List.contains (k : Int)) ++ os) (hl : cs'.length ≤ cs.length + 2 * fs.length) : Half vals (k + 1) cs' := by
  obtain ⟨h1, ps, h2, h3, h4⟩ := h
  have h5 := (figOk_end hf).2.2.2
  refine ⟨by omega, ps ++ [os], by simp [h2], ?_, ?_⟩
  · rw [hc, h3]
    by_cases hk : k = 0
    · subst hk
      rw [if_pos rfl, List.eq_nil_of_length_eq_zero h2]
      rfl
    · rw [if_neg hk, glue_snoc ps os (by intro e; rw [e] at h2; exact hk h2.symm)]
      simp
  · intro j p hj
    rcases Nat.lt_or_ge j ps.length with hlt | hge
    · rw [List.getElem?_append_left hlt] at hj
      exact h4 j p hj
    · rw [List.getElem?_append_right hge] at hj
      have hj0 : j - ps.length = 0 := by
        rcases Nat.eq_zero_or_pos (j - ps.length) with h | h
        · exact h
        · rw [List.getElem?_eq_none (by simp only [List.length_singleton]; omega)] at hj
          cases hj
      rw [hj0] at hj
      cases hj
      have hjk : j = k := by omega
      subst hjk
      exact ⟨ho, v, hv, part_parse hf hm⟩
theorem filt_b1 {cs : List Nat} {k : Nat} (hk : b1List.contains (k : Int) = true) : (cs ++ [k]).filter (fun k : Nat => !b1List.contains (k : Int)) = cs.filter (fun k : Nat => !b1List.contains (k : Int)) := by
  rw [List.filter_append, List.filter_cons, hk]
  simp
theorem filt_keep {cs : List Nat} {k : Nat} (hk : b1List.contains (k : Int) = false) : (cs ++ [k]).filter (fun k : Nat => !b1List.contains (k : Int)) = cs.filter (fun k : Nat => !b1List.contains (k : Int)) ++ [k] := by
  rw [List.filter_append, List.filter_cons, hk]
  simp
theorem low_keeps : ∀ f : Nat, f < 128 → b1List.contains (f : Int) = false := by decide +kernel
theorem high_keeps : ∀ f : Nat, f < 128 → f ≠ 45 → b1List.contains ((f + 128 : Nat) : Int) = false := by decide +kernel
theorem not39 {os : List Nat} {o : Nat} (h : 39 ∉ os) (ho : o ≠ 39) : 39 ∉ os ++ [o] := by
  rw [List.mem_append, List.mem_singleton]
  rintro (h' | h')
  · exact h h'
  · exact ho h'.symm
end Mine

/-! part W6 -/
namespace Mine
section
variable {w : World} {A : Around} {E : Value → Shared → Prop} {s : Shared} {mean : ExcName → Option Value} {mg mb : Str → Option Value} {f : Addr} {d u : Nat}

theorem iadd_txt {cs ds : List Nat} {y : Str} {t u : Tok} {Q : Value → Shared → Prop} (hy : y = ⟨ds.toArray⟩) (h : ∀ t' tk, Q (.str ⟨(cs ++ ds).toArray⟩ t') { s with toks := tk }) (hsz : cs.length + ds.length ≤ 10000) :
    wpAny (model pw w) A (inplaceOp .Add (.str ⟨cs.toArray⟩ t) (.str y u)) Q E s := by
  subst hy
  refine PyProof.Rows.iadd_str (fun t' tk => ?_) ?_
  · have e : (⟨cs.toArray⟩ : Str) ++ ⟨ds.toArray⟩ = ⟨(cs ++ ds).toArray⟩ := by
      apply congrArg Str.mk
      apply Array.toList_inj.mp
      simp
    rw [e]
    exact h t' tk
  · show cs.toArray.size + ds.toArray.size ≤ sizeLine
    have := sizeLine_eq
    simp only [List.size_toArray]
    omega

theorem iadd_one {cs : List Nat} {k : Nat} {t u : Tok} {Q : Value → Shared → Prop} (h : ∀ t' tk, Q (.str ⟨(cs ++ [k]).toArray⟩ t') { s with toks := tk }) (hsz : cs.length ≤ 1000) :
    wpAny (model pw w) A (inplaceOp .Add (.str ⟨cs.toArray⟩ t) (.str ⟨#[k]⟩ u)) Q E s := iadd_txt (ds := [k]) rfl h (by simp only [List.length_singleton]; omega)

set_option maxHeartbeats 4000000 in
theorem written_spec {M : Addr} {x y z : Nat} {t1 t2 t3 tn : Tok} {no : Int} {Q : Value → Shared → Prop} (R : Rm A d u) (G : Gd mean mg mb s.heap) (hf : mg (Str.ofString "_law_written") = some (.ref f))
   (hM : s.heap.IsTuple M #[.int (x : Int) t1, .int (y : Int) t2, .int (z : Int) t3]) (hx : x < 262144) (hy : y < 262144) (hz : z < 262144)
   (hQ : ∀ cs t h' tk', Stays s.heap h' → Written cs x y z → Q (.str ⟨cs.toArray⟩ t) { s with heap := h', toks := tk' }) (hd : 2 ≤ d := by decide) (hu : 6 ≤ u := by decide) :
   wpAny (model pw w) A (call (.ref f) [.ref M, .int no tn]) Q E s := by
  obtain ⟨f', o, pm, code, doc, h1, h2, h3, h4⟩ := fn_at (i := 16) rfl rfl G.T
  rw [hf] at h1
  cases h1
  refine enter_fn (binds := [(Str.ofString "mill", .ref M), (Str.ofString "number", .int no tn)]) R G.T h2 h3 h4 rfl (locs rfl) (fun h₁ tk F R' T' => ?_) (by omega) (by omega)
  clear h3 T'
  have T : Top q loose mean mg mb s.heap := G.T
  w_top on
  have N : News s.heap s.heap.objs.size h₁ [] := News.nil
  repeat' ((fail_if_success (with_reducible show wpAny _ _ (exec (Stmt.For _ _ _ _ _) _) _ _ _)); walk1)
  refine For_pair3 s.heap R'.hh rfl rfl rfl ?_ (by intro _; rfl) PassesOwn.never
  repeat' ((fail_if_success (with_reducible show wpAny _ _ (call (Value.type _) _) _ _ _)); walk1)
  (rename Fr _ _ _ _ => F)
  refine enum_tup (h₀ := s.heap) (vs := [.int (x : Int) t1, .int (y : Int) t2, .int (z : Int) t3]) R'.hh hM F (fun h' e F' src => ?_)
  clear F
  repeat' ((fail_if_success (with_reducible show wpAny _ _ (pyIter _) _ _ _)); walk1)
  refine src _ rfl _ _ _ _ (fun i m news => news = [] ∧ ∃ (cs : List Nat) (pl : Nat) (tt tp : Tok), m (Str.ofString "text") = some (.str ⟨cs.toArray⟩ tt) ∧ m (Str.ofString "place") = some (.int (pl : Int) tp) ∧ m (Str.ofString "number") = some (.int no tn) ∧ pl ≤ 3 * i ∧ Half [x, y, z] i cs)
    ⟨rfl, [], 0, _, _, rfl, rfl, rfl, by omega, half_zero _⟩ ?_ ?_
  · rintro i a t v m₁ news₁ s₁ ownE ⟨hh, tk', rfl⟩ has hK ⟨rfl, cs, pl, tt, tp, hm1, hm2, hm3, hpl, hH⟩ _ _ F N
    obtain ⟨vi, hvi, hi3, hvb, ta, rfl⟩ : ∃ vi, [x, y, z][i]? = some vi ∧ i < 3 ∧ vi < 262144 ∧ ∃ ta, v = Value.int ((vi : Nat) : Int) ta := by
      obtain rfl : v = a := hK
      rcases i with _ | _ | _ | i
      · exact ⟨x, rfl, by decide, hx, t1, (Option.some.inj has).symm⟩
      · exact ⟨y, rfl, by decide, hy, t2, (Option.some.inj has).symm⟩
      · exact ⟨z, rfl, by decide, hz, t3, (Option.some.inj has).symm⟩
      · cases has
    rw [← kstB_id (m := m₁) (ps := [(Str.ofString "text", .str ⟨cs.toArray⟩ tt), (Str.ofString "place", .int (pl : Int) tp), (Str.ofString "number", .int no tn)]) (by simp [hm1, hm2, hm3])] at F
    simp only [kstB] at F
    clear F' src hm1 hm2 hm3 has
    refine wpAny_execs_cons (wpAny_mono (Q := fun fl s' => fl = .next ∧ ∃ hh tk' cs' tt' m', s' = { s with heap := hh, toks := tk' } ∧ Mid [x, y, z] i cs' ∧ News s.heap s.heap.objs.size hh ownE ∧
      Fr s.heap s.heap.objs.size hh (kstB m' [(Str.ofString "text", .str ⟨cs'.toArray⟩ tt'), (Str.ofString "place", .int (pl : Int) tp), (Str.ofString "number", .int no tn), (Str.ofString "part", .int (i : Int) t), (Str.ofString "value", .int (vi : Int) ta)])) ?_ ?_ (fun _ _ h => h))
    · rw [List.append_nil] at N
      repeat' ((fail_if_success (with_reducible show _ ∧ _)); walk1)
      · refine iadd_txt (ds := [39]) (by decide +kernel) (fun t' tk => ?_) (by have := hH.1; simp only [List.length_singleton]; omega)
        repeat' ((fail_if_success (with_reducible show _ ∧ _)); walk1)
        rename Fr _ _ _ _ => F
        rename News _ _ _ _ => N
        rename (i : Int) > 0 => hi0
        exact ⟨rfl, _, _, cs ++ [39], _, _, rfl, half_mid hH (by omega), N, frPuts _ F (by kst_all)⟩
      · rename ¬ (i : Int) > 0 => hi0
        have hi0' : i = 0 := by omega
        subst hi0'
        exact ⟨rfl, _, _, cs, _, _, rfl, half_mid_zero hH, N, frPuts _ F (by kst_all)⟩
    · rintro fl s' ⟨rfl, hh', tk'', cs', tt', m', rfl, hMid, N', F'⟩
      simp only [kstB] at F'
      clear F N
      dsimp only
      repeat' ((fail_if_success (with_reducible show wpAny _ _ (exec (Stmt.While _ _ _ _) _) _ _ _)); walk1)
      have hfm : ((vi : Nat) : Int).fmod 64 = ((vi % 64 : Nat) : Int) := by rw [Int.fmod_eq_emod_of_nonneg _ (by decide)]; omega
      have hfd : ((vi : Nat) : Int).fdiv 64 = ((vi / 64 : Nat) : Int) := by rw [Int.fdiv_eq_ediv_of_nonneg _ (by decide)]; omega
      simp only [hfm, hfd] at *
      (rename Fr _ _ _ _ => F); (rename News _ _ _ _ => N)
      refine While_inv2 (fun n m news => ∃ (left : Nat) (fs : List Nat) (D : Addr) (c : Nat) (vsF : List Value) (tl : Tok), left = n ∧ FigOk vi left fs ∧ news = (D, listO vsF c) :: ownE ∧ IntsAre vsF (fs.map Int.ofNat) ∧
        m (Str.ofString "left") = some (.int (left : Int) tl) ∧ m (Str.ofString "figures") = some (.ref D) ∧ m (Str.ofString "text") = some (.str ⟨cs'.toArray⟩ tt') ∧ m (Str.ofString "place") = some (.int (pl : Int) tp) ∧
        m (Str.ofString "number") = some (.int no tn) ∧ m (Str.ofString "part") = some (.int (i : Int) t)) F N
        ⟨vi / 64, [vi % 64], _, _, _, _, rfl, figOk_start hvb, rfl, .cons _ _ .nil, rfl, rfl, rfl, rfl, rfl, rfl⟩ (fun n m₂ news₂ h₂ tk₂ F₁ N₁ hJ => ?_) PassesOwn.never
      obtain ⟨left, fs, D, c, vsF, tl, rfl, hFig, rfl, hIF, w1, w2, w3, w4, w5, w6⟩ := hJ
      rw [← kstB_id (m := m₂) (ps := [(Str.ofString "left", .int (left : Int) tl), (Str.ofString "figures", .ref D), (Str.ofString "text", .str ⟨cs'.toArray⟩ tt'), (Str.ofString "place", .int (pl : Int) tp), (Str.ofString "number", .int no tn), (Str.ofString "part", .int (i : Int) t)]) (by simp [w1, w2, w3, w4, w5, w6])] at F₁
      simp only [kstB] at F₁
      clear w1 w2 w3 w4 w5 w6 F N F' N'
      dsimp only
      repeat' ((fail_if_success (with_reducible show wpAny _ _ (exec (Stmt.For _ _ _ _ _) _) _ _ _)); walk1)
      · (rename Fr _ _ _ _ => F); (rename News _ _ _ _ => N)
        rename (left : Int) > 0 => hpos
        have hfm : ((left : Nat) : Int).fmod 64 = ((left % 64 : Nat) : Int) := by rw [Int.fmod_eq_emod_of_nonneg _ (by decide)]; omega
        have hfd : ((left : Nat) : Int).fdiv 64 = ((left / 64 : Nat) : Int) := by rw [Int.fdiv_eq_ediv_of_nonneg _ (by decide)]; omega
        have hfl : fs.length ≤ 3 := by obtain ⟨_, _, _, h⟩ := hFig; omega
        refine add_lists_ints (ws := vsF) F N (News.isList N (.head _)) (News.isList N (.tail _ (.head _))) (.cons _ _ .nil) hIF (fun h' F' N' hI' => ?_) (by simp only [List.length_cons, List.length_nil, List.length_map]; have := sizeLine_eq; omega)
        clear F N F₁ N₁
        repeat' walk1
        (rename Fr _ _ _ _ => F); (rename News _ _ _ _ => N)
        have hF2 := figOk_turn hvb hFig (by omega)
        simp only [hfm, hfd] at *
        refine ⟨_, _, _, _, left / 64, rfl, F, kst_newsOf (l' := (_, _) :: ownE) N (fun p hp => by rcases List.mem_cons.mp hp with rfl | hp; exact .head _; exact .tail _ (.tail _ (.tail _ hp))), by omega, left / 64, (64 + left % 64) :: fs, _, _, _, _, rfl, hF2, rfl, ?_, rfl, rfl, rfl, rfl, rfl, rfl⟩
        simpa using hI'
      · (rename Fr _ _ _ _ => F); (rename News _ _ _ _ => N)
        rename ¬ (left : Int) > 0 => hpos
        have hl0 : left = 0 := by omega
        subst hl0
        refine For_invV s.heap rfl rfl ?_ (by intro _; rfl) PassesOwn.never
        repeat' ((fail_if_success (with_reducible show wpAny _ _ (pyIter _) _ _ _)); walk1)
        refine iter_invNL (fun k m news => news = (D, listO vsF c) :: ownE ∧ ∃ (cs2 os : List Nat) (tt2 tp2 : Tok), m (Str.ofString "text") = some (.str ⟨cs2.toArray⟩ tt2) ∧ m (Str.ofString "place") = some (.int ((pl + k : Nat) : Int) tp2) ∧
          m (Str.ofString "number") = some (.int no tn) ∧ m (Str.ofString "part") = some (.int (i : Int) t) ∧ cs2.filter (fun k : Nat => !b1List.contains (k : Int)) = cs'.filter (fun k : Nat => !b1List.contains (k : Int)) ++ os ∧
          MatchAll os (fs.take k) ∧ (i < 2 → 39 ∉ os) ∧ cs2.length ≤ cs'.length + 2 * k) R'.hh (.head _) hIF F N ⟨rfl, cs', [], _, _, rfl, rfl, rfl, rfl, by simp, trivial, by simp, by omega⟩ ?_ ?_
        · rintro k n t9 m₃ news₃ h₃ tk₃ own hn _ hoff hmem ⟨rfl, cs2, os, tt2, tp2, w1, w2, w3, w4, hfil, hmat, h39, hlen⟩ F₃ N₃
          obtain ⟨fg, hfg, rfl⟩ : ∃ fg, fs[k]? = some fg ∧ n = ((fg : Nat) : Int) := by
            rw [List.getElem?_map] at hn
            obtain ⟨fg, h1, h2⟩ := Option.map_eq_some_iff.mp hn
            exact ⟨fg, h1, h2.symm⟩
          have hfg128 : fg < 128 := (figOk_end hFig).2.1 fg (List.mem_of_getElem? hfg)
          rw [← kstB_id (m := m₃) (ps := [(Str.ofString "text", .str ⟨cs2.toArray⟩ tt2), (Str.ofString "place", .int ((pl + k : Nat) : Int) tp2), (Str.ofString "number", .int no tn), (Str.ofString "part", .int (i : Int) t)]) (by simp [w1, w2, w3, w4])] at F₃
          simp only [kstB] at F₃
          clear w1 w2 w3 w4 F N
          repeat' ((fail_if_success (with_reducible show wpAny _ _ (binaryOp Operator.Pow _ _) _ _ _)); walk1)
          have hpm : ((pl + k : Nat) : Int).fmod 12 = (((pl + k) % 12 : Nat) : Int) := by rw [Int.fmod_eq_emod_of_nonneg _ (by decide)]; omega
          simp only [hpm]
          have hp12 : (pl + k) % 12 < 12 := Nat.mod_lt _ (by decide)
          refine pow_int_small (by omega) (by omega) (by decide) ?_
          simp only [Int.toNat_natCast]
          have hT0 : (0 : Int) < 2 ^ ((pl + k) % 12) := Int.pow_pos (by decide)
          have hT1 : (2 : Int) ^ ((pl + k) % 12) ≤ 2048 := (by decide : ∀ j, j < 12 → (2 : Int) ^ j ≤ 2048) _ hp12
          generalize (2 : Int) ^ ((pl + k) % 12) = TT at hT0 hT1
          repeat' ((fail_if_success (with_reducible show wpAny _ _ (binaryOp Operator.FloorDiv _ _) _ _ _)); walk1)
          refine floordiv_int (by omega) ?_ (Or.inl (PyProof.noPylong_small (by omega)))
          repeat' ((fail_if_success (with_reducible show wpAny _ _ (binaryOp Operator.Mod _ _) _ _ _)); walk1)
          refine mod_int' (by decide) ?_
          have hturn0 : 0 ≤ (no.fdiv TT).fmod 4 := Int.fmod_nonneg_of_pos _ (by decide)
          have hturn4 : (no.fdiv TT).fmod 4 < 4 := Int.fmod_lt_of_pos _ (by decide)
          generalize (no.fdiv TT).fmod 4 = turn at hturn0 hturn4
          repeat' ((fail_if_success (with_reducible show wpAny _ _ (exec (Stmt.If _ _ _ _) _) _ _ _)); walk1)
          (rename Fr _ _ _ _ => F4); (rename News _ _ _ _ => N4)
          refine wpAny_mono (Q := fun fl s' => fl = .next ∧ ∃ (hh : Heap) (tk' : Nat) (cs3 : List Nat) (tt' tq : Tok) (m' : Str → Option Value), s' = { s with heap := hh, toks := tk' } ∧ News s.heap s.heap.objs.size hh ((D, listO vsF c) :: ownE ++ own) ∧
            cs3.filter (fun k : Nat => !b1List.contains (k : Int)) = cs'.filter (fun k : Nat => !b1List.contains (k : Int)) ++ os ∧ cs3.length ≤ cs'.length + 2 * k + 1 ∧
            Fr s.heap s.heap.objs.size hh (kstB m' [(Str.ofString "text", .str ⟨cs3.toArray⟩ tt'), (Str.ofString "turn", .int turn tq), (Str.ofString "place", .int ((pl + k : Nat) : Int) tp2), (Str.ofString "number", .int no tn), (Str.ofString "part", .int (i : Int) t), (Str.ofString "figure", .int (fg : Int) t9)])) ?_ ?_ (fun _ _ h => h)
          · repeat' ((fail_if_success (with_reducible show _ ∧ _)); (fail_if_success (with_reducible show wpAny _ _ (subscriptTail _ _ _ _) _ _ _)); walk1)
            · (rename Fr _ _ _ _ => F5); (rename News _ _ _ _ => N5)
              have hpm4 : ((pl + k : Nat) : Int).fmod 4 = (((pl + k) % 4 : Nat) : Int) := by rw [Int.fmod_eq_emod_of_nonneg _ (by decide)]; omega
              simp only [hpm4]
              have hp4 : (pl + k) % 4 < 4 := Nat.mod_lt _ (by decide)
              generalize (pl + k) % 4 = jj at hp4
              have hcs2 : cs2.length ≤ 1000 := by have := hMid.1; have := (figOk_end hFig).2.2.2; have := (List.getElem?_eq_some_iff.mp hfg).1; omega
              obtain ⟨cv, tv, hcv, hcb, hcm⟩ : ∃ (cv : Nat) (tv : Tok), ([Value.int 173 (tk₃ + 1 + 1 + 1 + 1 + 1 + 1 + 1 + 1 + 1), Value.int 847 (tk₃ + 1 + 1 + 1 + 1 + 1 + 1 + 1 + 1 + 1 + 1), Value.int 65279 (tk₃ + 1 + 1 + 1 + 1 + 1 + 1 + 1 + 1 + 1 + 1 + 1), Value.int 8203 (tk₃ + 1 + 1 + 1 + 1 + 1 + 1 + 1 + 1 + 1 + 1 + 1 + 1)] : List Value)[jj]? = some (Value.int (cv : Int) tv) ∧ b1List.contains (cv : Int) = true ∧ cv ≤ 65279 := by
                obtain rfl | rfl | rfl | rfl : jj = 0 ∨ jj = 1 ∨ jj = 2 ∨ jj = 3 := by omega
                · exact ⟨173, _, rfl, by decide +kernel, by decide⟩
                · exact ⟨847, _, rfl, by decide +kernel, by decide⟩
                · exact ⟨65279, _, rfl, by decide +kernel, by decide⟩
                · exact ⟨8203, _, rfl, by decide +kernel, by decide⟩
              refine item_tupleT (News.isTup N5 (.head _)) (by omega) (by omega) ((by decide : ∀ j : Nat, j < 4 → seqIndex? (j : Int) 4 = some j) jj hp4) hcv ?_
              clear hpm4
              repeat' ((fail_if_success (with_reducible show wpAny _ _ (inplaceOp Operator.Add (Value.str _ _) _) _ _ _)); walk1)
              simp only [Int.toNat_natCast]
              refine iadd_one (fun _ _ => ?_) hcs2
              repeat' ((fail_if_success (with_reducible show _ ∧ _)); walk1)
              rename Fr _ _ _ _ => F6
              rename News _ _ _ _ => N6
              exact ⟨rfl, _, _, cs2 ++ [cv], _, _, _, rfl, fun p hp => N6 p (.tail _ hp), (filt_b1 hcb).trans hfil, by simp only [List.length_append, List.length_singleton]; omega, frPuts _ F6 (by kst_all)⟩
            · rename Fr _ _ _ _ => F5
              rename News _ _ _ _ => N5
              exact ⟨rfl, _, _, cs2, _, _, _, rfl, N5, hfil, by omega, frPuts _ F5 (by kst_all)⟩
          · rintro fl s' ⟨rfl, hh, tk', cs3, tt', tq, m', rfl, N5, hfil3, hlen3, F5⟩
            simp only [kstB] at F5
            clear F4 N4 F₃ N₃
            dsimp only
            have hlenF := (figOk_end hFig).2.2.2
            have hcs3 : cs3.length ≤ 1000 := by have := hMid.1; have := (List.getElem?_eq_some_iff.mp hfg).1; omega
            have hpl1 : ((pl + k : Nat) : Int) + 1 = ((pl + (k + 1) : Nat) : Int) := by omega
            have h128 : ((fg : Nat) : Int) + 128 = ((fg + 128 : Nat) : Int) := by omega
            have htake : fs.take (k + 1) = fs.take k ++ [fg] := by rw [List.take_add_one, hfg]; rfl
            have hdash : Str.ofString "-" = ⟨#[45]⟩ := by decide +kernel
            refine wpAny_execs_cons (wpAny_mono (Q := fun fl s' => fl = .next ∧ ∃ (hh : Heap) (tk' : Nat) (o : Nat) (tt' : Tok) (m' : Str → Option Value), s' = { s with heap := hh, toks := tk' } ∧ News s.heap s.heap.objs.size hh ((D, listO vsF c) :: ownE ++ own) ∧
              (o = fg ∨ o = fg + 128) ∧ b1List.contains (o : Int) = false ∧ (i < 2 → o ≠ 39) ∧
              Fr s.heap s.heap.objs.size hh (kstB m' [(Str.ofString "text", .str ⟨(cs3 ++ [o]).toArray⟩ tt'), (Str.ofString "place", .int ((pl + k : Nat) : Int) tp2), (Str.ofString "number", .int no tn), (Str.ofString "part", .int (i : Int) t)])) ?_ ?_ (fun _ _ h => h))
            · repeat' ((fail_if_success (with_reducible show wpAny _ _ (inplaceOp Operator.Add (Value.str _ _) _) _ _ _)); walk1)
              all_goals (
                simp only [h128, Int.toNat_natCast, hdash]
                refine iadd_one (fun _ _ => ?_) hcs3
                repeat' ((fail_if_success (with_reducible show _ ∧ _)); walk1)
                rename Fr _ _ _ _ => F6
                rename News _ _ _ _ => N6)
              · exact ⟨rfl, _, _, 45, _, _, rfl, N6, .inl (by omega), by decide +kernel, by omega, frPuts _ F6 (by kst_all)⟩
              · exact ⟨rfl, _, _, _, _, _, rfl, N6, .inr rfl, high_keeps fg hfg128 (by omega), by omega, frPuts _ F6 (by kst_all)⟩
              · exact ⟨rfl, _, _, _, _, _, rfl, N6, .inr rfl, high_keeps fg hfg128 (by omega), by omega, frPuts _ F6 (by kst_all)⟩
              · exact ⟨rfl, _, _, _, _, _, rfl, N6, .inl rfl, low_keeps fg hfg128, by omega, frPuts _ F6 (by kst_all)⟩
              · exact ⟨rfl, _, _, _, _, _, rfl, N6, .inl rfl, low_keeps fg hfg128, by omega, frPuts _ F6 (by kst_all)⟩
            · rintro fl s' ⟨rfl, hh2, tk2, oo, tt2', m2', rfl, N6, hoo, hob, ho39, F6⟩
              simp only [kstB] at F6
              clear F5 N5
              dsimp only
              repeat' ((fail_if_success (with_reducible show InvEndN _ _ _ _ _ _ _)); (fail_if_success (with_reducible show InvPostN _ _ _ _ _ _ _ _ _)); walk1)
              simp only [hpl1] at *
              rename Fr _ _ _ _ => F7
              rename News _ _ _ _ => N7
              exact InvEndN.intro F7 N7 (nx := (D, listO vsF c) :: ownE) ⟨.head _, rfl, cs3 ++ [oo], os ++ [oo], _, _, rfl, rfl, rfl, rfl, by rw [filt_keep hob, hfil3, List.append_assoc], by rw [htake]; exact matchAll_snoc hmat hoo, fun hi => not39 (h39 hi) (ho39 hi), by simp only [List.length_append, List.length_singleton]; omega⟩ rfl (fun p hp => List.mem_append_left _ hp) (fun p hp => List.mem_append_right _ hp)
        · rintro m₃ news₃ h₃ tk₃ hmem ⟨rfl, cs2, os, tt2, tp2, w1, w2, w3, w4, hfil, hmat, h39, hlen⟩ F₃ N₃
          clear F N
          repeat' ((fail_if_success (with_reducible show LoopStep3 _ _ _ _ _ _ _ _ _ _)); walk1)
          rw [List.length_map, List.take_length] at hmat
          rw [List.length_map] at hlen w2
          have hlenF := (figOk_end hFig).2.2.2
          exact LoopStep2.intro F₃ (by rw [List.append_nil]; exact kst_newsOf N₃ (fun p hp => .tail _ hp)) rfl ⟨rfl, cs2, pl + fs.length, _, _, w1, w2, w3, by omega, mid_half hMid hvi hFig hmat h39 hfil hlen⟩
  · rintro h'' tk'' m' news' F N _ ⟨rfl, cs, pl, tt, tp, hm1, hm2, hm3, hpl, hH⟩
    replace F := frPuts [(Str.ofString "text", .str ⟨cs.toArray⟩ tt)] F (by simp [hm1])
    simp only [kstB] at F
    clear F' src
    repeat' walk1
    dsimp only
    exact hQ _ _ _ _ F.keep (half_three hH)
end
end Mine

/-! part W7 -/
namespace Mine
section
variable {w : World} {A : Around} {E : Value → Shared → Prop} {s : Shared} {env : Env} {h₀ : Heap} {x : Str} {body : List Stmt} {Q : Flow → Shared → Prop}
theorem range_inv {r : Addr} {a₀ b₀ : Int} {t₀ u₀ v₀ : Tok} {n : Nat} {m₀ : Str → Option Value} {news : List (Addr × Obj)} (J : Nat → (Str → Option Value) → List (Addr × Obj) → Prop)
    (hh : A.handled = none) (hr : IsRange s.heap r a₀ b₀ 1 t₀ u₀ v₀) (hsmall : Builtin.Range.small a₀ b₀ 1 = true) (hn : Builtin.Range.rangeSize a₀ b₀ 1 = (n : Int)) (F : Fr h₀ env.locals s.heap m₀) (N : News h₀ env.locals s.heap news) (hj : J 0 m₀ news)
    (turn : ∀ (i : Nat) t m₁ news₁ h tk own, i < n → news₁.map (·.1) = news.map (·.1) → OwnOff own (news.map (·.1)) → J i m₁ news₁ →
      Fr h₀ env.locals h (fun y => if y = x then some (.int (a₀ + (i : Int)) t) else m₁ y) → News h₀ env.locals h (news₁ ++ own) →
      wpAny (model pw w) A (execs body env) (InvPostN h₀ env.locals (J (i + 1)) own (news.map (·.1)) { s with heap := h, toks := tk } Q) E { s with heap := h, toks := tk })
    (done : ∀ m₁ news₁ h tk, J n m₁ news₁ → Fr h₀ env.locals h m₁ → News h₀ env.locals h news₁ → Q .next { s with heap := h, toks := tk }) :
    wpAny (model pw w) A (pyIter (.ref r)) (fun it s₂ => LoopAtV pw w A h₀ env x body Q E it s₂) E s := by
  refine wpAny_pyIter_range hr hsmall ?_
  have W : Walks pw w A s.heap.objs.size [s.heap.objs.size] [s.heap.objs.size] n (fun i v => i < n ∧ ∃ t, v = .int (a₀ + i * 1) t)
      (fun i h => IsRangeIter h s.heap.objs.size (a₀ + (i : Nat) * 1) ((n : Int) - (i : Nat)) 1) := (Walks.range hh _ a₀ 1 n).bound
  refine loop_invN J W ?_ ?_ ?_ ?_ (by show IsRangeIter _ _ _ _ _; rw [hn]; simpa using Heap.get?_push_size _ rfl) (F.push _) (fun p hp => ⟨Heap.get?_push_of_some _ (N p hp).1, (N p hp).2⟩) hj ?_ ?_
  · intro hm
    exact absurd F.ns.lt ((List.mem_singleton.mp hm) ▸ Nat.lt_irrefl _)
  · intro b hb
    rw [List.mem_singleton.mp hb]
    exact next_is_new F
  · intro p hp hI
    exact absurd (Heap.lt_size (N p hp).1) ((List.mem_singleton.mp hI) ▸ Nat.lt_irrefl _)
  · intro p hp hI
    exact absurd (Heap.lt_size (N p hp).1) ((List.mem_singleton.mp hI) ▸ Nat.lt_irrefl _)
  · rintro i v m₁ nx h tk own hi ⟨_, t, rfl⟩ hadr hoff hJ F₁ N₁
    have e1 : a₀ + (i : Int) * 1 = a₀ + (i : Int) := by omega
    rw [e1] at F₁
    exact turn i t m₁ nx h tk own hi hadr hoff hJ F₁ N₁
  · exact done
theorem newsCons {h h' : Heap} {L a : Addr} {o : Obj} {m : Str → Option Value} {news : List (Addr × Obj)} (F : Fr h₀ L h m) (N : News h₀ L h news) (st : Stays h h') (hn : h.get? a = none) (ho : h'.get? a = some o) : News h₀ L h' ((a, o) :: news) := by
  intro p hp
  rcases List.mem_cons.mp hp with rfl | hp
  · refine ⟨ho, ?_, ?_⟩
    · rintro rfl
      obtain ⟨oL, _, _, hoL, _⟩ := F.ns
      rw [hn] at hoL
      cases hoL
    · cases e : h₀.get? a with
      | none => rfl
      | some o' => rw [F.keep _ _ e] at hn; cases hn
  · exact ⟨st _ _ (N p hp).1, (N p hp).2⟩
end

/-- one move -/
def turnedP (x y z : Int) : Int × Int × Int := if x - y + z < 0 then (x + 2 * z, z, y - x - z) else if x - 2 * y < 0 then (2 * y - x, y, x - y + z) else (x - 2 * y, x - y + z, y)
/-- the walk as it is -/
def walkP : Nat → Int → Int × Int × Int → Option (Int × Int × Int × Int)
  | 0, _, _ => none
  | n + 1, kind, (x, y, z) => if 1 - kind = 1 then (if y - z = 0 then some (1, x, y, z) else walkP n 1 (x, z, y)) else (if x - y = 0 then some (0, x, y, z) else walkP n (1 - kind) (turnedP x y z))

section
variable {w : World} {A : Around} {E : Value → Shared → Prop} {s : Shared} {mean : ExcName → Option Value} {mg mb : Str → Option Value} {f : Addr} {d u : Nat}
theorem written_specI {M : Addr} {x y z : Int} {t1 t2 t3 tn : Tok} {no : Int} {Q : Value → Shared → Prop} (R : Rm A d u) (G : Gd mean mg mb s.heap) (hf : mg (Str.ofString "_law_written") = some (.ref f))
   (hM : s.heap.IsTuple M #[.int x t1, .int y t2, .int z t3]) (hb : (0 ≤ x ∧ x < 262144) ∧ (0 ≤ y ∧ y < 262144) ∧ (0 ≤ z ∧ z < 262144))
   (hQ : ∀ cs t h' tk', Stays s.heap h' → Written cs x y z → Q (.str ⟨cs.toArray⟩ t) { s with heap := h', toks := tk' }) (hd : 2 ≤ d := by decide) (hu : 6 ≤ u := by decide) :
   wpAny (model pw w) A (call (.ref f) [.ref M, .int no tn]) Q E s := by
  obtain ⟨⟨hx, hx'⟩, ⟨hy, hy'⟩, ⟨hz, hz'⟩⟩ := hb
  obtain ⟨x, rfl⟩ := Int.eq_ofNat_of_zero_le hx
  obtain ⟨y, rfl⟩ := Int.eq_ofNat_of_zero_le hy
  obtain ⟨z, rfl⟩ := Int.eq_ofNat_of_zero_le hz
  exact written_spec R G hf hM (by omega) (by omega) (by omega) hQ hd hu

set_option maxHeartbeats 4000000 in
theorem walked_spec {M : Addr} {x y z kind no : Int} {t1 t2 t3 tk0 tn tb : Tok} {bound : Nat} {rk rx ry rz : Int} {Q : Value → Shared → Prop} (I : Int → Int → Int → Prop)
   (hI : ∀ x y z, I x y z → (0 ≤ x ∧ x < 262144) ∧ (0 ≤ y ∧ y < 262144) ∧ (0 ≤ z ∧ z < 262144)) (hI1 : ∀ x y z, I x y z → I x z y) (hI2 : ∀ x y z, I x y z → x ≠ y → I (turnedP x y z).1 (turnedP x y z).2.1 (turnedP x y z).2.2)
   (R : Rm A d u) (G : Gd mean mg mb s.heap) (hf : mg (Str.ofString "_law_walked") = some (.ref f))
   (hM : s.heap.IsTuple M #[.int x t1, .int y t2, .int z t3]) (h0 : I x y z) (hk : kind = 0 ∨ kind = 1) (hb : bound ≤ 1000) (hw : walkP bound kind (x, y, z) = some (rk, rx, ry, rz))
   (hQ : ∀ T T2 u1 u2 u3 u4 h' tk', Stays s.heap h' → s.heap.get? T = none → s.heap.get? T2 = none → T ≠ T2 → h'.get? T = some (tupO [.int rk u1, .ref T2]) → h'.get? T2 = some (tupO [.int rx u2, .int ry u3, .int rz u4]) → Q (.ref T) { s with heap := h', toks := tk' }) (hd : 4 ≤ d := by decide) (hu : 15 ≤ u := by decide) :
   wpAny (model pw w) A (call (.ref f) [.int kind tk0, .ref M, .int no tn, .int (bound : Int) tb]) Q E s := by
  obtain ⟨f', o, pm, code, doc, h1, h2, h3, h4⟩ := fn_at (i := 19) rfl rfl G.T
  rw [hf] at h1
  cases h1
  refine enter_fn (binds := [(Str.ofString "kind", .int kind tk0), (Str.ofString "mill", .ref M), (Str.ofString "number", .int no tn), (Str.ofString "bound", .int (bound : Int) tb)]) R G.T h2 h3 h4 rfl (locs rfl) (fun h₁ tk F R' T' => ?_) (by omega) (by omega)
  clear h3 T'
  have T : Top q loose mean mg mb s.heap := G.T
  obtain ⟨fw, ofw, fdw, hfw, hofw, hdfw⟩ := G.fn (i := 16) rfl rfl
  obtain ⟨fr, ofr, fdr, hfr, hofr, hdfr⟩ := G.fn (i := 17) rfl rfl
  obtain ⟨ft, oft, fdt, hft, hoft, hdft⟩ := G.fn (i := 18) rfl rfl
  obtain ⟨fe, ofe, fde, hfe, hofe, hdfe⟩ := G.fn (i := 12) rfl rfl
  w_top on
  have N : News s.heap s.heap.objs.size h₁ [] := News.nil
  repeat' ((fail_if_success (with_reducible show wpAny _ _ (call (Value.ref _) _) _ _ _)); walk1)
  rename Fr _ _ _ _ => F
  refine written_specI R' (G.keeps F.keep) hfw (hM.at fun o e => F.keep _ o e) (hI _ _ _ h0) (fun cs t9 h' tk' st hW => ?_) (by omega) (by omega)
  have F2 := F.after st
  clear N F
  have N : News s.heap s.heap.objs.size h' [] := News.nil
  repeat' ((fail_if_success (with_reducible show wpAny _ _ (exec (Stmt.For _ _ _ _ _) _) _ _ _)); walk1)
  refine For_invV s.heap rfl rfl ?_ (by intro _; rfl) PassesOwn.never
  repeat' ((fail_if_success (with_reducible show wpAny _ _ (pyIter _) _ _ _)); walk1)
  rename Fr _ _ _ _ => F
  rename IsRange _ _ _ _ _ _ _ _ => hr
  dsimp only
  refine range_inv (fun i m news => news = [] ∧ ∃ (cs : List Nat) (kd x y z : Int) (tt tk : Tok), m (Str.ofString "text") = some (.str ⟨cs.toArray⟩ tt) ∧ m (Str.ofString "kind") = some (.int kd tk) ∧ m (Str.ofString "number") = some (.int no tn) ∧
    Written cs x y z ∧ I x y z ∧ (kd = 0 ∨ kd = 1) ∧ walkP (bound - i) kd (x, y, z) = some (rk, rx, ry, rz)) R'.hh hr (n := bound) (small_one (by omega) (by omega) (by omega) (by omega)) (by rw [rangeSize_one]; split <;> omega) F News.nil
    ⟨rfl, cs, kind, x, y, z, _, _, rfl, rfl, rfl, hW, h0, hk, hw⟩ ?_ ?_
  · rintro i ti m₁ news₁ hh tk9 own hi _ hoff ⟨rfl, cs, kd, x, y, z, tt, tkk, w1, w2, w3, hW, hI0, hkd, hwk⟩ F N
    rw [← kstB_id (m := m₁) (ps := [(Str.ofString "text", .str ⟨cs.toArray⟩ tt), (Str.ofString "kind", .int kd tkk), (Str.ofString "number", .int no tn)]) (by simp [w1, w2, w3])] at F
    simp only [kstB] at F
    clear w1 w2 w3 F2 hr
    repeat' ((fail_if_success (with_reducible show wpAny _ _ (call (Value.ref _) _) _ _ _)); walk1)
    rename Fr _ _ _ _ => F
    rename News _ _ _ _ => N
    obtain ⟨hcl, Ac, Bc, Cc, q1, q2, q3, q4, q5, q6⟩ := hW
    refine read_spec R' (G.keeps F.keep) hfr q1 q2 q3 hcl q4 q5 q6 (fun l u1 u2 u3 nl h5 tk5 st5 hl0 hl => ?_) (by omega) (by omega)
    have F5 := F.after st5
    have N5 := newsCons F N st5 hl0 hl
    clear F N
    repeat' ((fail_if_success (with_reducible show wpAny _ _ (assign (Expr.Tuple _ _ _) _ _) _ _ _)); walk1)
    rename Fr _ _ _ _ => F
    rename News _ _ _ _ => N
    refine kun_list F N (items := #[.int x u1, .int y u2, .int z u3]) ⟨_, (N (l, _) (.head _)).1, rfl, _, rfl⟩ R'.hh rfl rfl (fun h' F N => ?_)
    have hI0' := hI _ _ _ hI0
    rw [show bound - i = (bound - (i + 1)) + 1 by omega] at hwk
    unfold walkP at hwk
    repeat' ((fail_if_success (with_reducible show wpAny _ _ (call (Value.ref _) _) _ _ _)); walk1)
    · rename Fr _ _ _ _ => F
      rename News _ _ _ _ => N
      rename 1 - kd = 1 => hk1
      rw [if_pos hk1] at hwk
      refine isEof_spec R' (G.keeps F.keep) hfe (fun h6 tk6 st6 => ?_) (by omega) (by omega)
      have F6 := F.after st6
      have N6 := newsStays N st6
      clear F N
      by_cases hyz : y - z = 0
      · rw [if_pos hyz] at hwk
        cases hwk
        simp only [hyz, BEq.rfl]
        repeat' ((fail_if_success (with_reducible show InvEndN _ _ _ _ _ _ _)); (fail_if_success (with_reducible show InvPostN _ _ _ _ _ _ _ _ _)); walk1)
        rename Fr _ _ _ _ => F
        rename News _ _ _ _ => N
        refine hQ _ _ _ _ _ _ _ _ F.keep (N _ (.head _)).2.2 (N _ (.tail _ (.head _))).2.2 (fun e => ?_) (N _ (.head _)).1 (N _ (.tail _ (.head _))).1
        have e1 := (N _ (.head _)).1
        have e2 := (N _ (.tail _ (.head _))).1
        dsimp only at e e1 e2
        rw [e, e2] at e1
        cases e1
      · rw [if_neg hyz] at hwk
        have hyz' : (y - z == 0) = false := beq_eq_false_iff_ne.mpr hyz
        simp only [hyz']
        repeat' ((fail_if_success (with_reducible show wpAny _ _ (call (Value.ref _) _) _ _ _)); walk1)
        rename Fr _ _ _ _ => F
        rename News _ _ _ _ => N
        refine written_specI R' (G.keeps F.keep) hfw (News.isTup N (.head _)) (hI _ _ _ (hI1 _ _ _ hI0)) (fun cs t9 h' tk' st hW => ?_) (by omega) (by omega)
        have F7 := F.after st
        have N7 := newsStays N st
        clear F N
        repeat' ((fail_if_success (with_reducible show InvEndN _ _ _ _ _ _ _)); (fail_if_success (with_reducible show InvPostN _ _ _ _ _ _ _ _ _)); walk1)
        rename Fr _ _ _ _ => F
        rename News _ _ _ _ => N
        exact InvEndN.intro F N (nx := []) ⟨rfl, cs, 1 - kd, x, z, y, _, _, rfl, rfl, rfl, hW, hI1 _ _ _ hI0, by omega, by rw [hk1]; exact hwk⟩ rfl (fun p hp => nomatch hp) (fun p hp => by
          repeat' (first | exact hp | apply List.mem_cons_of_mem))
    · rename Fr _ _ _ _ => F
      rename News _ _ _ _ => N
      rename ¬ (1 - kd = 1) => hk1
      rw [if_neg hk1] at hwk
      refine isEof_spec R' (G.keeps F.keep) hfe (fun h6 tk6 st6 => ?_) (by omega) (by omega)
      have F6 := F.after st6
      have N6 := newsStays N st6
      clear F N
      by_cases hxy : x - y = 0
      · rw [if_pos hxy] at hwk
        cases hwk
        simp only [hxy, BEq.rfl]
        repeat' ((fail_if_success (with_reducible show InvEndN _ _ _ _ _ _ _)); (fail_if_success (with_reducible show InvPostN _ _ _ _ _ _ _ _ _)); walk1)
        rename Fr _ _ _ _ => F
        rename News _ _ _ _ => N
        refine hQ _ _ _ _ _ _ _ _ F.keep (N _ (.head _)).2.2 (N _ (.tail _ (.head _))).2.2 (fun e => ?_) (N _ (.head _)).1 (N _ (.tail _ (.head _))).1
        have e1 := (N _ (.head _)).1
        have e2 := (N _ (.tail _ (.head _))).1
        dsimp only at e e1 e2
        rw [e, e2] at e1
        cases e1
      · rw [if_neg hxy] at hwk
        have hxy' : (x - y == 0) = false := beq_eq_false_iff_ne.mpr hxy
        simp only [hxy']
        repeat' ((fail_if_success (with_reducible show wpAny _ _ (call (Value.ref _) _) _ _ _)); walk1)
        rename Fr _ _ _ _ => F
        rename News _ _ _ _ => N
        refine turned_spec R' (G.keeps F.keep) hft (fun T5 h5 tk5 x' y' z' v1 v2 v3 st5 e5 n5 o5 => ?_) (by omega) (by omega)
        have F5 := F.after st5
        have N5 := newsCons F N st5 n5 o5
        clear F N
        repeat' ((fail_if_success (with_reducible show wpAny _ _ (call (Value.ref _) _) _ _ _)); walk1)
        obtain ⟨rfl, rfl, rfl⟩ : x' = (turnedP x y z).1 ∧ y' = (turnedP x y z).2.1 ∧ z' = (turnedP x y z).2.2 := by
          have e6 : (x', y', z') = turnedP x y z := e5
          exact ⟨congrArg (·.1) e6, congrArg (·.2.1) e6, congrArg (·.2.2) e6⟩
        rename Fr _ _ _ _ => F
        rename News _ _ _ _ => N
        have hIt := hI2 _ _ _ hI0 (by omega)
        refine written_specI R' (G.keeps F.keep) hfw (News.isTup N (.head _)) (hI _ _ _ hIt) (fun cs t9 h' tk' st hW => ?_) (by omega) (by omega)
        have F7 := F.after st
        have N7 := newsStays N st
        clear F N
        repeat' ((fail_if_success (with_reducible show InvEndN _ _ _ _ _ _ _)); (fail_if_success (with_reducible show InvPostN _ _ _ _ _ _ _ _ _)); walk1)
        rename Fr _ _ _ _ => F
        rename News _ _ _ _ => N
        exact InvEndN.intro F N (nx := []) ⟨rfl, cs, 1 - kd, _, _, _, _, _, rfl, rfl, rfl, hW, hIt, by omega, hwk⟩ rfl (fun p hp => nomatch hp) (fun p hp => by
          repeat' (first | exact hp | apply List.mem_cons_of_mem))
  · rintro m₁ news₁ hh tk9 ⟨rfl, cs, kd, x, y, z, tt, tkk, w1, w2, w3, hW, hI0, hkd, hwk⟩ F N
    rw [Nat.sub_self] at hwk
    cases hwk
end
end Mine

/-! part W8 -/
namespace Mine
section
variable {prog : Program} {w : World} {A : Around} {E : Value → Shared → Prop} {s : Shared} {h₀ : Heap} {L : Addr} {m : Str → Option Value} {news : List (Addr × Obj)}
theorem enum_listW {α : Type} {K : ItemKind α} {as : List α} {l : Addr} {vs : List Value} {Q : Value → Shared → Prop} (hh : A.handled = none) (hls : s.heap.IsList l vs.toArray) (hi : AreOf K vs as) (hlL : l ≠ L) (hln : ∀ q ∈ news, l ≠ q.1)
    (F : Fr h₀ L s.heap m) (N : News h₀ L s.heap news)
    (h : ∀ h' e, Fr h₀ L h' m → News h₀ L h' news → PairSrcL prog w A E h₀ L K as (.ref e) { s with heap := h' } m news → Q (.ref e) { s with heap := h' }) :
    wpAny (model prog w) A (call (.type "enumerate") [.ref l]) Q E s := by
  obtain ⟨ol, hol, _⟩ := id hls
  have hl2 : l < s.heap.objs.size := Heap.lt_size hol
  have hLs : L < s.heap.objs.size := F.ns.lt
  have hab : h₀.objs.size ≤ L := F.above
  refine call_enumerate_list hls fun h' he hit hsz hk => ?_
  have F' : Fr h₀ L h' m := ⟨F.ns.keeps hk, fun b o e => hk b o (F.keep b o e), F.above⟩
  have N' : News h₀ L h' news := fun p hp => ⟨hk _ _ (N p hp).1, (N p hp).2⟩
  refine h h' _ F' N' fun env hL => ?_
  subst hL
  refine enumSrc (Draws.list (A := A.in1) hh s.heap.objs.size l (Nat.ne_of_lt hl2) vs.toArray) he ⟨hit, hls.at fun o e => hk l o e⟩ (Nat.succ_ne_self _) ?_ (by simp) ?_
    (Heap.get?_none_of_le (Nat.le_trans hab (Nat.le_of_lt (Nat.lt_succ_of_lt hLs)))) (Heap.get?_none_of_le (Nat.le_trans hab (Nat.le_of_lt hLs))) ?_ (by simp [hi.length]) (fun i x hx => hi.get i x (by simpa using hx)) F' N'
  · intro hm
    rcases List.mem_cons.mp hm with e | hm
    · exact Nat.succ_ne_self _ e
    · exact Nat.ne_of_gt (Nat.lt_succ_of_lt hl2) (List.mem_singleton.mp hm)
  · intro hm
    rcases List.mem_cons.mp hm with e | hm
    · exact Nat.ne_of_lt (Nat.lt_succ_of_lt hLs) e
    · rcases List.mem_cons.mp hm with e | hm
      · exact Nat.ne_of_lt hLs e
      · exact hlL (List.mem_singleton.mp hm).symm
  · intro b hb q hq e
    have hq1 : q.1 < s.heap.objs.size := Heap.lt_size (N q hq).1
    rcases List.mem_cons.mp hb with e1 | hb
    · exact Nat.ne_of_gt (Nat.lt_succ_of_lt hq1) (e1.symm.trans e)
    · rcases List.mem_cons.mp hb with e1 | hb
      · exact Nat.ne_of_gt hq1 (e1.symm.trans e)
      · exact hln q hq ((List.mem_singleton.mp hb).symm.trans e)
theorem own_swap {h : Heap} {x : Addr × Obj} {own : List (Addr × Obj)} (N : News h₀ L h (x :: own)) : News h₀ L h (own ++ [x]) :=
  kst_newsOf N (fun p hp => by rcases List.mem_append.mp hp with hp | hp; exact .tail _ hp; rw [List.mem_singleton.mp hp]; exact .head _)
end
section
variable {w : World} {A : Around} {E : Value → Shared → Prop} {s : Shared} {mean : ExcName → Option Value} {mg mb : Str → Option Value} {f : Addr} {d u : Nat}
set_option maxHeartbeats 4000000 in
theorem totals_spec {sl : Addr} {vs : List Value} {ns : List Int} {Q : Value → Shared → Prop} (R : Rm A d u) (G : Gd mean mg mb s.heap) (hf : mg (Str.ofString "_law_totals") = some (.ref f))
   (hl : s.heap.IsList sl vs.toArray) (hi : IntsAre vs ns) (hlen : vs.length ≤ 63)
   (hQ : ∀ l a b c u1 u2 u3 n h' tk', Stays s.heap h' → s.heap.get? l = none → h'.get? l = some (listO [.int a u1, .int b u2, .int c u3] n) → Q (.ref l) { s with heap := h', toks := tk' }) (hd : 4 ≤ d := by decide) (hu : 15 ≤ u := by decide) :
   wpAny (model pw w) A (call (.ref f) [.ref sl]) Q E s := by
  obtain ⟨f', o, pm, code, doc, h1, h2, h3, h4⟩ := fn_at (i := 14) rfl rfl G.T
  rw [hf] at h1
  cases h1
  refine enter_fn (binds := [(Str.ofString "script", .ref sl)]) R G.T h2 h3 h4 rfl (locs rfl) (fun h₁ tk F R' T' => ?_) (by omega) (by omega)
  clear h3 T'
  have T : Top q loose mean mg mb s.heap := G.T
  w_top on
  have N : News s.heap s.heap.objs.size h₁ [] := News.nil
  repeat' ((fail_if_success (with_reducible show wpAny _ _ (exec (Stmt.For _ _ _ _ _) _) _ _ _)); walk1)
  refine For_pair3 s.heap R'.hh rfl rfl rfl ?_ (by intro _; rfl) PassesOwn.never
  repeat' ((fail_if_success (with_reducible show wpAny _ _ (call (Value.type _) _) _ _ _)); (fail_if_success (with_reducible show wpAny _ _ (subscriptTail _ _ _ _) _ _ _)); walk1)
  rename News _ _ _ _ => N0
  have hlt0 := Heap.lt_size (N0 _ (.head _)).1
  dsimp only at hlt0
  repeat' ((fail_if_success (with_reducible show wpAny _ _ (call (Value.type _) _) _ _ _)); walk1)
  rename Fr _ _ _ _ => F
  rename News _ _ _ _ => N
  dsimp only at N
  have hsi := slice_ints_uptoW hi (y := 60) (by decide)
  have hnz := (N _ (.head _))
  refine enum_listW (h₀ := s.heap) (K := ItemKind.int) (as := ns.take 60) (vs := (slicePick vs.toArray none (some 60) none).toList) R'.hh ⟨_, hnz.1, rfl, _, rfl⟩ hsi.areOf hnz.2.1 ?_ F (fun p hp => N p (.tail _ hp)) (fun h' e F' N' src => ?_)
  · intro q hq
    rw [List.mem_singleton.mp hq]
    exact Nat.ne_of_gt (Nat.lt_succ_of_lt hlt0)
  clear F N
  repeat' ((fail_if_success (with_reducible show wpAny _ _ (pyIter _) _ _ _)); walk1)
  refine src _ rfl _ _ _ _ (fun i m news => ∃ (a b c : Int) (u1 u2 u3 : Tok) (tl : Addr) (nn : Nat), news = [(tl, listO [.int a u1, .int b u2, .int c u3] nn)] ∧ m (Str.ofString "totals") = some (.ref tl))
    ⟨_, _, _, _, _, _, _, _, rfl, rfl⟩ ?_ ?_
  · rintro i a t v m₁ news₁ s₁ ownE ⟨hh, tk', rfl⟩ has hK ⟨a, b, c, u1, u2, u3, tl, nn, rfl, hm1⟩ hadr hoff F N
    have hoffT : ∀ p ∈ ownE, p.1 ≠ tl := fun p hp => by
      have h5 := hoff p hp _ (.head _)
      have h6 : [tl] = _ := hadr
      rw [List.map_cons, List.map_nil] at h6
      exact (List.cons.inj h6).1 ▸ h5
    obtain ⟨tv, rfl⟩ := hK
    rw [← kstB_id (m := m₁) (ps := [(Str.ofString "totals", .ref tl)]) (by simp [hm1])] at F
    simp only [kstB] at F
    clear F' src hm1
    replace N : News s.heap s.heap.objs.size hh ((tl, listO [.int a u1, .int b u2, .int c u3] nn) :: ownE) := kst_newsOf N (fun p hp => by rcases List.mem_cons.mp hp with rfl | hp; exact List.mem_append_right _ (.head _); exact List.mem_append_left _ hp)
    have hi60 : i < 60 := by have := (List.getElem?_eq_some_iff.mp has).1; rw [List.length_take] at this; omega
    obtain h3 | h3 | h3 : ((i : Nat) : Int).fmod 3 = 0 ∨ ((i : Nat) : Int).fmod 3 = 1 ∨ ((i : Nat) : Int).fmod 3 = 2 := by
      rw [Int.fmod_eq_emod_of_nonneg _ (by decide)]; omega
    all_goals (repeat' ((fail_if_success (with_reducible show wpAny _ _ (binaryOp Operator.Mod _ _) _ _ _)); walk1))
    all_goals (refine mod_int' (by decide) ?_; simp only [h3])
    all_goals (repeat' ((fail_if_success (with_reducible show wpAny _ _ (binaryOp Operator.Mod _ _) _ _ _)); (fail_if_success (with_reducible show wpAny _ _ (binaryOp Operator.Pow _ _) _ _ _)); (fail_if_success (with_reducible show LoopStep2 _ _ _ _ _ _ _ _ _ _)); (fail_if_success (with_reducible show LoopStep3 _ _ _ _ _ _ _ _ _ _)); walk1))
    all_goals (refine pow_int_small (by decide) (by decide) (by decide) ?_)
    all_goals (simp only [show (10 : Int) ^ (6 : Int).toNat = 1000000 by decide])
    all_goals (repeat' ((fail_if_success (with_reducible show wpAny _ _ (binaryOp Operator.Mod _ _) _ _ _)); walk1))
    all_goals (refine mod_int' (by decide) ?_)
    all_goals (repeat' ((fail_if_success (with_reducible show wpAny _ _ (setItem _ _ _) _ _ _)); (fail_if_success (with_reducible show LoopStep2 _ _ _ _ _ _ _ _ _ _)); (fail_if_success (with_reducible show LoopStep3 _ _ _ _ _ _ _ _ _ _)); walk1))
    all_goals (
      rename Fr _ _ _ _ => F
      rename News _ _ _ _ => N
      refine ki_set F N (by decide) (by decide) rfl (.head hoffT) (fun h' F N => ?_)
      repeat' ((fail_if_success (with_reducible show LoopStep2 _ _ _ _ _ _ _ _ _ _)); (fail_if_success (with_reducible show LoopStep3 _ _ _ _ _ _ _ _ _ _)); walk1)
      rename Fr _ _ _ _ => F
      rename News _ _ _ _ => N
      exact LoopStep2.intro F (own_swap N) rfl ⟨_, _, _, _, _, _, tl, nn, rfl, rfl⟩)
  · rintro h'' tk'' m' news' F N _ ⟨a, b, c, u1, u2, u3, tl, nn, rfl, hm1⟩
    replace F := frPuts [(Str.ofString "totals", .ref tl)] F (by simp [hm1])
    simp only [kstB] at F
    clear F' src
    repeat' walk1
    dsimp only
    exact hQ _ _ _ _ _ _ _ _ _ _ F.keep (N _ (.head _)).2.2 (N _ (.head _)).1
end
end Mine

/-! part W9 -/
namespace Mine
section
variable {w : World} {A : Around} {E : Value → Shared → Prop} {s : Shared} {env : Env} {h₀ : Heap} {x : Str} {body : List Stmt} {Q : Flow → Shared → Prop}
/-- a loop over a range, whose body makes objects that stay -/
theorem range_grow {r : Addr} {a₀ b₀ st : Int} {t₀ u₀ v₀ : Tok} {n : Nat} {m₀ : Str → Option Value} {news : List (Addr × Obj)} (J : Nat → (Str → Option Value) → List (Addr × Obj) → Prop)
    (hh : A.handled = none) (hr : IsRange s.heap r a₀ b₀ st t₀ u₀ v₀) (hsmall : Builtin.Range.small a₀ b₀ st = true) (hn : Builtin.Range.rangeSize a₀ b₀ st = (n : Int)) (F : Fr h₀ env.locals s.heap m₀) (N : News h₀ env.locals s.heap news) (hj : J 0 m₀ news)
    (turn : ∀ (i : Nat) t m₁ news₁ h tk it oI, i < n → oI.cls = .type "range_iterator" → (∀ p ∈ news₁, p.1 ≠ it) → J i m₁ news₁ →
      Fr h₀ env.locals h (fun y => if y = x then some (.int (a₀ + (i : Int) * st) t) else m₁ y) → News h₀ env.locals h (news₁ ++ [(it, oI)]) →
      wpAny (model pw w) A (execs body env) (InvPostG h₀ env.locals (J (i + 1)) [(it, oI)] { s with heap := h, toks := tk } Q) E { s with heap := h, toks := tk })
    (done : ∀ m₁ news₁ h tk, J n m₁ news₁ → Fr h₀ env.locals h m₁ → News h₀ env.locals h news₁ → Q .next { s with heap := h, toks := tk }) :
    wpAny (model pw w) A (pyIter (.ref r)) (fun it s₂ => LoopAtV pw w A h₀ env x body Q E it s₂) E s := by
  refine wpAny_pyIter_range hr hsmall ?_
  have W := (Walks.range (prog := pw) (w := w) hh s.heap.objs.size a₀ st n)
  refine ⟨_, _, _, n, _, _, m₀, news, J, rfl, W, ?_, ?_, ?_, (by show IsRangeIter _ _ _ _ _; rw [hn]; simpa using Heap.get?_push_size _ rfl), F.push _, (fun p hp => ⟨Heap.get?_push_of_some _ (N p hp).1, (N p hp).2⟩), hj, ?_, ?_⟩
  · intro hm
    exact absurd F.ns.lt ((List.mem_singleton.mp hm) ▸ Nat.lt_irrefl _)
  · intro b hb
    rw [List.mem_singleton.mp hb]
    exact next_is_new F
  · intro p hp hI
    exact absurd (Heap.lt_size (N p hp).1) ((List.mem_singleton.mp hI) ▸ Nat.lt_irrefl _)
  · rintro i v m₁ news₁ s₁ own ⟨hh', tk', rfl⟩ hin ⟨t, rfl⟩ hJ hoff hown hget hfp hst F₁ N₁
    have hI0 : h₀.get? s.heap.objs.size = none := next_is_new F
    obtain ⟨oI, hoI, hcI⟩ : ∃ o, hh'.get? s.heap.objs.size = some o ∧ o.cls = .type "range_iterator" := ⟨_, hst, rfl⟩
    have hIown := hfp _ (.head _) hI0 _ hoI
    have N₂ : News h₀ env.locals hh' (news₁ ++ [(s.heap.objs.size, oI)]) := fun p hp => N₁ p ((List.mem_append.mp hp).elim (fun h => List.mem_append.mpr (.inr h)) fun h => List.mem_append.mpr (.inl ((List.mem_singleton.mp h) ▸ hIown)))
    refine wpAny_mono (turn i t m₁ news₁ hh' tk' _ _ hin hcI (fun p hp e => hoff p hp (List.mem_singleton.mpr e)) hJ F₁ N₂) (fun f s₂ p => ?_) fun _ _ e => e
    have fin : InvEndG h₀ env.locals (J (i + 1)) [(s.heap.objs.size, oI)] { s with heap := hh', toks := tk' } s₂ → LoopStepU h₀ env.locals [s.heap.objs.size] own (J (i + 1)) { s with heap := hh', toks := tk' } .next s₂ := by
      rintro ⟨h', tk, m', news', nx, e, F', N', hn, ho, ha, hm⟩
      refine ⟨rfl, h', tk, m', nx, e, F', fun p hp => ?_, fun p hp hq => ?_, hm⟩
      · refine (List.mem_append.mp hp).elim (fun h => ?_) (fun h => N' p (hn p h))
        have h1 : p.1 = s.heap.objs.size := List.mem_singleton.mp (hown p h)
        have h2 := hget p h
        rw [h1] at h2
        have h3 := hoI.symm.trans h2
        have h4 : p = (s.heap.objs.size, oI) := Prod.ext h1 (Option.some.inj h3).symm
        rw [h4]
        exact N' _ (ho _ (.head _))
      · exact ha _ (.head _) p.1 (List.mem_map.mpr ⟨p, hp, rfl⟩) (List.mem_singleton.mp hq).symm
    cases f with
    | ret v => exact .ret p
    | brk => exact .brk p
    | next => exact .next (fin p)
    | cont => exact .cont (fin p)
  · rintro h' tk m' news' F' N' _ hJ
    exact done m' news' h' tk hJ F' N'
/-- two objects of unlike kind lie apart -/
theorem apart_cls {L : Addr} {h : Heap} {news : List (Addr × Obj)} (N : News h₀ L h news) {p q : Addr × Obj} (hp : p ∈ news) (hq : q ∈ news) (h : p.2.cls ≠ q.2.cls) : p.1 ≠ q.1 := fun e => by
  have h1 := (N p hp).1
  rw [e, (N q hq).1] at h1
  exact h (congrArg Obj.cls (Option.some.inj h1)).symm
theorem ends_append {T T2 D L : Addr} {m : Str → Option Value} {own tl : List (Addr × Obj)} {vs : List Value} {c : Nat} {k x y z : Int} {u0 u1 u2 u3 : Tok} {ds : List Dat} {Q : Value → Shared → Prop} (F : Fr h₀ L s.heap m)
    (N : News h₀ L s.heap ((T, tupO [.int k u0, .ref T2]) :: (T2, tupO [.int x u1, .int y u2, .int z u3]) :: (((D, W.listOf vs.toArray c) :: tl) ++ own)))
    (hcl : ∀ p ∈ tl, p.2.cls = .type "tuple") (hown : ∀ p ∈ own, p.2.cls = .type "range_iterator") (hDA : DatAll tl vs ds) (hsz : vs.length ≤ 1000)
    (h : ∀ h' tl', Fr h₀ L h' m → News h₀ L h' (((D, W.listOf (vs ++ [Value.ref T]).toArray (c + 1)) :: tl') ++ own) → DatAll tl' (vs ++ [Value.ref T]) (ds ++ [.tuple [.int k, .tuple [.int x, .int y, .int z]]]) → (∀ p ∈ tl', p.2.cls = .type "tuple") →
      (∀ p ∈ (D, W.listOf (vs ++ [Value.ref T]).toArray (c + 1)) :: tl', ∀ o ∈ own, p.1 ≠ o.1) → Q .none { s with heap := h' }) :
    wpAny (model pw w) A (call (.builtin "list.append") [.ref D, .ref T]) Q E s := by
  have memD : ((D, W.listOf vs.toArray c) : Addr × Obj) ∈ (T, tupO [.int k u0, .ref T2]) :: (T2, tupO [.int x u1, .int y u2, .int z u3]) :: (((D, W.listOf vs.toArray c) :: tl) ++ own) := .tail _ (.tail _ (.head _))
  have h1 : T ≠ D := apart_cls N (.head _) memD (by simp [tupO, W.listOf])
  have h2 : T2 ≠ D := apart_cls N (.tail _ (.head _)) memD (by simp [tupO, W.listOf])
  have h3 : ∀ p ∈ tl ++ own, p.1 ≠ D := fun p hp => by
    refine apart_cls N (.tail _ (.tail _ (.tail _ hp))) memD ?_
    rcases List.mem_append.mp hp with hp | hp
    · rw [hcl p hp]; simp [W.listOf]
    · rw [hown p hp]; simp [W.listOf]
  refine append_K F N (.tail h1 (.tail h2 (.head h3))) (fun h' F' N' => ?_) (by simp only [List.size_toArray]; have := sizeLine_eq; omega)
  have e : vs.toArray.push (Value.ref T) = (vs ++ [Value.ref T]).toArray := by simp
  rw [e] at N'
  have hcl' : ∀ p ∈ (T, tupO [.int k u0, .ref T2]) :: (T2, tupO [.int x u1, .int y u2, .int z u3]) :: tl, p.2.cls = .type "tuple" := fun p hp => by
    rcases List.mem_cons.mp hp with rfl | hp
    · rfl
    · rcases List.mem_cons.mp hp with rfl | hp
      · rfl
      · exact hcl p hp
  have N2 : News h₀ L h' (((D, W.listOf (vs ++ [Value.ref T]).toArray (c + 1)) :: (T, tupO [.int k u0, .ref T2]) :: (T2, tupO [.int x u1, .int y u2, .int z u3]) :: tl) ++ own) := fun p hp => by
    refine N' p ?_
    rcases List.mem_cons.mp hp with rfl | hp
    · exact .tail _ (.tail _ (.head _))
    · rcases List.mem_cons.mp hp with rfl | hp
      · exact .head _
      · rcases List.mem_cons.mp hp with rfl | hp
        · exact .tail _ (.head _)
        · exact .tail _ (.tail _ (.tail _ hp))
  refine h h' ((T, tupO [.int k u0, .ref T2]) :: (T2, tupO [.int x u1, .int y u2, .int z u3]) :: tl) F' N2 ?_ hcl' (fun p hp o ho => ?_)
  · exact DatAll.append (hDA.mono fun p hp => .tail _ (.tail _ hp)) (DatAll.one (.tuple (n := 0) (.head _) (.cons (.int _ _) (.cons (.tuple (n := 0) (.tail _ (.head _)) (.cons (.int _ _) (.cons (.int _ _) (.cons (.int _ _) .nil)))) .nil))))
  · refine apart_cls N2 (List.mem_append_left _ hp) (List.mem_append_right _ ho) ?_
    rcases List.mem_cons.mp hp with rfl | hp
    · rw [hown o ho]; simp [W.listOf]
    · rw [hcl' p hp, hown o ho]; simp
end
/-- the ends of the walks, without the scale: those of the one kind, then those of the other -/
def endA (n : Int) (i : Nat) : Option (Int × Int × Int × Int) := let d : Int := 1 + (i : Int) * 1; if n.fmod d = 0 ∧ d * d < n then some (0, d, d, (n.fdiv d - d).fdiv 4) else none
def endB (n : Int) (i j : Nat) : Option (Int × Int × Int × Int) := let x : Int := 1 + (i : Int) * 2; let y : Int := 1 + (j : Int) * 1; if x * x + 4 * y * y = n then some (1, x, y, y) else none
theorem endA_some {n : Int} {i : Nat} (h1 : n.fmod (1 + (i : Int) * 1) = 0) (h2 : (1 + (i : Int) * 1) * (1 + (i : Int) * 1) < n) : (List.range (i + 1)).filterMap (endA n) = (List.range i).filterMap (endA n) ++ [(0, 1 + (i : Int) * 1, 1 + (i : Int) * 1, (n.fdiv (1 + (i : Int) * 1) - (1 + (i : Int) * 1)).fdiv 4)] := by
  rw [List.range_succ, List.filterMap_append]
  have e : endA n i = some (0, 1 + (i : Int) * 1, 1 + (i : Int) * 1, (n.fdiv (1 + (i : Int) * 1) - (1 + (i : Int) * 1)).fdiv 4) := if_pos ⟨h1, h2⟩
  simp only [List.filterMap_cons, e, List.filterMap_nil]
theorem endA_none {n : Int} {i : Nat} (h : ¬ (n.fmod (1 + (i : Int) * 1) = 0 ∧ (1 + (i : Int) * 1) * (1 + (i : Int) * 1) < n)) : (List.range (i + 1)).filterMap (endA n) = (List.range i).filterMap (endA n) := by
  rw [List.range_succ, List.filterMap_append]
  have e : endA n i = none := if_neg h
  simp only [List.filterMap_cons, e, List.filterMap_nil, List.append_nil]
/-- those of the second kind, up to a turn -/
def endsB (n : Int) (i j : Nat) : List (Int × Int × Int × Int) := ((List.range i).flatMap fun i => (List.range 6).filterMap (endB n i)) ++ (List.range j).filterMap (endB n i)
theorem endsB_next (n : Int) (i : Nat) : endsB n (i + 1) 0 = endsB n i 6 := by
  simp [endsB, List.range_succ, List.flatMap_append]
theorem endsB_some {n : Int} {i j : Nat} (h : (1 + (i : Int) * 2) * (1 + (i : Int) * 2) + 4 * (1 + (j : Int) * 1) * (1 + (j : Int) * 1) = n) : endsB n i (j + 1) = endsB n i j ++ [(1, 1 + (i : Int) * 2, 1 + (j : Int) * 1, 1 + (j : Int) * 1)] := by
  have e : endB n i j = some (1, 1 + (i : Int) * 2, 1 + (j : Int) * 1, 1 + (j : Int) * 1) := if_pos h
  unfold endsB
  rw [List.range_succ (n := j), List.filterMap_append, List.append_assoc]
  simp only [List.filterMap_cons, e, List.filterMap_nil]
theorem endsB_none {n : Int} {i j : Nat} (h : ¬ (1 + (i : Int) * 2) * (1 + (i : Int) * 2) + 4 * (1 + (j : Int) * 1) * (1 + (j : Int) * 1) = n) : endsB n i (j + 1) = endsB n i j := by
  have e : endB n i j = none := if_neg h
  unfold endsB
  rw [List.range_succ (n := j), List.filterMap_append]
  simp only [List.filterMap_cons, e, List.filterMap_nil, List.append_nil]
def endsU (n : Int) : List (Int × Int × Int × Int) := (List.range 12).filterMap (endA n) ++ (List.range 6).flatMap fun i => (List.range 6).filterMap (endB n i)
def datE (s : Int) : Int × Int × Int × Int → Dat | (k, x, y, z) => .tuple [.int k, .tuple [.int (s * x), .int (s * y), .int (s * z)]]

section
variable {w : World} {A : Around} {E : Value → Shared → Prop} {s : Shared} {mean : ExcName → Option Value} {mg mb : Str → Option Value} {f : Addr} {d u : Nat}
set_option maxHeartbeats 4000000 in
theorem ends_spec {n sc : Int} {tn ts : Tok} {Q : Value → Shared → Prop} (R : Rm A d u) (G : Gd mean mg mb s.heap) (hf : mg (Str.ofString "_law_ends") = some (.ref f))
   (hn0 : 0 ≤ n) (hn1 : n ≤ 1000)
   (hQ : ∀ D vs c tl h' tk', Stays s.heap h' → (∀ p ∈ (D, W.listOf vs.toArray c) :: tl, h'.get? p.1 = some p.2 ∧ s.heap.get? p.1 = none) → DatAll tl vs ((endsU n).map (datE sc)) → (∀ p ∈ tl, p.2.cls = .type "tuple") → Q (.ref D) { s with heap := h', toks := tk' }) (hd : 4 ≤ d := by decide) (hu : 15 ≤ u := by decide) :
   wpAny (model pw w) A (call (.ref f) [.int n tn, .int sc ts]) Q E s := by
  obtain ⟨f', o, pm, code, doc, h1, h2, h3, h4⟩ := fn_at (i := 15) rfl rfl G.T
  rw [hf] at h1
  cases h1
  refine enter_fn (binds := [(Str.ofString "n", .int n tn), (Str.ofString "scale", .int sc ts)]) R G.T h2 h3 h4 rfl (locs rfl) (fun h₁ tk F R' T' => ?_) (by omega) (by omega)
  clear h3 T'
  have T : Top q loose mean mg mb s.heap := G.T
  w_top on
  have N : News s.heap s.heap.objs.size h₁ [] := News.nil
  refine wpAny_execs_cons ?_
  repeat' ((fail_if_success (with_reducible show wpAny _ _ (execs (Stmt.For _ _ _ _ _ :: _) _) _ _ _)); (fail_if_success (with_reducible show wpAny _ _ (exec (Stmt.For _ _ _ _ _) _) _ _ _)); walk1)
  refine wpAny_execs_cons ?_
  refine For_invV s.heap rfl rfl ?_ (by intro _; rfl) PassesOwn.never
  repeat' ((fail_if_success (with_reducible show wpAny _ _ (pyIter _) _ _ _)); walk1)
  rename Fr _ _ _ _ => F
  rename News _ _ _ _ => N
  rename IsRange _ _ _ _ _ _ _ _ => hr
  dsimp only at N ⊢
  refine range_grow (fun i m news => ∃ (D : Addr) (vs : List Value) (c : Nat) (tl : List (Addr × Obj)), news = (D, W.listOf vs.toArray c) :: tl ∧ DatAll tl vs (((List.range i).filterMap (endA n)).map (datE sc)) ∧ (∀ p ∈ tl, p.2.cls = .type "tuple") ∧ vs.length ≤ i ∧
    m (Str.ofString "ends") = some (.ref D) ∧ m (Str.ofString "n") = some (.int n tn) ∧ m (Str.ofString "scale") = some (.int sc ts)) R'.hh hr (by decide) (n := 12) (by decide) F N ⟨_, [], 0, [], rfl, .nil, (fun _ h => nomatch h), by decide, rfl, rfl, rfl⟩ ?_ ?_
  · clear F N
    rintro i ti m₁ news₁ hh tk9 it oI hi hcI hoff ⟨D, vs, c, tl, rfl, hDA, hcl, hvl, w1, w2, w3⟩ F N
    rw [← kstB_id (m := m₁) (ps := [(Str.ofString "ends", .ref D), (Str.ofString "n", .int n tn), (Str.ofString "scale", .int sc ts)]) (by simp [w1, w2, w3])] at F
    simp only [kstB] at F
    clear w1 w2 w3 hr
    have hd0 : (1 : Int) + (i : Int) * 1 ≠ 0 := by omega
    repeat' ((fail_if_success (with_reducible show wpAny _ _ (binaryOp Operator.Mod _ _) _ _ _)); walk1)
    refine mod_int' hd0 ?_
    repeat' ((fail_if_success (with_reducible show InvEndG _ _ _ _ _ _)); (fail_if_success (with_reducible show InvPostG _ _ _ _ _ _ _ _)); (fail_if_success (with_reducible show wpAny _ _ (binaryOp Operator.FloorDiv _ _) _ _ _)); (fail_if_success (with_reducible show wpAny _ _ (call (Value.ref _) _) _ _ _)); (fail_if_success (with_reducible show wpAny _ _ (call (Value.builtin _) _) _ _ _)); walk1)
    · refine floordiv_int hd0 ?_ (Or.inl (PyProof.noPylong_small (by omega)))
      have hq0 : 0 ≤ n.fdiv (1 + (i : Int) * 1) := Int.fdiv_nonneg hn0 (by omega)
      have hq1 : n.fdiv (1 + (i : Int) * 1) ≤ n := by rw [Int.fdiv_eq_ediv_of_nonneg _ (by omega)]; exact Int.ediv_le_self _ hn0
      repeat' ((fail_if_success (with_reducible show wpAny _ _ (binaryOp Operator.FloorDiv _ _) _ _ _)); walk1)
      refine floordiv_int (by decide) ?_ (Or.inl (PyProof.noPylong_small (by omega)))
      repeat' ((fail_if_success (with_reducible show InvEndG _ _ _ _ _ _)); (fail_if_success (with_reducible show InvPostG _ _ _ _ _ _ _ _)); (fail_if_success (with_reducible show wpAny _ _ (call (Value.builtin _) _) _ _ _)); walk1)
      rename Fr _ _ _ _ => F
      rename News _ _ _ _ => N
      rename (_ : Int) < _ => hlt
      rename _ = (0 : Int) => hfm
      refine ends_append (own := [(it, oI)]) F N hcl (fun p hp => by rw [List.mem_singleton.mp hp]; exact hcI) hDA (by omega) (fun h' tl' F N hDA' hcl' hap => ?_)
      repeat' ((fail_if_success (with_reducible show InvEndG _ _ _ _ _ _)); (fail_if_success (with_reducible show InvPostG _ _ _ _ _ _ _ _)); walk1)
      exact InvEndG.intro F N ⟨D, _, _, tl', rfl, by rw [endA_some hfm hlt, List.map_append]; exact hDA', hcl', by simp only [List.length_append, List.length_singleton]; omega, rfl, rfl, rfl⟩ (fun p hp b hb => by
        rw [List.mem_singleton.mp hp]
        obtain ⟨r, hr, rfl⟩ := List.mem_map.mp hb
        exact (hap r hr _ (.head _)).symm) (fun p hp => List.mem_append_left _ hp) (fun p hp => List.mem_append_right _ hp)
    · rename Fr _ _ _ _ => F
      rename News _ _ _ _ => N
      rename ¬ (_ : Int) < _ => hlt
      exact InvEndG.intro F N ⟨D, vs, c, tl, rfl, by rw [endA_none (fun h => hlt h.2)]; exact hDA, hcl, by omega, rfl, rfl, rfl⟩ (fun p hp b hb => by
        rw [List.mem_singleton.mp hp]
        obtain ⟨r, hr, rfl⟩ := List.mem_map.mp hb
        exact (hoff r hr).symm) (fun p hp => List.mem_append_left _ hp) (fun p hp => List.mem_append_right _ hp)
    · rename Fr _ _ _ _ => F
      rename News _ _ _ _ => N
      rename (_ : Int) ≠ 0 => hfm
      exact InvEndG.intro F N ⟨D, vs, c, tl, rfl, by rw [endA_none (fun h => hfm h.1)]; exact hDA, hcl, by omega, rfl, rfl, rfl⟩ (fun p hp b hb => by
        rw [List.mem_singleton.mp hp]
        obtain ⟨r, hr, rfl⟩ := List.mem_map.mp hb
        exact (hoff r hr).symm) (fun p hp => List.mem_append_left _ hp) (fun p hp => List.mem_append_right _ hp)
  · clear F N
    rintro m₁ news₁ hh tk9 ⟨D, vs, c, tl, rfl, hDA, hcl, hvl, w1, w2, w3⟩ F N
    rw [← kstB_id (m := m₁) (ps := [(Str.ofString "ends", .ref D), (Str.ofString "n", .int n tn), (Str.ofString "scale", .int sc ts)]) (by simp [w1, w2, w3])] at F
    simp only [kstB] at F
    clear w1 w2 w3 hr
    dsimp only
    refine wpAny_execs_cons ?_
    refine For_invV s.heap rfl rfl ?_ (by intro _; rfl) PassesOwn.never
    repeat' ((fail_if_success (with_reducible show wpAny _ _ (pyIter _) _ _ _)); walk1)
    rename Fr _ _ _ _ => F
    rename News _ _ _ _ => N
    rename IsRange _ _ _ _ _ _ _ _ => hr
    dsimp only at N ⊢
    refine range_grow (fun i m news => ∃ (vs : List Value) (c : Nat) (tl : List (Addr × Obj)), news = (D, W.listOf vs.toArray c) :: tl ∧ DatAll tl vs (((List.range 12).filterMap (endA n) ++ endsB n i 0).map (datE sc)) ∧ (∀ p ∈ tl, p.2.cls = .type "tuple") ∧ vs.length ≤ 12 + 6 * i ∧
      m (Str.ofString "ends") = some (.ref D) ∧ m (Str.ofString "n") = some (.int n tn) ∧ m (Str.ofString "scale") = some (.int sc ts)) R'.hh hr (by decide) (n := 6) (by decide) F N ⟨vs, c, tl, rfl, by simpa [endsB] using hDA, hcl, by omega, rfl, rfl, rfl⟩ ?_ ?_
    · clear F N hDA hcl hvl
      rintro i ti m₁ news₁ hh tk9 it oI hi hcI hoff ⟨vs, c, tl, rfl, hDA, hcl, hvl, w1, w2, w3⟩ F N
      rw [← kstB_id (m := m₁) (ps := [(Str.ofString "ends", .ref D), (Str.ofString "n", .int n tn), (Str.ofString "scale", .int sc ts)]) (by simp [w1, w2, w3])] at F
      simp only [kstB] at F
      clear w1 w2 w3 hr
      refine wpAny_execs_cons ?_
      refine For_invV s.heap rfl rfl ?_ (by intro _; rfl) PassesOwn.never
      repeat' ((fail_if_success (with_reducible show wpAny _ _ (pyIter _) _ _ _)); walk1)
      rename Fr _ _ _ _ => F
      rename News _ _ _ _ => N
      rename IsRange _ _ _ _ _ _ _ _ => hr
      dsimp only at N ⊢
      refine range_grow (fun j m news => ∃ (vs : List Value) (c : Nat) (tl : List (Addr × Obj)), news = (D, W.listOf vs.toArray c) :: tl ++ [(it, oI)] ∧ DatAll tl vs (((List.range 12).filterMap (endA n) ++ endsB n i j).map (datE sc)) ∧ (∀ p ∈ tl, p.2.cls = .type "tuple") ∧ vs.length ≤ 12 + 6 * i + j ∧
        m (Str.ofString "ends") = some (.ref D) ∧ m (Str.ofString "n") = some (.int n tn) ∧ m (Str.ofString "scale") = some (.int sc ts) ∧ m (Str.ofString "x") = some (.int (1 + (i : Int) * 2) ti)) R'.hh hr (by decide) (n := 6) (by decide) F N ⟨vs, c, tl, rfl, hDA, hcl, by omega, rfl, rfl, rfl, rfl⟩ ?_ ?_
      · clear F N hDA hcl hvl
        rintro j tj m₁ news₁ hh tk9 it2 oI2 hj hcI2 hoff2 ⟨vs, c, tl, rfl, hDA, hcl, hvl, w1, w2, w3, w4⟩ F N
        rw [← kstB_id (m := m₁) (ps := [(Str.ofString "ends", .ref D), (Str.ofString "n", .int n tn), (Str.ofString "scale", .int sc ts), (Str.ofString "x", .int (1 + (i : Int) * 2) ti)]) (by simp [w1, w2, w3, w4])] at F
        simp only [kstB] at F
        clear w1 w2 w3 w4 hr
        repeat' ((fail_if_success (with_reducible show InvEndG _ _ _ _ _ _)); (fail_if_success (with_reducible show InvPostG _ _ _ _ _ _ _ _)); (fail_if_success (with_reducible show wpAny _ _ (call (Value.builtin _) _) _ _ _)); walk1)
        · rename Fr _ _ _ _ => F
          rename News _ _ _ _ => N
          rename _ = n => he
          refine ends_append (own := [(it, oI), (it2, oI2)]) F (kst_newsOf N (fun p hp => by simpa [List.append_assoc] using hp)) hcl (fun p hp => by rcases List.mem_cons.mp hp with rfl | hp; exact hcI; rw [List.mem_singleton.mp hp]; exact hcI2) hDA (by omega) (fun h' tl' F N hDA' hcl' hap => ?_)
          repeat' ((fail_if_success (with_reducible show InvEndG _ _ _ _ _ _)); (fail_if_success (with_reducible show InvPostG _ _ _ _ _ _ _ _)); walk1)
          exact InvEndG.intro F N ⟨_, _, tl', rfl, by rw [endsB_some he, ← List.append_assoc, List.map_append, Int.mul_one]; exact hDA', hcl', by simp only [List.length_append, List.length_singleton]; omega, rfl, rfl, rfl, rfl⟩ (fun p hp b hb => by
            rw [List.mem_singleton.mp hp]
            obtain ⟨r, hr, rfl⟩ := List.mem_map.mp hb
            rcases List.mem_append.mp hr with hr | hr
            · exact (hap r hr _ (.tail _ (.head _))).symm
            · rw [List.mem_singleton.mp hr]
              exact (hoff2 (it, oI) (List.mem_append_right _ (.head _))).symm) (fun p hp => by simpa [List.append_assoc] using List.mem_append_left [(it2, oI2)] hp) (fun p hp => by rw [List.mem_singleton.mp hp]; simp)
        · rename Fr _ _ _ _ => F
          rename News _ _ _ _ => N
          rename ¬ _ = n => he
          exact InvEndG.intro F N ⟨vs, c, tl, rfl, by rw [endsB_none he]; exact hDA, hcl, by omega, rfl, rfl, rfl, rfl⟩ (fun p hp b hb => by
            rw [List.mem_singleton.mp hp]
            obtain ⟨r, hr, rfl⟩ := List.mem_map.mp hb
            exact (hoff2 r hr).symm) (fun p hp => List.mem_append_left _ hp) (fun p hp => List.mem_append_right _ hp)
      · rintro m₁ news₁ hh tk9 ⟨vs, c, tl, rfl, hDA, hcl, hvl, w1, w2, w3, w4⟩ F N
        repeat' ((fail_if_success (with_reducible show InvEndG _ _ _ _ _ _)); (fail_if_success (with_reducible show InvPostG _ _ _ _ _ _ _ _)); walk1)
        exact InvEndG.intro F N ⟨vs, c, tl, rfl, by rw [endsB_next]; exact hDA, hcl, by omega, w1, w2, w3⟩ (fun p hp b hb => by
          rw [List.mem_singleton.mp hp]
          obtain ⟨r, hr, rfl⟩ := List.mem_map.mp hb
          refine (apart_cls N (List.mem_append_left _ hr) (List.mem_append_right _ (.head _)) ?_).symm
          rcases List.mem_cons.mp hr with rfl | hr
          · rw [hcI]; simp [W.listOf]
          · rw [hcl _ hr, hcI]; simp) (fun p hp => List.mem_append_left _ hp) (fun p hp => List.mem_append_right _ hp)
    · clear F N hDA hcl hvl
      rintro m₁ news₁ hh tk9 ⟨vs, c, tl, rfl, hDA, hcl, hvl, w1, w2, w3⟩ F N
      replace F := frPuts [(Str.ofString "ends", .ref D)] F (by simp [w1])
      simp only [kstB] at F
      dsimp only
      repeat' walk1
      dsimp only
      exact hQ D vs c tl _ _ F.keep (fun p hp => ⟨(N p hp).1, (N p hp).2.2⟩) (by simpa [endsB, endsU] using hDA) hcl
end
end Mine

/-! part P3 -/
namespace Mine
/-- the numbers that the law looks at -/
def nList : List Int := (List.range 40).map fun r : Nat => if ([9, 25, 49, 81, 121] : List Int).any (fun x => x == 4 * (r : Int) + 5) then 4 * (r : Int) + 5 + 4 else 4 * (r : Int) + 5
theorem nList_in {r : Int} (h0 : 0 ≤ r) (h1 : r < 40) : (if ([9, 25, 49, 81, 121] : List Int).any (fun x => x == 4 * r + 5) then 4 * r + 5 + 4 else 4 * r + 5) ∈ nList := by
  obtain ⟨k, rfl⟩ := Int.eq_ofNat_of_zero_le h0
  exact List.mem_map.mpr ⟨k, List.mem_range.mpr (by omega), rfl⟩
theorem nList_bound {n : Int} (h : n ∈ nList) : 5 ≤ n ∧ n ≤ 165 := (by decide +kernel : ∀ n ∈ nList, 5 ≤ n ∧ n ≤ 165) n h
theorem nList_sq : ∀ n ∈ nList, ∀ k : Fin 14, (k.val : Int) * (k.val : Int) ≠ n := by decide +kernel
theorem nList_one : ∀ n ∈ nList, n % 4 = 1 := by decide +kernel

/-- the ends are paired by the walks -/
def pairsU (n : Int) : Nat → List (Int × Int × Int × Int) → Bool
  | _, [] => true
  | 0, _ => false
  | k + 1, e :: rest => match walkP n.toNat e.1 e.2 with
    | some o => rest.contains o && pairsU n k (rest.filter fun e => e != o)
    | none => false
def millOk (n : Int) (e : Int × Int × Int × Int) : Prop := (e.1 = 0 ∨ e.1 = 1) ∧ 1 ≤ e.2.1 ∧ 1 ≤ e.2.2.1 ∧ 1 ≤ e.2.2.2 ∧ e.2.1 * e.2.1 + 4 * e.2.2.1 * e.2.2.2 = n
theorem ends_pairs : ∀ n ∈ nList, pairsU n 20 (endsU n) = true := by decide +kernel
theorem ends_short : ∀ n ∈ nList, (endsU n).length ≤ 100 := by decide +kernel
theorem ends_mill : ∀ n ∈ nList, ∀ e ∈ endsU n, millOk n e := by
  unfold millOk
  decide +kernel

theorem le_mul_of_one {a b : Int} (ha : 1 ≤ a) (hb : 1 ≤ b) : b ≤ a * b := by
  have := Int.mul_le_mul_of_nonneg_right ha (show 0 ≤ b by omega)
  omega
theorem mill_small {n x y z : Int} (hn : n ≤ 165) (h1 : 1 ≤ x) (h2 : 1 ≤ y) (h3 : 1 ≤ z) (h : x * x + 4 * y * z = n) : x ≤ 165 ∧ y ≤ 165 ∧ z ≤ 165 := by
  have a := le_mul_of_one h1 h1
  have b := le_mul_of_one h2 h3
  have c := le_mul_of_one h3 h2
  rw [Int.mul_comm z y] at c
  rw [Int.mul_assoc] at h
  have : 0 ≤ x * x := by omega
  omega
theorem scale_bound {sc x : Int} (h1 : 1 ≤ sc) (h2 : sc ≤ 400) (hx : 1 ≤ x) (hx' : x ≤ 165) : 0 ≤ sc * x ∧ sc * x < 262144 := by
  have a := Int.mul_le_mul h2 hx' (by omega) (by omega)
  have b := Int.mul_nonneg (show 0 ≤ sc by omega) (show 0 ≤ x by omega)
  omega
theorem mill_bound {sc n : Int} (h1 : 1 ≤ sc) (h2 : sc ≤ 400) (hn : n ∈ nList) : ∀ X Y Z : Int, (∃ x y z, X = sc * x ∧ Y = sc * y ∧ Z = sc * z ∧ 1 ≤ x ∧ 1 ≤ y ∧ 1 ≤ z ∧ x * x + 4 * y * z = n) → (0 ≤ X ∧ X < 262144) ∧ (0 ≤ Y ∧ Y < 262144) ∧ (0 ≤ Z ∧ Z < 262144) := by
  rintro X Y Z ⟨x, y, z, rfl, rfl, rfl, a1, a2, a3, h⟩
  obtain ⟨b1, b2, b3⟩ := mill_small (nList_bound hn).2 a1 a2 a3 h
  exact ⟨scale_bound h1 h2 a1 b1, scale_bound h1 h2 a2 b2, scale_bound h1 h2 a3 b3⟩
theorem mill_swap {sc n : Int} : ∀ X Y Z : Int, (∃ x y z, X = sc * x ∧ Y = sc * y ∧ Z = sc * z ∧ 1 ≤ x ∧ 1 ≤ y ∧ 1 ≤ z ∧ x * x + 4 * y * z = n) → ∃ x y z, X = sc * x ∧ Z = sc * y ∧ Y = sc * z ∧ 1 ≤ x ∧ 1 ≤ y ∧ 1 ≤ z ∧ x * x + 4 * y * z = n := by
  rintro X Y Z ⟨x, y, z, e1, e2, e3, h1, h2, h3, h⟩
  exact ⟨x, z, y, e1, e3, e2, h1, h3, h2, by rw [Int.mul_assoc, Int.mul_comm z y, ← Int.mul_assoc]; exact h⟩
theorem scale_neg {sc t : Int} (h : 1 ≤ sc) : sc * t < 0 ↔ t < 0 := by
  constructor
  · intro g
    rcases (by omega : t < 0 ∨ 0 ≤ t) with h' | h'
    · exact h'
    · have := Int.mul_nonneg (show 0 ≤ sc by omega) h'
      omega
  · intro g
    exact Int.mul_neg_of_pos_of_neg (by omega) g
theorem scale_zero {sc t : Int} (h : 1 ≤ sc) : sc * t = 0 ↔ t = 0 := by
  constructor
  · intro g
    rcases Int.mul_eq_zero.mp g with h' | h'
    · omega
    · exact h'
  · rintro rfl
    exact Int.mul_zero _
theorem turnedP_scale {sc : Int} (h : 1 ≤ sc) (x y z : Int) : turnedP (sc * x) (sc * y) (sc * z) = (sc * (turnedP x y z).1, sc * (turnedP x y z).2.1, sc * (turnedP x y z).2.2) := by
  have e1 : sc * x - sc * y + sc * z = sc * (x - y + z) := by rw [Int.mul_add, Int.mul_sub]
  have e2 : sc * x - 2 * (sc * y) = sc * (x - 2 * y) := by rw [Int.mul_sub, Int.mul_left_comm]
  have e3 : sc * x + 2 * (sc * z) = sc * (x + 2 * z) := by rw [Int.mul_add, Int.mul_left_comm]
  have e4 : sc * y - sc * x - sc * z = sc * (y - x - z) := by rw [Int.mul_sub, Int.mul_sub]
  have e5 : 2 * (sc * y) - sc * x = sc * (2 * y - x) := by rw [Int.mul_sub, Int.mul_left_comm]
  unfold turnedP
  rw [e1, e2, e3, e4, e5]
  simp only [scale_neg h]
  split
  · rfl
  · split <;> rfl
theorem mill_turn1 {n : Int} (hn : n ∈ nList) {x y z : Int} (h1 : 1 ≤ x) (h2 : 1 ≤ y) (h3 : 1 ≤ z) (h : x * x + 4 * y * z = n) :
    1 ≤ (turnedP x y z).1 ∧ 1 ≤ (turnedP x y z).2.1 ∧ 1 ≤ (turnedP x y z).2.2 ∧ (turnedP x y z).1 * (turnedP x y z).1 + 4 * (turnedP x y z).2.1 * (turnedP x y z).2.2 = n := by
  have hb := (nList_bound hn).2
  have hz : x - y + z ≠ 0 := fun e => by
    have e1 : x = y - z := by omega
    have e2 : (y + z) * (y + z) = n := by
      rw [← h, e1]
      simp only [Int.mul_sub, Int.mul_add, Int.sub_mul, Int.add_mul, Int.mul_assoc, Int.mul_comm z y]
      omega
    have e3 : y + z ≤ 13 := by
      rcases (by omega : 13 < y + z ∨ y + z ≤ 13) with g | g
      · have := Int.mul_le_mul (show 14 ≤ y + z from g) (show 14 ≤ y + z from g) (by omega) (by omega)
        omega
      · exact g
    obtain ⟨k, hk⟩ := Int.eq_ofNat_of_zero_le (show 0 ≤ y + z by omega)
    rw [hk] at e2 e3
    exact nList_sq n hn ⟨k, by omega⟩ e2
  have hx : x - 2 * y ≠ 0 := fun e => by
    have e1 : x = 2 * y := by omega
    have e2 : n % 4 = 1 := nList_one n hn
    rw [e1, show (2 * y) * (2 * y) + 4 * y * z = 4 * (y * y + y * z) from by
      simp only [Int.mul_add, Int.mul_assoc, Int.mul_left_comm y 2 y]
      omega] at h
    omega
  unfold turnedP
  split
  · refine ⟨by show 1 ≤ x + 2 * z; omega, h3, by show 1 ≤ y - x - z; omega, ?_⟩
    show (x + 2 * z) * (x + 2 * z) + 4 * z * (y - x - z) = n
    rw [← h]
    simp only [Int.mul_sub, Int.mul_add, Int.sub_mul, Int.add_mul, Int.mul_assoc, Int.mul_left_comm z 2, Int.mul_left_comm x 2, Int.mul_comm z x, Int.mul_comm z y]
    omega
  · split
    · refine ⟨by show 1 ≤ 2 * y - x; omega, h2, by show 1 ≤ x - y + z; omega, ?_⟩
      show (2 * y - x) * (2 * y - x) + 4 * y * (x - y + z) = n
      rw [← h]
      simp only [Int.mul_sub, Int.mul_add, Int.sub_mul, Int.add_mul, Int.mul_assoc, Int.mul_left_comm y 2, Int.mul_left_comm x 2, Int.mul_comm y x]
      omega
    · refine ⟨by show 1 ≤ x - 2 * y; omega, by show 1 ≤ x - y + z; omega, h2, ?_⟩
      show (x - 2 * y) * (x - 2 * y) + 4 * (x - y + z) * y = n
      rw [← h]
      simp only [Int.mul_sub, Int.mul_add, Int.sub_mul, Int.add_mul, Int.mul_assoc, Int.mul_left_comm y 2, Int.mul_left_comm x 2, Int.mul_comm y x, Int.mul_comm z y]
      omega
theorem mill_turn {sc n : Int} (h1 : 1 ≤ sc) (hn : n ∈ nList) : ∀ X Y Z : Int, (∃ x y z, X = sc * x ∧ Y = sc * y ∧ Z = sc * z ∧ 1 ≤ x ∧ 1 ≤ y ∧ 1 ≤ z ∧ x * x + 4 * y * z = n) → X ≠ Y →
    ∃ x y z, (turnedP X Y Z).1 = sc * x ∧ (turnedP X Y Z).2.1 = sc * y ∧ (turnedP X Y Z).2.2 = sc * z ∧ 1 ≤ x ∧ 1 ≤ y ∧ 1 ≤ z ∧ x * x + 4 * y * z = n := by
  rintro X Y Z ⟨x, y, z, rfl, rfl, rfl, a1, a2, a3, h⟩ _
  rw [turnedP_scale h1]
  exact ⟨_, _, _, rfl, rfl, rfl, mill_turn1 hn a1 a2 a3 h⟩
theorem walkP_scale {sc : Int} (h : 1 ≤ sc) : ∀ {m : Nat} {kd x y z rk rx ry rz : Int}, walkP m kd (x, y, z) = some (rk, rx, ry, rz) → walkP m kd (sc * x, sc * y, sc * z) = some (rk, sc * rx, sc * ry, sc * rz) := by
  intro m
  induction m with
  | zero => intro kd x y z rk rx ry rz e; cases e
  | succ m ih =>
    intro kd x y z rk rx ry rz e
    unfold walkP at e ⊢
    rw [← Int.mul_sub, ← Int.mul_sub]
    simp only [scale_zero h]
    split at e
    · rw [if_pos (by assumption)]
      split at e
      · rw [if_pos (by assumption)]
        cases e; rfl
      · rw [if_neg (by assumption)]
        exact ih e
    · rw [if_neg (by assumption)]
      split at e
      · rw [if_pos (by assumption)]
        cases e; rfl
      · rw [if_neg (by assumption)]
        rw [turnedP_scale h]
        exact ih e
/-- the scale shows nothing of itself: texts' ends are equal just if their mills are -/
theorem datE_inj {sc : Int} (h : 1 ≤ sc) (a b : Int × Int × Int × Int) : datE sc a = datE sc b ↔ a = b := by
  have hm : ∀ u v : Int, sc * u = sc * v → u = v := fun u v e => Int.eq_of_mul_eq_mul_left (by omega) e
  obtain ⟨k, x, y, z⟩ := a
  obtain ⟨k', x', y', z'⟩ := b
  constructor
  · intro e
    simp only [datE, Dat.tuple.injEq, List.cons.injEq, Dat.int.injEq, and_true] at e
    obtain ⟨rfl, e1, e2, e3⟩ := e
    rw [hm _ _ e1, hm _ _ e2, hm _ _ e3]
  · intro e
    rw [e]
theorem datE_ok (sc : Int) (e : Int × Int × Int × Int) : kqdOk 8 (datE sc e) = true := by obtain ⟨k, x, y, z⟩ := e; rfl
theorem datE_oks (sc : Int) (es : List (Int × Int × Int × Int)) : ∀ d ∈ es.map (datE sc), kqdOk 8 d = true := fun d hd => by
  obtain ⟨e, _, rfl⟩ := List.mem_map.mp hd
  exact datE_ok sc e
end Mine

/-! part C1 -/
namespace Mine
section
variable {w : World} {A : Around} {E : Value → Shared → Prop} {s : Shared} {h₀ : Heap} {L : Addr} {news n₁ n₂ : List (Addr × Obj)}
open Classical in
theorem dat_ne {x y : Value} {d e : Dat} {Q : Value → Shared → Prop} (N : News h₀ L s.heap news) (Dx : DatIn n₁ x d) (sx : ∀ p ∈ n₁, p ∈ news) (Dy : DatIn n₂ y e) (sy : ∀ p ∈ n₂, p ∈ news)
    (hd : kqdOk 8 d = true) (he : kqdOk 8 e = true) (hu : A.units + 64 < cLine) (h : Q (.bool (!decide (d = e))) s) : wpAny (model pw w) A (compareOp .NotEq x y) Q E s := by
  obtain ⟨as, ra⟩ := kqd_in N 8 (Dx.mono sx) hd
  obtain ⟨bs, rb⟩ := kqd_in N 8 (Dy.mono sy) he
  have ld := kqd_lay 8 d hd
  have le := kqd_lay 8 e he
  have q := kqd_eqv 8 d e 8 hd he
  have e' : PyData.eqv (kqdP d) (kqdP e) = decide (d = e) := by
    by_cases hq : d = e
    · rw [decide_eq_true hq]; exact q.mpr hq
    · rw [decide_eq_false hq]; exact Bool.eq_false_iff.mpr fun z => hq (q.mp z)
  refine ne_dataH ra rb ?_ ?_ hu (by rw [e']; exact h)
  · unfold SeqAt.shaped; rw [ld.1, Bool.true_and]; exact decide_eq_true (Nat.le_trans ld.2 (by decide))
  · unfold SeqAt.shaped; rw [le.1, Bool.true_and]; exact decide_eq_true (Nat.le_trans le.2 (by decide))

open Classical in
theorem not_in_has {a : Addr} {oa : Obj} {xs : List Value} {ka : Nat} {ds : List Dat} {x : Value} {d : Dat} {Q : Value → Shared → Prop} (N : News h₀ L s.heap news) (ma : (a, oa) ∈ news) (ca : oa.cls = .type "list") (da : oa.data = .seq xs.toArray ka) (Da : DatAll n₁ xs ds) (sa : ∀ p ∈ n₁, p ∈ news)
    (Dx : DatIn n₂ x d) (sx : ∀ p ∈ n₂, p ∈ news) (ha : ∀ d ∈ ds, kqdOk 8 d = true) (hd : kqdOk 8 d = true) (hu : A.units + 64 < cLine) (hm : d ∈ ds) (h : Q (.bool false) s) : wpAny (model pw w) A (compareOp .NotIn x (.ref a)) Q E s :=
  kqd_notIn N ma ca da Da sa Dx sx ha hd hu (by rw [decide_eq_true hm]; exact h)

local macro_rules | `(tactic| walk_at "eval Name") => `(tactic| ((with_reducible show wpAny _ _ (eval (Expr.Name _ _) (compEnvC _ _ _ _)) _ _ _); with_unfolding_all first
  | refine LCgL.ld_own (by assumption) (.tail _ (.head _)) (by assumption) (by assumption) ?_ (by assumption) (by assumption)
  | refine lcf_cell (by assumption) (by assumption) (by assumption) (by assumption) ?_ (by assumption) (by assumption)))

open Classical in
set_option maxHeartbeats 4000000 in
theorem filter_rest {env : Env} {m : Str → Option Value} {scope : Scope} {cl : List (Str × Addr)} {p1 p2 p3 p4 : Pos} {S : List (Addr × Obj) → Prop} {its : Array Value} {Fin : List Value → List (Addr × Obj) → Prop} {sc : Int} {o : Int × Int × Int × Int} {T : Value} {C0 : Addr} {oc : Obj} {tl : List (Addr × Obj)}
    (hS : S news) (hcl : cl.lookup (Str.ofString "other") = some C0) (hmC : (C0, oc) ∈ news) (hoc : oc.data = .cell (some T)) (hT : DatIn n₂ T (datE sc o)) (hn₂ : ∀ p ∈ n₂, p ∈ news) (htl : ∀ p ∈ tl, p ∈ news) (hsc : 1 ≤ sc)
    (hk : scope.kind = .function) (hx1 : ∀ C, (compEnvC scope cl C env).kindOf (Str.ofString "one") = some .local) (hx2 : ∀ C, (compEnvC scope cl C env).kindOf (Str.ofString "other") = some .cell) (hu : A.units + 64 < cLine) :
    ∀ (k i : Nat) (vsr ys : List Value) (es es' : List (Int × Int × Int × Int)), vsr.length = k → DatAll tl vsr (es.map (datE sc)) → (∀ (j : Nat) (v : Value), vsr[j]? = some v → its[i + j]? = some v) → DatAll tl ys (es'.map (datE sc)) →
      (∀ ys', DatAll tl ys' ((es' ++ es.filter (fun e => e != o)).map (datE sc)) → Fin ys' news) →
      LCt.CompRestT pw w A h₀ L m env (.Compare (.Name (Str.ofString "one") p1) [.NotEq] [.Name (Str.ofString "other") p2] p3) (.Name (Str.ofString "one") p4) (Str.ofString "one") scope cl s S (fun i v => its[i]? = some v) Fin k i ys news
  | 0, i, vsr, ys, es, es', hlen, hD, hits, hY, hfin => by
    obtain rfl := List.eq_nil_of_length_eq_zero hlen
    have he : es = [] := by
      cases es with
      | nil => rfl
      | cons a b => cases hD
    subst he
    exact LCt.CompRestT.zero (hfin ys (by simpa using hY))
  | k + 1, i, vsr, ys, es, es', hlen, hD, hits, hY, hfin => by
    cases vsr with
    | nil => cases hlen
    | cons v vsr =>
    cases es with
    | nil => cases hD
    | cons e es =>
    cases hD with
    | cons hv hD =>
    refine LCt.CompRestT.succ (fun v' I oI C oC D m₂ h tk E' hP hC hm₂ F N off hne => ?_)
    have hv' : v' = v := by
      have := hits 0 v rfl
      rw [Nat.add_zero] at this
      rw [this] at hP
      exact (Option.some.inj hP).symm
    subst hv'
    have sub : ∀ p ∈ news, p ∈ (I, oI) :: (C, oC) :: (D, LCg.lst ys) :: news := fun p hp => .tail _ (.tail _ (.tail _ hp))
    have hmC' := sub _ hmC
    have hxx1 := hx1 C
    have hxx2 := hx2 C
    have hkk : (compEnvC scope cl C env).scope.kind = .function := hk
    repeat' ((fail_if_success (with_reducible show wpAny _ _ (compareOp _ _ _) _ _ _)); walk1)
    refine dat_ne N hv (fun p hp => sub p (htl p hp)) hT (fun p hp => sub p (hn₂ p hp)) (datE_ok sc e) (datE_ok sc o) hu ?_
    by_cases heo : e = o
    · subst heo
      rw [decide_eq_true (rfl : datE sc e = datE sc e), Bool.not_true]
      repeat' ((fail_if_success (with_reducible show LCg.CompEnd _ _ _ _ _ _ _ _ _ _ _ _ _ _)); walk1)
      refine LCg.CompEnd.intro F N news (fun p hp => hp) off hS ?_
      exact filter_rest hS hcl hmC hoc hT hn₂ htl hsc hk hx1 hx2 hu k (i + 1) vsr ys es es' (Nat.succ.inj hlen) hD (fun j v h => by have := hits (j + 1) v h; rwa [show i + (j + 1) = i + 1 + j by omega] at this) hY (fun ys' h' => hfin ys' (by
        rw [List.filter_cons, show (e != e) = false from by simp]
        exact h'))
    · rw [decide_eq_false (fun q => heo ((datE_inj hsc e o).mp q) : ¬ datE sc e = datE sc o), Bool.not_false]
      repeat' ((fail_if_success (with_reducible show LCg.CompEnd _ _ _ _ _ _ _ _ _ _ _ _ _ _)); walk1)
      refine LCg.CompEnd.intro F N news (fun p hp => hp) off hS ?_
      exact filter_rest hS hcl hmC hoc hT hn₂ htl hsc hk hx1 hx2 hu k (i + 1) vsr (ys ++ [v']) es (es' ++ [e]) (Nat.succ.inj hlen) hD (fun j v h => by have := hits (j + 1) v h; rwa [show i + (j + 1) = i + 1 + j by omega] at this)
        (by rw [List.map_append]; exact DatAll.append hY (DatAll.one hv)) (fun ys' h' => hfin ys' (by
        rw [List.filter_cons, show (e != o) = true from by simp [heo]]
        simpa using h'))
end
end Mine

/-! part W10 -/
namespace Mine
theorem enter_fnC {w : World} {A : Around} {E : Value → Shared → Prop} {s : Shared} {Q : Value → Shared → Prop} {mean : ExcName → Option Value} {mg mb : Str → Option Value}
    {nm : Str} {ps : Arguments} {bd : List Stmt} {sc : Scope} {pm code doc : Value} {f : Addr} {o : Obj} {args : List Value} {binds : List (Str × Value)} {d u : Nat}
    (R : Rm A d u) (T : Top q loose mean mg mb s.heap) (ho : s.heap.get? f = some o) (hdata : o.data = .func (docDef nm ps bd sc pm code doc)) (hcd : s.heap.CodeRec code nm)
    (hbind : bindArgs (docDef nm ps bd sc pm code doc) ⟨args, []⟩ = pure binds)
    (hkind : (binds.all fun y => sc.names.lookup y.1 == some .local || sc.names.lookup y.1 == some .cell) = true) (hnd : ((cellsFrom 0 sc.names []).map (·.1)).Nodup)
    (h : ∀ h₁ tk cells, Fr s.heap s.heap.objs.size h₁ (bindL (envOfC nm sc s.heap.objs.size f code).kindOf binds fun _ => none) → News s.heap s.heap.objs.size h₁ cells →
      CellsAre (bindC (envOfC nm sc s.heap.objs.size f code).kindOf binds fun _ => none) (cellsFrom (s.heap.objs.size + 1) sc.names []) cells → Rm (A.deeper (envOfC nm sc s.heap.objs.size f code)) (d - 1) (u - 3) →
      wpAny (model pw w) (A.deeper (envOfC nm sc s.heap.objs.size f code)) (execs bd (envOfC nm sc s.heap.objs.size f code))
        (fun fl s' => Q (match fl with | .ret v => v | _ => .none) s') (fun _ _ => False) { s with heap := h₁, toks := tk })
    (hd : 1 ≤ d := by decide) (hu : 3 ≤ u := by decide)
    (hco : sc.isCoroutine = false := by rfl) (hgen : sc.isGenerator = false := by rfl) (hk : sc.kind = .function := by rfl) :
    wpAny (model pw w) A (call (.ref f) args) Q E s := by
  have hd' := R.hd
  have hu' := R.hu
  obtain ⟨fs, hfs⟩ := R.hf
  have R' : Rm (A.deeper (envOfC nm sc s.heap.objs.size f code)) (d - 1) (u - 3) := by
    refine ⟨R.hh, ?_, ?_, ⟨envOfC nm sc s.heap.objs.size f code :: fs, ?_⟩⟩
    · show A.depth + 1 + (d - 1) < recursionLimit; omega
    · show A.units + 3 + (u - 3) < cLine; omega
    · show A.frames.map _ = _; rw [hfs]; rfl
  refine wpAny_call ?_
  refine codeAny_call_function (by omega) ho hdata hco hgen rfl hcd ?_
  rw [hbind]
  refine wpAny_pure ?_
  refine wpAny_newFunctionEnv_cells hk (kindsX hkind _) fun env' he s' x => ?_
  subst he
  refine ⟨T.nolimit.keeps x.toInCall.keep, codeAny_func ?_⟩
  obtain ⟨h₁, tk, rfl, _⟩ := x.done
  have hk₁ := x.toInCall.keep
  obtain ⟨cells, NC, Y⟩ := Cl.news (h₀ := s.heap) (Nat.le_refl _) fun n c hm => ⟨x.cell n c (lookup_of_mem_nodup (cellsFrom_names sc.names 0 (s.heap.objs.size + 1) [] [] rfl ▸ hnd) hm), x.above n c hm⟩
  exact wpAny_mono (h h₁ tk cells ⟨x.toInCall.ns, fun b o e => hk₁ b o e, Nat.le_refl _⟩ NC Y R') (fun _ _ g => g) (fun _ _ g => g.elim)

/-- all of a growing list's objects, held by the caller -/
theorem newsAll {h₀ : Heap} {L : Addr} {m : Str → Option Value} {h h' : Heap} {news xs : List (Addr × Obj)} (F : Fr h₀ L h m) (N : News h₀ L h news) (st : Stays h h') (hx : ∀ p ∈ xs, h'.get? p.1 = some p.2 ∧ h.get? p.1 = none) : News h₀ L h' (xs ++ news) := by
  intro p hp
  rcases List.mem_append.mp hp with hp | hp
  · exact newsCons F N st (hx p hp).2 (hx p hp).1 _ (.head _)
  · exact ⟨st _ _ (N p hp).1, (N p hp).2⟩

theorem apart_data {h₀ h : Heap} {L : Addr} {news : List (Addr × Obj)} (N : News h₀ L h news) {p q : Addr × Obj} (hp : p ∈ news) (hq : q ∈ news) (h : p.2.data ≠ q.2.data) : p.1 ≠ q.1 := fun e => by
  have h1 := (N p hp).1
  rw [e, (N q hq).1] at h1
  exact h (congrArg Obj.data (Option.some.inj h1)).symm
theorem cell_put {h₀ h h' : Heap} {L c : Addr} {m : Str → Option Value} {oc : Obj} {v : Value} {news : List (Addr × Obj)} (F : Fr h₀ L h m) (N : News h₀ L h ((c, oc) :: news)) (hne : ∀ p ∈ news, p.1 ≠ c) (hs : Heap.SameBut c h h') (hc : h'.IsCell c (some v)) :
    Fr h₀ L h' m ∧ ∃ o', o'.data = .cell (some v) ∧ News h₀ L h' ((c, o') :: news) := by
  have z := N _ (.head _)
  obtain ⟨o', ho', hd'⟩ := hc
  refine ⟨F.change hs z.2.1 z.2.2, o', hd', fun p hp => ?_⟩
  rcases List.mem_cons.mp hp with rfl | hp
  · exact ⟨ho', z.2⟩
  · have z' := N p (.tail _ hp)
    exact ⟨(hs.2 _ (hne p hp)).trans z'.1, z'.2⟩

section
variable {w : World} {A : Around} {E : Value → Shared → Prop} {s : Shared} {mean : ExcName → Option Value} {mg mb : Str → Option Value} {f : Addr} {d u : Nat}
theorem name_glob {env : Env} {x : Str} {pos : Pos} {v : Value} {Q : Value → Shared → Prop} (G : Gd mean mg mb s.heap) (hv : mg x = some v) (h : Q v s) (hk : env.scope.kind = .function := by rfl) (hx : env.kindOf x = some .globalImplicit := by rfl)
    (he : env.globals = mainGlobals := by rfl) (hd : (x == ("__debug__" : Str)) = false := by decide) : wpAny (model pw w) A (eval (.Name x pos) env) Q E s :=
  Name_function_global hk hx (loadGlobal_global (show s.heap.Ns env.globals mg by rw [he]; exact G.T.g) hv h) hd
set_option maxHeartbeats 4000000 in
theorem law_spec {sl : Addr} {vs : List Value} {ns : List Int} {Q : Value → Shared → Prop} (R : Rm A d u) (G : Gd mean mg mb s.heap) (hf : mg (Str.ofString "law") = some (.ref f))
   (hl : s.heap.IsList sl vs.toArray) (hi : IntsAre vs ns) (hlen : vs.length ≤ 63)
   (hQ : ∀ h' tk', Stays s.heap h' → Q (.bool true) { s with heap := h', toks := tk' }) (hd : 6 ≤ d := by decide) (hu : 80 ≤ u := by decide) :
   wpAny (model pw w) A (call (.ref f) [.ref sl]) Q E s := by
  obtain ⟨f', o, pm, code, doc, h1, h2, h3, h4⟩ := fn_at (i := 20) rfl rfl G.T
  rw [hf] at h1
  cases h1
  refine enter_fnC (binds := [(Str.ofString "script", .ref sl)]) R G.T h2 h3 h4 rfl (by rfl) (by decide) (fun h₁ tk cells F N Y R' => ?_) (by omega) (by omega)
  clear h3
  obtain ⟨oc, rfl, hoc⟩ := CellsAre.one Y
  clear Y
  have T : Top q loose mean mg mb s.heap := G.T
  obtain ⟨ft, oft, fdt, hft, hoft, hdft⟩ := G.fn (i := 14) rfl rfl
  obtain ⟨fe, ofe, fde, hfe, hofe, hdfe⟩ := G.fn (i := 15) rfl rfl
  obtain ⟨fw, ofw, fdw, hfw, hofw, hdfw⟩ := G.fn (i := 19) rfl rfl
  w_top on
  repeat' ((fail_if_success (with_reducible show wpAny _ _ (eval (Expr.Name (Str.ofString "_law_totals") _) _) _ _ _)); walk1)
  refine name_glob (G.keeps F.keep) hft ?_
  repeat' ((fail_if_success (with_reducible show wpAny _ _ (call (Value.ref _) _) _ _ _)); walk1)
  refine totals_spec R' (G.keeps F.keep) hft (hl.at fun o e => F.keep _ o e) hi hlen (fun l a b c u1 u2 u3 nl h2 tk2 st2 hl0 hl2 => ?_) (by omega) (by omega)
  have F2 := F.after st2
  have N2 := newsCons F N st2 hl0 hl2
  clear F N
  repeat' ((fail_if_success (with_reducible show wpAny _ _ (binaryOp Operator.Mod _ _) _ _ _)); (fail_if_success (with_reducible show wpAny _ _ (eval (Expr.Name (Str.ofString "_law_ends") _) _) _ _ _)); walk1)
  refine mod_int' (by decide) ?_
  simp only [show ([a, b, c] : List Int).getD (Int.toNat 0) 0 = a from rfl]
  have hr0 : 0 ≤ a.fmod 40 := Int.fmod_nonneg_of_pos _ (by decide)
  have hr1 : a.fmod 40 < 40 := Int.fmod_lt_of_pos _ (by decide)
  generalize a.fmod 40 = r at hr0 hr1
  repeat' ((fail_if_success (with_reducible show wpAny _ _ (execs (Stmt.Assign [Expr.Name (Str.ofString "n") _] _ _ :: _) _) _ _ _)); walk1)
  refine wpAny_execs_cons (wpAny_mono (Q := fun fl s' => fl = .next ∧ ∃ (hh : Heap) (tk' : Nat) (n : Int) (tn : Tok) (m' : Str → Option Value), s' = { s with heap := hh, toks := tk' } ∧ n ∈ nList ∧ News s.heap s.heap.objs.size hh ((l, listO [.int a u1, .int b u2, .int c u3] nl) :: [(s.heap.objs.size + 1, oc)]) ∧
    Fr s.heap s.heap.objs.size hh (kstB m' [(Str.ofString "totals", .ref l), (Str.ofString "n", .int n tn)])) ?_ ?_ (fun _ _ h => h))
  · repeat' ((fail_if_success (with_reducible show _ ∧ _)); walk1)
    · rename Fr _ _ _ _ => F
      rename News _ _ _ _ => N
      have hm := nList_in hr0 hr1
      rw [if_pos (by assumption)] at hm
      exact ⟨rfl, _, _, _, _, _, rfl, hm, kst_newsOf N (fun p hp => .tail _ hp), frPuts _ F (by kst_all)⟩
    · rename Fr _ _ _ _ => F
      rename News _ _ _ _ => N
      have hm := nList_in hr0 hr1
      rw [if_neg (by simp_all)] at hm
      exact ⟨rfl, _, _, _, _, _, rfl, hm, kst_newsOf N (fun p hp => .tail _ hp), frPuts _ F (by kst_all)⟩
  · rintro fl s' ⟨rfl, hh3, tk3, n, tn, m', rfl, hn, N, F⟩
    simp only [kstB] at F
    dsimp only
    have hnb := nList_bound hn
    clear hr0 hr1
    repeat' ((fail_if_success (with_reducible show wpAny _ _ (eval (Expr.Name (Str.ofString "_law_ends") _) _) _ _ _)); walk1)
    refine name_glob (G.keeps F.keep) hfe ?_
    repeat' ((fail_if_success (with_reducible show wpAny _ _ (binaryOp Operator.Mod _ _) _ _ _)); walk1)
    refine mod_int' (by decide) ?_
    simp only [show ([a, b, c] : List Int).getD (Int.toNat 1) 0 = b from rfl]
    have hr0 : 0 ≤ b.fmod 400 := Int.fmod_nonneg_of_pos _ (by decide)
    have hr1 : b.fmod 400 < 400 := Int.fmod_lt_of_pos _ (by decide)
    generalize b.fmod 400 = r2 at hr0 hr1
    repeat' ((fail_if_success (with_reducible show wpAny _ _ (call (Value.ref _) _) _ _ _)); walk1)
    refine ends_spec R' (G.keeps F.keep) hfe (by omega) (by omega) (fun D vs5 c5 tl h5 tk5 st5 hx5 hDA5 hcl5 => ?_) (by omega) (by omega)
    have F5 := F.after st5
    have N5 := newsAll F N st5 hx5
    have hoffC : ∀ p ∈ tl, p.1 ≠ s.heap.objs.size + 1 := fun p hp e => by
      have e1 := (hx5 p (.tail _ hp)).2
      rw [e, (N _ (.tail _ (.head _))).1] at e1
      cases e1
    clear F N
    generalize hsc : 1 + r2 = sc
    have hsc1 : 1 ≤ sc := by omega
    have hsc2 : sc ≤ 400 := by omega
    repeat' ((fail_if_success (with_reducible show wpAny _ _ (exec (Stmt.While _ _ _ _) _) _ _ _)); walk1)
    rename Fr _ _ _ _ => F
    rename News _ _ _ _ => N
    refine While_inv2 (fun k m news => ∃ (es : List (Int × Int × Int × Int)) (D : Addr) (vs : List Value) (c6 : Nat) (tl : List (Addr × Obj)) (oc' : Obj) (cv : Option Value), pairsU n k es = true ∧ es.length ≤ 100 ∧ (∀ e ∈ es, millOk n e) ∧
      news = ((D, W.listOf vs.toArray c6) :: tl) ++ [(l, listO [.int a u1, .int b u2, .int c u3] nl), (s.heap.objs.size + 1, oc')] ∧ DatAll tl vs (es.map (datE sc)) ∧ (∀ p ∈ tl, p.1 ≠ s.heap.objs.size + 1) ∧ oc'.data = .cell cv ∧
      m (Str.ofString "ends") = some (.ref D) ∧ m (Str.ofString "totals") = some (.ref l) ∧ m (Str.ofString "n") = some (.int n tn)) (n₀ := 20) F N ⟨endsU n, D, vs5, c5, tl, oc, none, ?_, ?_, ?_, rfl, ?_, hoffC, hoc, rfl, rfl, rfl⟩ (fun k m₂ news₂ h₂ tk₂ F₁ N₁ hJ => ?_) PassesOwn.never
    · exact ends_pairs n hn
    · exact ends_short n hn
    · exact ends_mill n hn
    · rw [hsc] at hDA5; exact hDA5
    obtain ⟨es, D, vs6, c6, tl, oc', cv, hpair, hes, hmill, rfl, hDA, hoffC, hoc', w1, w2, w3⟩ := hJ
    rw [← kstB_id (m := m₂) (ps := [(Str.ofString "ends", .ref D), (Str.ofString "totals", .ref l), (Str.ofString "n", .int n tn)]) (by simp [w1, w2, w3])] at F₁
    simp only [kstB] at F₁
    clear F N w1 w2 w3 hx5 hDA5 hcl5
    dsimp only
    repeat' ((fail_if_success (with_reducible show wpAny _ _ (compareOp _ _ _) _ _ _)); walk1)
    rename Fr _ _ _ _ => F
    rename News _ _ _ _ => N
    refine kqd_ne (ys := []) (es := []) (n₂ := []) N (.tail _ (.head _)) rfl rfl hDA (fun p hp => .tail _ (.tail _ (List.mem_append_left _ hp))) (.head _) rfl rfl .nil (fun p hp => nomatch hp) (datE_oks sc es) (fun d hd => nomatch hd) (by have := R'.hu; omega) ?_
    rcases es with _ | ⟨⟨k0, x0, y0, z0⟩, es⟩
    · rw [show (!decide (List.map (datE sc) [] = [])) = false from by simp]
      repeat' walk1
      rename Fr _ _ _ _ => F
      dsimp only
      exact hQ _ _ F.keep
    · rw [show (!decide (List.map (datE sc) ((k0, x0, y0, z0) :: es) = [])) = true from by simp]
      cases hDA with
      | @cons v1 vs1 _ _ hd1 hDA1 =>
      have hd1' : DatIn tl v1 (.tuple [.int k0, .tuple [.int (sc * x0), .int (sc * y0), .int (sc * z0)]]) := hd1
      cases hd1' with
      | @tuple T wsT nT _ hmT hrT =>
      cases hrT with
      | @cons _ wsT1 _ _ hk1 hrT =>
      cases hk1 with
      | @int _ tk1 =>
      cases hrT with
      | @cons vM _ _ _ hM1 hrT =>
      cases hrT
      cases hM1 with
      | @tuple T2 wsM nM _ hmM hrM =>
      cases hrM with
      | @cons _ _ _ _ hx1 hrM =>
      cases hx1 with
      | @int _ tx1 =>
      cases hrM with
      | @cons _ _ _ _ hy1 hrM =>
      cases hy1 with
      | @int _ ty1 =>
      cases hrM with
      | @cons _ _ _ _ hz1 hrM =>
      cases hz1 with
      | @int _ tz1 =>
      cases hrM
      replace N := kst_newsOf (l' := (D, W.listOf (Value.ref T :: vs1).toArray c6) :: (T, tupO [.int k0 tk1, .ref T2] nT) :: (T2, tupO [.int (sc * x0) tx1, .int (sc * y0) ty1, .int (sc * z0) tz1] nM) :: (l, listO [.int a u1, .int b u2, .int c u3] nl) :: (s.heap.objs.size + 1, oc') :: tl) N (fun p hp => by
        rcases List.mem_cons.mp hp with rfl | hp
        · exact .tail _ (.head _)
        · rcases List.mem_cons.mp hp with rfl | hp
          · exact .tail _ (.tail _ (List.mem_append_left _ hmT))
          · rcases List.mem_cons.mp hp with rfl | hp
            · exact .tail _ (.tail _ (List.mem_append_left _ hmM))
            · rcases List.mem_cons.mp hp with rfl | hp
              · exact .tail _ (.tail _ (List.mem_append_right _ (.head _)))
              · rcases List.mem_cons.mp hp with rfl | hp
                · exact .tail _ (.tail _ (List.mem_append_right _ (.tail _ (.head _))))
                · exact .tail _ (.tail _ (List.mem_append_left _ hp)))
      repeat' ((fail_if_success (with_reducible show wpAny _ _ (eval (Expr.Name (Str.ofString "_law_walked") _) _) _ _ _)); walk1)
      refine name_glob (G.keeps F.keep) hfw ?_
      repeat' ((fail_if_success (with_reducible show wpAny _ _ (subscriptTail (Expr.Subscript _ _ _) _ _ _) _ _ _)); walk1)
      rename Fr _ _ _ _ => F
      rename News _ _ _ _ => N
      refine item_tupleT (l := [.int k0 tk1, .ref T2]) (j := 0) (News.isTup N (.tail _ (.head _))) (by decide) (by decide) (by rfl) (by rfl) ?_
      repeat' ((fail_if_success (with_reducible show wpAny _ _ (subscriptTail (Expr.Subscript _ _ _) _ _ _) _ _ _)); walk1)
      rename Fr _ _ _ _ => F
      rename News _ _ _ _ => N
      refine item_tupleT (l := [.int k0 tk1, .ref T2]) (j := 1) (News.isTup N (.tail _ (.head _))) (by decide) (by decide) (by rfl) (by rfl) ?_
      repeat' ((fail_if_success (with_reducible show wpAny _ _ (call (Value.ref _) _) _ _ _)); walk1)
      rename Fr _ _ _ _ => F
      rename News _ _ _ _ => N
      obtain ⟨nn, rfl⟩ := Int.eq_ofNat_of_zero_le (show 0 ≤ n by omega)
      rcases k with _ | k
      · cases hpair
      unfold pairsU at hpair
      dsimp only [Int.toNat_natCast] at hpair
      cases hw : walkP nn k0 (x0, y0, z0) with
      | none => rw [hw] at hpair; cases hpair
      | some o9 =>
      obtain ⟨rk, rx, ry, rz⟩ := o9
      rw [hw] at hpair
      dsimp only at hpair
      obtain ⟨hin, hpair⟩ := Bool.and_eq_true_iff.mp hpair
      have hmo := hmill _ (.head _)
      refine walked_spec (fun X Y Z => ∃ x y z, X = sc * x ∧ Y = sc * y ∧ Z = sc * z ∧ 1 ≤ x ∧ 1 ≤ y ∧ 1 ≤ z ∧ x * x + 4 * y * z = (nn : Int)) (mill_bound hsc1 hsc2 hn) mill_swap (mill_turn hsc1 hn) R' (G.keeps F.keep) hfw (News.isTup N (.tail _ (.tail _ (.head _)))) ⟨x0, y0, z0, rfl, rfl, rfl, hmo.2⟩ hmo.1 (by omega) (walkP_scale hsc1 hw)
        (fun T' T2' w1 w2 w3 w4 h6 tk6 st6 nT' nT2' hne oT' oT2' => ?_) (by omega) (by omega)
      have F6 := F.after st6
      have N6 := newsAll F N st6 (xs := [(T', tupO [.int rk w1, .ref T2']), (T2', tupO [.int (sc * rx) w2, .int (sc * ry) w3, .int (sc * rz) w4])]) (fun p hp => by
        rcases List.mem_cons.mp hp with rfl | hp
        · exact ⟨oT', nT'⟩
        · rw [List.mem_singleton.mp hp]; exact ⟨oT2', nT2'⟩)
      have hT'C : T' ≠ s.heap.objs.size + 1 := fun e => by
        have e1 := (N (s.heap.objs.size + 1, oc') (.tail _ (.tail _ (.tail _ (.tail _ (.head _)))))).1
        dsimp only at e1
        rw [← e, nT'] at e1
        cases e1
      have hT2'C : T2' ≠ s.heap.objs.size + 1 := fun e => by
        have e1 := (N (s.heap.objs.size + 1, oc') (.tail _ (.tail _ (.tail _ (.tail _ (.head _)))))).1
        dsimp only at e1
        rw [← e, nT2'] at e1
        cases e1
      clear F N
      simp only [List.cons_append, List.nil_append] at N6
      repeat' ((fail_if_success (with_reducible show wpAny _ _ (compareOp _ _ _) _ _ _)); walk1)
      rename Fr _ _ _ _ => F
      rename News _ _ _ _ => N
      replace N := kst_newsOf (l' := (s.heap.objs.size + 1, oc') :: (T', tupO [.int rk w1, .ref T2']) :: (T2', tupO [.int (sc * rx) w2, .int (sc * ry) w3, .int (sc * rz) w4]) :: (D, W.listOf (Value.ref T :: vs1).toArray c6) :: (l, listO [.int a u1, .int b u2, .int c u3] nl) :: tl) N (fun p hp => by
        simp only [List.mem_cons] at hp ⊢
        rcases hp with h | h | h | h | h | h <;> simp [h])
      have hneC : ∀ p ∈ (T', tupO [.int rk w1, .ref T2']) :: (T2', tupO [.int (sc * rx) w2, .int (sc * ry) w3, .int (sc * rz) w4]) :: (D, W.listOf (Value.ref T :: vs1).toArray c6) :: (l, listO [.int a u1, .int b u2, .int c u3] nl) :: tl, p.1 ≠ s.heap.objs.size + 1 := by
        intro p hp
        rcases List.mem_cons.mp hp with rfl | hp
        · exact hT'C
        · rcases List.mem_cons.mp hp with rfl | hp
          · exact hT2'C
          · rcases List.mem_cons.mp hp with rfl | hp
            · exact apart_data N (.tail _ (.tail _ (.tail _ (.head _)))) (.head _) (by rw [hoc']; simp [W.listOf])
            · rcases List.mem_cons.mp hp with rfl | hp
              · exact apart_data N (.tail _ (.tail _ (.tail _ (.tail _ (.head _))))) (.head _) (by rw [hoc']; simp)
              · exact hoffC p hp
      refine wpAny_storeName_cell (by rfl) (by rfl) (by rfl) ⟨oc', (N _ (.head _)).1, hoc'⟩ (fun h7 hc7 hs7 => ?_)
      obtain ⟨F7, oc7, hoc7, N7⟩ := cell_put F N hneC hs7 hc7
      clear F N
      repeat' ((fail_if_success (with_reducible show wpAny _ _ (compareOp _ _ _) _ _ _)); walk1)
      rename Fr _ _ _ _ => F
      rename News _ _ _ _ => N
      refine kmk_slice_lit (zs := vs1) F N (News.isList N (.tail _ (.tail _ (.tail _ (.head _))))) (.int 1 _) .none ?_ (fun Dr h8 F N l1 => ?_) (by with_unfolding_all rfl) (by intro _; with_unfolding_all rfl) ?_
      · rw [show (1 : Int) = ((1 : Nat) : Int) from rfl, slicePick_from']; simp
      rotate_left
      · have hL1 := hDA1.length
        rw [List.length_map] at hL1
        simp only [List.length_cons] at hes
        simp only [List.size_toArray, List.length_cons]
        have := sizeLine_eq
        omega
      repeat' ((fail_if_success (with_reducible show wpAny _ _ (compareOp _ _ _) _ _ _)); (fail_if_success (with_reducible show wpAny _ _ (eval (Expr.Name (Str.ofString "other") _) _) _ _ _)); walk1)
      rename Fr _ _ _ _ => F
      rename News _ _ _ _ => N
      refine wpAny_Name (wpAny_loadName_cell (c := s.heap.objs.size + 1) (by rfl) (by rfl) (by rfl) ⟨oc7, (N _ (.tail _ (.head _))).1, hoc7⟩ ?_) (by decide)
      repeat' ((fail_if_success (with_reducible show wpAny _ _ (compareOp _ _ _) _ _ _)); walk1)
      have hu8 := R'.hu
      have hT' : DatIn [(T', tupO [.int rk w1, .ref T2']), (T2', tupO [.int (sc * rx) w2, .int (sc * ry) w3, .int (sc * rz) w4])] (.ref T') (datE sc (rk, rx, ry, rz)) :=
        .tuple (n := 0) (.head _) (.cons (.int _ _) (.cons (.tuple (n := 0) (.tail _ (.head _)) (.cons (.int _ _) (.cons (.int _ _) (.cons (.int _ _) .nil)))) .nil))
      have hsubT : ∀ p ∈ [(T', tupO [.int rk w1, .ref T2']), (T2', tupO [.int (sc * rx) w2, .int (sc * ry) w3, .int (sc * rz) w4])], p ∈ (Dr, W.listOf vs1.toArray 0) :: (s.heap.objs.size + 1, oc7) :: (T', tupO [.int rk w1, .ref T2']) :: (T2', tupO [.int (sc * rx) w2, .int (sc * ry) w3, .int (sc * rz) w4]) :: (D, W.listOf (Value.ref T :: vs1).toArray c6) :: (l, listO [.int a u1, .int b u2, .int c u3] nl) :: tl := fun p hp => by
        rcases List.mem_cons.mp hp with rfl | hp
        · exact .tail _ (.tail _ (.head _))
        · rw [List.mem_singleton.mp hp]; exact .tail _ (.tail _ (.tail _ (.head _)))
      have hsubL : ∀ p ∈ tl, p ∈ (Dr, W.listOf vs1.toArray 0) :: (s.heap.objs.size + 1, oc7) :: (T', tupO [.int rk w1, .ref T2']) :: (T2', tupO [.int (sc * rx) w2, .int (sc * ry) w3, .int (sc * rz) w4]) :: (D, W.listOf (Value.ref T :: vs1).toArray c6) :: (l, listO [.int a u1, .int b u2, .int c u3] nl) :: tl := fun p hp => .tail _ (.tail _ (.tail _ (.tail _ (.tail _ (.tail _ hp)))))
      refine not_in_has N (.head _) rfl rfl hDA1 hsubL hT' hsubT (datE_oks sc es) (datE_ok sc _) (by omega) (List.mem_map.mpr ⟨_, List.contains_iff_mem.mp hin, rfl⟩) ?_
      repeat' ((fail_if_success (with_reducible show wpAny _ _ (exec (Stmt.Assign [Expr.Name (Str.ofString "ends") _] _ _) _) _ _ _)); walk1)
      rename Fr _ _ _ _ => F
      rename News _ _ _ _ => N
      refine LCt.Assign_ListComp_T F rfl (by with_unfolding_all rfl) (by with_unfolding_all rfl) (by decide) (by rfl) (by decide) (by rfl) (by rfl) (by rfl) ?_
      repeat' ((fail_if_success (with_reducible show LCt.CompSrcT _ _ _ _ _ _ _ _ _ _ _ _ _ _ _)); walk1)
      rename Fr _ _ _ _ => F
      rename News _ _ _ _ => N
      refine LCt.CompSrcT.ledger R'.hh F N (.head _) ?_ (fun g => ?_)
      · have hL1 := hDA1.length
        rw [List.length_map] at hL1
        simp only [List.length_cons] at hes
        simp only [List.size_toArray]
        have := sizeLine_eq
        omega
      refine filter_rest (its := vs1.toArray) (.inr ⟨_, .head _, rfl, _, rfl⟩) (by rfl) (.tail _ (.head _)) hoc7 hT' hsubT hsubL hsc1 (by rfl) (by intro C; with_unfolding_all rfl) (by intro C; with_unfolding_all rfl) (by omega) _ 0 vs1 [] es [] (by simp) hDA1 (fun j v h => by simpa using h) .nil (fun ys' hY => ?_)
      intro Dn h10 tk10 F10 N10 off10
      dsimp only
      rw [List.nil_append] at hY
      have hlenF : (es.filter fun e => e != (rk, rx, ry, rz)).length ≤ 100 := Nat.le_trans (List.length_filter_le _ _) (by simp only [List.length_cons] at hes; omega)
      replace N10 := kst_newsOf (l' := ((Dn, W.listOf ys'.toArray ys'.length) :: tl) ++ [(l, listO [.int a u1, .int b u2, .int c u3] nl), (s.heap.objs.size + 1, oc7)]) N10 (fun p hp => by
        simp only [List.cons_append, List.mem_cons, List.mem_append, List.not_mem_nil, or_false] at hp ⊢
        rcases hp with h | h | h | h
        · exact .inl h
        · exact .inr (.inr (.inr (.inr (.inr (.inr (.inr h))))))
        · exact .inr (.inr (.inr (.inr (.inr (.inr (.inl h))))))
        · exact .inr (.inr (.inl h)))
      clear F N
      repeat' ((fail_if_success (with_reducible show WhileStep2 _ _ _ _ _ _ _ _)); walk1)
      exact ⟨_, _, _, _, k, rfl, F10, N10, Nat.lt_succ_self k, es.filter fun e => e != (rk, rx, ry, rz), Dn, ys', _, tl, oc7, some (.ref T'), hpair, hlenF, fun e he => hmill e (.tail _ (List.mem_filter.mp he).1), rfl, hY, hoffC, hoc7, rfl, rfl, rfl⟩
end
end Mine

/-! part H1 -/
namespace Mine
/-- a look at the set of table B.1 -/
def entryOk (e : Int × Value) : Bool := match e.2 with
  | .int i _ => b1List.contains i && e.1 == hashInt i && e.2.scannable
  | _ => false
def setOk (o : Obj) : Bool := (match o.cls with | .type n => n == "set" | _ => false) && o.dict.isNone && o.slots.size == 0 &&
  (match o.data with | .set es _ t => es.toList.all entryOk && (b1List.all fun k => es.toList.any fun e => Value.isInt k e.2) && es.size == 27 && t.fits es.size | _ => false)
def b1Ok (s : Shared) : Bool := match s.heap.nsMap mainGlobals (Str.ofString "b1_set") with
  | some (.ref b) => (match s.heap.get? b with | some o => setOk o | none => false)
  | _ => false
theorem setOk_spec {o : Obj} (h : setOk o = true) : o.IntSetOf (fun k => b1List.contains k) 27 := by
  unfold setOk at h
  simp only [Bool.and_eq_true] at h
  obtain ⟨⟨⟨h1, h2⟩, h3⟩, h4⟩ := h
  intro prog w
  refine ⟨⟨?_, Option.isNone_iff_eq_none.mp h2, Array.eq_empty_of_size_eq_zero (beq_iff_eq.mp h3)⟩, ?_⟩
  · revert h1
    cases o.cls <;> simp
  · cases hd : o.data <;> rw [hd] at h4 <;> simp only [Bool.false_eq_true] at h4
    rename_i es ep t
    simp only [Bool.and_eq_true, List.all_eq_true, beq_iff_eq] at h4
    obtain ⟨⟨⟨e1, e2⟩, e3⟩, e4⟩ := h4
    refine ⟨es, ep, t, rfl, fun e he => ?_, fun k => ⟨fun hk => ?_, ?_⟩, e3, e4⟩
    · have := e1 e he
      unfold entryOk at this
      obtain ⟨hh, v⟩ := e
      cases v <;> simp only [Bool.and_eq_true, beq_iff_eq, Bool.false_eq_true] at this
      rename_i i t
      exact ⟨⟨i, by simp [intKind, Value.isInt], this.1.2⟩, this.2⟩
    · have := e2 k (List.contains_iff_mem.mp hk)
      obtain ⟨e, he, hv⟩ := List.any_eq_true.mp this
      exact ⟨e, he, hv⟩
    · rintro ⟨e, he, hv⟩
      have := e1 e he
      unfold entryOk at this
      obtain ⟨hh, v⟩ := e
      cases v <;> simp only [Bool.and_eq_true, beq_iff_eq, Bool.false_eq_true] at this
      rename_i i t
      have hik : i = k := by simpa [intKind, Value.isInt] using hv
      subst hik
      exact this.1.1
def B1Is (mg : Str → Option Value) (h : Heap) : Prop := ∃ b o, mg (Str.ofString "b1_set") = some (.ref b) ∧ h.get? b = some o ∧ o.IntSetOf (fun k => b1List.contains k) 27
theorem b1Ok_spec (s : Shared) (h : b1Ok s = true) : B1Is (s.heap.nsMap mainGlobals) s.heap := by
  unfold b1Ok at h
  split at h
  · rename_i b hb
    split at h
    · rename_i o ho
      exact ⟨b, o, hb, ho, setOk_spec h⟩
    · cases h
  · cases h
theorem B1Is.keeps (mg : Str → Option Value) (h h' : Heap) (x : B1Is mg h) (k : ∀ b o, h.get? b = some o → h'.get? b = some o) : B1Is mg h' :=
  let ⟨b, o, h1, h2, h3⟩ := x; ⟨b, o, h1, k _ _ h2, h3⟩
theorem loose_same : looseW q loose = loose := by kernel_rfl!
end Mine

/-! part H2 -/
namespace Mine
/-- the top's run behind the opening, by the library's quick twins -/
noncomputable def topO (w : World) (os : OsState) : Option Shared := match (boot_heap w.params).isNs mainGlobals with
  | true => (Fast.tw14082659384304107361 Fast.tw14364793385576792824 pw w (boot_heap w.params).objs.size ((boot_heap w.params).nsMap mainGlobals "__annotations__") 3100 ⟨boot_heap w.params, #[], boot_drawn, boot_toks, os⟩ (topStub pw)).bind fun s₁ => match staticsOk (importedModules pw.main.body) (boot_heap w.params) s₁.heap && namesBound pw s₁.heap && gensDone s₁ && laidKept (boot_heap w.params) s₁.heap with
      | true => some s₁
      | false => none
  | false => none
def TopEnds (w : World) : Prop := ∀ os, (topO w os).map (fun s => (Fast.tw4187177175401517315 q loose (importedModules pw.main.body) b1Ok true s, ())) = some (openGood q loose, ())
theorem ends_ff (w : World) : TopEnds ((w.withFollow "special-get-raises" false).withFollow "set-order" false) := by intro os; kernel_rfl
theorem ends_ft (w : World) : TopEnds ((w.withFollow "special-get-raises" true).withFollow "set-order" false) := by intro os; kernel_rfl
theorem ends_tf (w : World) : TopEnds ((w.withFollow "special-get-raises" false).withFollow "set-order" true) := by intro os; kernel_rfl
theorem ends_tt (w : World) : TopEnds ((w.withFollow "special-get-raises" true).withFollow "set-order" true) := by intro os; kernel_rfl
theorem ends_all (w : World) : TopEnds w :=
  byRow2 "set-order" (P := TopEnds) (byRow2 "special-get-raises" (P := fun w => TopEnds (w.withFollow "set-order" false)) ends_ff ends_ft) (byRow2 "special-get-raises" (P := fun w => TopEnds (w.withFollow "set-order" true)) ends_tf ends_tt) w
theorem opening_plain : opening pw = plainProg pw.main.scope.names := by kernel_rfl
theorem fence_same (s : Shared) : fenceModules? pw s = some s := by kernel_rfl
theorem topFrom_eq (w : World) (os : OsState) : topFrom treeTable pw w 3100 ⟨boot_heap w.params, Array.mk [], boot_drawn, boot_toks, os⟩ = topO w os := by
  unfold topFrom topO
  rw [Fast.te14364793385576792824, Fast.te14082659384304107361]
  dsimp only
  rw [show ((Array.mk [] : Array GenState).size == 0) = true from rfl, Bool.and_true]
  generalize (boot_heap w.params).isNs mainGlobals = b
  cases b <;> rfl
theorem head_all : LeftO pw q loose b1Ok (fun _ => ()) (fun _ => ()) 3100 := by
  intro w
  obtain ⟨⟨h, gs, d, k, os⟩, e, e'⟩ := Option.map_eq_some_iff.mp (boot_open (p := pw) (N := 3100) opening_plain (by decide) fence_same w)
  obtain ⟨rfl, rfl, rfl, rfl⟩ : h = boot_heap w.params ∧ gs = Array.mk [] ∧ d = boot_drawn ∧ k = boot_toks := by simpa using e'
  unfold openEnds
  rw [e, Option.bind_some, topFrom_eq, Fast.te4187177175401517315]
  exact ends_all w os
end Mine

/-! part J1 -/
set_option maxHeartbeats 8000000 in
theorem PySem.Challenge.cw_wf0004_01_holds : PySem.Challenge.rw_wf0004_01.Holds := by
  w_on
  o_law
  refine holds_open (q := Mine.q) (loose := Mine.loose) (Xt := Mine.b1Ok) (XP := Mine.B1Is) (Yf := fun _ => ()) (Ya := fun _ => ()) (YP := fun _ _ => True) (N := 3100) Mine.head_all (fun _ _ _ => trivial) (fun _ _ _ _ _ => trivial) Mine.b1Ok_spec Mine.B1Is.keeps (by rfl) (by rfl) (by rfl) (fun s _ => recFacts_nil rfl) (by rfl) (by assumption) (by decide +kernel) ⟨rfl, rfl, rfl, rfl, rfl, by decide +kernel⟩ ?hw ?hc
  case hw => w_witness2
  intro w s₀ s₁ mg mb G Y fa o pm cd doc dV kV ho hd hcd hD hmg hg args vals as hpre hlay hrd hwl hlo
  have hX := Ground.X G
  have hT := Ground.T G
  rw [Mine.loose_same] at hT
  wrow_args hpre hlay hrd hwl hlo
  rename Heap.IsList _ _ _ => hl
  rename IntsAre _ _ => hi
  rename ¬ ((63 : Nat) : Int) < _ => h63
  have hlen := hi.length
  refine Mine.law_spec (d := 6) (u := 80) ⟨rfl, by decide, by decide, ⟨_, rfl⟩⟩ ⟨hT, hX⟩ hmg hl hi (by omega) (fun h' tk' st => GoodW.toG ⟨.inl ⟨.bool true, .bool true, [], rfl, fun cls => rfl, .bool true, ?_, unshared_nil⟩, st, rfl, hg⟩) (by decide) (by decide)
  wrow_post

