import PyProof.Rows.All
import Wide.All
import OpenK.AllK
import Wide.FinOn
import Lean
import PySem.Challenge.RW_wn0027_01
set_option Elab.async false
set_option linter.all false
set_option maxRecDepth 100000
set_option maxHeartbeats 8000000
section
open PySem PySem.W PyProof.Rows
set_option maxRecDepth 100000
set_option maxHeartbeats 8000000
namespace Mine
open_top hd for PySem.Challenge.rw_wn0027_01
end Mine
end

section
open PySem
set_option maxRecDepth 100000
namespace Mine
/-- a text by its signs' numbers -/
def tx (l : List Nat) : Str := ⟨l.toArray⟩
theorem tx_len (l : List Nat) : (tx l).length = l.length := by simp [tx, Str.length]
theorem tx_inj {a b : List Nat} : tx a = tx b ↔ a = b := by
  constructor
  · intro h; have := congrArg (fun s : Str => s.cps.toList) h; simpa [tx] using this
  · intro h; rw [h]
theorem tx_append (a b : List Nat) : tx a ++ tx b = tx (a ++ b) := by
  show (⟨_⟩ : Str) = _
  simp [tx]

/-- each sign c written as z -/
def sub1 (c : Nat) (z l : List Nat) : List Nat := l.flatMap fun a => if a = c then z else [a]
theorem sub1_append (c : Nat) (z a b : List Nat) : sub1 c z (a ++ b) = sub1 c z a ++ sub1 c z b := by simp [sub1]
theorem sub1_cons (c : Nat) (z : List Nat) (a : Nat) (b : List Nat) : sub1 c z (a :: b) = (if a = c then z else [a]) ++ sub1 c z b := by simp [sub1]
theorem sub1_nil (c : Nat) (z : List Nat) : sub1 c z [] = [] := rfl
theorem sub1_free {c : Nat} {z : List Nat} : ∀ {l : List Nat}, c ∉ l → sub1 c z l = l
  | [], _ => rfl
  | a :: r, h => by
    have ha : ¬ a = c := fun e => h (by rw [e]; exact .head _)
    rw [sub1_cons, sub1_free (fun q => h (.tail _ q)), if_neg ha]; rfl
theorem sub1_len (c : Nat) (z : List Nat) : ∀ l : List Nat, (sub1 c z l).length ≤ (z.length + 1) * l.length
  | [] => by simp [sub1]
  | a :: r => by
    have ih := sub1_len c z r
    rw [sub1_cons, List.length_append, List.length_cons, Nat.mul_succ]
    have : (if a = c then z else [a]).length ≤ z.length + 1 := by split <;> simp
    omega

theorem join_list (z : Str) : ∀ (p : Str) (ps : List Str), (Str.join z (p :: ps)).cps.toList = p.cps.toList ++ ps.flatMap fun q => z.cps.toList ++ q.cps.toList
  | p, [] => by simp [Str.join]
  | p, q :: r => by
    have ih := join_list z q r
    show (p ++ z ++ Str.join z (q :: r)).cps.toList = _
    rw [Str.cps_append, Str.cps_append, Array.toList_append, Array.toList_append, ih]
    simp
theorem sub1_flat (c : Nat) (z : List Nat) : ∀ ps : List Str, (∀ p ∈ ps, c ∉ p.cps.toList) →
    sub1 c z (ps.flatMap fun q => [c] ++ q.cps.toList) = ps.flatMap fun q => z ++ q.cps.toList
  | [], _ => rfl
  | p :: r, h => by
    rw [List.flatMap_cons, List.flatMap_cons, sub1_append, sub1_append, sub1_free (h p (.head _)), sub1_flat c z r fun q hq => h q (.tail _ hq)]
    simp [sub1]
theorem replace_sub1 (l z : List Nat) (c : Nat) : Txt.replace (tx l) ⟨#[c]⟩ (tx z) = tx (sub1 c z l) := by
  rw [StrLaws.replace_one]
  have hf := StrLaws.split_free (tx l) c
  have hj := StrLaws.join_split (tx l) ⟨#[c]⟩
  generalize Txt.split (tx l) ⟨#[c]⟩ = ps at hf hj
  cases ps with
  | nil =>
    have e : l = [] := by
      have := congrArg (fun s : Str => s.cps.toList) hj
      simpa [tx, Str.join, Str.empty] using this.symm
    subst e
    rfl
  | cons p r =>
    have e : l = p.cps.toList ++ r.flatMap fun q => [c] ++ q.cps.toList := by
      have := congrArg (fun s : Str => s.cps.toList) hj
      simp only [join_list] at this
      simpa [tx] using this.symm
    apply Str.ext'
    apply Array.toList_inj.mp
    rw [join_list]
    show _ = (sub1 c z l).toArray.toList
    rw [e, sub1_append, sub1_free (hf p (.head _)), sub1_flat c z r fun q hq => hf q (.tail _ hq)]
    simp [tx]
theorem found_tx (l : List Nat) (c : Nat) : (Builtin.Str.occurrences (tx l) ⟨#[c]⟩ 0 (tx l).length 1).isEmpty = !decide (c ∈ l) := by
  have h := StrLaws.found_one (tx l) c
  have e : (tx l).cps.toList = l := by simp [tx]
  rw [e] at h
  rw [← h, Bool.not_not]

/-- & < > and their references -/
def escL (l : List Nat) : List Nat := sub1 62 [38, 103, 116, 59] (sub1 60 [38, 108, 116, 59] (sub1 38 [38, 97, 109, 112, 59] l))
/-- a quoted text's tokens: a plain sign, or = and two figures -/
inductive Tk where
  | ch (c : Nat)
  | es (a b v : Nat)
def codes : List (Nat × Nat × Nat) := [(50, 54, 38), (51, 67, 60), (51, 68, 61), (51, 69, 62)]
def Tk.enc : Tk → List Nat
  | .ch c => [c]
  | .es a b _ => [61, a, b]
def Tk.dec : Tk → Nat
  | .ch c => c
  | .es _ _ v => v
def Tk.ok : Tk → Prop
  | .ch c => c ≠ 61 ∧ 33 ≤ c ∧ c < 127
  | .es a b v => (a, b, v) ∈ codes
def encs (l : List Tk) : List Nat := l.flatMap Tk.enc
def decs (l : List Tk) : List Nat := l.map Tk.dec
theorem encs_append (a b : List Tk) : encs (a ++ b) = encs a ++ encs b := by simp [encs]
theorem decs_append (a b : List Tk) : decs (a ++ b) = decs a ++ decs b := by simp [decs]
end Mine
end

section
open PySem PyProof.Rows
set_option maxRecDepth 100000
namespace Mine
theorem plain_nobreak : ∀ c, c < 127 → 33 ≤ c → Unicode.isLineBreak c = false := by decide +kernel
theorem plain_nospace : Unicode.isSpace 46 = false := by decide +kernel
open Builtin Builtin.Str StrLaws in
theorem ls_none (s : Str) (hs : ∀ i, i < s.length → Unicode.isLineBreak (s.cps.getD i 0) = false) : ∀ (m cur : Nat) (st : LsSt), cur + m ≤ s.length → Id.run (forIn (m := Id) (List.range' cur m) st (lsBody s)) = st
  | 0, _, _, _ => rfl
  | m + 1, cur, st, h => by
    rw [List.range'_succ, List.forIn_cons]
    have hb : lsBody s cur st = pure (ForInStep.yield st) := by
      unfold lsBody
      rw [hs cur (by omega)]
      simp
    rw [hb]
    exact ls_none s hs m (cur + 1) st (by omega)
open Builtin Builtin.Str StrLaws in
theorem lines_one {l : List Nat} (h : ∀ c ∈ l, 33 ≤ c ∧ c < 127) (hne : 1 ≤ l.length) : Txt.lines (tx l) = [tx l] := by
  have hs : ∀ i, i < (tx l).length → Unicode.isLineBreak ((tx l).cps.getD i 0) = false := by
    intro i hi
    rw [tx_len] at hi
    have e : (tx l).cps.getD i 0 = l[i] := by simp [tx, Array.getD, hi]
    have hm := h _ (List.getElem_mem hi)
    rw [e]; exact plain_nobreak _ hm.2 hm.1
  have e : lineSpans (tx l) = [(0, (tx l).length, (tx l).length)] := by
    rw [ls_eq, ls_none _ hs _ _ _ (by omega)]
    have : 0 < (tx l).length := by rw [tx_len]; omega
    simp [lsEnd, this]
  unfold Txt.lines lineCuts
  rw [e]
  simp
theorem rstrip_dot (l : List Nat) : Txt.rstrip (tx (l ++ [46])) = tx (l ++ [46]) := by
  have h : stripSame Unicode.isSpace false true (tx (l ++ [46])) = true := by
    have e : (tx (l ++ [46])).cps.toList = l ++ [46] := by simp [tx]
    simp only [stripSame, stripLo, stripHi, e]
    simp [plain_nospace]
  unfold Txt.rstrip Txt.stripBy
  rw [h]; rfl
end Mine
end

section
open PySem PySem.W PySem.Spec PySem.Calls PySem.NumText PyProof.Rows
set_option maxRecDepth 100000
set_option maxHeartbeats 8000000
namespace Mine
theorem gives_text2 {x : PySem.Str} {u k : Tok} {n : Int} (hx : (x.cps.all (· < 128)) = true) (hs : (x.cps.toList.takeWhile (· != 0)).length ≤ 640)
    (hr : (int_private% "readNumeral") 0 16 (x.cps.toList.takeWhile (· != 0)) = (int_private% "Numeral.value") n)
    (ha : ((x.cps.toList.takeWhile (· != 0)).length == x.cps.toList.length) = true) : Gives (Builtin.«int.__new__» ⟨[.type "int", .str x u, .int 16 k], []⟩) (.int n) :=
  .of_wp fun M A E s Q h => by
    obtain ⟨hp, g, d, tk, os⟩ := s
    have f1 := F.conv_sub_int
    have f2 := F.madeHere_int
    repeat (any_goals (first
      | assumption
      | wp_step))
    all_goals (try rw [if_pos hx])
    all_goals (have e16 : Int.toNat 16 = 16 := rfl)
    all_goals (try rw [e16, hr])
    all_goals (try dsimp only)
    repeat (any_goals (first
      | assumption
      | (with_reducible refine wpAny_ite_true (decide_eq_true ha) ?_)
      | (with_reducible refine wpAny_ite_true ha ?_)
      | wp_step))
    all_goals first | exact ⟨_, rfl, h⟩ | (rw [if_pos hx]; rw [if_pos ha]; trace_state)
theorem typeCall_int_2 (a b : Value) : checkTypeCall "int" ⟨[a, b], []⟩ = pure () := by kernel_rfl
theorem newCall_int_2 (a b : Value) : checkBuiltinCall "int.__new__" ⟨[.type "int", a, b], []⟩ = pure () := by kernel_rfl
theorem call_int16 {prog : Program} {w : World} {A : Around} {E : Value → Shared → Prop} {s : Shared} {Q : Value → Shared → Prop} {x : PySem.Str} {t k : Tok} {n : Int}
    (hx : (x.cps.all (· < 128)) = true) (hs : (x.cps.toList.takeWhile (· != 0)).length ≤ 640)
    (hr : (int_private% "readNumeral") 0 16 (x.cps.toList.takeWhile (· != 0)) = (int_private% "Numeral.value") n)
    (ha : ((x.cps.toList.takeWhile (· != 0)).length == x.cps.toList.length) = true) (h : Q (.int n s.toks) { s with toks := s.toks + 1 }) :
    wpAny (model prog w) A (call (.type "int") [.str x t, .int 16 k]) Q E s :=
  callType_new F.called_int F.newNe_int (typeCall_int_2 _ _) (newCall_int_2 _ _) (fun obj => by first | exact F.args_object_init_3 obj _ _ | exact args_object_init_3 obj _ _ | exact PyProof.Rows.args_object_init_3 obj _ _) F.entry_int_new (gives_text2 hx hs hr ha).meets
    (show (Made.int n).post _ s from ⟨rfl, h⟩)
theorem int26 {prog : Program} {w : World} {A : Around} {E : Value → Shared → Prop} {s : Shared} {Q : Value → Shared → Prop} {t k : Tok} (h : Q (.int 38 s.toks) { s with toks := s.toks + 1 }) :
    wpAny (model prog w) A (call (.type "int") [.str (Str.ofString "26") t, .int 16 k]) Q E s := call_int16 (by decide +kernel) (by decide +kernel) (by rfl) (by decide +kernel) h
theorem int3C {prog : Program} {w : World} {A : Around} {E : Value → Shared → Prop} {s : Shared} {Q : Value → Shared → Prop} {t k : Tok} (h : Q (.int 60 s.toks) { s with toks := s.toks + 1 }) :
    wpAny (model prog w) A (call (.type "int") [.str (Str.ofString "3C") t, .int 16 k]) Q E s := call_int16 (by decide +kernel) (by decide +kernel) (by rfl) (by decide +kernel) h
theorem int3D {prog : Program} {w : World} {A : Around} {E : Value → Shared → Prop} {s : Shared} {Q : Value → Shared → Prop} {t k : Tok} (h : Q (.int 61 s.toks) { s with toks := s.toks + 1 }) :
    wpAny (model prog w) A (call (.type "int") [.str (Str.ofString "3D") t, .int 16 k]) Q E s := call_int16 (by decide +kernel) (by decide +kernel) (by rfl) (by decide +kernel) h
theorem int3E {prog : Program} {w : World} {A : Around} {E : Value → Shared → Prop} {s : Shared} {Q : Value → Shared → Prop} {t k : Tok} (h : Q (.int 62 s.toks) { s with toks := s.toks + 1 }) :
    wpAny (model prog w) A (call (.type "int") [.str (Str.ofString "3E") t, .int 16 k]) Q E s := call_int16 (by decide +kernel) (by decide +kernel) (by rfl) (by decide +kernel) h
end Mine
end

section
open PySem PySem.W PySem.Spec PySem.Calls PyProof.Rows
set_option maxRecDepth 100000
set_option maxHeartbeats 8000000
namespace Mine
section
variable {prog : Program} {w : World} {A : Around} {E : Value → Shared → Prop} {s : Shared} {env : Env} {h₀ : Heap} {x : Str} {body : List Stmt} {Q : Flow → Shared → Prop}

/-- what a turn must leave -/
def EndL {σ : Type} (h₀ : Heap) (L I : Addr) (s : Shared) (x : Str) (own : List (Addr × Obj)) (Led : σ → List (Addr × Obj)) (ps : σ → List (Str × Value)) (stored : List Str) (m₀ : Str → Option Value) (Inv : σ → Prop) (s₂ : Shared) : Prop :=
  ∃ (c : σ) (h' : Heap) (tk : Nat) (m' : Str → Option Value) (news' : List (Addr × Obj)), s₂ = { s with heap := h', toks := tk } ∧ Fr h₀ L h' m' ∧ News h₀ L h' news' ∧ (∀ p ∈ Led c, p ∈ news') ∧ (∀ p ∈ own, p ∈ news') ∧ (∀ p ∈ Led c, p.1 ≠ I) ∧
    (∀ p ∈ ps c, m' p.1 = some p.2) ∧ (∀ z, z ≠ x → (∀ p ∈ ps c, z ≠ p.1) → stored.contains z = false → m' z = m₀ z) ∧ Inv c
def PostL {σ : Type} (h₀ : Heap) (L I : Addr) (s : Shared) (x : Str) (own : List (Addr × Obj)) (Led : σ → List (Addr × Obj)) (ps : σ → List (Str × Value)) (stored : List Str) (m₀ : Str → Option Value) (Inv : σ → Prop) (Q : Flow → Shared → Prop) (f : Flow) (s₂ : Shared) : Prop :=
  match f with
  | .ret v => Q (.ret v) s₂
  | .brk => Q .next s₂
  | _ => EndL h₀ L I s x own Led ps stored m₀ Inv s₂

theorem loopG {σ : Type} {I : Addr} {fp : List Addr} {n : Nat} {P : Nat → Value → Prop} {St : Nat → Heap → Prop} {m₀ : Str → Option Value} (Led : σ → List (Addr × Obj)) (ps : σ → List (Str × Value)) (stored : List Str) (Inv : Nat → σ → Prop) (c₀ : σ)
    (W : Walks prog w A I fp [I] n P St) (hfp : ∀ b ∈ fp, b ≠ I → (∃ o, h₀.get? b = some o) ∨ ∃ o, ∀ c, (b, o) ∈ Led c) (hlive : ∀ i h, St i h → ∃ o, h.get? I = some o) (hLf : env.locals ∉ fp) (hI : h₀.get? I = none)
    (hst : St 0 s.heap) (F : Fr h₀ env.locals s.heap m₀) (N : News h₀ env.locals s.heap (Led c₀)) (hnI : ∀ p ∈ Led c₀, p.1 ≠ I) (hk : ∀ p ∈ ps c₀, m₀ p.1 = some p.2) (h0 : Inv 0 c₀)
    (turn : ∀ (c : σ) i v (u : Str → Option Value) h tk own, i < n → P i v → Inv i c → OwnOff own ((Led c).map (·.1)) → (∃ o, (I, o) ∈ own) →
      Fr h₀ env.locals h (fun y => if y = x then some v else kstB (fun z => if stored.contains z then u z else m₀ z) (ps c) y) → News h₀ env.locals h (Led c ++ own) →
      wpAny (model prog w) A (execs body env) (PostL h₀ env.locals I { s with heap := h, toks := tk } x own Led ps stored m₀ (Inv (i + 1)) Q) E { s with heap := h, toks := tk })
    (done : ∀ (c : σ) (u : Str → Option Value) h tk, Inv n c → Fr h₀ env.locals h (fun y => if y = x then u y else kstB (fun z => if stored.contains z then u z else m₀ z) (ps c) y) → News h₀ env.locals h (Led c) → Q .next { s with heap := h, toks := tk }) :
    LoopAtV prog w A h₀ env x body Q E (.ref I) s := by
  refine ⟨I, fp, [I], n, P, St, m₀, Led c₀, fun i m nx => ∃ c, nx = Led c ∧ (∀ p ∈ ps c, m p.1 = some p.2) ∧ (∀ z, z ≠ x → (∀ p ∈ ps c, z ≠ p.1) → stored.contains z = false → m z = m₀ z) ∧ Inv i c, rfl, W, hLf, ?_, ?_, hst, F, N, ⟨c₀, rfl, hk, fun _ _ _ _ => rfl, h0⟩, ?_, ?_⟩
  · intro b hb
    rw [List.mem_singleton.mp hb]; exact hI
  · intro p hp hb
    exact hnI p hp (List.mem_singleton.mp hb)
  · rintro i v m₁ nx s₁ own ⟨h, tk, rfl⟩ hi hP ⟨c, rfl, h1, h2, hInv⟩ hoff hown hget hall hst₁ F₁ N₁
    obtain ⟨oI, hoI⟩ := hlive _ _ hst₁
    have hIo : (I, oI) ∈ own := hall I (W.sub I (.head _)) hI oI hoI
    have hmem : ∀ p ∈ own.filter fun p => decide (p.1 = I), p.1 = I := fun p hp => by simpa using (List.mem_filter.mp hp).2
    have hsep : OwnOff (own.filter fun p => decide (p.1 = I)) ((Led c).map (·.1)) := by
      intro p hp b hb e
      obtain ⟨q, hq, rfl⟩ := List.mem_map.mp hb
      exact hoff q hq (List.mem_singleton.mpr (e ▸ hmem p hp))
    have hmap : (fun y => if y = x then some v else m₁ y) = fun y => if y = x then some v else kstB (fun z => if stored.contains z then m₁ z else m₀ z) (ps c) y := by
      funext y
      by_cases hy : y = x
      · rw [if_pos hy, if_pos hy]
      · rw [if_neg hy, if_neg hy]; exact (kst_off h1 h2 hy).symm
    rw [hmap] at F₁
    have N₂ : News h₀ env.locals h (Led c ++ own.filter fun p => decide (p.1 = I)) := fun p hp => N₁ p ((List.mem_append.mp hp).elim (fun q => List.mem_append.mpr (.inr q)) fun q => List.mem_append.mpr (.inl (List.mem_filter.mp q).1))
    refine wpAny_mono (turn c i v m₁ h tk _ hi hP hInv hsep ⟨oI, List.mem_filter.mpr ⟨hIo, by simp⟩⟩ F₁ N₂) (fun f s₂ p => ?_) fun _ _ e => e
    have fin : EndL h₀ env.locals I { s with heap := h, toks := tk } x (own.filter fun p => decide (p.1 = I)) Led ps stored m₀ (Inv (i + 1)) s₂ →
        LoopStepU h₀ env.locals [I] own (fun m nx => ∃ c, nx = Led c ∧ (∀ p ∈ ps c, m p.1 = some p.2) ∧ (∀ z, z ≠ x → (∀ p ∈ ps c, z ≠ p.1) → stored.contains z = false → m z = m₀ z) ∧ Inv (i + 1) c) { s with heap := h, toks := tk } .next s₂ := by
      rintro ⟨c', h', tk', m', news', e, F', N', hn, ho, hnI', g1, g2, g3⟩
      refine ⟨rfl, h', tk', m', Led c', e, F', fun p hp => ?_, fun p hp hq => hnI' p hp (List.mem_singleton.mp hq), c', rfl, g1, g2, g3⟩
      rcases List.mem_append.mp hp with q | q
      · by_cases hI' : p.1 = I
        · exact N' p (ho p (List.mem_filter.mpr ⟨q, by simpa using hI'⟩))
        · rcases hfp p.1 (hown p q) hI' with ⟨o, ho'⟩ | ⟨o, hmemo⟩
          · exact absurd (N₁ p (List.mem_append.mpr (.inl q))).2.2 (by rw [ho']; exact nofun)
          · have e1 := (N₁ p (List.mem_append.mpr (.inl q))).1
            have e2 := (N₁ _ (List.mem_append.mpr (.inr (hmemo c)))).1
            have e3 : p.2 = o := by
              have : some p.2 = some o := e1.symm.trans e2
              exact Option.some.inj this
            have e4 : p = (p.1, o) := Prod.ext rfl e3
            rw [e4]
            exact N' _ (hn _ (hmemo c'))
      · exact N' p (hn p q)
    cases f with
    | ret v => exact .ret p
    | brk => exact .brk p
    | next => exact .next (fin p)
    | cont => exact .cont (fin p)
  · rintro h' tk m' nx F' N' hoff ⟨c, rfl, h1, h2, hInv⟩
    refine done c m' h' tk hInv ?_ N'
    have hmap : (fun y => if y = x then m' y else kstB (fun z => if stored.contains z then m' z else m₀ z) (ps c) y) = m' := by
      funext y
      by_cases hy : y = x
      · rw [if_pos hy]
      · rw [if_neg hy]; exact kst_off h1 h2 hy
    rw [hmap]; exact F'

theorem its_range {σ : Type} {r : Addr} {a b : Int} {t₀ u₀ v₀ : Tok} {m₀ : Str → Option Value} (Led : σ → List (Addr × Obj)) (ps : σ → List (Str × Value)) (stored : List Str) (Inv : Nat → σ → Prop) (c₀ : σ) (n : Nat)
    (hh : A.handled = none) (hr : IsRange s.heap r a b 1 t₀ u₀ v₀) (hsmall : Builtin.Range.small a b 1 = true) (hn : Builtin.Range.rangeSize a b 1 = (n : Int))
    (F : Fr h₀ env.locals s.heap m₀) (N : News h₀ env.locals s.heap (Led c₀)) (hk : ∀ p ∈ ps c₀, m₀ p.1 = some p.2) (h0 : Inv 0 c₀)
    (turn : ∀ (c : σ) (i : Nat) (t : Tok) (u : Str → Option Value) h tk own I, i < n → Inv i c → OwnOff own ((Led c).map (·.1)) → (∃ o, (I, o) ∈ own) →
      Fr h₀ env.locals h (fun y => if y = x then some (.int (a + (i : Int)) t) else kstB (fun z => if stored.contains z then u z else m₀ z) (ps c) y) → News h₀ env.locals h (Led c ++ own) →
      wpAny (model prog w) A (execs body env) (PostL h₀ env.locals I { s with heap := h, toks := tk } x own Led ps stored m₀ (Inv (i + 1)) Q) E { s with heap := h, toks := tk })
    (done : ∀ (c : σ) (u : Str → Option Value) h tk, Inv n c → Fr h₀ env.locals h (fun y => if y = x then u y else kstB (fun z => if stored.contains z then u z else m₀ z) (ps c) y) → News h₀ env.locals h (Led c) → Q .next { s with heap := h, toks := tk }) :
    wpAny (model prog w) A (pyIter (.ref r)) (fun it s₂ => LoopAtV prog w A h₀ env x body Q E it s₂) E s := by
  refine wpAny_pyIter_range hr hsmall ?_
  have hne : env.locals ≠ s.heap.objs.size := Nat.ne_of_lt F.ns.lt
  refine loopG Led ps stored Inv c₀ (Walks.range hh s.heap.objs.size a 1 n) (fun b hb hne => absurd (List.mem_singleton.mp hb) hne) (fun i h hs => ⟨_, hs⟩) (fun hm => hne (List.mem_singleton.mp hm)) (next_is_new F)
    (by show IsRangeIter _ _ _ _ _; rw [hn]; simpa using Heap.get?_push_size _ rfl) (F.push _) (fun p hp => ⟨Heap.get?_push_of_some _ (N p hp).1, (N p hp).2⟩) (fun p hp e => ?_) hk h0 ?_ ?_
  · exact absurd (Heap.lt_size (N p hp).1) (e ▸ Nat.lt_irrefl _)
  · rintro c i v u h tk own hi ⟨t, rfl⟩ hInv ho hI F₁ N₁
    rw [Int.mul_one] at F₁
    exact turn c i t u h tk own _ hi hInv ho hI F₁ N₁
  · exact done

theorem its_list {σ : Type} {l : Addr} {vs : List Value} {lo : Obj} {m₀ : Str → Option Value} (Led : σ → List (Addr × Obj)) (ps : σ → List (Str × Value)) (stored : List Str) (Inv : Nat → σ → Prop) (c₀ : σ)
    (hh : A.handled = none) (hc : lo.cls = .type "list") (hd : ∃ e, lo.data = .seq vs.toArray e) (hl : ∀ c, (l, lo) ∈ Led c)
    (F : Fr h₀ env.locals s.heap m₀) (N : News h₀ env.locals s.heap (Led c₀)) (hk : ∀ p ∈ ps c₀, m₀ p.1 = some p.2) (h0 : Inv 0 c₀)
    (turn : ∀ (c : σ) (i : Nat) (v : Value) (u : Str → Option Value) h tk own I, vs[i]? = some v → Inv i c → OwnOff own ((Led c).map (·.1)) → (∃ o, (I, o) ∈ own) →
      Fr h₀ env.locals h (fun y => if y = x then some v else kstB (fun z => if stored.contains z then u z else m₀ z) (ps c) y) → News h₀ env.locals h (Led c ++ own) →
      wpAny (model prog w) A (execs body env) (PostL h₀ env.locals I { s with heap := h, toks := tk } x own Led ps stored m₀ (Inv (i + 1)) Q) E { s with heap := h, toks := tk })
    (done : ∀ (c : σ) (u : Str → Option Value) h tk, Inv vs.length c → Fr h₀ env.locals h (fun y => if y = x then u y else kstB (fun z => if stored.contains z then u z else m₀ z) (ps c) y) → News h₀ env.locals h (Led c) → Q .next { s with heap := h, toks := tk }) :
    wpAny (model prog w) A (pyIter (.ref l)) (fun it s₂ => LoopAtV prog w A h₀ env x body Q E it s₂) E s := by
  have hol := (N _ (hl c₀)).1
  obtain ⟨e, hd⟩ := hd
  have hls : s.heap.IsList l vs.toArray := ⟨_, hol, hc, e, hd⟩
  refine wpAny_pyIter_list hls ?_
  have hne : env.locals ≠ s.heap.objs.size := Nat.ne_of_lt F.ns.lt
  have hlI : l ≠ s.heap.objs.size := Nat.ne_of_lt (Heap.lt_size hol)
  refine loopG Led ps stored Inv c₀ (Walks.list hh s.heap.objs.size l hlI vs.toArray) (fun b hb hne => .inr ⟨lo, fun c => ?_⟩) (fun i h hs => ?_) (fun hm => ?_) (next_is_new F)
    ⟨⟨_, Heap.get?_push_size _ rfl, rfl, rfl⟩, hls.at fun o e => Heap.get?_push_of_some _ e⟩ (F.push _) (fun p hp => ⟨Heap.get?_push_of_some _ (N p hp).1, (N p hp).2⟩) (fun p hp e => ?_) hk h0 ?_ ?_
  · rcases List.mem_cons.mp hb with q | q
    · exact absurd q hne
    · rw [List.mem_singleton.mp q]; exact hl c
  · obtain ⟨o, ho, _⟩ := hs.1; exact ⟨o, ho⟩
  · rcases List.mem_cons.mp hm with q | q
    · exact hne q
    · exact (N _ (hl c₀)).2.1 (List.mem_singleton.mp q).symm
  · exact absurd (Heap.lt_size (N p hp).1) (e ▸ Nat.lt_irrefl _)
  · rintro c i v u h tk own hi hP hInv ho hI F₁ N₁
    exact turn c i v u h tk own _ (by simpa using hP) hInv ho hI F₁ N₁
  · intro c u h tk hInv F' N'
    exact done c u h tk (by simpa using hInv) F' N'
end

section
variable {prog : Program} {w : World} {A : Around} {E : Value → Shared → Prop} {s : Shared} {env : Env} {h₀ : Heap} {x : Str} {body : List Stmt} {Q : Flow → Shared → Prop}
theorem endL {σ : Type} {L I : Addr} {own news' : List (Addr × Obj)} {Led : σ → List (Addr × Obj)} {ps : σ → List (Str × Value)} {stored : List Str} {m₀ m' : Str → Option Value} {Inv : σ → Prop} {h' : Heap} {tk : Nat} (c : σ)
    (F : Fr h₀ L h' m') (N : News h₀ L h' news') (hn : ∀ p ∈ Led c, p ∈ news') (ho : ∀ p ∈ own, p ∈ news') (hI : ∀ p ∈ Led c, p.1 ≠ I) (hk : ∀ p ∈ ps c, m' p.1 = some p.2) (hr : ∀ z, z ≠ x → (∀ p ∈ ps c, z ≠ p.1) → stored.contains z = false → m' z = m₀ z) (hInv : Inv c) :
    EndL h₀ L I s x own Led ps stored m₀ Inv { s with heap := h', toks := tk } := ⟨c, h', tk, m', news', rfl, F, N, hn, ho, hI, hk, hr, hInv⟩
theorem offI {own l : List (Addr × Obj)} {I : Addr} (ho : OwnOff own (l.map (·.1))) (hI : ∃ o, (I, o) ∈ own) : ∀ p ∈ l, p.1 ≠ I := fun p hp e => by
  obtain ⟨o, h⟩ := hI
  exact ho _ h p.1 (List.mem_map_of_mem hp) e.symm
end
section
variable {prog : Program} {w : World} {A : Around} {E : Value → Shared → Prop} {s : Shared} {value slice : PySem.Expr} {u : Tok} {Q : Value → Shared → Prop} {h₀ : Heap} {L : Addr} {m : Str → Option Value} {news : List (Addr × Obj)}
theorem my_litem {l : Addr} {lo : Obj} {vs : List Value} {k : Int} {v : Value} (N : News h₀ L s.heap news) (hm : (l, lo) ∈ news) (hc : lo.cls = .type "list") (hd : ∃ e, lo.data = .seq vs.toArray e) (h0 : 0 ≤ k) (hk : k < 1000000) (hx : vs[k.toNat]? = some v) (h : Q v s)
    (hs : subscripted slice false (.ref l) (.int k u) = operate [.ref l, .int k u] (getItem (.ref l) (.int k u)) := by with_unfolding_all rfl) :
    wpAny (model prog w) A (subscriptTail value slice (.ref l) (.int k u)) Q E s := by
  obtain ⟨e, hd⟩ := hd
  have hl : s.heap.IsList l vs.toArray := ⟨_, (N _ hm).1, hc, e, hd⟩
  exact tail_any hl.typeIs slot_list_getitem.lookup (wpAny_getItem_list hl h0 (by omega) (by simpa using hx) h) hs
theorem my_llen {l : Addr} {lo : Obj} {vs : List Value} (N : News h₀ L s.heap news) (hm : (l, lo) ∈ news) (hc : lo.cls = .type "list") (hd : ∃ e, lo.data = .seq vs.toArray e) (hk : vs.length < 1000000) (h : Q (.int vs.length (s.toks + 1)) { s with toks := s.toks + 1 + 1 }) :
    wpAny (model prog w) A (call (.builtin "len") [.ref l]) Q E s := by
  obtain ⟨e, hd⟩ := hd
  have hl : s.heap.IsList l vs.toArray := ⟨_, (N _ hm).1, hc, e, hd⟩
  exact call_len_list hl (by rw [List.size_toArray]; omega) (by rw [List.size_toArray]; exact h)
end
section
variable {prog : Program} {w : World} {A : Around} {E : Value → Shared → Prop} {s : Shared} {h₀ : Heap} {L D : Addr} {m : Str → Option Value} {news : List (Addr × Obj)} {g : Obj → List (Addr × Obj)}
theorem my_append {vs : List Value} {n : Nat} {x : Value} {Q : Value → Shared → Prop} (F : Fr h₀ L s.heap m) (N : News h₀ L s.heap news) (U : UpdF D (listOf vs.toArray n) news g) (hz : vs.length ≤ 1000000)
    (h : ∀ h', Fr h₀ L h' m → News h₀ L h' (g (listOf (vs ++ [x]).toArray (n + 1))) → Q .none { s with heap := h' }) : wpAny (model prog w) A (call (.builtin "list.append") [.ref D, x]) Q E s := by
  obtain ⟨pre, post, rfl, hg, a, b⟩ := U.split
  have z := N (D, listOf vs.toArray n) (List.mem_append.mpr (.inr (.head _)))
  refine append_at (hsz := by rw [List.size_toArray, sizeLine_eq]; omega) z.1 fun h' hs ho' => h h' (F.change hs z.2.1 z.2.2) ?_
  rw [hg]
  have e : (vs ++ [x]).toArray = vs.toArray.push x := by simp
  rw [e]
  exact N.setIn a b hs ho'
end
theorem size_of {a b : Int} {n : Nat} (h : b = a + n) : Builtin.Range.rangeSize a b 1 = (n : Int) := by
  unfold Builtin.Range.rangeSize
  rw [if_pos (by decide)]
  by_cases hab : a < b
  · rw [if_pos hab, Int.ediv_one]; omega
  · rw [if_neg hab]; omega
theorem small_of {a b : Int} {n : Nat} (h : b = a + n) (h0 : -1000000 ≤ a) (h1 : a ≤ 1000000) (h2 : n ≤ 1000000) : Builtin.Range.small a b 1 = true := by
  have f : ∀ i : Int, -3000000 ≤ i → i ≤ 3000000 → Builtin.Range.rangeFitsLong i = true := by
    intro i h1 h2
    unfold Builtin.Range.rangeFitsLong
    simp only [Bool.and_eq_true, decide_eq_true_eq]
    omega
  unfold Builtin.Range.small
  rw [size_of h, f a (by omega) (by omega), f b (by omega) (by omega), f 1 (by decide) (by decide), f n (by omega) (by omega), if_pos (by decide), f (b + (1 - 1)) (by omega) (by omega)]
  simp
structure Hide (p : Prop) : Prop where
  out : p
def Stop (P : Prop) : Prop := P
theorem stop_of {P : Prop} (h : Stop P) : P := h
end Mine
end

section
open PySem PySem.W PySem.Spec PySem.Calls PyProof.Rows PySem.Builtin PySem.Builtin.Str
set_option maxRecDepth 100000
namespace Mine
theorem tx_list (l : List Nat) : (tx l).cps.toList = l := by simp [tx]
theorem item_get {l : List Nat} {i : Int} {c : Nat} (h0 : 0 ≤ i) (h : l[i.toNat]? = some c) : Txt.item (tx l) i = tx [c] := by
  have hlt := (List.getElem?_eq_some_iff.mp h).1
  have e : seqIndex? i (tx l).length = some i.toNat := by
    have hn : ¬ i < 0 := by omega
    simp only [seqIndex?, tx_len, if_neg hn]
    rw [if_pos]
    simp only [Bool.and_eq_true, decide_eq_true_eq]
    omega
  unfold Txt.item Txt.charAt
  rw [e]
  simp [tx, h]
theorem item_last {l : List Nat} {c : Nat} : Txt.item (tx (l ++ [c])) (-1) = tx [c] := by
  have e : seqIndex? (-1) (tx (l ++ [c])).length = some l.length := by
    have hn : (-1 : Int) < 0 := by omega
    simp only [seqIndex?, tx_len, if_pos hn, List.length_append, List.length_singleton]
    rw [if_pos]
    · congr 1
      omega
    · simp only [Bool.and_eq_true, decide_eq_true_eq]
      omega
  unfold Txt.item Txt.charAt
  rw [e]
  simp [tx]
theorem slice_mid {l : List Nat} {i j : Int} (h0 : 0 ≤ i) (h1 : i ≤ j) (h2 : j ≤ l.length) : Txt.slice (tx l) (some i) (some j) = tx ((l.drop i.toNat).take (j - i).toNat) := by
  have := eq_of_beq (slice_closes (x := tx l) (i := i) (j := j) ⟨h0, h1, by rw [tx_list]; exact h2⟩)
  rw [this, tx_list]; rfl
theorem slice_to {l : List Nat} {j : Int} (h1 : 0 ≤ j) (h2 : j ≤ l.length) : Txt.slice (tx l) none (some j) = tx (l.take j.toNat) := by
  have := eq_of_beq (slice_closes_to (x := tx l) (j := j) ⟨h1, by rw [tx_list]; exact h2⟩)
  rw [this, tx_list]; simp [tx]
theorem slice_from {l : List Nat} {i : Int} (h1 : 0 ≤ i) (h2 : i ≤ l.length) : Txt.slice (tx l) (some i) none = tx (l.drop i.toNat) := by
  have := eq_of_beq (slice_closes_from (x := tx l) (i := i) ⟨h1, by rw [tx_list]; exact h2⟩)
  rw [this, tx_list]
  show tx _ = tx _
  congr 1
  rw [List.take_of_length_le]
  rw [List.length_drop]; omega
theorem slice_neg1 {l : List Nat} (h : 1 ≤ l.length) : Txt.slice (tx l) none (some (-1)) = tx (l.take (l.length - 1)) := by
  have e : strSliceIndices none (some (-1)) 1 (tx l).length = strSliceIndices none (some ((l.length : Int) - 1)) 1 (tx l).length := by
    rw [tx_len]
    simp only [strSliceIndices]
    have h1 : ((-1 : Int) < 0) := by decide
    have h2 : ¬ ((l.length : Int) - 1 < 0) := by omega
    rw [if_pos h1, if_neg h2]
    congr 3
  have := slice_to (l := l) (j := (l.length : Int) - 1) (by omega) (by omega)
  unfold Txt.slice at this ⊢
  rw [e, this]
  congr 2
  omega
theorem one_in {l : List Nat} {c : Nat} : (!(occurrences (tx l) (tx [c]) 0 (tx l).length 1).isEmpty) = decide (c ∈ l) := by
  have := StrLaws.found_one (tx l) c
  rw [tx_list] at this
  exact this
theorem ends_one {l : List Nat} {c : Nat} : Txt.endswith (tx (l ++ [c])) (tx [c]) = true := by
  unfold Txt.endswith
  rw [StrLaws.subAt_eq, tx_list, tx_list, tx_len, tx_len]
  simp
section
variable {prog : Program} {w : World} {A : Around} {E : Value → Shared → Prop} {s : Shared} {value slice : PySem.Expr} {t u : Tok} {Q : Value → Shared → Prop} {l : List Nat} {h₀ : Heap} {L : Addr} {m : Str → Option Value} {news : List (Addr × Obj)}
theorem my_item {i : Int} {c : Nat} (h0 : 0 ≤ i) (hx : l[i.toNat]? = some c) (hn : l.length ≤ 16777216) (h : Q (.str (tx [c]) s.toks) { s with toks := s.toks + 1 })
    (hs : subscripted slice false (.str (tx l) t) (.int i u) = operate [.str (tx l) t, .int i u] (getItem (.str (tx l) t) (.int i u)) := by with_unfolding_all rfl)
    (ht : ∀ r, letTemporaryGo value (.str (tx l) t) r = pure () := by intro _; with_unfolding_all rfl) :
    wpAny (model prog w) A (subscriptTail value slice (.str (tx l) t) (.int i u)) Q E s := by
  have hlt := (List.getElem?_eq_some_iff.mp hx).1
  refine item_str (fitsSsize_of (N := 9223372036854775808) (by omega) (by omega) (Int.le_refl _)) (by rw [tx_len]; omega) (by rw [tx_len]; omega) (fun _ => ?_) hs ht
  rw [item_get h0 hx]; exact h
theorem my_ilast {r : List Nat} {c : Nat} (hl : l = r ++ [c]) (hn : l.length ≤ 16777216) (h : Q (.str (tx [c]) s.toks) { s with toks := s.toks + 1 })
    (hs : subscripted slice false (.str (tx l) t) (.int (-1) u) = operate [.str (tx l) t, .int (-1) u] (getItem (.str (tx l) t) (.int (-1) u)) := by with_unfolding_all rfl)
    (ht : ∀ r, letTemporaryGo value (.str (tx l) t) r = pure () := by intro _; with_unfolding_all rfl) :
    wpAny (model prog w) A (subscriptTail value slice (.str (tx l) t) (.int (-1) u)) Q E s := by
  subst hl
  rw [List.length_append, List.length_singleton] at hn
  refine item_str (fitsSsize_of (N := 9223372036854775808) (by omega) (by omega) (Int.le_refl _)) (by rw [tx_len, List.length_append, List.length_singleton]; omega) (by rw [tx_len, List.length_append, List.length_singleton]; omega) (fun _ => ?_) hs ht
  rw [item_last]; exact h
theorem my_iadd {a b : List Nat} {y : Str} (hy : y = tx b) (hz : a.length + b.length ≤ 100000) (h : ∀ t' k, Q (.str (tx (a ++ b)) t') { s with toks := k }) : wpAny (model prog w) A (inplaceOp .Add (.str (tx a) t) (.str y u)) Q E s := by
  subst hy
  refine iadd_str (fun t' tk => ?_) (by rw [tx_len, tx_len, sizeLine_eq]; omega)
  rw [tx_append]; exact h t' tk
theorem my_add {a b : List Nat} {x y : Str} (hx : x = tx a) (hy : y = tx b) (hz : a.length + b.length ≤ 100000) (h : ∀ t' k, Q (.str (tx (a ++ b)) t') { s with toks := k }) : wpAny (model prog w) A (binaryOp .Add (.str x t) (.str y u)) Q E s := by
  subst hx hy
  refine add_str (fun t' tk => ?_) (by rw [tx_len, tx_len, sizeLine_eq]; omega)
  rw [tx_append]; exact h t' tk
theorem my_sneg {j : Int} {uj : Tok} (hj : j = -1) (h1 : 1 ≤ l.length) (h2 : l.length ≤ 100000) (hF : Fr h₀ L s.heap m) (hN : News h₀ L s.heap news)
    (h : ∀ h' t' k, Fr h₀ L h' m → News h₀ L h' news → Q (.str (tx (l.take (l.length - 1))) t') { s with heap := h', toks := k })
    (hs : subscripted slice false (.str (tx l) t) (.ref s.heap.objs.size) = operate [.ref s.heap.objs.size, .str (tx l) t] (getItem (.str (tx l) t) (.ref s.heap.objs.size)) := by with_unfolding_all rfl)
    (ht : ∀ r, letTemporaryGo value (.str (tx l) t) r = pure () := by intro _; with_unfolding_all rfl) :
    wpAny (model prog w) A (subscriptTail value slice (.str (tx l) t) (.ref s.heap.objs.size)) Q E { s with heap := s.heap.push { cls := .type "slice", data := .fields #[.none, .int j uj, .none] } } := by
  subst hj
  refine slice_strN_ns hF hN (fun h' t' k F N => ?_) hs ht (by rw [tx_len, sizeLine_eq]; omega)
  rw [slice_neg1 h1]; exact h h' t' k F N
theorem my_sinit {j : Int} {uj : Tok} {r : List Nat} {c : Nat} (hl : l = r ++ [c]) (hj : j = -1) (h2 : l.length ≤ 100000) (hF : Fr h₀ L s.heap m) (hN : News h₀ L s.heap news)
    (h : ∀ h' t' k, Fr h₀ L h' m → News h₀ L h' news → Q (.str (tx r) t') { s with heap := h', toks := k })
    (hs : subscripted slice false (.str (tx l) t) (.ref s.heap.objs.size) = operate [.ref s.heap.objs.size, .str (tx l) t] (getItem (.str (tx l) t) (.ref s.heap.objs.size)) := by with_unfolding_all rfl)
    (ht : ∀ r, letTemporaryGo value (.str (tx l) t) r = pure () := by intro _; with_unfolding_all rfl) :
    wpAny (model prog w) A (subscriptTail value slice (.str (tx l) t) (.ref s.heap.objs.size)) Q E { s with heap := s.heap.push { cls := .type "slice", data := .fields #[.none, .int j uj, .none] } } := by
  refine my_sneg hj (by rw [hl, List.length_append]; simp) h2 hF hN (fun h' t' k F N => ?_) hs ht
  have e : l.take (l.length - 1) = r := by rw [hl, List.length_append, List.length_singleton, Nat.add_sub_cancel, List.take_left]
  rw [e]; exact h h' t' k F N
theorem my_sfrom {i : Int} {ui : Tok} (h0 : 0 ≤ i) (hi : i ≤ l.length) (h2 : l.length ≤ 100000) (hF : Fr h₀ L s.heap m) (hN : News h₀ L s.heap news)
    (h : ∀ h' t' k, Fr h₀ L h' m → News h₀ L h' news → (tx (l.drop i.toNat)).length ≤ 100000 → Q (.str (tx (l.drop i.toNat)) t') { s with heap := h', toks := k })
    (hs : subscripted slice false (.str (tx l) t) (.ref s.heap.objs.size) = operate [.ref s.heap.objs.size, .str (tx l) t] (getItem (.str (tx l) t) (.ref s.heap.objs.size)) := by with_unfolding_all rfl)
    (ht : ∀ r, letTemporaryGo value (.str (tx l) t) r = pure () := by intro _; with_unfolding_all rfl) :
    wpAny (model prog w) A (subscriptTail value slice (.str (tx l) t) (.ref s.heap.objs.size)) Q E { s with heap := s.heap.push { cls := .type "slice", data := .fields #[.int i ui, .none, .none] } } := by
  refine slice_strN_sn hF hN (fun h' t' k F N => ?_) hs ht (by rw [tx_len, sizeLine_eq]; omega)
  rw [slice_from h0 hi]; exact h h' t' k F N (by rw [tx_len, List.length_drop]; omega)
theorem my_sto {i : Int} {ui : Tok} (h0 : 0 ≤ i) (hi : i ≤ l.length) (h2 : l.length ≤ 100000) (hF : Fr h₀ L s.heap m) (hN : News h₀ L s.heap news)
    (h : ∀ h' t' k, Fr h₀ L h' m → News h₀ L h' news → Q (.str (tx (l.take i.toNat)) t') { s with heap := h', toks := k })
    (hs : subscripted slice false (.str (tx l) t) (.ref s.heap.objs.size) = operate [.ref s.heap.objs.size, .str (tx l) t] (getItem (.str (tx l) t) (.ref s.heap.objs.size)) := by with_unfolding_all rfl)
    (ht : ∀ r, letTemporaryGo value (.str (tx l) t) r = pure () := by intro _; with_unfolding_all rfl) :
    wpAny (model prog w) A (subscriptTail value slice (.str (tx l) t) (.ref s.heap.objs.size)) Q E { s with heap := s.heap.push { cls := .type "slice", data := .fields #[.none, .int i ui, .none] } } := by
  refine slice_strN_ns hF hN (fun h' t' k F N => ?_) hs ht (by rw [tx_len, sizeLine_eq]; omega)
  rw [slice_to h0 hi]; exact h h' t' k F N
theorem my_smid {i j : Int} {ui uj : Tok} (h0 : 0 ≤ i) (hij : i ≤ j) (hj : j ≤ l.length) (h2 : l.length ≤ 100000) (hF : Fr h₀ L s.heap m) (hN : News h₀ L s.heap news)
    (h : ∀ h' t' k, Fr h₀ L h' m → News h₀ L h' news → Q (.str (tx ((l.drop i.toNat).take (j - i).toNat)) t') { s with heap := h', toks := k })
    (hs : subscripted slice false (.str (tx l) t) (.ref s.heap.objs.size) = operate [.ref s.heap.objs.size, .str (tx l) t] (getItem (.str (tx l) t) (.ref s.heap.objs.size)) := by with_unfolding_all rfl)
    (ht : ∀ r, letTemporaryGo value (.str (tx l) t) r = pure () := by intro _; with_unfolding_all rfl) :
    wpAny (model prog w) A (subscriptTail value slice (.str (tx l) t) (.ref s.heap.objs.size)) Q E { s with heap := s.heap.push { cls := .type "slice", data := .fields #[.int i ui, .int j uj, .none] } } := by
  refine slice_strN_ss hF hN (fun h' t' k F N => ?_) hs ht (by rw [tx_len, sizeLine_eq]; omega)
  rw [slice_mid h0 hij hj]; exact h h' t' k F N
theorem my_smidX {i j : Int} {ui uj : Tok} {X : List Nat} (h0 : 0 ≤ i) (hij : i ≤ j) (hj : j ≤ l.length) (h2 : l.length ≤ 100000) (hX : (l.drop i.toNat).take (j - i).toNat = X) (hF : Fr h₀ L s.heap m) (hN : News h₀ L s.heap news)
    (h : ∀ h' t' k, Fr h₀ L h' m → News h₀ L h' news → Q (.str (tx X) t') { s with heap := h', toks := k })
    (hs : subscripted slice false (.str (tx l) t) (.ref s.heap.objs.size) = operate [.ref s.heap.objs.size, .str (tx l) t] (getItem (.str (tx l) t) (.ref s.heap.objs.size)) := by with_unfolding_all rfl)
    (ht : ∀ r, letTemporaryGo value (.str (tx l) t) r = pure () := by intro _; with_unfolding_all rfl) :
    wpAny (model prog w) A (subscriptTail value slice (.str (tx l) t) (.ref s.heap.objs.size)) Q E { s with heap := s.heap.push { cls := .type "slice", data := .fields #[.int i ui, .int j uj, .none] } } := by
  subst hX
  exact my_smid h0 hij hj h2 hF hN h hs ht
theorem any_tx (rs : List (List Nat)) (x : List Nat) : (rs.map tx).any (· == tx x) = decide (x ∈ rs) := by
  induction rs with
  | nil => simp
  | cons a r ih =>
    rw [List.map_cons, List.any_cons, ih]
    by_cases h : a = x
    · subst h; simp
    · have h1 : (tx a == tx x) = false := by rw [beq_eq_false_iff_ne, Ne, tx_inj]; exact h
      have h2 : ¬ x = a := fun e => h e.symm
      rw [h1]; simp [h2]
theorem my_notinl {d : Addr} {lo : Obj} {vs : List Value} {rs : List (List Nat)} (N : News h₀ L s.heap news) (hm : (d, lo) ∈ news) (hc : lo.cls = .type "list") (hd : ∃ e, lo.data = .seq vs.toArray e) (hv : StrsAre vs (rs.map tx)) (h : Q (.bool (!decide (l ∈ rs))) s) :
    wpAny (model prog w) A (compareOp .NotIn (.str (tx l) t) (.ref d)) Q E s := by
  obtain ⟨e, hd⟩ := hd
  refine notin_list_strs ⟨_, (N _ hm).1, hc, e, hd⟩ hv ?_
  rw [any_tx]; exact h
theorem my_inl {d : Addr} {lo : Obj} {vs : List Value} {rs : List (List Nat)} (N : News h₀ L s.heap news) (hm : (d, lo) ∈ news) (hc : lo.cls = .type "list") (hd : ∃ e, lo.data = .seq vs.toArray e) (hv : StrsAre vs (rs.map tx)) (h : Q (.bool (decide (l ∈ rs))) s) :
    wpAny (model prog w) A (compareOp .In (.str (tx l) t) (.ref d)) Q E s := by
  obtain ⟨e, hd⟩ := hd
  refine in_list_strs ⟨_, (N _ hm).1, hc, e, hd⟩ hv ?_
  rw [any_tx]; exact h
theorem StrsAre.at {vs : List Value} : ∀ {ys : List Str}, StrsAre vs ys → ∀ {i : Nat} {y : Str}, ys[i]? = some y → ∃ t, vs[i]? = some (.str y t) := by
  intro ys h
  induction h with
  | nil => intro i y h; simp at h
  | cons y t r ih =>
    intro i z h
    cases i with
    | zero => simp at h; subst h; exact ⟨t, rfl⟩
    | succ i => simpa using ih (by simpa using h)
theorem StrsAre.len {vs : List Value} {ys : List Str} (h : StrsAre vs ys) : vs.length = ys.length := by
  induction h with
  | nil => rfl
  | cons _ _ _ ih => simp [ih]
theorem StrsAre.snoc {vs : List Value} {ys : List Str} (h : StrsAre vs ys) (y : Str) (t : Tok) : StrsAre (vs ++ [.str y t]) (ys ++ [y]) := by
  induction h with
  | nil => exact .cons y t .nil
  | cons y' t' _ ih => exact .cons y' t' ih
theorem my_div3 {a : Int} {j : Nat} (hj : j ≤ 18) (h : Q (.int (a.fdiv (3 ^ j)) s.toks) { s with toks := s.toks + 1 }) : wpAny (model prog w) A (binaryOp .FloorDiv (.int a t) (.int (3 ^ j) u)) Q E s := by
  have h1 : (3 : Nat) ^ j ≤ 3 ^ 18 := Nat.pow_le_pow_right (by decide) hj
  have h2 : ((3 : Int) ^ j) = ((3 ^ j : Nat) : Int) := by rw [Int.natCast_pow]; rfl
  have h3 : 1 ≤ (3 : Nat) ^ j := Nat.pos_of_ne_zero (by simp)
  have h4 : (3 : Nat) ^ 18 = 387420489 := by decide
  refine floordiv_int (by rw [h2]; omega) h (Or.inl (PyProof.noPylong_small ?_))
  rw [h2, Int.natAbs_natCast]; omega
theorem my_mod3 {a : Int} (h : ∀ p : Int, (p = 0 ∨ p = 1 ∨ p = 2) → p = a.fmod 3 → Q (.int p s.toks) { s with toks := s.toks + 1 }) : wpAny (model prog w) A (binaryOp .Mod (.int a t) (.int 3 u)) Q E s := by
  refine mod_int (by decide) (h _ ?_ rfl)
  have h1 := Int.fmod_nonneg_of_pos a (b := 3) (by decide)
  have h2 := Int.fmod_lt_of_pos a (b := 3) (by decide)
  omega
def rep (n : Nat) (l : List Nat) : List Nat := (List.replicate n l).flatten
theorem rep_succ (n : Nat) (l : List Nat) : rep (n + 1) l = l ++ rep n l := by simp [rep, List.replicate_succ]
theorem rep_len (n : Nat) (l : List Nat) : (rep n l).length = n * l.length := by
  induction n with
  | zero => simp [rep]
  | succ n ih => rw [rep_succ, List.length_append, ih, Nat.succ_mul]; omega
theorem foldl_cps (l : List Nat) : ∀ (n : Nat) (acc : Array Nat), ((List.replicate n l.toArray).foldl (· ++ ·) acc).toList = acc.toList ++ rep n l
  | 0, acc => by simp [rep]
  | n + 1, acc => by
    rw [List.replicate_succ, List.foldl_cons, foldl_cps l n, rep_succ]
    simp
theorem mul_tx (l : List Nat) (j : Int) : Txt.mul (tx l) j = tx (rep j.toNat l) := by
  unfold Txt.mul
  by_cases h1 : j < 1
  · rw [if_pos h1]
    have e : j.toNat = 0 := by omega
    rw [e]; rfl
  · rw [if_neg h1]
    by_cases h2 : (j == 1 || (tx l).length == 0) = true
    · rw [if_pos h2]
      rcases Bool.or_eq_true_iff.mp h2 with h | h
      · have e : j = 1 := by simpa using h
        subst e
        simp [rep]
      · have e : l = [] := by rw [tx_len] at h; simpa using h
        subst e
        have : rep j.toNat [] = [] := List.eq_nil_of_length_eq_zero (by rw [rep_len]; rfl)
        rw [this]
    · rw [if_neg h2]
      apply Str.ext'
      apply Array.toList_inj.mp
      show ((List.replicate j.toNat l.toArray).foldl (· ++ ·) #[]).toList = _
      rw [foldl_cps]
      simp [tx]
theorem my_mul {x : Str} {j : Int} (hx : x = tx l) (hl : l.length ≤ 16) (h0 : -1000 ≤ j) (h1 : j ≤ 1000) (h : ∀ t' k, Q (.str (tx (rep j.toNat l)) t') { s with toks := k }) : wpAny (model prog w) A (binaryOp .Mult (.str x t) (.int j u)) Q E s := by
  subst hx
  refine SB.mul (mulOk_of 16 1048576 (by rw [tx_len]; exact hl) (by omega) (by omega) (by decide) (by decide)) fun t' k => ?_
  rw [mul_tx]; exact h t' k
end
end Mine
end

section
open PySem PySem.W PySem.Spec PySem.Calls PyProof.Rows
set_option maxRecDepth 100000
set_option maxHeartbeats 8000000
namespace Mine

abbrev Ctr (w : World) (mean : ExcName → Option Value) (mg mb : Str → Option Value) (LL : List Str) (f : Addr) (dn un9 : Nat) (news : List (Addr × Obj)) (pre : Prop) (vs : List Value) (post : Value → List (Addr × Obj) → Prop) : Prop :=
  ∀ (dp un : Nat) (gd : Option (List Code)) (cn : Str) (cs : Scope) (a : Addr) (ccd : Value) (cl : List (Str × Addr)) (outer : List Env) (A₀ : Around) (base h₀ : Heap) (L : Addr) (m : Str → Option Value) (s : Shared) (Q E : Value → Shared → Prop),
    Below A₀ base outer h₀ → Fr h₀ L s.heap m → (hd.heap_39 w.params).In h₀ → News h₀ L s.heap news → Top hd.view_39 LL mean mg mb h₀ → cs.kind = .function → pre → dp + dn < recursionLimit → un + un9 < cLine →
    (∀ v nx h' tk', Fr h₀ L h' m → News h₀ L h' nx → post v nx → Q v { s with heap := h', toks := tk' }) →
    wpAny (model Challenge.rw_wn0027_01.row.prog w) (ktrTop dp un gd cn cs L a ccd cl outer) (call (.ref f) vs) Q E s

theorem ite_by {c : Bool} {P Q : Prop} (h1 : c = true → P) (h2 : c = false → Q) : if c = true then P else Q := by
  cases c
  · exact h2 rfl
  · exact h1 rfl

theorem s38 : Str.ofString "&" = ⟨#[38]⟩ := by decide +kernel
theorem s60 : Str.ofString "<" = ⟨#[60]⟩ := by decide +kernel
theorem s62 : Str.ofString ">" = ⟨#[62]⟩ := by decide +kernel
theorem samp : Str.ofString "&amp;" = tx [38, 97, 109, 112, 59] := by decide +kernel
theorem slt : Str.ofString "&lt;" = tx [38, 108, 116, 59] := by decide +kernel
theorem sgt : Str.ofString "&gt;" = tx [38, 103, 116, 59] := by decide +kernel


theorem sub1_lenB {c a : Nat} {z l : List Nat} (h : l.length ≤ a) : (sub1 c z l).length ≤ (z.length + 1) * a := Nat.le_trans (sub1_len c z l) (Nat.mul_le_mul_left _ h)

theorem my_replace {prog : Program} {w : World} {A : Around} {E : Value → Shared → Prop} {s : Shared} {l z : List Nat} {c : Nat} {y zS : Str} {t u v : Nat} {Q : Value → Shared → Prop}
    (hy : y = ⟨#[c]⟩) (hz : zS = tx z) (hu : 1 ≤ u) (hv : 1 ≤ v) (huv : u ≠ v) (hne : (y == zS) = false) (hx : l.length ≤ 1048576) (hzl : z.length ≤ 14) (hs : 1 ≤ s.toks)
    (hq : ∀ t' k, 1 ≤ k → Q (.str (tx (sub1 c z l)) t') { s with toks := k }) : wpAny (model prog w) A (call (.builtin "str.replace") [.str (tx l) t, .str y u, .str zS v]) Q E s := by
  refine wpAny_with_toks hs ?_
  refine SC.replaceW (Nat.ne_of_gt hu) (Nat.ne_of_gt hv) huv hne (by rw [tx_len]; exact hx) (by rw [hz, tx_len]; exact hzl) ?_
  intro t' k hk
  subst hy hz
  rw [replace_sub1]
  exact hq t' k hk

theorem nosub38 {l z : List Nat} (h : (!(Builtin.Str.occurrences (tx l) (Str.ofString "&") 0 (tx l).length 1).isEmpty) = false) : sub1 38 z l = l := by
  rw [s38, found_tx, Bool.not_not, decide_eq_false_iff_not] at h; exact sub1_free h
theorem nosub60 {l z : List Nat} (h : (!(Builtin.Str.occurrences (tx l) (Str.ofString "<") 0 (tx l).length 1).isEmpty) = false) : sub1 60 z l = l := by
  rw [s60, found_tx, Bool.not_not, decide_eq_false_iff_not] at h; exact sub1_free h
theorem nosub62 {l z : List Nat} (h : (!(Builtin.Str.occurrences (tx l) (Str.ofString ">") 0 (tx l).length 1).isEmpty) = false) : sub1 62 z l = l := by
  rw [s62, found_tx, Bool.not_not, decide_eq_false_iff_not] at h; exact sub1_free h

section
local macro_rules | `(tactic| walk_at "ite") => `(tactic| (refine ite_by ?_ ?_ <;> intro hcc))
local macro_rules | `(tactic| walk_at "execs cons") => `(tactic| ((with_reducible refine wpAny_execs_cons ?_); try dsimp only))
local macro_rules | `(tactic| walk_at "execs nil") => `(tactic| ((with_reducible refine wpAny_execs_nil ?_); try dsimp only))
local macro_rules | `(tactic| walk_at "call builtin:str.replace") => `(tactic| (refine' my_replace ?hy ?hz ?hu ?hv ?huv ?hne ?hx ?hzl ?hs ?_;(case hy => first | exact s38 | exact s60 | exact s62);(case hz => first | exact samp | exact slt | exact sgt);(case hu => first | assumption | omega); (case hv => first | assumption | omega); (case huv => omega);(case hne => decide +kernel);(case hx => first | omega | exact Nat.le_trans (sub1_lenB (a := 1000) (by omega)) (by decide) | exact Nat.le_trans (sub1_lenB (a := 6000) (Nat.le_trans (sub1_lenB (a := 1000) (by omega)) (by decide))) (by decide));(case hzl => decide);(case hs => (try dsimp only); omega);intro t9 k9 hk9))
theorem esc_spec (w : World) (mean : ExcName → Option Value) (mg mb : Str → Option Value) (LL : List Str) (news : List (Addr × Obj)) (l : List Nat) (t : Tok) :
    Ctr w mean mg mb LL 28 1 8 news (l.length ≤ 1000) [.str (tx l) t] (fun v nx => (∃ t', v = .str (tx (escL l)) t') ∧ nx = news) := by
  unfold Ctr
  k_fill
  intros
  rename_i hret
  refine wpAny_call ?_
  k_dflt cell_enter
  k_steps
  all_goals (
    refine hret _ _ _ _ (by assumption) (by assumption) ⟨⟨_, congrArg (fun a => Value.str (tx a) _) ?_⟩, rfl⟩
    unfold escL
    (try rw [nosub38 (by assumption)])
    (try rw [nosub60 (by assumption)])
    (try rw [nosub62 (by assumption)])
    (try rfl))
end
end Mine
end

section
open PySem PySem.W PySem.Spec PySem.Calls PyProof.Rows
set_option maxRecDepth 100000
set_option maxHeartbeats 8000000
namespace Mine

section
local macro_rules | `(tactic| walk_at "call type:int") => `(tactic| first | refine int26 ?_ | refine int3C ?_ | refine int3D ?_ | refine int3E ?_)
theorem unq_spec (w : World) (mean : ExcName → Option Value) (mg mb : Str → Option Value) (LL : List Str) (news : List (Addr × Obj)) (a b c : Nat) (t : Tok) :
    Ctr w mean mg mb LL 35 1 8 news ((a, b, c) ∈ [(50, 54, 38), (51, 67, 60), (51, 68, 61), (51, 69, 62)]) [.str (tx [61, a, b]) t] (fun v nx => (∃ t', v = .str (tx [c]) t') ∧ nx = news) := by
  unfold Ctr
  k_fill
  intro dp un gd cn cs a ccd cl outer A₀ base h₀ L m s Q E hB hF hK hN hT hk hpre hdp hu hret
  have e26 : tx [61, 50, 54] = Str.ofString "=26" := by decide +kernel
  have e3C : tx [61, 51, 67] = Str.ofString "=3C" := by decide +kernel
  have e3D : tx [61, 51, 68] = Str.ofString "=3D" := by decide +kernel
  have e3E : tx [61, 51, 69] = Str.ofString "=3E" := by decide +kernel
  simp only [List.mem_cons, Prod.mk.injEq, List.not_mem_nil, or_false] at hpre
  rcases hpre with ⟨rfl, rfl, rfl⟩ | ⟨rfl, rfl, rfl⟩ | ⟨rfl, rfl, rfl⟩ | ⟨rfl, rfl, rfl⟩
  all_goals (first | rw [e26] | rw [e3C] | rw [e3D] | rw [e3E])
  all_goals clear e26 e3C e3D e3E
  all_goals (refine wpAny_call ?_; k_dflt cell_enter; k_steps)
  all_goals exact hret _ _ _ _ (by assumption) (by assumption) ⟨⟨_, rfl⟩, rfl⟩
end
end Mine
end

section
open PySem PySem.W PySem.Spec PySem.Calls PyProof.Rows
set_option maxRecDepth 100000
set_option maxHeartbeats 8000000
namespace Mine



theorem my_lines {prog : Program} {w : World} {A : Around} {E : Value → Shared → Prop} {s : Shared} {Q : Value → Shared → Prop} {h₀ : Heap} {L : Addr} {m : Str → Option Value} {news : List (Addr × Obj)} {l : List Nat} {t : Tok}
    (hF : Fr h₀ L s.heap m) (hN : News h₀ L s.heap news) (hl : ∀ c ∈ l, 33 ≤ c ∧ c < 127) (h1 : 1 ≤ l.length) (h2 : l.length ≤ 1000)
    (h : ∀ t' h' k, Fr h₀ L h' m → News h₀ L h' ((s.heap.objs.size, listOf [Value.str (tx l) t'].toArray 0) :: news) → (∀ p ∈ news, p.1 < s.heap.objs.size) → Q (.ref s.heap.objs.size) { s with heap := h', toks := k }) :
    wpAny (model prog w) A (call (.builtin "str.splitlines") [.str (tx l) t]) Q E s := by
  refine splitlinesNA hF hN (fun ls h' k e _ _ _ F N => ?_) (by rw [tx_len, sizeLine_eq]; omega)
  rw [lines_one hl h1] at e
  cases ls with
  | nil => cases e
  | cons p r =>
    cases r with
    | nil =>
      obtain ⟨x, t'⟩ := p
      have ex : x = tx l := by simpa using e
      subst ex
      exact h t' h' k F N fun p hp => Heap.lt_size (hN p hp).1
    | cons _ _ => simp at e
theorem codes_ok {a b v : Nat} (h : (a, b, v) ∈ codes) : (33 ≤ a ∧ a < 127) ∧ (33 ≤ b ∧ b < 127) := by
  simp only [codes, List.mem_cons, Prod.mk.injEq, List.not_mem_nil, or_false] at h
  rcases h with ⟨rfl, rfl, rfl⟩ | ⟨rfl, rfl, rfl⟩ | ⟨rfl, rfl, rfl⟩ | ⟨rfl, rfl, rfl⟩ <;> decide
theorem encs_ok {ts : List Tk} (h : ∀ k ∈ ts, k.ok) : ∀ c ∈ encs ts, 33 ≤ c ∧ c < 127 := by
  intro c hc
  obtain ⟨k, hk, hc⟩ := List.mem_flatMap.mp hc
  have := h k hk
  cases k with
  | ch d => rw [List.mem_singleton.mp hc]; exact this.2
  | es a b v =>
    have hh := codes_ok this
    rcases List.mem_cons.mp hc with rfl | hc
    · decide
    rcases List.mem_cons.mp hc with rfl | hc
    · exact hh.1
    rw [List.mem_singleton.mp hc]; exact hh.2
theorem my_rstrip {prog : Program} {w : World} {A : Around} {E : Value → Shared → Prop} {s : Shared} {Q : Value → Shared → Prop} {l : List Nat} {t : Tok}
    (hl : ∃ r, l = r ++ [46]) (h2 : l.length ≤ 1000) (h : ∀ t' k, Q (.str (tx l) t') { s with toks := k }) : wpAny (model prog w) A (call (.builtin "str.rstrip") [.str (tx l) t]) Q E s := by
  refine SCL.rstrip (fun t' k => ?_) (by rw [tx_len, sizeLine_eq]; omega)
  obtain ⟨r, rfl⟩ := hl
  rw [rstrip_dot]
  exact fun _ => h t' k
theorem decs_le : ∀ l : List Tk, (decs l).length ≤ (encs l).length
  | [] => Nat.le_refl _
  | k :: r => by
    have := decs_le r
    cases k <;> (simp only [decs, encs, List.map_cons, List.flatMap_cons, List.length_cons, List.length_append, Tk.enc] at *; omega)
theorem encs_zero {r : List Tk} (h : (encs r).length = 0) : r = [] := by
  cases r with
  | nil => rfl
  | cons k r => cases k <;> simp [encs, Tk.enc] at h
theorem encs_pos {k : Tk} {r : List Tk} : 1 ≤ (encs (k :: r)).length := by cases k <;> simp [encs, Tk.enc]
theorem encs_ch (c : Nat) (r : List Tk) : encs (.ch c :: r) = c :: encs r := rfl
theorem encs_es (a b v : Nat) (r : List Tk) : encs (.es a b v :: r) = 61 :: a :: b :: encs r := rfl
theorem ne_eq {c : Nat} (h : c ≠ 61) : (tx [c] != Str.ofString "=") = true := by
  have e : Str.ofString "=" = tx [61] := by decide +kernel
  rw [e, bne_iff_ne, Ne, tx_inj]
  simpa using h
theorem eq_eq : (tx [61] != Str.ofString "=") = false := by decide +kernel
theorem hex_ok {a b v : Nat} (h : (a, b, v) ∈ codes) : (!(Builtin.Str.occurrences (Str.ofString "0123456789abcdefABCDEF") (tx [a]) 0 (Str.ofString "0123456789abcdefABCDEF").length 1).isEmpty) = true ∧ (!(Builtin.Str.occurrences (Str.ofString "0123456789abcdefABCDEF") (tx [b]) 0 (Str.ofString "0123456789abcdefABCDEF").length 1).isEmpty) = true := by
  simp only [codes, List.mem_cons, Prod.mk.injEq, List.not_mem_nil, or_false] at h
  rcases h with ⟨rfl, rfl, rfl⟩ | ⟨rfl, rfl, rfl⟩ | ⟨rfl, rfl, rfl⟩ | ⟨rfl, rfl, rfl⟩ <;> decide +kernel
theorem snl : Str.ofString "\n" = tx [10] := by decide +kernel
theorem ite_yes {c : Bool} {P Q : Prop} (h : c = true) (p : P) : if c = true then P else Q := by rw [if_pos h]; exact p
theorem ite_no {c : Bool} {P Q : Prop} (h : c = false) (q : Q) : if c = true then P else Q := by rw [h]; exact q
theorem my_unq {w : World} {mean : ExcName → Option Value} {mg mb : Str → Option Value} {LL : List Str} {news : List (Addr × Obj)} {x : Str} {a b c : Nat} {t : Tok} (hx : x = tx [61, a, b]) (hc : (a, b, c) ∈ codes)
    {dp un : Nat} {gd : Option (List Code)} {cn : Str} {cs : Scope} {ad : Addr} {ccd : Value} {cl : List (Str × Addr)} {outer : List Env} {A₀ : Around} {base h₀ : Heap} {L : Addr} {m : Str → Option Value} {s : Shared} {Q E : Value → Shared → Prop}
    (k1 : Below A₀ base outer h₀) (k2 : Fr h₀ L s.heap m) (k3 : (hd.heap_39 w.params).In h₀) (k4 : News h₀ L s.heap news) (k5 : Top hd.view_39 LL mean mg mb h₀) (kK : cs.kind = .function) (kd : dp + 1 < recursionLimit) (ku : un + 8 < cLine)
    (h : ∀ t' h' tk', Fr h₀ L h' m → News h₀ L h' news → Q (.str (tx [c]) t') { s with heap := h', toks := tk' }) :
    wpAny (model Challenge.rw_wn0027_01.row.prog w) (ktrTop dp un gd cn cs L ad ccd cl outer) (call (.ref 35) [.str x t]) Q E s := by
  subst hx
  refine unq_spec w mean mg mb LL news a b c t dp un gd cn cs ad ccd cl outer A₀ base h₀ L m s Q E k1 k2 k3 k4 k5 kK hc kd ku ?_
  rintro v nx h' tk' F N ⟨⟨t', rfl⟩, rfl⟩
  exact h t' h' tk' F N
section
local macro_rules | `(tactic| walk_at "call builtin:str.splitlines") => `(tactic| (refine' my_lines ?F ?N ?a ?b ?c ?_; (case F => k_asm); (case N => k_asm); (case a => assumption); (case b => assumption); (case c => assumption); intro t9 h' k9 F' N' l1; (try k_lt l1)))
local macro_rules | `(tactic| walk_at "truthy str") => `(tactic| (refine' KXt.truthy_pos (K := 1000) ?a ?b ?c ?_; (case a => assumption); (case b => assumption); (case c => decide); intro k9))
local macro_rules | `(tactic| walk_at "call builtin:str.rstrip") => `(tactic| (refine' my_rstrip ?a ?c ?_; (case a => assumption); (case c => assumption); intro t9 k9))
local macro_rules | `(tactic| walk_at "exec While Compare cons nil") => `(tactic| refine stop_of ?_)
local macro_rules | `(tactic| walk_at "pyIter ref") => `(tactic| refine stop_of ?_)
local macro_rules | `(tactic| walk_at "ite") => `(tactic| first | refine ite_yes (by assumption) ?_ | refine ite_no (by assumption) ?_)
local macro_rules | `(tactic| walk_at "subscriptTail Name Name str int") => `(tactic| (refine' my_item ?a ?b ?c ?_; (case a => omega); (case b => assumption); (case c => omega)))
local macro_rules | `(tactic| walk_at "subscriptTail Name BinOp str int") => `(tactic| (refine' my_item ?a ?b ?c ?_; (case a => omega); (case b => assumption); (case c => omega)))
local macro_rules | `(tactic| walk_at "inplaceOp Add") => `(tactic| (refine' my_iadd ?b ?c ?_; (case b => first | exact rfl | exact snl); (case c => simp only [tx_len, List.length_cons, List.length_nil, List.length_append] at *; omega); intro t9 k9))
local macro_rules | `(tactic| walk_at "call ref") => `(tactic| (refine' my_unq ?x ?c ?k1 ?k2 ?k3 ?k4 ?k5 ?kK ?kd ?ku ?_; (case x => assumption); (case c => assumption); (case k1 => k_asm); (case k2 => k_asm); (case k3 => k_asm); (case k4 => k_asm); (case k5 => k_asm); (case kK => exact rfl); (case kd => ktr_room); (case ku => ktr_units); intro t9 h9 tk9 F9 N9))
theorem dec_spec (w : World) (mean : ExcName → Option Value) (mg mb : Str → Option Value) (LL : List Str) (news : List (Addr × Obj)) (ts : List Tk) (t : Tok) :
    Ctr w mean mg mb LL 43 3 40 news ((∀ k ∈ ts, k.ok) ∧ (∃ r, ts = r ++ [.ch 46]) ∧ (encs ts).length ≤ 1000) [.str (tx (encs ts)) t] (fun v nx => (∃ t', v = .str (tx (decs ts)) t') ∧ nx = news) := by
  unfold Ctr
  k_fill
  intro dp un gd cn cs a ccd cl outer A₀ base h₀ L m s Q E hB hF hK hN hT hk hpre hdp hu hret
  have hl0 := encs_ok hpre.1
  have hl1 : 1 ≤ (encs ts).length := by
    obtain ⟨r, e⟩ := hpre.2.1
    rw [e, encs_append, List.length_append]
    simp [encs, Tk.enc]
  have hl2 : (encs ts).length ≤ 1000 := hpre.2.2
  have hl3 : ∃ r, encs ts = r ++ [46] := by
    obtain ⟨r, e⟩ := hpre.2.1
    exact ⟨encs r, by rw [e, encs_append]; rfl⟩
  have hx1 : 1 ≤ (tx (encs ts)).length := by rw [tx_len]; exact hl1
  have hx2 : (tx (encs ts)).length ≤ 1000 := by rw [tx_len]; exact hl2
  refine wpAny_call ?_
  k_dflt (refine' code_def ?k1 ?k2 ?k3 ?k4 ?k5 ?kA ?kF ?kK ?k6 ?k7 ?k8 ?k9 ?kB ?_ ?c2 ?c3 ?c4 ?c5; (case kA => exact rfl); (case kF => exact rfl); (case kK => assumption); (case k1 => k_asm); (case k2 => k_asm); (case k3 => k_asm); (case k4 => k_asm); (case k5 => k_asm); (case k6 => k_is); (case k7 => k_is); (case k8 => ktr_room); (case k9 => first | exact BindsTo.of_eq rfl | exact binds_K (by k_in) rfl (by k_is) rfl rfl rfl); (case c5 => decide); (case kB => exact locs rfl); (case c2 => exact rfl); (case c3 => exact rfl); (case c4 => exact rfl); k_whole; intro g' L' h' FG' F' N' B' X' T'; (try dsimp only); (try k_lift B'); (try k_fold))
  k_steps
  rename_i lF' _ t9 _ _ lF lN _
  unfold Stop
  refine' its_list (σ := Str × Nat) (vs := [Value.str (tx (encs ts)) t9]) (fun _ => _) (fun c => [(Str.ofString "decoded", .str c.1 c.2)]) [Str.ofString "i", Str.ofString "n", Str.ofString "c"] (fun i c => (i = 0 ∧ c.1 = Str.ofString "") ∨ (i = 1 ∧ c.1 = tx (decs ts ++ [10]))) (Str.ofString "", _) rfl rfl ⟨_, rfl⟩ (fun _ => List.Mem.head _) lF lN (List.forall_mem_cons.mpr ⟨by with_unfolding_all rfl, List.forall_mem_nil _⟩) ?h0 ?turn ?done
  case h0 => exact .inl ⟨rfl, rfl⟩
  case turn =>
    intro c i v u h tk own I hv hInv hoff hI F₁ N₁
    have hi : i = 0 ∧ v = .str (tx (encs ts)) t9 := by
      cases i with
      | zero => exact ⟨rfl, by simpa using hv.symm⟩
      | succ i => simp at hv
    obtain ⟨rfl, rfl⟩ := hi
    have hc : c.1 = Str.ofString "" := by rcases hInv with h | h <;> simp_all
    obtain ⟨c1, c2⟩ := c
    dsimp only at hc
    subst hc
    clear hInv hv lF' lF lN
    (try k_fold)
    k_steps
    unfold Stop
    (rename Fr _ _ _ _ => wF)
    (rename News _ _ _ _ => wN)
    refine' ksw_while (σ := ((List Tk × List Tk) × (List Nat × Int)) × (Nat × Nat)) (fun _ => _) (fun c => [(Str.ofString "decoded", .str (tx c.1.2.1) c.2.1), (Str.ofString "i", .int c.1.2.2 c.2.2)]) (fun _ => True) [Str.ofString "c"] (fun c => ts = c.1.1.1 ++ c.1.1.2 ∧ c.1.2.1 = decs c.1.1.1 ++ (if c.1.1.2 = [] then [10] else []) ∧ c.1.2.2 = ((encs c.1.1.1).length : Int)) (fun c => c.1.1.2.length) ((([], ts), ([], 0)), (_, _)) wF wN trivial (List.forall_mem_cons.mpr ⟨by with_unfolding_all rfl, List.forall_mem_cons.mpr ⟨by with_unfolding_all rfl, List.forall_mem_nil _⟩⟩) ?pp ?turn
    case pp =>
      have hne : ts ≠ [] := by obtain ⟨r, e⟩ := hpre.2.1; rw [e]; simp
      exact ⟨rfl, by rw [if_neg hne]; rfl, rfl⟩
    case turn =>
      rintro ⟨⟨⟨done, rest⟩, ⟨D, i⟩⟩, t1, t2⟩ u h tk _ hP F₁ N₁
      dsimp only at hP F₁
      obtain ⟨hts, hD, hi⟩ := hP
      clear wF wN
      have hlen : (encs ts).length = (encs done).length + (encs rest).length := by rw [hts, encs_append, List.length_append]
      have hDl : D.length ≤ 1001 := by
        have h1 : (decs done).length ≤ (encs done).length := decs_le done
        have h2 : (if rest = [] then [10] else ([] : List Nat)).length ≤ 1 := by split <;> simp
        rw [hD, List.length_append]; omega
      have h0i : 0 ≤ i := by omega
      cases rest with
      | nil =>
        have hn : ((tx (encs ts)).length : Int) = i := by rw [tx_len, hlen, hi]; simp [encs]
        (try k_fold)
        k_steps
        have hDD : D = decs ts ++ [10] := by rw [hD, hts, if_pos rfl, List.append_nil]
        subst hDD
        (rename Fr _ _ _ _ => wF)
        (rename News _ _ _ _ => wN)
        refine' endL (tx (decs ts ++ [10]), _) wF wN (fun p hp => List.mem_append.mpr (.inl hp)) (fun p hp => List.mem_append.mpr (.inr hp)) (offI hoff hI) (List.forall_mem_cons.mpr ⟨by with_unfolding_all rfl, List.forall_mem_nil _⟩) (by
              intro z h1 h2 h3
              simp only [List.forall_mem_cons, List.not_mem_nil, false_implies, implies_true, and_true, ne_eq, List.contains_cons, List.contains_nil, Bool.or_false, Bool.or_eq_false_iff, beq_eq_false_iff_ne] at h1 h2 h3
              simp [kstB, h1, h2, h3]) (by simp)
      | cons tok rest =>
        rw [if_neg (by simp), List.append_nil] at hD
        cases tok with
        | ch c0 =>
          have hit : (encs ts)[i.toNat]? = some c0 := by
            rw [hts, hi, encs_append, Int.toNat_natCast, List.getElem?_append_right (Nat.le_refl _), Nat.sub_self]; rfl
          have hok : (Tk.ch c0).ok := hpre.1 _ (by rw [hts]; simp)
          have hne : (tx [c0] != Str.ofString "=") = true := ne_eq hok.1
          have hn : ((tx (encs ts)).length : Int) = i + 1 + (encs rest).length := by
            rw [tx_len, hlen, hi, encs_ch, List.length_cons]; omega
          (try k_fold)
          k_steps
          · rename_i hend _ _ _ _
            have hr : rest = [] := encs_zero (by omega)
            subst hr
            (rename Fr _ _ _ _ => wF)
            (rename News _ _ _ _ => wN)
            refine' ksw_end (((done ++ [.ch c0], []), (D ++ [c0] ++ [10], i + 1)), (_, _)) wF wN (fun p hp => hp) trivial (List.forall_mem_cons.mpr ⟨by with_unfolding_all rfl, List.forall_mem_cons.mpr ⟨by with_unfolding_all rfl, List.forall_mem_nil _⟩⟩) (by
              intro z h2 h3
              simp only [List.forall_mem_cons, List.not_mem_nil, false_implies, implies_true, and_true, ne_eq, List.contains_cons, List.contains_nil, Bool.or_false, Bool.or_eq_false_iff, beq_eq_false_iff_ne] at h2 h3
              simp [kstB, h2, h3]) ⟨?_, ?_, ?_⟩ ?_
            · dsimp only; rw [hts]; simp
            · dsimp only; rw [hD, if_pos rfl, decs_append]; rfl
            · dsimp only; rw [hi, encs_append, List.length_append]; rfl
            · simp
          · rename_i hend _
            have hr : rest ≠ [] := fun e => by
              have e0 : (encs rest).length = 0 := by rw [e]; rfl
              omega
            (rename Fr _ _ _ _ => wF)
            (rename News _ _ _ _ => wN)
            refine' ksw_end (((done ++ [.ch c0], rest), (D ++ [c0], i + 1)), (_, _)) wF wN (fun p hp => hp) trivial (List.forall_mem_cons.mpr ⟨by with_unfolding_all rfl, List.forall_mem_cons.mpr ⟨by with_unfolding_all rfl, List.forall_mem_nil _⟩⟩) (by
              intro z h2 h3
              simp only [List.forall_mem_cons, List.not_mem_nil, false_implies, implies_true, and_true, ne_eq, List.contains_cons, List.contains_nil, Bool.or_false, Bool.or_eq_false_iff, beq_eq_false_iff_ne] at h2 h3
              simp [kstB, h2, h3]) ⟨?_, ?_, ?_⟩ ?_
            · dsimp only; rw [hts]; simp
            · dsimp only; rw [hD, if_neg hr, decs_append, List.append_nil]; rfl
            · dsimp only; rw [hi, encs_append, List.length_append]; rfl
            · simp
        | es a1 b1 v =>
          have hok : (a1, b1, v) ∈ codes := hpre.1 (.es a1 b1 v) (by rw [hts]; simp)
          have hrest : rest ≠ [] := by
            intro e
            obtain ⟨r, e2⟩ := hpre.2.1
            rw [e] at hts
            rw [hts] at e2
            have := congrArg List.getLast? e2
            simp at this
          have hr1 : 1 ≤ (encs rest).length := by
            cases rest with
            | nil => exact absurd rfl hrest
            | cons _ _ => exact encs_pos
          have hi0 : i.toNat = (encs done).length := by omega
          have hi1 : (i + 1).toNat = (encs done).length + 1 := by omega
          have hi2 : (i + 2).toNat = (encs done).length + 2 := by omega
          have hit : (encs ts)[i.toNat]? = some 61 := by
            rw [hts, hi0, encs_append, List.getElem?_append_right (Nat.le_refl _), Nat.sub_self]; rfl
          have hit1 : (encs ts)[(i + 1).toNat]? = some a1 := by
            rw [hts, hi1, encs_append, List.getElem?_append_right (by omega), Nat.add_sub_cancel_left]; rfl
          have hit2 : (encs ts)[(i + 2).toNat]? = some b1 := by
            rw [hts, hi2, encs_append, List.getElem?_append_right (by omega), Nat.add_sub_cancel_left]; rfl
          have hsl : Txt.slice (tx (encs ts)) (some i) (some (i + 3)) = tx [61, a1, b1] := by
            have hl9 : i + 3 ≤ ((encs ts).length : Int) := by rw [hlen, hi, encs_es, List.length_cons, List.length_cons, List.length_cons]; omega
            rw [slice_mid h0i (by omega) hl9, hts, hi0, encs_append, List.drop_left]
            have e3 : (i + 3 - i).toNat = 3 := by omega
            rw [e3]; rfl
          have hne := eq_eq
          have hx : (!(Builtin.Str.occurrences (Str.ofString "0123456789abcdefABCDEF") (tx [a1]) 0 (Str.ofString "0123456789abcdefABCDEF").length 1).isEmpty) = true ∧ (!(Builtin.Str.occurrences (Str.ofString "0123456789abcdefABCDEF") (tx [b1]) 0 (Str.ofString "0123456789abcdefABCDEF").length 1).isEmpty) = true := hex_ok hok
          obtain ⟨hxa, hxb⟩ := hx
          have hn : ((tx (encs ts)).length : Int) = i + 3 + (encs rest).length := by
            rw [tx_len, hlen, hi, encs_es, List.length_cons, List.length_cons, List.length_cons]; omega
          (try k_fold)
          k_steps
          all_goals (try (exfalso; omega))
          (rename Fr _ _ _ _ => wF)
          (rename News _ _ _ _ => wN)
          refine' ksw_end (((done ++ [.es a1 b1 v], rest), (D ++ [v], i + 3)), (_, _)) wF wN (fun p hp => hp) trivial (List.forall_mem_cons.mpr ⟨by with_unfolding_all rfl, List.forall_mem_cons.mpr ⟨by with_unfolding_all rfl, List.forall_mem_nil _⟩⟩) (by
              intro z h2 h3
              simp only [List.forall_mem_cons, List.not_mem_nil, false_implies, implies_true, and_true, ne_eq, List.contains_cons, List.contains_nil, Bool.or_false, Bool.or_eq_false_iff, beq_eq_false_iff_ne] at h2 h3
              simp [kstB, h2, h3]) ⟨?_, ?_, ?_⟩ ?_
          · dsimp only; rw [hts]; simp
          · dsimp only; rw [hD, if_neg hrest, decs_append, List.append_nil]; rfl
          · dsimp only; rw [hi, encs_append, List.length_append]; rfl
          · simp
  case done =>
    rintro ⟨c1, c2⟩ u h tk hInv F₁ N₁
    have hc : c1 = tx (decs ts ++ [10]) := by
      rcases hInv with ⟨h, _⟩ | ⟨_, h⟩
      · simp at h
      · exact h
    subst hc
    clear hInv lF' lF lN
    (try k_fold)
    k_steps
    · (rename Fr _ _ _ _ => wF)
      (rename News _ _ _ _ => wN)
      dsimp only
      apply my_sneg (s := ⟨_, _, _, _, _⟩)
      case hF => exact wF
      case hN => exact wN
      case hj => decide +kernel
      case h1 => rw [List.length_append]; simp
      case h2 =>
        have := decs_le ts
        rw [List.length_append, List.length_singleton]; omega
      intro h' t' k F' N'
      dsimp only
      k_steps
      (rename Fr _ _ _ _ => wF)
      (rename News _ _ _ _ => wN)
      refine hret _ _ _ _ wF (fun p hp => wN p (.tail _ hp)) ⟨⟨_, congrArg (fun a => Value.str (tx a) _) ?_⟩, rfl⟩
      rw [List.length_append, List.length_singleton, Nat.add_sub_cancel, List.take_left]
    · exfalso
      (rename (Txt.endswith _ _ = false) => he)
      rw [snl, ends_one] at he
      cases he
    · exfalso
      (rename (List.isEmpty _ = false) => he)
      obtain ⟨r, hr⟩ := hl3
      rw [hr, item_last] at he
      revert he
      decide +kernel
end
end Mine
end

section
open Mine
local macro_rules | `(tactic| walk_at "pyIter ref") => `(tactic| refine stop_of ?_)

section
open Mine
local macro_rules | `(tactic| walk_at "binaryOp FloorDiv int int") => `(tactic| (refine' my_div3 ?j ?_; (case j => omega)))
local macro_rules | `(tactic| walk_at "binaryOp Mod int int") => `(tactic| (refine' my_mod3 ?_; intro p9 hp9 he9; rcases hp9 with h9 | h9 | h9 <;> subst h9))

section
open PySem PySem.W PySem.Spec PySem.Calls PyProof.Rows
set_option maxRecDepth 100000
set_option maxHeartbeats 8000000
namespace Mine
/-- the mark at a depth -/
def mk (n : Int) (d : Nat) : Int := Int.fmod (Int.fdiv n (3 ^ d)) 3
theorem mk_range (n : Int) (d : Nat) : 0 ≤ mk n d ∧ mk n d < 3 := by
  unfold mk
  exact ⟨Int.fmod_nonneg_of_pos _ (by decide), Int.fmod_lt_of_pos _ (by decide)⟩
def bareL (k : Int) : List Nat := if k = 0 then [38] else if k = 1 then [60] else [62]
def hexL (k : Int) : List Nat := if k = 0 then [50, 54] else if k = 1 then [51, 67] else [51, 69]
def refL (k : Int) : List Nat := if k = 0 then [97, 109, 112, 59] else if k = 1 then [108, 116, 59] else [103, 116, 59]
/-- what the row holds of one depth -/
def rowSeg (n : Int) (d : Nat) : List Nat := if d = 0 then bareL (mk n 0) ++ [46] else [61] ++ rep (d - 1) [51, 68] ++ hexL (mk n d) ++ [46]
def rowL (n : Int) (k : Nat) : List Nat := (List.range k).flatMap (rowSeg n)
theorem rowL_succ (n : Int) (k : Nat) : rowL n (k + 1) = rowL n k ++ rowSeg n k := by simp [rowL, List.range_succ]

theorem bareL_len (k : Int) : (bareL k).length = 1 := by unfold bareL; (repeat' split) <;> rfl
theorem hexL_len (k : Int) : (hexL k).length = 2 := by unfold hexL; (repeat' split) <;> rfl
theorem refL_len (k : Int) : (refL k).length ≤ 4 := by unfold refL; (repeat' split) <;> decide
theorem rowSeg_len {n : Int} {d : Nat} (h : d ≤ 6) : (rowSeg n d).length ≤ 20 := by
  unfold rowSeg
  split
  · rw [List.length_append, bareL_len]; decide
  · simp only [List.length_append, rep_len, hexL_len, List.length_cons, List.length_nil]; omega
theorem s3D : Str.ofString "3D" = tx [51, 68] := by decide +kernel
theorem s61 : Str.ofString "=" = tx [61] := by decide +kernel
theorem sdot : Str.ofString "." = tx [46] := by decide +kernel
theorem s26 : Str.ofString "26" = tx [50, 54] := by decide +kernel
theorem s3C : Str.ofString "3C" = tx [51, 67] := by decide +kernel
theorem s3E : Str.ofString "3E" = tx [51, 69] := by decide +kernel
theorem b0 : Str.ofString "&" = tx [38] := by decide +kernel
theorem b1 : Str.ofString "<" = tx [60] := by decide +kernel
theorem b2 : Str.ofString ">" = tx [62] := by decide +kernel
theorem c0 : Str.ofString "&." = tx [38, 46] := by decide +kernel
theorem c1 : Str.ofString "<." = tx [60, 46] := by decide +kernel
theorem c2 : Str.ofString ">." = tx [62, 46] := by decide +kernel
theorem d0 : Txt.item (Str.ofString "&<>") 0 ++ Str.ofString "." = tx [38, 46] := by decide +kernel
theorem d1 : Txt.item (Str.ofString "&<>") 1 ++ Str.ofString "." = tx [60, 46] := by decide +kernel
theorem d2 : Txt.item (Str.ofString "&<>") 2 ++ Str.ofString "." = tx [62, 46] := by decide +kernel
theorem seg_bare {n p : Int} {i : Nat} (h0 : (i : Int) = 0) (h : p = (n.fdiv (3 ^ (i : Int).toNat)).fmod 3) : rowSeg n i = bareL p ++ [46] := by
  have e : i = 0 := by omega
  subst e
  unfold rowSeg mk
  rw [if_pos rfl, h]; rfl
theorem seg_esc {n p : Int} {i : Nat} (h0 : (i : Int) ≠ 0) (h : p = (n.fdiv (3 ^ (i : Int).toNat)).fmod 3) : rowSeg n i = [61] ++ rep ((i : Int) - 1).toNat [51, 68] ++ hexL p ++ [46] := by
  have e : i ≠ 0 := by omega
  have e2 : ((i : Int) - 1).toNat = i - 1 := by omega
  unfold rowSeg mk
  rw [if_neg e, h, e2, Int.toNat_natCast]
theorem row_end {n p : Int} {i : Nat} {R X : List Nat} (hR : R = rowL n i) (hl : R.length ≤ 20 * i) (hi : i ≤ 6) (h : rowSeg n i = X) : R ++ X = rowL n (i + 1) ∧ (R ++ X).length ≤ 20 * (i + 1) := by
  subst h
  refine ⟨by rw [hR, rowL_succ], ?_⟩
  have := rowSeg_len (n := n) hi
  rw [List.length_append]; omega
section
local macro_rules | `(tactic| walk_at "binaryOp Mult str int") => `(tactic| (refine' my_mul s3D ?a ?b ?c ?_; (case a => decide); (case b => omega); (case c => omega); intro t9 k9))
local macro_rules | `(tactic| walk_at "binaryOp Add str str") => `(tactic| (refine' my_add ?a ?b ?c ?_; (case a => first | exact rfl | exact s61); (case b => first | exact rfl | exact s26 | exact s3C | exact s3E | exact sdot); (case c => simp only [List.length_append, rep_len, List.length_cons, List.length_nil]; omega); intro t9 k9))
local macro_rules | `(tactic| walk_at "inplaceOp Add") => `(tactic| (refine' my_iadd ?b ?c ?_; (case b => first | exact rfl | exact c0 | exact c1 | exact c2 | exact d0 | exact d1 | exact d2); (case c => simp only [List.length_append, rep_len, List.length_cons, List.length_nil]; omega); intro t9 k9))
theorem row_spec (w : World) (mean : ExcName → Option Value) (mg mb : Str → Option Value) (LL : List Str) (news : List (Addr × Obj)) (d : Nat) (n : Int) (td tn : Tok) :
    Ctr w mean mg mb LL 50 1 8 news (d ≤ 6) [.int d td, .int n tn] (fun v nx => (∃ t', v = .str (tx (rowL n (d + 1))) t') ∧ nx = news) := by
  unfold Ctr
  k_fill
  intro dp un gd cn cs a ccd cl outer A₀ base h₀ L m s Q E hB hF hK hN hT hk hpre hdp hu hret
  refine wpAny_call ?_
  k_dflt cell_enter
  k_steps
  unfold Stop
  (rename Fr _ _ _ _ => wF)
  (rename News _ _ _ _ => wN)
  (rename IsRange _ _ _ _ _ _ _ _ => wR)
  refine' its_range (σ := List Nat × Nat) (fun _ => news) (fun c => [(Str.ofString "row", .str (tx c.1) c.2)]) [Str.ofString "place"] (fun i c => c.1 = rowL n i ∧ c.1.length ≤ 20 * i) ([], _) (d + 1) rfl wR ?sm ?sz wF wN (List.forall_mem_cons.mpr ⟨by with_unfolding_all rfl, List.forall_mem_nil _⟩) ⟨rfl, Nat.le_refl _⟩ ?turn ?done
  case sm => exact small_of (n := d + 1) (by omega) (by decide) (by decide) (by omega)
  case sz => exact size_of (by omega)
  case turn =>
    rintro ⟨R, t1⟩ i t u h tk own I hi ⟨hR, hRl⟩ hoff hI F₁ N₁
    dsimp only at hR hRl F₁
    rw [Int.zero_add] at F₁
    clear wF wN wR
    (try k_fold)
    k_steps
    all_goals (
      (rename Fr _ _ _ _ => wF)
      (rename News _ _ _ _ => wN)
      refine' endL (_, _) wF wN (by intro p hp; simp [hp]) (by intro p hp; simp [hp]) (offI hoff hI) (List.forall_mem_cons.mpr ⟨by with_unfolding_all rfl, List.forall_mem_nil _⟩) (by
              intro z h1 h2 h3
              simp only [List.forall_mem_cons, List.not_mem_nil, false_implies, implies_true, and_true, ne_eq, List.contains_cons, List.contains_nil, Bool.or_false, Bool.or_eq_false_iff, beq_eq_false_iff_ne] at h1 h2 h3
              simp [kstB, h1, h2, h3]) (row_end (p := 0) hR hRl (by omega) ?_))
    all_goals (
      (rename _ = Int.fmod _ _ => he)
      first
      | exact seg_bare (by assumption) he
      | exact seg_esc (by assumption) he)
  case done =>
    rintro ⟨R, t1⟩ u h tk ⟨hR, hRl⟩ F₁ N₁
    dsimp only at hR F₁
    clear wF wN wR
    subst hR
    (try k_fold)
    k_steps
    (rename Fr _ _ _ _ => wF)
    (rename News _ _ _ _ => wN)
    exact hret _ _ _ _ wF wN ⟨⟨_, rfl⟩, rfl⟩
end
end Mine
end

section
open PySem PySem.W PySem.Spec PySem.Calls PyProof.Rows
set_option maxRecDepth 100000
set_option maxHeartbeats 8000000
namespace Mine
/-- how a depth is told -/
def toldSeg (n : Int) (d : Nat) (t : Int) : List Nat := if t = 0 then bareL (mk n d) ++ [46] else [38] ++ rep (t - 1).toNat [97, 109, 112, 59] ++ refL (mk n d) ++ [46]
def toldFrom (n : Int) : Nat → List Int → List Nat
  | _, [] => []
  | d, t :: r => toldSeg n d t ++ toldFrom n (d + 1) r
def toldL (n : Int) (ns : List Int) : List Nat := toldFrom n 0 ns
theorem toldFrom_snoc (n : Int) (t : Int) : ∀ (ns : List Int) (d : Nat), toldFrom n d (ns ++ [t]) = toldFrom n d ns ++ toldSeg n (d + ns.length) t
  | [], d => by simp [toldFrom]
  | a :: r, d => by
    rw [List.cons_append, toldFrom, toldFrom_snoc n t r (d + 1), toldFrom, List.append_assoc, List.length_cons]
    congr 3; omega
theorem toldSeg_len {n : Int} {d : Nat} {t : Int} (h : t ≤ 6) : (toldSeg n d t).length ≤ 40 := by
  unfold toldSeg
  split
  · rw [List.length_append, bareL_len]; decide
  · have := refL_len (mk n d)
    simp only [List.length_append, rep_len, List.length_cons, List.length_nil]; omega
theorem told_step {n : Int} {ns : List Int} {i : Nat} {t : Int} (h : ns[i]? = some t) : toldL n (ns.take (i + 1)) = toldL n (ns.take i) ++ toldSeg n i t := by
  have hi := (List.getElem?_eq_some_iff.mp h).1
  rw [List.take_add_one, h, Option.toList_some]
  unfold toldL
  rw [toldFrom_snoc, List.length_take, Nat.zero_add, Nat.min_eq_left (by omega)]
theorem seg0 {n p t : Int} {i : Nat} (h0 : t = 0) (h : p = (n.fdiv (3 ^ (i : Int).toNat)).fmod 3) : toldSeg n i t = bareL p ++ [46] := by
  unfold toldSeg mk
  rw [if_pos h0, h, Int.toNat_natCast]
theorem seg1 {n p t : Int} {i : Nat} (h0 : t ≠ 0) (h : p = (n.fdiv (3 ^ (i : Int).toNat)).fmod 3) : toldSeg n i t = [38] ++ rep (t - 1).toNat [97, 109, 112, 59] ++ refL p ++ [46] := by
  unfold toldSeg mk
  rw [if_neg h0, h, Int.toNat_natCast]
theorem told_end {n : Int} {ns : List Int} {i : Nat} {t : Int} {R X : List Nat} (hR : R = toldL n (ns.take i)) (hl : R.length ≤ 40 * i) (ht : ns[i]? = some t) (h6 : t ≤ 6) (h : toldSeg n i t = X) : R ++ X = toldL n (ns.take (i + 1)) ∧ (R ++ X).length ≤ 40 * (i + 1) := by
  subst h
  refine ⟨by rw [hR, told_step ht], ?_⟩
  have := toldSeg_len (n := n) (d := i) h6
  rw [List.length_append]; omega
theorem samps : Str.ofString "amp;" = tx [97, 109, 112, 59] := by decide +kernel
theorem slts : Str.ofString "lt;" = tx [108, 116, 59] := by decide +kernel
theorem sgts : Str.ofString "gt;" = tx [103, 116, 59] := by decide +kernel
section
local macro_rules | `(tactic| walk_at "binaryOp Mult str int") => `(tactic| (refine' my_mul samps ?a ?b ?c ?_; (case a => decide); (case b => omega); (case c => omega); intro t9 k9))
local macro_rules | `(tactic| walk_at "binaryOp Add str str") => `(tactic| (refine' my_add ?a ?b ?c ?_; (case a => first | exact rfl | exact b0); (case b => first | exact rfl | exact samps | exact slts | exact sgts | exact sdot); (case c => simp only [List.length_append, rep_len, List.length_cons, List.length_nil]; omega); intro t9 k9))
local macro_rules | `(tactic| walk_at "inplaceOp Add") => `(tactic| (refine' my_iadd ?b ?c ?_; (case b => first | exact rfl | exact c0 | exact c1 | exact c2 | exact d0 | exact d1 | exact d2); (case c => simp only [List.length_append, rep_len, List.length_cons, List.length_nil]; omega); intro t9 k9))
local macro_rules | `(tactic| walk_at "call builtin:len") => `(tactic| (refine' my_llen ?N ?m ?c ?d ?k ?_; (case N => k_asm); (case m => assumption); (case c => assumption); (case d => assumption); (case k => assumption)))
local macro_rules | `(tactic| walk_at "subscriptTail Name Name ref int") => `(tactic| (refine' my_litem ?N ?m ?c ?d ?a ?b ?x ?_; (case N => k_asm); (case m => kst_mem); (case c => assumption); (case d => assumption); (case a => omega); (case b => omega); (case x => assumption)))
theorem told_spec (w : World) (mean : ExcName → Option Value) (mg mb : Str → Option Value) (LL : List Str) (news : List (Addr × Obj)) (l : Addr) (lo : Obj) (vs : List Value) (ns : List Int) (n : Int) (tn : Tok) :
    Ctr w mean mg mb LL 62 1 8 news ((l, lo) ∈ news ∧ lo.cls = .type "list" ∧ (∃ e, lo.data = .seq vs.toArray e) ∧ IntsAre vs ns ∧ ns.length ≤ 7 ∧ ∀ t ∈ ns, -1 ≤ t ∧ t ≤ 6) [.ref l, .int n tn] (fun v nx => (∃ t', v = .str (tx (toldL n ns)) t') ∧ nx = news) := by
  unfold Ctr
  k_fill
  intro dp un gd cn cs a ccd cl outer A₀ base h₀ L m s Q E hB hF hK hN hT hk hpre hdp hu hret
  obtain ⟨hm, hlc, hld, hia, hlen, hts⟩ := hpre
  have hvl : vs.length = ns.length := hia.length
  have hvk : vs.length < 1000000 := by omega
  refine wpAny_call ?_
  k_dflt cell_enter
  k_steps
  unfold Stop
  (rename Fr _ _ _ _ => wF)
  (rename News _ _ _ _ => wN)
  (rename IsRange _ _ _ _ _ _ _ _ => wR)
  (rename IntsAre _ _ => hia)
  refine' its_range (σ := List Nat × Nat) (fun _ => news) (fun c => [(Str.ofString "told", .str (tx c.1) c.2)]) [Str.ofString "place"] (fun i c => c.1 = toldL n (ns.take i) ∧ c.1.length ≤ 40 * i) ([], _) vs.length rfl wR ?sm ?sz wF wN (List.forall_mem_cons.mpr ⟨by with_unfolding_all rfl, List.forall_mem_nil _⟩) ⟨rfl, Nat.le_refl _⟩ ?turn ?done
  case sm => exact small_of (n := vs.length) (by omega) (by decide) (by decide) (by omega)
  case sz => exact size_of (by omega)
  case turn =>
    rintro ⟨R, t1⟩ i t u h tk own I hi ⟨hR, hRl⟩ hoff hI F₁ N₁
    dsimp only at hR hRl F₁
    rw [Int.zero_add] at F₁
    have hiL : i < ns.length := by omega
    obtain ⟨tk0, hx⟩ := hia.get i ns[i] (by simp [hiL])
    have hy : ns[i]? = some ns[i] := by simp [hiL]
    have hz := hts _ (List.getElem_mem hiL)
    generalize ns[i] = y at hx hy hz
    obtain ⟨hz0, hz6⟩ := hz
    clear wF wN wR
    (try k_fold)
    k_steps
    all_goals (
      (rename Fr _ _ _ _ => wF)
      (rename News _ _ _ _ => wN)
      refine' endL (_, _) wF wN (by intro p hp; simp [hp]) (by intro p hp; simp [hp]) (offI hoff hI) (List.forall_mem_cons.mpr ⟨by with_unfolding_all rfl, List.forall_mem_nil _⟩) (by
              intro z h1 h2 h3
              simp only [List.forall_mem_cons, List.not_mem_nil, false_implies, implies_true, and_true, ne_eq, List.contains_cons, List.contains_nil, Bool.or_false, Bool.or_eq_false_iff, beq_eq_false_iff_ne] at h1 h2 h3
              simp [kstB, h1, h2, h3]) (told_end hR hRl hy hz6 ?_))
    all_goals (
      (rename _ = Int.fmod _ _ => he)
      first
      | exact seg0 (by assumption) he
      | exact seg1 (by assumption) he)
  case done =>
    rintro ⟨R, t1⟩ u h tk ⟨hR, hRl⟩ F₁ N₁
    dsimp only at hR F₁
    clear wF wN wR
    rw [hvl, List.take_length] at hR
    subst hR
    (try k_fold)
    k_steps
    (rename Fr _ _ _ _ => wF)
    (rename News _ _ _ _ => wN)
    exact hret _ _ _ _ wF wN ⟨⟨_, rfl⟩, rfl⟩
end
end Mine
end

end

section
open PySem PySem.W PySem.Spec PySem.Calls PyProof.Rows
set_option maxRecDepth 100000
set_option maxHeartbeats 8000000
namespace Mine
section
variable {prog : Program} {w : World} {A : Around} {E : Value → Shared → Prop} {s : Shared} {value slice : PySem.Expr} {h₀ : Heap} {L d : Addr} {m : Str → Option Value} {news : List (Addr × Obj)} {o : Obj} {kvs : List (Str × Value)} {k : Str} {t : Tok} {v : Value}
theorem dict_of (N : News h₀ L s.heap news) (hm : (d, o) ∈ news) (ho : o.IsDictOf (strKind prog w) kvs) : s.heap.DictOf (strKind prog w) d kvs := Heap.dictOf_iff.mpr ⟨o, (N _ hm).1, ho⟩
theorem d_notin {Q : Value → Shared → Prop} (N : News h₀ L s.heap news) (hm : (d, o) ∈ news) (ho : o.IsDictOf (strKind prog w) kvs) (hs : (d == sysModules) = false) (h : Q (.bool (!(valueAt kvs k).isSome)) { s with toks := s.toks + 1 }) :
    wpAny (model prog w) A (compareOp .NotIn (.str k t) (.ref d)) Q E s := wpAny_notIn_of (strKind_is _ _ _ _) hs (dict_of N hm ho).mapOf h
theorem d_get {Q : Value → Shared → Prop} (N : News h₀ L s.heap news) (hm : (d, o) ∈ news) (ho : o.IsDictOf (strKind prog w) kvs) (hv : valueAt kvs k = some v) (h : Q v { s with toks := s.toks + 1 })
    (hs : subscripted slice false (.ref d) (.str k t) = operate [.ref d, .str k t] (getItem (.ref d) (.str k t)) := by with_unfolding_all rfl) : wpAny (model prog w) A (subscriptTail value slice (.ref d) (.str k t)) Q E s :=
  tail_any (dict_of (prog := prog) (w := w) N hm ho).typeIs slot_dict_getitem.lookup (wpAny_getItem_of (strKind_is _ _ _ _) (dict_of N hm ho).mapOf hv h) hs
theorem d_set {Q : Unit → Shared → Prop} {g : Obj → List (Addr × Obj)} (F : Fr h₀ L s.heap m) (N : News h₀ L s.heap news) (U : UpdF d o news g) (ho : o.IsDictOf (strKind prog w) kvs) (hz : kvs.length ≤ 1000000)
    (h : ∀ h' o', Fr h₀ L h' m → News h₀ L h' (g o') → o'.IsDictOf (strKind prog w) (stored kvs k v) → Q () { s with heap := h', toks := s.toks + 1 }) : wpAny (model prog w) A (setItem (.ref d) (.str k t) v) Q E s := by
  obtain ⟨pre, post, rfl, hg, a, b⟩ := U.split
  have hm : (d, o) ∈ pre ++ (d, o) :: post := by simp
  refine wpAny_setItem_pairs (strKind_is _ _ _ _) (dict_of N hm ho) (fun h' hd hs => ?_) (by rw [sizeLine_eq]; omega)
  obtain ⟨o', ho', hd'⟩ := Heap.dictOf_iff.mp hd
  have D := N _ hm
  exact h h' o' (F.change hs D.2.1 D.2.2) (hg o' ▸ N.setIn a b hs ho') hd'
end
end Mine
end

section
open Mine
local macro_rules | `(tactic| walk_at "ite") => `(tactic| first | refine ite_yes (by assumption) ?_ | refine ite_no (by assumption) ?_)
local macro_rules | `(tactic| k_all) => `(tactic| assumption)

section
open PySem PySem.W PySem.Spec PySem.Calls PyProof.Rows
set_option maxRecDepth 100000
set_option maxHeartbeats 8000000
namespace Mine
/-- the texts of the runs: T r is what the run r leaves of the row -/
structure Txs (T : List Nat → List Nat) : Prop where
  dec : ∀ r, r.length ≤ 5 → ∃ ts, ((∀ k ∈ ts, Tk.ok k) ∧ (∃ r', ts = r' ++ [.ch 46]) ∧ (encs ts).length ≤ 1000) ∧ T r = encs ts ∧ T (r ++ [68]) = decs ts
  esc : ∀ r, r.length ≤ 5 → (T r).length ≤ 1000 ∧ T (r ++ [69]) = escL (T r)
def Known (T : List Nat → List Nat) (kvs : List (Str × Value)) : Prop := (∀ k v, valueAt kvs k = some v → ∃ r t, k = tx r ∧ v = .str (tx (T r)) t) ∧ (valueAt kvs (tx [])).isSome = true
theorem valueAt_stored (kvs : List (Str × Value)) (k j : Str) (v : Value) : valueAt (stored kvs k v) j = if j = k then some v else valueAt kvs j := by
  unfold valueAt stored
  by_cases hc : (kvs.any fun kv => decide (kv.1 = k)) = true
  · rw [if_pos hc, List.find?_map]
    have e : ((fun kv : Str × Value => decide (kv.1 = j)) ∘ fun kv => if kv.1 = k then (kv.1, v) else kv) = fun kv => decide (kv.1 = j) := by
      funext p
      show decide ((if p.1 = k then (p.1, v) else p).1 = j) = _
      by_cases hp : p.1 = k
      · rw [if_pos hp]
      · rw [if_neg hp]
    rw [e]
    by_cases hj : j = k
    · subst hj
      rw [if_pos rfl]
      obtain ⟨p, hp, hpk⟩ := List.any_eq_true.mp hc
      cases hf : kvs.find? fun kv => decide (kv.1 = j) with
      | none => exact absurd hpk (by simpa using List.find?_eq_none.mp hf p hp)
      | some q =>
        have := List.find?_some hf
        have hq : q.1 = j := by simpa using this
        simp [hq]
    · rw [if_neg hj]
      cases hf : kvs.find? fun kv => decide (kv.1 = j) with
      | none => rfl
      | some q =>
        have hq : q.1 = j := by simpa using List.find?_some hf
        simp [hq, hj]
  · rw [if_neg hc, List.find?_append]
    by_cases hj : j = k
    · subst hj
      have : kvs.find? (fun kv => decide (kv.1 = j)) = none := by
        rw [List.find?_eq_none]
        intro p hp h
        exact hc (List.any_eq_true.mpr ⟨p, hp, h⟩)
      rw [this]; simp
    · have hk : ¬ k = j := fun e => hj e.symm
      rw [if_neg hj]
      simp [hk]
theorem valueAt_self {kvs : List (Str × Value)} {k : Str} {v : Value} : valueAt (stored kvs k v) k = some v := by rw [valueAt_stored, if_pos rfl]
theorem known_put {T : List Nat → List Nat} {kvs : List (Str × Value)} {r : List Nat} {t : Tok} (h : Known T kvs) : Known T (stored kvs (tx r) (.str (tx (T r)) t)) := by
  refine ⟨fun k v hv => ?_, ?_⟩
  · rw [valueAt_stored] at hv
    split at hv
    · cases hv; exact ⟨r, t, by assumption, rfl⟩
    · exact h.1 k v hv
  · rw [valueAt_stored]
    split
    · rfl
    · exact h.2
theorem known_at {T : List Nat → List Nat} {kvs : List (Str × Value)} {r : List Nat} (h : Known T kvs) (hs : (valueAt kvs (tx r)).isSome = true) : ∃ t, valueAt kvs (tx r) = some (.str (tx (T r)) t) := by
  cases hv : valueAt kvs (tx r) with
  | none => rw [hv] at hs; cases hs
  | some v =>
    obtain ⟨r', t, e, rfl⟩ := h.1 _ _ hv
    rw [tx_inj] at e
    subst e
    exact ⟨t, rfl⟩
abbrev PG : Program := Challenge.rw_wn0027_01.row.prog
/-- what a call of _law_left does for the runs of one length -/
def LeftAt (w : World) (mean : ExcName → Option Value) (mg mb : Str → Option Value) (LL : List Str) (T : List Nat → List Nat) (kd : Addr) (rest : List (Addr × Obj)) (run : List Nat) : Prop :=
  ∀ (o : Obj) (kvs : List (Str × Value)) (t : Tok), Ctr w mean mg mb LL 69 (run.length + 5) (8 * run.length + 60) ((kd, o) :: rest) (o.IsDictOf (strKind Challenge.rw_wn0027_01.row.prog w) kvs ∧ Known T kvs ∧ kvs.length + run.length ≤ 900000) [.str (tx run) t, .ref kd]
    (fun v nx => (∃ t', v = .str (tx (T run)) t') ∧ ∃ o' kvs', nx = (kd, o') :: rest ∧ o'.IsDictOf (strKind Challenge.rw_wn0027_01.row.prog w) kvs' ∧ Known T kvs' ∧ kvs'.length ≤ kvs.length + run.length)

theorem my_decT {w : World} {mean : ExcName → Option Value} {mg mb : Str → Option Value} {LL : List Str} {news : List (Addr × Obj)} {T : List Nat → List Nat} {r : List Nat} {t : Tok} (hT : Txs T) (hr : r.length ≤ 5) {dp un : Nat} {gd : Option (List Code)} {cn : Str} {cs : Scope} {ad : Addr} {ccd : Value} {cl : List (Str × Addr)} {outer : List Env} {A₀ : Around} {base h₀ : Heap} {L : Addr} {m : Str → Option Value} {s : Shared} {Q E : Value → Shared → Prop}
    (k1 : Below A₀ base outer h₀) (k2 : Fr h₀ L s.heap m) (k3 : (hd.heap_39 w.params).In h₀) (k4 : News h₀ L s.heap news) (k5 : Top hd.view_39 LL mean mg mb h₀) (kK : cs.kind = .function) (kd : dp + 3 < recursionLimit) (ku : un + 40 < cLine)
    (h : ∀ t' h' tk', Fr h₀ L h' m → News h₀ L h' news → Q (.str (tx (T (r ++ [68]))) t') { s with heap := h', toks := tk' }) :
    wpAny (model Challenge.rw_wn0027_01.row.prog w) (ktrTop dp un gd cn cs L ad ccd cl outer) (call (.ref 43) [.str (tx (T r)) t]) Q E s := by
  obtain ⟨ts, hts, e1, e2⟩ := hT.dec r hr
  rw [e1]
  refine dec_spec w mean mg mb LL news ts t dp un gd cn cs ad ccd cl outer A₀ base h₀ L m s Q E k1 k2 k3 k4 k5 kK hts kd ku ?_
  rintro v nx h' tk' F N ⟨⟨t', rfl⟩, rfl⟩
  rw [← e2]
  exact h t' h' tk' F N
theorem my_escT {w : World} {mean : ExcName → Option Value} {mg mb : Str → Option Value} {LL : List Str} {news : List (Addr × Obj)} {T : List Nat → List Nat} {r : List Nat} {t : Tok} (hT : Txs T) (hr : r.length ≤ 5) {dp un : Nat} {gd : Option (List Code)} {cn : Str} {cs : Scope} {ad : Addr} {ccd : Value} {cl : List (Str × Addr)} {outer : List Env} {A₀ : Around} {base h₀ : Heap} {L : Addr} {m : Str → Option Value} {s : Shared} {Q E : Value → Shared → Prop}
    (k1 : Below A₀ base outer h₀) (k2 : Fr h₀ L s.heap m) (k3 : (hd.heap_39 w.params).In h₀) (k4 : News h₀ L s.heap news) (k5 : Top hd.view_39 LL mean mg mb h₀) (kK : cs.kind = .function) (kd : dp + 1 < recursionLimit) (ku : un + 8 < cLine)
    (h : ∀ t' h' tk', Fr h₀ L h' m → News h₀ L h' news → Q (.str (tx (T (r ++ [69]))) t') { s with heap := h', toks := tk' }) :
    wpAny (model Challenge.rw_wn0027_01.row.prog w) (ktrTop dp un gd cn cs L ad ccd cl outer) (call (.ref 28) [.str (tx (T r)) t]) Q E s := by
  obtain ⟨e1, e2⟩ := hT.esc r hr
  refine esc_spec w mean mg mb LL news (T r) t dp un gd cn cs ad ccd cl outer A₀ base h₀ L m s Q E k1 k2 k3 k4 k5 kK e1 kd ku ?_
  rintro v nx h' tk' F N ⟨⟨t', rfl⟩, rfl⟩
  rw [← e2]
  exact h t' h' tk' F N
theorem my_leftR {w : World} {mean : ExcName → Option Value} {mg mb : Str → Option Value} {LL : List Str} {T : List Nat → List Nat} {kd : Addr} {rest : List (Addr × Obj)} {run : List Nat} {o : Obj} {kvs : List (Str × Value)} {t : Tok} (ih : LeftAt w mean mg mb LL T kd rest run) (ho : o.IsDictOf (strKind Challenge.rw_wn0027_01.row.prog w) kvs) (hk : Known T kvs) (hz : kvs.length + run.length ≤ 900000) {dp un : Nat} {gd : Option (List Code)} {cn : Str} {cs : Scope} {ad : Addr} {ccd : Value} {cl : List (Str × Addr)} {outer : List Env} {A₀ : Around} {base h₀ : Heap} {L : Addr} {m : Str → Option Value} {s : Shared} {Q E : Value → Shared → Prop}
    (k1 : Below A₀ base outer h₀) (k2 : Fr h₀ L s.heap m) (k3 : (hd.heap_39 w.params).In h₀) (k4 : News h₀ L s.heap ((kd, o) :: rest)) (k5 : Top hd.view_39 LL mean mg mb h₀) (kK : cs.kind = .function) (kdd : dp + (run.length + 5) < recursionLimit) (ku : un + (8 * run.length + 60) < cLine)
    (h : ∀ t' h' tk' o' kvs', Fr h₀ L h' m → News h₀ L h' ((kd, o') :: rest) → o'.IsDictOf (strKind Challenge.rw_wn0027_01.row.prog w) kvs' → Known T kvs' → kvs'.length ≤ kvs.length + run.length → Q (.str (tx (T run)) t') { s with heap := h', toks := tk' }) :
    wpAny (model Challenge.rw_wn0027_01.row.prog w) (ktrTop dp un gd cn cs L ad ccd cl outer) (call (.ref 69) [.str (tx run) t, .ref kd]) Q E s := by
  refine ih o kvs t dp un gd cn cs ad ccd cl outer A₀ base h₀ L m s Q E k1 k2 k3 k4 k5 kK ⟨ho, hk, hz⟩ kdd ku ?_
  rintro v nx h' tk' F N ⟨⟨t', rfl⟩, o', kvs', rfl, a, b, c⟩
  exact h t' h' tk' o' kvs' F N a b c
theorem sD : Str.ofString "D" = tx [68] := by decide +kernel
theorem eqD : (tx [68] == Str.ofString "D") = true := by decide +kernel
theorem eqE : (tx [69] == Str.ofString "D") = false := by decide +kernel
theorem left_mem {kd : Addr} {o : Obj} {rest : List (Addr × Obj)} : (kd, o) ∈ (kd, o) :: rest := .head _
section
local macro_rules | `(tactic| walk_at "compareOp NotIn str ref") => `(tactic| (refine' d_notin ?N left_mem ?o ?s ?_; (case N => k_asm); (case o => assumption); (case s => assumption)))
local macro_rules | `(tactic| walk_at "subscriptTail Name Name ref str") => `(tactic| (refine' d_get ?N left_mem ?o ?v ?_; (case N => k_asm); (case o => assumption); (case v => first | assumption | exact valueAt_self)))
local macro_rules | `(tactic| walk_at "setItem ref str") => `(tactic| (refine' d_set ?F ?N ?U ?o ?z ?_; (case F => k_asm); (case N => k_asm); (case U => k_updF); (case o => assumption); (case z => omega); intro h' o' F' N' hd'))
local macro_rules | `(tactic| walk_at "subscriptTail Name Slice str ref") => `(tactic| (dsimp only; apply my_sinit (s := ⟨_, _, _, _, _⟩) (by assumption) (by decide) (by omega) (by k_asm) (by k_asm); intro h9 t9 k9 F9 N9; dsimp only))
local macro_rules | `(tactic| walk_at "subscriptTail Name UnaryOp str int") => `(tactic| (refine' my_ilast ?a ?b ?_; (case a => assumption); (case b => omega)))
local macro_rules | `(tactic| walk_at "call ref") => `(tactic| first
  | (refine' my_leftR ?ih ?o ?hk ?z ?k1 ?k2 ?k3 ?k4 ?k5 ?kK ?kd ?ku ?_; (case ih => assumption); (case o => assumption); (case hk => assumption); (case z => omega); (case k1 => k_asm); (case k2 => k_asm); (case k3 => k_asm); (case k4 => k_asm); (case k5 => k_asm); (case kK => exact rfl); (case kd => ktr_room); (case ku => ktr_units); intro t9 h9 tk9 o9 kvs9 F9 N9 ho9 hk9 hz9)
  | (refine' my_decT ?x ?c ?k1 ?k2 ?k3 ?k4 ?k5 ?kK ?kd ?ku ?_; (case x => assumption); (case c => omega); (case k1 => k_asm); (case k2 => k_asm); (case k3 => k_asm); (case k4 => k_asm); (case k5 => k_asm); (case kK => exact rfl); (case kd => ktr_room); (case ku => ktr_units); intro t9 h9 tk9 F9 N9)
  | (refine' my_escT ?x ?c ?k1 ?k2 ?k3 ?k4 ?k5 ?kK ?kd ?ku ?_; (case x => assumption); (case c => omega); (case k1 => k_asm); (case k2 => k_asm); (case k3 => k_asm); (case k4 => k_asm); (case k5 => k_asm); (case kK => exact rfl); (case kd => ktr_room); (case ku => ktr_units); intro t9 h9 tk9 F9 N9))
theorem left_step (w : World) (mean : ExcName → Option Value) (mg mb : Str → Option Value) (LL : List Str) (T : List Nat → List Nat) (hT : Txs T) (kd : Addr) (hks : (kd == sysModules) = false) (rest : List (Addr × Obj)) (hrest : ∀ p ∈ rest, p.1 ≠ kd) (r : List Nat) (c : Nat) (hc : c = 68 ∨ c = 69) (hr : r.length ≤ 5)
    (ih : LeftAt w mean mg mb LL T kd rest r) : LeftAt w mean mg mb LL T kd rest (r ++ [c]) := by
  unfold LeftAt Ctr
  k_fill
  intro o kvs t dp un gd cn cs a ccd cl outer A₀ base h₀ L m s Q E hB hF hK hN hTop hk hpre hdp hu hret
  obtain ⟨ho, hkn, hz⟩ := hpre
  rw [List.length_append, List.length_singleton] at hz hdp hu
  generalize hrun : r ++ [c] = run
  have hl2 : run.length ≤ 100000 := by rw [← hrun, List.length_append, List.length_singleton]; omega
  have hrun2 := hrun.symm
  have hks' : (kd == sysModules) = false := hks
  refine wpAny_call ?_
  cases hvs : (valueAt kvs (tx run)).isSome with
  | true =>
    obtain ⟨tv, hv⟩ := known_at hkn hvs
    have hb : (!(valueAt kvs (tx run)).isSome) = false := by rw [hvs]; rfl
    k_dflt cell_enter
    k_steps
    (rename Fr _ _ _ _ => wF)
    (rename News _ _ _ _ => wN)
    subst hrun
    exact hret _ _ _ _ wF wN ⟨⟨_, rfl⟩, o, kvs, rfl, ho, hkn, by omega⟩
  | false =>
    have hb : (!(valueAt kvs (tx run)).isSome) = true := by rw [hvs]; rfl
    rcases hc with rfl | rfl
    · have hd9 := eqD
      k_dflt cell_enter
      k_steps
      (rename Fr _ _ _ _ => wF)
      (rename News _ _ _ _ => wN)
      (rename Known _ _ => hk9)
      (rename Obj.IsDictOf _ _ (stored _ _ _) => hd9)
      subst hrun
      refine hret _ _ _ _ wF wN ⟨⟨_, rfl⟩, _, _, rfl, hd9, known_put hk9, ?_⟩
      refine Nat.le_trans (stored_length_le _ _ _) ?_
      rw [List.length_append, List.length_singleton]; omega
    · have hd9 := eqE
      k_dflt cell_enter
      k_steps
      (rename Fr _ _ _ _ => wF)
      (rename News _ _ _ _ => wN)
      (rename Known _ _ => hk9)
      (rename Obj.IsDictOf _ _ (stored _ _ _) => hd9)
      subst hrun
      refine hret _ _ _ _ wF wN ⟨⟨_, rfl⟩, _, _, rfl, hd9, known_put hk9, ?_⟩
      refine Nat.le_trans (stored_length_le _ _ _) ?_
      rw [List.length_append, List.length_singleton]; omega
theorem left_nil (w : World) (mean : ExcName → Option Value) (mg mb : Str → Option Value) (LL : List Str) (T : List Nat → List Nat) (kd : Addr) (hks : (kd == sysModules) = false) (rest : List (Addr × Obj)) (hrest : ∀ p ∈ rest, p.1 ≠ kd) : LeftAt w mean mg mb LL T kd rest [] := by
  unfold LeftAt Ctr
  k_fill
  intro o kvs t dp un gd cn cs a ccd cl outer A₀ base h₀ L m s Q E hB hF hK hN hTop hk hpre hdp hu hret
  obtain ⟨ho, hkn, hz⟩ := hpre
  have hks' : (kd == sysModules) = false := hks
  have hvs := hkn.2
  obtain ⟨tv, hv⟩ := known_at hkn hvs
  have hb : (!(valueAt kvs (tx [])).isSome) = false := by rw [hvs]; rfl
  refine wpAny_call ?_
  k_dflt cell_enter
  k_steps
  (rename Fr _ _ _ _ => wF)
  (rename News _ _ _ _ => wN)
  exact hret _ _ _ _ wF wN ⟨⟨_, rfl⟩, o, kvs, rfl, ho, hkn, by omega⟩
theorem left_spec (w : World) (mean : ExcName → Option Value) (mg mb : Str → Option Value) (LL : List Str) (T : List Nat → List Nat) (hT : Txs T) (kd : Addr) (hks : (kd == sysModules) = false) (rest : List (Addr × Obj)) (hrest : ∀ p ∈ rest, p.1 ≠ kd) : ∀ (n : Nat) (run : List Nat), run.length = n → n ≤ 6 → (∀ c ∈ run, c = 68 ∨ c = 69) → LeftAt w mean mg mb LL T kd rest run
  | 0, run, h0, _, _ => by
    have e : run = [] := List.eq_nil_of_length_eq_zero h0
    subst e
    exact left_nil w mean mg mb LL T kd hks rest hrest
  | n + 1, run, h0, h6, hc => by
    have hne : run ≠ [] := fun e => by rw [e] at h0; cases h0
    have e := List.dropLast_concat_getLast hne
    have hl : run.dropLast.length = n := by rw [List.length_dropLast, h0]; rfl
    rw [← e]
    exact left_step w mean mg mb LL T hT kd hks rest hrest _ _ (hc _ (List.getLast_mem hne)) (by omega) (left_spec w mean mg mb LL T hT kd hks rest hrest n run.dropLast hl (by omega) fun c hm => hc c (List.dropLast_subset _ hm))
end
end Mine
end

section
open Mine
local macro_rules | `(tactic| walk_at "call builtin:list.append") => `(tactic| (refine' my_append ?F ?N ?U ?z ?_; (case F => k_asm); (case N => k_asm); (case U => k_updF); (case z => omega); intro h' F' N'))

section
open PySem PySem.W PySem.Spec PySem.Calls PyProof.Rows
set_option maxRecDepth 100000
set_option maxHeartbeats 8000000
namespace Mine
/-- how many E's -/
def cntE (r : List Nat) : Nat := (r.filter fun c => decide (c = 69)).length
theorem cntE_le (r : List Nat) : cntE r ≤ r.length := List.length_filter_le _ _
def timesTail : List Nat → List Int
  | [] => []
  | c :: r => if c = 68 then (cntE (c :: r) : Int) :: timesTail r else timesTail r
def timesL (r : List Nat) : List Int := (cntE r : Int) :: timesTail r
theorem signs_tx (r : List Nat) : (signs (tx r)).filter (fun a => a == Str.ofString "E") = (r.filter fun c => decide (c = 69)).map fun c => tx [c] := by
  have e : Str.ofString "E" = tx [69] := by decide +kernel
  rw [e]
  unfold signs
  rw [tx_list]
  induction r with
  | nil => rfl
  | cons c r ih =>
    rw [List.map_cons, List.filter_cons, List.filter_cons, ih]
    show (if (tx [c] == tx [69]) = true then _ else _) = _
    by_cases h : c = 69
    · subst h; simp [tx]
    · have h2 : (tx [c] == tx [69]) = false := by
        rw [beq_eq_false_iff_ne, Ne, tx_inj]; simpa using h
      rw [h2]; simp [h]
section
variable {prog : Program} {w : World} {A : Around} {E : Value → Shared → Prop} {s : Shared}
theorem my_clen {r : List Nat} {D : Addr} {ys : List Value} {Q : Value → Shared → Prop} (hl : s.heap.IsList D ys.toArray) (hc : CarriedAll ys (List.map PyData.str (List.filter (fun a => a == Str.ofString "E") (signs (tx r))))) (hr : r.length ≤ 1000)
    (h : Q (.int (cntE r : Int) (s.toks + 1)) { s with toks := s.toks + 1 + 1 }) : wpAny (model prog w) A (call (.builtin "len") [.ref D]) Q E s := by
  have e : ys.length = cntE r := by rw [hc.length_eq, List.length_map, signs_tx, List.length_map]; rfl
  have := cntE_le r
  exact call_len_list hl (by rw [List.size_toArray, e]; omega) (by rw [List.size_toArray, e]; exact h)
end
theorem eqDD : (tx [68] == Str.ofString "D") = true := by decide +kernel
theorem eqED : (tx [69] == Str.ofString "D") = false := by decide +kernel
section
local macro_rules | `(tactic| walk_at "call builtin:len") => `(tactic| (refine' my_clen ?l ?c ?r ?_; (case l => assumption); (case c => assumption); (case r => (try rw [List.length_drop]); omega)))
local macro_rules | `(tactic| walk_at "subscriptTail Name Name str int") => `(tactic| (refine' my_item ?a ?b ?c ?_; (case a => omega); (case b => assumption); (case c => omega)))
local macro_rules | `(tactic| walk_at "subscriptTail Name Slice str ref") => `(tactic| (dsimp only; apply my_sfrom (s := ⟨_, _, _, _, _⟩) (by omega) (by omega) (by omega) (by k_asm) (by k_asm); intro h9 t9 k9 F9 N9 hz9; dsimp only))
theorem times_spec (w : World) (mean : ExcName → Option Value) (mg mb : Str → Option Value) (LL : List Str) (news : List (Addr × Obj)) (run : List Nat) (t : Tok) :
    Ctr w mean mg mb LL 55 1 8 news (run.length ≤ 6 ∧ ∀ c ∈ run, c = 68 ∨ c = 69) [.str (tx run) t] (fun v nx => ∃ l vs e, v = .ref l ∧ nx = (l, listOf vs.toArray e) :: news ∧ (∀ p ∈ news, p.1 < l) ∧ IntsAre vs (timesL run)) := by
  unfold Ctr
  k_fill
  intro dp un gd cn cs a ccd cl outer A₀ base h₀ L m s Q E hB hF hK hN hT hk hpre hdp hu hret
  obtain ⟨h6, hc⟩ := hpre
  have h1000 : run.length ≤ 1000 := by omega
  replace h6 := Hide.mk h6
  have hxl : (tx run).length ≤ 1000 := by rw [tx_len]; omega
  refine wpAny_call ?_
  k_dflt cell_enter
  k_steps
  unfold Stop
  (rename Fr _ _ _ _ => wF)
  (rename News _ _ _ _ => wN)
  (rename IsRange _ _ _ _ _ _ _ _ => wR)
  rename_i l' _ _ _ _ _ _ _ _ _ _ _
  have hl1 : ∀ p ∈ news, p.1 < l' := ktn_ltOf (by (rename (_ < _ ∧ AllLt _ news) => l1); exact l1.2)
  refine' its_range (σ := List Value × List Int × Nat) (fun c => (l', listOf c.1.toArray c.2.2) :: news) (fun c => []) [] (fun i c => IntsAre c.1 c.2.1 ∧ c.2.1 ++ timesTail (run.drop i) = timesL run ∧ c.1.length ≤ i + 1) ([Value.int (cntE run) _], [(cntE run : Int)], 0) run.length rfl wR ?sm ?sz wF (fun p hp => wN p (by rcases List.mem_cons.mp hp with rfl | hp; exact .head _; exact .tail _ (.tail _ hp))) (List.forall_mem_nil _) ⟨.cons _ _ .nil, rfl, Nat.le_refl _⟩ ?turn ?done
  case sm => exact small_of (n := run.length) (by rw [tx_len]; omega) (by decide) (by decide) (by omega)
  case sz => exact size_of (by rw [tx_len]; omega)
  case turn =>
    rintro ⟨vs, ns, e⟩ i t u h tk own I hi ⟨hia, hns, hvl⟩ hoff hI F₁ N₁
    dsimp only at hia hns hvl F₁ N₁
    rw [Int.zero_add] at F₁
    simp only [List.cons_append] at N₁
    have hoff2 : ∀ p ∈ news ++ own, p.1 ≠ l' := by
      intro p hp
      rcases List.mem_append.mp hp with hp | hp
      · exact Nat.ne_of_lt (hl1 p hp)
      · exact hoff p hp l' (.head _)
    have hx : run[(i : Int).toNat]? = some run[i] := by rw [Int.toNat_natCast]; simp [hi]
    have hdr : run.drop i = run[i] :: run.drop (i + 1) := List.drop_eq_getElem_cons hi
    have hcc := hc _ (List.getElem_mem hi)
    generalize run[i] = c at hx hdr hcc
    clear wF wN wR
    rcases hcc with rfl | rfl
    · have hd9 := eqDD
      (try k_fold)
      k_steps
      (rename Fr _ _ _ _ => wF)
      (rename News _ _ _ _ => wN)
      refine' endL (vs ++ [_], ns ++ [(cntE (run.drop i) : Int)], e + 1) wF wN ?l1 ?l2 (offI hoff hI) (List.forall_mem_nil _) (by
              intro z h1 h2 h3
              simp only [List.not_mem_nil, false_implies, implies_true, List.contains_nil, ne_eq] at h1 h2 h3
              simp [kstB, h1]) ⟨hia.append (.cons _ _ .nil), ?l3, ?l4⟩
      case l1 =>
        intro p hp
        rcases List.mem_cons.mp hp with rfl | hp
        · exact List.Mem.head _
        · exact .tail _ (List.mem_append.mpr (.inl hp))
      case l2 => exact fun p hp => .tail _ (List.mem_append.mpr (.inr hp))
      case l3 =>
        dsimp only
        rw [← hns, hdr, List.append_assoc]; rfl
      case l4 =>
        dsimp only
        rw [List.length_append, List.length_singleton]; omega
    · have hd9 := eqED
      (try k_fold)
      k_steps
      (rename Fr _ _ _ _ => wF)
      (rename News _ _ _ _ => wN)
      refine' endL (vs, ns, e) wF wN (fun p hp => by rcases List.mem_cons.mp hp with rfl | hp; exact .head _; exact .tail _ (List.mem_append.mpr (.inl hp))) (fun p hp => .tail _ (List.mem_append.mpr (.inr hp))) (offI hoff hI) (List.forall_mem_nil _) (by
              intro z h1 h2 h3
              simp only [List.not_mem_nil, false_implies, implies_true, List.contains_nil, ne_eq] at h1 h2 h3
              simp [kstB, h1]) ⟨hia, ?_, by dsimp only; omega⟩
      dsimp only
      rw [← hns, hdr]; rfl
  case done =>
    rintro ⟨vs, ns, e⟩ u h tk ⟨hia, hns, hvl⟩ F₁ N₁
    dsimp only at hia hns F₁ N₁
    clear wF wN wR
    rw [List.drop_length] at hns
    have hns2 : ns = timesL run := by rw [← hns]; simp [timesTail]
    subst hns2
    (try k_fold)
    k_steps
    (rename Fr _ _ _ _ => wF)
    (rename News _ _ _ _ => wN)
    (rename IntsAre _ _ => hia)
    exact hret _ _ _ _ wF wN ⟨l', vs, e, rfl, rfl, hl1, hia⟩
end
end Mine
end

section
open PySem PySem.W PySem.Spec PySem.Calls PyProof.Rows
set_option maxRecDepth 100000
set_option maxHeartbeats 8000000
namespace Mine
/-- D and E right behind it change places -/
def swapAt (one : List Nat) (k : Nat) : List Nat := one.take k ++ [69, 68] ++ one.drop (k + 2)
def kstep (one : List Nat) (rs : List (List Nat)) (k : Nat) : List (List Nat) :=
  if (one.drop k).take 2 = [68, 69] ∧ swapAt one k ∉ rs then rs ++ [swapAt one k] else rs
def kfold (one : List Nat) (rs : List (List Nat)) (n : Nat) : List (List Nat) := (List.range n).foldl (kstep one) rs
def rturn (rs : List (List Nat)) (d : Nat) : List (List Nat) := kfold (rs.getD d []) rs ((rs.getD d []).length - 1)
def riter (run : List Nat) : Nat → List (List Nat)
  | 0 => [run]
  | j + 1 => rturn (riter run j) j
def RunsOk (run : List Nat) (N : Nat) : Prop := N ≤ 100 ∧ (riter run N).length = N ∧ ∀ j, j < N → j < (riter run j).length
theorem kfold_succ (one : List Nat) (rs : List (List Nat)) (n : Nat) : kfold one rs (n + 1) = kstep one (kfold one rs n) n := by simp [kfold, List.range_succ]
theorem swapAt_len {one : List Nat} {k : Nat} (h : k + 2 ≤ one.length) : (swapAt one k).length = one.length := by simp [swapAt]; omega
theorem kfold_len {one : List Nat} {rs : List (List Nat)} {L : Nat} (h1 : one.length = L) (h : ∀ r ∈ rs, r.length = L) : ∀ n, n + 1 ≤ L → ∀ r ∈ kfold one rs n, r.length = L
  | 0, _, r, hr => h r hr
  | n + 1, hn, r, hr => by
    rw [kfold_succ] at hr
    unfold kstep at hr
    split at hr
    · rcases List.mem_append.mp hr with q | q
      · exact kfold_len h1 h n (by omega) r q
      · rw [List.mem_singleton.mp q, swapAt_len (by omega), h1]
    · exact kfold_len h1 h n (by omega) r hr
theorem kfold_le (one : List Nat) (rs : List (List Nat)) : ∀ n, (kfold one rs n).length ≤ rs.length + n
  | 0 => by simp [kfold]
  | n + 1 => by
    have := kfold_le one rs n
    rw [kfold_succ]
    unfold kstep
    split
    · rw [List.length_append, List.length_singleton]; omega
    · omega
theorem riter_len {run : List Nat} (h : run.length = 6) : ∀ j, ∀ r ∈ riter run j, r.length = 6
  | 0, r, hr => by rw [List.mem_singleton.mp hr]; exact h
  | j + 1, r, hr => by
    have ih := riter_len h j
    unfold riter rturn at hr
    cases hg : (riter run j)[j]? with
    | none =>
      have e : (riter run j).getD j [] = [] := by simp [List.getD, hg]
      rw [e] at hr
      exact ih r hr
    | some one =>
      have e : (riter run j).getD j [] = one := by simp [List.getD, hg]
      rw [e] at hr
      have h1 := ih one (List.mem_of_getElem? hg)
      rw [h1] at hr
      exact kfold_len h1 ih 5 (by decide) r hr
theorem riter_le {run : List Nat} (h : run.length = 6) : ∀ j, (riter run j).length ≤ 1 + 5 * j
  | 0 => by simp [riter]
  | j + 1 => by
    have ih := riter_le h j
    have hl := riter_len h j
    unfold riter rturn
    have h5 : ((riter run j).getD j []).length - 1 ≤ 5 := by
      cases hg : (riter run j)[j]? with
      | none =>
        have e : (riter run j).getD j [] = [] := by simp [List.getD, hg]
        rw [e]; decide
      | some one =>
        have e : (riter run j).getD j [] = one := by simp [List.getD, hg]
        rw [e, hl one (List.mem_of_getElem? hg)]; decide
    have := kfold_le ((riter run j).getD j []) (riter run j) (((riter run j).getD j []).length - 1)
    omega
theorem sED : Str.ofString "ED" = tx [69, 68] := by decide +kernel
theorem sDE : Str.ofString "DE" = tx [68, 69] := by decide +kernel
section
local macro_rules | `(tactic| walk_at "exec While Compare cons nil") => `(tactic| refine stop_of ?_)
local macro_rules | `(tactic| walk_at "call builtin:len") => `(tactic| ((with_reducible show wpAny _ _ (call (Value.builtin "len") [Value.ref _]) _ _ _); refine' my_llen (lo := listOf _ _) ?N ?m ?c ?d ?k ?_; (case N => k_asm); (case m => k_mem); (case c => exact rfl); (case d => exact ⟨_, rfl⟩); (case k => assumption)))
local macro_rules | `(tactic| walk_at "subscriptTail Name Name ref int") => `(tactic| (refine' my_litem (lo := listOf _ _) ?N ?m ?c ?d ?a ?b ?x ?_; (case N => k_asm); (case m => k_mem); (case c => exact rfl); (case d => exact ⟨_, rfl⟩); (case a => omega); (case b => omega); (case x => assumption)))
local macro_rules | `(tactic| walk_at "subscriptTail Name Slice str ref") => `(tactic| (dsimp only; first | (apply my_smidX (s := ⟨_, _, _, _, _⟩) (by omega) (by omega) (by omega) (by omega) (by assumption) (by k_asm) (by k_asm); intro h9 t9 k9 F9 N9; dsimp only) | (apply my_sfrom (s := ⟨_, _, _, _, _⟩) (by omega) (by omega) (by omega) (by k_asm) (by k_asm); intro h9 t9 k9 F9 N9 hz9; dsimp only) | (apply my_sto (s := ⟨_, _, _, _, _⟩) (by omega) (by omega) (by omega) (by k_asm) (by k_asm); intro h9 t9 k9 F9 N9; dsimp only)))
local macro_rules | `(tactic| walk_at "binaryOp Add str str") => `(tactic| (refine' my_add ?a ?b ?c ?_; (case a => first | exact rfl | exact sED); (case b => first | exact rfl | exact sED); (case c => simp only [List.length_append, List.length_take, List.length_drop, List.length_cons, List.length_nil]; omega); intro t9 k9))
local macro_rules | `(tactic| walk_at "compareOp NotIn str ref") => `(tactic| (refine' my_notinl (lo := listOf _ _) ?N ?m ?c ?d ?v ?_; (case N => k_asm); (case m => k_mem); (case c => exact rfl); (case d => exact ⟨_, rfl⟩); (case v => assumption)))
theorem runs_spec (w : World) (mean : ExcName → Option Value) (mg mb : Str → Option Value) (LL : List Str) (news : List (Addr × Obj)) (run : List Nat) (N : Nat) (t : Tok) :
    Ctr w mean mg mb LL 76 1 8 news (run.length = 6 ∧ RunsOk run N) [.str (tx run) t] (fun v nx => ∃ l vs e, v = .ref l ∧ nx = (l, listOf vs.toArray e) :: news ∧ (∀ p ∈ news, p.1 < l) ∧ StrsAre vs ((riter run N).map tx)) := by
  unfold Ctr
  k_fill
  intro dp un gd cn cs a ccd cl outer A₀ base h₀ L m s Q E hB hF hK hN hT hk hpre hdp hu hret
  obtain ⟨h6, hN1, hN2, hN3⟩ := hpre
  refine wpAny_call ?_
  k_dflt cell_enter
  k_steps
  unfold Stop
  (rename Fr _ _ _ _ => wF)
  (rename News _ _ _ _ => wN)
  (rename (∀ p ∈ news, p.1 < _) => hl1)
  rename_i l' _ _ _
  refine' ksw_while (σ := (List Value × List (List Nat) × Nat) × (Nat × Nat)) (fun c => (l', listOf c.1.1.toArray c.1.2.2) :: news) (fun c => [(Str.ofString "done", .int (c.2.1 : Int) c.2.2)]) (fun _ => True) [Str.ofString "one", Str.ofString "k", Str.ofString "changed"] (fun c => StrsAre c.1.1 (c.1.2.1.map tx) ∧ c.1.2.1 = riter run c.2.1 ∧ c.2.1 ≤ N) (fun c => N - c.2.1) (([.str (tx run) t], [run], 0), (0, _)) wF wN trivial (List.forall_mem_cons.mpr ⟨by with_unfolding_all rfl, List.forall_mem_nil _⟩) ⟨.cons _ _ .nil, rfl, Nat.zero_le _⟩ ?turn
  case turn =>
    rintro ⟨⟨vs, rs, e⟩, d, t1⟩ u h tk _ ⟨hia, hrs, hdN⟩ F₁ N₁
    dsimp only at hia hrs hdN F₁ N₁
    clear wF wN
    have hvl : vs.length = rs.length := by rw [StrsAre.len hia, List.length_map]
    have hrl : rs.length ≤ 600 := by rw [hrs]; have := riter_le h6 d; omega
    have hvk : vs.length < 1000000 := by omega
    have hoff : ∀ p ∈ news, p.1 ≠ l' := fun p hp => Nat.ne_of_lt (hl1 p hp)
    by_cases hd : d < N
    · have hdv : d < vs.length := by rw [hvl, hrs]; exact hN3 d hd
      have hdz : (d : Int) < (vs.length : Int) := by omega
      have hdr : d < rs.length := by omega
      obtain ⟨one, hone⟩ : ∃ one, rs[d]? = some one := ⟨rs[d], by simp [hdr]⟩
      have hlen := riter_len h6 d
      have honem : one ∈ riter run d := by rw [← hrs]; exact List.mem_of_getElem? hone
      have h6o := hlen _ honem
      have hnext : riter run (d + 1) = kfold one rs 5 := by
        show rturn (riter run d) d = _
        unfold rturn
        have e0 : (riter run d).getD d [] = one := by rw [← hrs]; simp [List.getD, hone]
        rw [e0, h6o, ← hrs]
      obtain ⟨tk1, hx0⟩ := StrsAre.at hia (i := d) (y := tx one) (by rw [List.getElem?_map, hone]; rfl)
      have hx : vs[(d : Int).toNat]? = some (.str (tx one) tk1) := by rw [Int.toNat_natCast]; exact hx0
      have hol : one.length ≤ 1000 := by omega
      have hol2 : (tx one).length ≤ 1000 := by rw [tx_len]; omega
      have h6o' := Hide.mk h6o
      clear h6o hx0
      (try k_fold)
      k_steps
      unfold Stop
      (rename Fr _ _ _ _ => wF)
      (rename News _ _ _ _ => wN)
      (rename IsRange _ _ _ _ _ _ _ _ => wR)
      refine' its_range (σ := List Value × List (List Nat) × Nat) (fun c => (l', listOf c.1.toArray c.2.2) :: news) (fun c => []) [Str.ofString "changed"] (fun i c => StrsAre c.1 (c.2.1.map tx) ∧ c.2.1 = kfold one rs i) (vs, rs, e) 5 rfl wR ?sm ?sz wF wN (List.forall_mem_nil _) ⟨hia, rfl⟩ ?turn2 ?done2
      case sm => exact small_of (n := 5) (by rw [tx_len, h6o'.out]; rfl) (by decide) (by decide) (by decide)
      case sz => exact size_of (by rw [tx_len, h6o'.out]; rfl)
      case turn2 =>
        rintro ⟨vs2, rs2, e2⟩ i t u2 h2 tk2 own I hi ⟨hia2, hrs2⟩ hof hI F₂ N₂
        dsimp only at hia2 hrs2 F₂ N₂
        rw [Int.zero_add] at F₂
        simp only [List.cons_append] at N₂
        have hoff2 : ∀ p ∈ news ++ own, p.1 ≠ l' := by
          intro p hp
          rcases List.mem_append.mp hp with hp | hp
          · exact hoff p hp
          · exact hof p hp l' (.head _)
        have h6e := h6o'.out
        have hiK : (i : Int) + 2 ≤ (one.length : Int) := by omega
        have hz2 : vs2.length ≤ 1000 := by
          have := kfold_le one rs i
          rw [StrsAre.len hia2, List.length_map, hrs2]; omega
        have hC : one.take (i : Int).toNat ++ [69, 68] ++ one.drop ((i : Int) + 2).toNat = swapAt one i := by
          have e3 : ((i : Int) + 2).toNat = i + 2 := by omega
          rw [e3, Int.toNat_natCast]; rfl
        have hXX : (one.drop (i : Int).toNat).take ((i : Int) + 2 - (i : Int)).toNat = (one.drop i).take 2 := by
          have e3 : ((i : Int) + 2 - (i : Int)).toNat = 2 := by omega
          rw [e3, Int.toNat_natCast]
        have hnx : kfold one rs (i + 1) = kstep one rs2 i := by rw [kfold_succ, hrs2]
        unfold kstep at hnx
        generalize (one.drop i).take 2 = X at hXX hnx
        clear wF wN wR h6e
        by_cases hA : X = [68, 69]
        · subst hA
          have hA' : (tx [68, 69] == Str.ofString "DE") = true := by decide +kernel
          (try k_fold)
          k_steps
          all_goals (
            (rename Fr _ _ _ _ => wF)
            (rename News _ _ _ _ => wN)
            (rename (List.any _ _ = _) => ha)
            rw [any_tx, hC] at ha)
          all_goals first
            | (rw [hC] at wN
               rw [if_pos ⟨rfl, of_decide_eq_false ha⟩] at hnx
               refine' endL (vs2 ++ [_], rs2 ++ [swapAt one i], e2 + 1) wF wN ?l1 ?l2 (offI hof hI) (List.forall_mem_nil _) ?l5 ⟨?l3, hnx.symm⟩
               case l1 =>
                 intro p hp
                 rcases List.mem_cons.mp hp with rfl | hp
                 · exact List.Mem.head _
                 · exact .tail _ (List.mem_append.mpr (.inl hp))
               case l2 => exact fun p hp => .tail _ (List.mem_append.mpr (.inr hp))
               case l5 =>
                 intro z h1 h2 h3
                 simp only [List.not_mem_nil, false_implies, implies_true, List.contains_cons, List.contains_nil, Bool.or_false, beq_eq_false_iff_ne, ne_eq] at h1 h2 h3
                 simp [kstB, h1, h3]
               case l3 =>
                 dsimp only
                 rw [List.map_append]
                 exact StrsAre.snoc hia2 _ _)
            | (rw [if_neg (fun h => h.2 (of_decide_eq_true ha))] at hnx
               refine' endL (vs2, rs2, e2) wF wN ?l1 ?l2 (offI hof hI) (List.forall_mem_nil _) ?l5 ⟨hia2, hnx.symm⟩
               case l1 =>
                 intro p hp
                 rcases List.mem_cons.mp hp with rfl | hp
                 · exact List.Mem.head _
                 · exact .tail _ (List.mem_append.mpr (.inl hp))
               case l2 => exact fun p hp => .tail _ (List.mem_append.mpr (.inr hp))
               case l5 =>
                 intro z h1 h2 h3
                 simp only [List.not_mem_nil, false_implies, implies_true, List.contains_cons, List.contains_nil, Bool.or_false, beq_eq_false_iff_ne, ne_eq] at h1 h2 h3
                 simp [kstB, h1, h3])
        · have hA' : (tx X == Str.ofString "DE") = false := by
            have e9 : Str.ofString "DE" = tx [68, 69] := by decide +kernel
            rw [e9, beq_eq_false_iff_ne, Ne, tx_inj]; exact hA
          rw [if_neg (fun h => hA h.1)] at hnx
          (try k_fold)
          k_steps
          (rename Fr _ _ _ _ => wF)
          (rename News _ _ _ _ => wN)
          refine' endL (vs2, rs2, e2) wF wN ?l1 ?l2 (offI hof hI) (List.forall_mem_nil _) ?l5 ⟨hia2, hnx.symm⟩
          case l1 =>
            intro p hp
            rcases List.mem_cons.mp hp with rfl | hp
            · exact List.Mem.head _
            · exact .tail _ (List.mem_append.mpr (.inl hp))
          case l2 => exact fun p hp => .tail _ (List.mem_append.mpr (.inr hp))
          case l5 =>
            intro z h1 h2 h3
            simp only [List.not_mem_nil, false_implies, implies_true, List.contains_cons, List.contains_nil, Bool.or_false, beq_eq_false_iff_ne, ne_eq] at h1 h2 h3
            simp [kstB, h1, h3]
      case done2 =>
        rintro ⟨vs2, rs2, e2⟩ u2 h2 tk2 ⟨hia2, hrs2⟩ F₂ N₂
        dsimp only at hia2 hrs2 F₂ N₂
        clear wF wN wR
        (try k_fold)
        k_steps
        (rename Fr _ _ _ _ => wF)
        (rename News _ _ _ _ => wN)
        rw [← hnext] at hrs2
        refine' ksw_end ((vs2, rs2, e2), (d + 1, _)) wF wN ?q1 trivial ?q2 ?q3 ⟨hia2, hrs2, hd⟩ ?q4
        case q1 => exact fun p hp => hp
        case q2 => exact List.forall_mem_cons.mpr ⟨by with_unfolding_all rfl, List.forall_mem_nil _⟩
        case q3 =>
          intro z h1 h2
          simp only [List.forall_mem_cons, List.not_mem_nil, false_implies, implies_true, and_true, ne_eq, List.contains_cons, List.contains_nil, Bool.or_false, Bool.or_eq_false_iff, beq_eq_false_iff_ne] at h1 h2
          simp [kstB, h1, h2]
        case q4 => dsimp only; omega
    · have hde : d = N := by omega
      have hdv : ¬ (d : Int) < (vs.length : Int) := by rw [hvl, hrs, hde, hN2]; omega
      (try k_fold)
      k_steps
      (rename Fr _ _ _ _ => wF)
      (rename News _ _ _ _ => wN)
      (rename StrsAre _ _ => hia)
      subst hde hrs
      exact hret _ _ _ _ wF wN ⟨l', vs, e, rfl, rfl, hl1, hia⟩
end
end Mine
end

end

section
open PySem PySem.W PySem.Spec PySem.Calls PyProof.Rows
set_option maxRecDepth 100000
set_option maxHeartbeats 8000000
namespace Mine
section
variable {prog : Program} {w : World} {A : Around} {E : Value → Shared → Prop} {s : Shared} {env : Env} {h₀ : Heap} {x : Str} {px : Pos} {body : List Stmt} {Q : Flow → Shared → Prop}
/-- what a turn must leave, the target in a cell -/
def EndT {σ : Type} (h₀ : Heap) (L I : Addr) (s : Shared) (own : List (Addr × Obj)) (Led : σ → List (Addr × Obj)) (ps : σ → List (Str × Value)) (stored : List Str) (m₀ : Str → Option Value) (Inv : σ → Prop) (s₂ : Shared) : Prop :=
  ∃ (c : σ) (h' : Heap) (tk : Nat) (m' : Str → Option Value) (news' : List (Addr × Obj)), s₂ = { s with heap := h', toks := tk } ∧ Fr h₀ L h' m' ∧ News h₀ L h' news' ∧ (∀ p ∈ Led c, p ∈ news') ∧ (∀ p ∈ own, p ∈ news') ∧ (∀ p ∈ Led c, p.1 ≠ I) ∧
    (∀ p ∈ ps c, m' p.1 = some p.2) ∧ (∀ z, (∀ p ∈ ps c, z ≠ p.1) → stored.contains z = false → m' z = m₀ z) ∧ Inv c
def PostT {σ : Type} (h₀ : Heap) (L I : Addr) (s : Shared) (own : List (Addr × Obj)) (Led : σ → List (Addr × Obj)) (ps : σ → List (Str × Value)) (stored : List Str) (m₀ : Str → Option Value) (Inv : σ → Prop) (f : Flow) (s₂ : Shared) : Prop :=
  match f with
  | .next => EndT h₀ L I s own Led ps stored m₀ Inv s₂
  | _ => False
theorem kst_same {stored : List Str} {ps : List (Str × Value)} {m₀ m₁ : Str → Option Value} (h1 : ∀ p ∈ ps, m₁ p.1 = some p.2) (h2 : ∀ z, (∀ p ∈ ps, z ≠ p.1) → stored.contains z = false → m₁ z = m₀ z) : kstB (fun z => if stored.contains z then m₁ z else m₀ z) ps = m₁ := by
  funext y
  refine kstB_eq h1 fun hn => ?_
  show (if stored.contains y = true then m₁ y else m₀ y) = m₁ y
  cases h3 : stored.contains y with
  | true => rfl
  | false => exact (h2 y hn h3).symm

theorem loopT {σ : Type} {I : Addr} {fp : List Addr} {n : Nat} {P : Nat → Value → Prop} {St : Nat → Heap → Prop} {m₀ : Str → Option Value} (Led : σ → List (Addr × Obj)) (ps : σ → List (Str × Value)) (stored : List Str) (Inv : Nat → σ → Prop) (c₀ : σ)
    (W : Walks prog w A I fp [I] n P St) (hfp : ∀ b ∈ fp, b ≠ I → (∃ o, h₀.get? b = some o) ∨ ∃ o, ∀ c, (b, o) ∈ Led c) (hlive : ∀ i h, St i h → ∃ o, h.get? I = some o) (hLf : env.locals ∉ fp) (hI : h₀.get? I = none)
    (hst : St 0 s.heap) (F : Fr h₀ env.locals s.heap m₀) (N : News h₀ env.locals s.heap (Led c₀)) (hnI : ∀ p ∈ Led c₀, p.1 ≠ I) (hk : ∀ p ∈ ps c₀, m₀ p.1 = some p.2) (h0 : Inv 0 c₀)
    (turn : ∀ (c : σ) i v (u : Str → Option Value) (s₁ : Shared) own, i < n → P i v → Inv i c → OwnOff own ((Led c).map (·.1)) → (∃ o, (I, o) ∈ own) →
      Fr h₀ env.locals s₁.heap (kstB (fun z => if stored.contains z then u z else m₀ z) (ps c)) → News h₀ env.locals s₁.heap (Led c ++ own) →
      wpAny (model prog w) A (assign (.Name x px) env v) (fun _ s₃ => wpAny (model prog w) A (execs body env) (PostT h₀ env.locals I s₁ own Led ps stored m₀ (Inv (i + 1))) E s₃) E s₁)
    (done : ∀ (c : σ) (u : Str → Option Value) h tk, Inv n c → Fr h₀ env.locals h (kstB (fun z => if stored.contains z then u z else m₀ z) (ps c)) → News h₀ env.locals h (Led c) → Q .next { s with heap := h, toks := tk }) :
    LoopAtT prog w A h₀ env (.Name x px) body Q E (.ref I) s := by
  refine ⟨I, fp, [I], n, P, St, m₀, Led c₀, fun i m nx => ∃ c, nx = Led c ∧ (∀ p ∈ ps c, m p.1 = some p.2) ∧ (∀ z, (∀ p ∈ ps c, z ≠ p.1) → stored.contains z = false → m z = m₀ z) ∧ Inv i c, rfl, W, hLf, ?_, ?_, hst, F, N, fun _ _ _ _ _ h => by unfold letOwnedTupleGo; exact wpAny_pure h, ⟨c₀, rfl, hk, fun _ _ _ => rfl, h0⟩, ?_, ?_⟩
  · intro b hb
    rw [List.mem_singleton.mp hb]; exact hI
  · intro p hp hb
    exact hnI p hp (List.mem_singleton.mp hb)
  · rintro i v m₁ nx s₁ own hi hP ⟨c, rfl, h1, h2, hInv⟩ hoff hown hget hall hst₁ F₁ N₁
    obtain ⟨oI, hoI⟩ := hlive _ _ hst₁
    have hIo : (I, oI) ∈ own := hall I (W.sub I (.head _)) hI oI hoI
    have hmem : ∀ p ∈ own.filter fun p => decide (p.1 = I), p.1 = I := fun p hp => by simpa using (List.mem_filter.mp hp).2
    have hsep : OwnOff (own.filter fun p => decide (p.1 = I)) ((Led c).map (·.1)) := by
      intro p hp b hb e
      obtain ⟨q, hq, rfl⟩ := List.mem_map.mp hb
      exact hoff q hq (List.mem_singleton.mpr (e ▸ hmem p hp))
    rw [← kst_same h1 h2] at F₁
    have N₂ : News h₀ env.locals s₁.heap (Led c ++ own.filter fun p => decide (p.1 = I)) := fun p hp => N₁ p ((List.mem_append.mp hp).elim (fun q => List.mem_append.mpr (.inr q)) fun q => List.mem_append.mpr (.inl (List.mem_filter.mp q).1))
    refine wpAny_mono (turn c i v m₁ s₁ _ hi hP hInv hsep ⟨oI, List.mem_filter.mpr ⟨hIo, by simp⟩⟩ F₁ N₂) (fun _ s₃ q => wpAny_mono q (fun f s₂ p => ?_) fun _ _ e => e) fun _ _ e => e
    cases f with
    | ret v => exact p.elim
    | brk => exact p.elim
    | cont => exact p.elim
    | next =>
      obtain ⟨c', h', tk', m', news', e, F', N', hn, ho, hnI', g1, g2, g3⟩ := p
      refine ⟨rfl, h', tk', m', Led c', e, F', fun p hp => ?_, fun p hp hq => hnI' p hp (List.mem_singleton.mp hq), c', rfl, g1, g2, g3⟩
      rcases List.mem_append.mp hp with q | q
      · by_cases hI' : p.1 = I
        · exact N' p (ho p (List.mem_filter.mpr ⟨q, by simpa using hI'⟩))
        · rcases hfp p.1 (hown p q) hI' with ⟨o, ho'⟩ | ⟨o, hmemo⟩
          · exact absurd (N₁ p (List.mem_append.mpr (.inl q))).2.2 (by rw [ho']; exact nofun)
          · have e1 := (N₁ p (List.mem_append.mpr (.inl q))).1
            have e2 := (N₁ _ (List.mem_append.mpr (.inr (hmemo c)))).1
            have e3 : p.2 = o := by
              have : some p.2 = some o := e1.symm.trans e2
              exact Option.some.inj this
            have e4 : p = (p.1, o) := Prod.ext rfl e3
            rw [e4]
            exact N' _ (hn _ (hmemo c'))
      · exact N' p (hn p q)
  · rintro h' tk m' nx F' N' hoff ⟨c, rfl, h1, h2, hInv⟩
    refine done c m' h' tk hInv ?_ N'
    rw [kst_same h1 h2]; exact F'

theorem its_rangeT {σ : Type} {r : Addr} {a b : Int} {t₀ u₀ v₀ : Tok} {m₀ : Str → Option Value} (Led : σ → List (Addr × Obj)) (ps : σ → List (Str × Value)) (stored : List Str) (Inv : Nat → σ → Prop) (c₀ : σ) (n : Nat)
    (hh : A.handled = none) (hr : IsRange s.heap r a b 1 t₀ u₀ v₀) (hsmall : Builtin.Range.small a b 1 = true) (hn : Builtin.Range.rangeSize a b 1 = (n : Int))
    (F : Fr h₀ env.locals s.heap m₀) (N : News h₀ env.locals s.heap (Led c₀)) (hk : ∀ p ∈ ps c₀, m₀ p.1 = some p.2) (h0 : Inv 0 c₀)
    (turn : ∀ (c : σ) (i : Nat) (t : Tok) (u : Str → Option Value) (s₁ : Shared) own I, i < n → Inv i c → OwnOff own ((Led c).map (·.1)) → (∃ o, (I, o) ∈ own) →
      Fr h₀ env.locals s₁.heap (kstB (fun z => if stored.contains z then u z else m₀ z) (ps c)) → News h₀ env.locals s₁.heap (Led c ++ own) →
      wpAny (model prog w) A (assign (.Name x px) env (.int (a + (i : Int)) t)) (fun _ s₃ => wpAny (model prog w) A (execs body env) (PostT h₀ env.locals I s₁ own Led ps stored m₀ (Inv (i + 1))) E s₃) E s₁)
    (done : ∀ (c : σ) (u : Str → Option Value) h tk, Inv n c → Fr h₀ env.locals h (kstB (fun z => if stored.contains z then u z else m₀ z) (ps c)) → News h₀ env.locals h (Led c) → Q .next { s with heap := h, toks := tk }) :
    wpAny (model prog w) A (pyIter (.ref r)) (fun it s₂ => LoopAtT prog w A h₀ env (.Name x px) body Q E it s₂) E s := by
  refine wpAny_pyIter_range hr hsmall ?_
  have hne : env.locals ≠ s.heap.objs.size := Nat.ne_of_lt F.ns.lt
  refine loopT Led ps stored Inv c₀ (Walks.range hh s.heap.objs.size a 1 n) (fun b hb hne => absurd (List.mem_singleton.mp hb) hne) (fun i h hs => ⟨_, hs⟩) (fun hm => hne (List.mem_singleton.mp hm)) (next_is_new F)
    (by show IsRangeIter _ _ _ _ _; rw [hn]; simpa using Heap.get?_push_size _ rfl) (F.push _) (fun p hp => ⟨Heap.get?_push_of_some _ (N p hp).1, (N p hp).2⟩) (fun p hp e => ?_) hk h0 ?_ ?_
  · exact absurd (Heap.lt_size (N p hp).1) (e ▸ Nat.lt_irrefl _)
  · rintro c i v u s₁ own hi ⟨t, rfl⟩ hInv ho hI F₁ N₁
    rw [Int.mul_one]
    exact turn c i t u s₁ own _ hi hInv ho hI F₁ N₁
  · exact done
theorem endT {σ : Type} {L I : Addr} {own news' : List (Addr × Obj)} {Led : σ → List (Addr × Obj)} {ps : σ → List (Str × Value)} {stored : List Str} {m₀ m' : Str → Option Value} {Inv : σ → Prop} {h' : Heap} {tk : Nat} (c : σ)
    (F : Fr h₀ L h' m') (N : News h₀ L h' news') (hn : ∀ p ∈ Led c, p ∈ news') (ho : ∀ p ∈ own, p ∈ news') (hI : ∀ p ∈ Led c, p.1 ≠ I) (hk : ∀ p ∈ ps c, m' p.1 = some p.2) (hr : ∀ z, (∀ p ∈ ps c, z ≠ p.1) → stored.contains z = false → m' z = m₀ z) (hInv : Inv c) :
    EndT h₀ L I s own Led ps stored m₀ Inv { s with heap := h', toks := tk } := ⟨c, h', tk, m', news', rfl, F, N, hn, ho, hI, hk, hr, hInv⟩
end
end Mine
end

section
open PySem PySem.W PySem.Spec PySem.Calls PyProof.Rows PyProof.Rows.LCg
set_option maxRecDepth 100000
set_option maxHeartbeats 8000000
namespace Mine
section
variable {prog : Program} {w : World} {A : Around} {E : Value → Shared → Prop} {s : Shared} {h₀ : Heap} {L : Addr} {m : Str → Option Value} {env : Env}
theorem compEnd_mono {I C D : Addr} {s₁ s₂ : Shared} {oI oC oD : Obj} {S : List (Addr × Obj) → Prop} {r r' : Value → List (Addr × Obj) → Prop} {y : Value} (hr : ∀ nx, r y nx → r' y nx) (h : CompEnd h₀ L m s₁ I oI C oC D oD S r y s₂) : CompEnd h₀ L m s₁ I oI C oC D oD S r' y s₂ := by
  obtain ⟨h', tk, nx, e, F, N, o, hS, hh⟩ := h
  exact ⟨h', tk, nx, e, F, N, o, hS, hr _ hh⟩
theorem restT_inv {ct elt : Expr} {x : Str} {scope : Scope} {cl : List (Str × Addr)} {S : List (Addr × Obj) → Prop} {P : Nat → Value → Prop} {Fin : List Value → List (Addr × Obj) → Prop} {n : Nat} (Inv : Nat → List Value → List (Addr × Obj) → Prop)
    (step : ∀ i ys news v I oI C oC D m₂ h tk (E' : Value → Shared → Prop), i < n → Inv i ys news → P i v → NsObj oC m₂ → m₂ x = some v → Fr h₀ L h m → News h₀ L h ((I, oI) :: (C, oC) :: (D, lst ys) :: news) → Off3 I C D news → ((@Ne Nat I C) ∧ (@Ne Nat I D) ∧ (@Ne Nat C D)) →
      wpAny (model prog w) A (isTrue ct (compEnvC scope cl C env) (eval ct (compEnvC scope cl C env))) (fun ok s' => if ok = true then
        wpAny (model prog w) A (eval elt (compEnvC scope cl C env)) (CompEnd h₀ L m { s with heap := h, toks := tk } I oI C oC D (lst ys) S (fun y nx => Inv (i + 1) (ys ++ [y]) nx)) E' s'
        else CompEnd h₀ L m { s with heap := h, toks := tk } I oI C oC D (lst ys) S (fun _ nx => Inv (i + 1) ys nx) Value.none s') E' { s with heap := h, toks := tk })
    (fin : ∀ ys news, Inv n ys news → Fin ys news) : ∀ k i ys news, i + k = n → Inv i ys news → LCt.CompRestT prog w A h₀ L m env ct elt x scope cl s S P Fin k i ys news
  | 0, i, ys, news, e, h => by
    have : i = n := by omega
    subst this
    exact LCt.CompRestT.zero (fin _ _ h)
  | k + 1, i, ys, news, e, h => by
    refine LCt.CompRestT.succ fun v I oI C oC D m₂ g tk E' hP hC hx F N o ne => ?_
    refine wpAny_mono (step i ys news v I oI C oC D m₂ g tk E' (by omega) h hP hC hx F N o ne) (fun ok s' q => ?_) fun _ _ e => e
    cases ok with
    | true =>
      simp only [if_true] at q ⊢
      exact wpAny_mono q (fun y s'' q' => compEnd_mono (fun nx hn => restT_inv Inv step fin k (i + 1) _ nx (by omega) hn) q') fun _ _ e => e
    | false =>
      simp only [Bool.false_eq_true, if_false] at q ⊢
      exact compEnd_mono (fun nx hn => restT_inv Inv step fin k (i + 1) _ nx (by omega) hn) q
theorem rest_inv {elt : Expr} {x : Str} {scope : Scope} {cl : List (Str × Addr)} {S : List (Addr × Obj) → Prop} {P : Nat → Value → Prop} {Fin : List Value → List (Addr × Obj) → Prop} {n : Nat} (Inv : Nat → List Value → List (Addr × Obj) → Prop)
    (step : ∀ i ys news v I oI C oC D m₂ h tk (E' : Value → Shared → Prop), i < n → Inv i ys news → P i v → NsObj oC m₂ → m₂ x = some v → Fr h₀ L h m → News h₀ L h ((I, oI) :: (C, oC) :: (D, lst ys) :: news) → Off3 I C D news → ((@Ne Nat I C) ∧ (@Ne Nat I D) ∧ (@Ne Nat C D)) →
      wpAny (model prog w) A (eval elt (compEnvC scope cl C env)) (CompEnd h₀ L m { s with heap := h, toks := tk } I oI C oC D (lst ys) S (fun y nx => Inv (i + 1) (ys ++ [y]) nx)) E' { s with heap := h, toks := tk })
    (fin : ∀ ys news, Inv n ys news → Fin ys news) : ∀ k i ys news, i + k = n → Inv i ys news → LCg.CompRest prog w A h₀ L m env elt x scope cl s S P Fin k i ys news
  | 0, i, ys, news, e, h => by
    have : i = n := by omega
    subst this
    exact LCg.CompRest.zero (fin _ _ h)
  | k + 1, i, ys, news, e, h => by
    refine LCg.CompRest.succ fun v I oI C oC D m₂ g tk E' hP hC hx F N o ne => ?_
    exact wpAny_mono (step i ys news v I oI C oC D m₂ g tk E' (by omega) h hP hC hx F N o ne) (fun y s'' q' => compEnd_mono (fun nx hn => rest_inv Inv step fin k (i + 1) _ nx (by omega) hn) q') fun _ _ e => e
end
theorem min_nat {k : Int} {n : Nat} (h0 : 0 ≤ k) : max 0 (min k (n : Int)) = ((min k.toNat n : Nat) : Int) := by
  obtain ⟨j, rfl⟩ := Int.eq_ofNat_of_zero_le h0
  rw [Int.toNat_natCast]
  rcases Nat.le_total j n with h | h
  · rw [Int.min_eq_left (Int.ofNat_le.mpr h), Nat.min_eq_left h, Int.max_eq_right h0]
  · rw [Int.min_eq_right (Int.ofNat_le.mpr h), Nat.min_eq_right h, Int.max_eq_right (Int.natCast_nonneg n)]
theorem bounds_to {k : Int} {n : Nat} (h0 : 0 ≤ k) : sliceBounds none (some k) none n = (((0 : Nat) : Int), ((min k.toNat n : Nat) : Int), 1) := by
  simp only [sliceBounds, Option.getD_none, show (1 : Int) > 0 by decide, if_true, if_neg (Int.not_lt.mpr h0)]
  congr 1
  congr 1
  exact min_nat h0
theorem bounds_from {k : Int} {n : Nat} (h0 : 0 ≤ k) : sliceBounds (some k) none none n = (((min k.toNat n : Nat) : Int), ((n : Nat) : Int), 1) := by
  simp only [sliceBounds, Option.getD_none, show (1 : Int) > 0 by decide, if_true, if_neg (Int.not_lt.mpr h0)]
  congr 1
  exact min_nat h0
section
variable {prog : Program} {w : World} {A : Around} {E : Value → Shared → Prop} {s : Shared} {value slice : PySem.Expr} {h₀ : Heap} {L l : Addr} {m : Str → Option Value} {news : List (Addr × Obj)} {lo : Obj} {vs : List Value} {Q : Value → Shared → Prop}
theorem my_lfrom {k : Int} {uk : Tok} (F : Fr h₀ L s.heap m) (N : News h₀ L s.heap news) (hm : (l, lo) ∈ news) (hc : lo.cls = .type "list") (hd : ∃ e, lo.data = .seq vs.toArray e) (h0 : 0 ≤ k) (hz : vs.length ≤ 1000000)
    (h : ∀ D h', Fr h₀ L h' m → News h₀ L h' ((D, listOf (vs.drop k.toNat).toArray 0) :: news) → (∀ p ∈ news, p.1 < D) → Q (.ref D) { s with heap := h' })
    (hs : subscripted slice false (.ref l) (.ref s.heap.objs.size) = operate [.ref s.heap.objs.size, .ref l] (getItem (.ref l) (.ref s.heap.objs.size)) := by with_unfolding_all rfl)
    (ht : ∀ r, letTemporaryGo value (.ref l) r = pure () := by intro _; with_unfolding_all rfl) :
    wpAny (model prog w) A (subscriptTail value slice (.ref l) (.ref s.heap.objs.size)) Q E { s with heap := s.heap.push { cls := .type "slice", data := .fields #[.int k uk, .none, .none] } } := by
  obtain ⟨e, hd⟩ := hd
  have hl : s.heap.IsList l vs.toArray := ⟨_, (N _ hm).1, hc, e, hd⟩
  refine kmk_slice_lit F N hl (.int k uk) .none ?_ h hs ht (by rw [List.size_toArray, sizeLine_eq]; omega)
  rw [kmk_pick_nat _ (bounds_from h0)]
  show (vs.drop _).take _ = _
  rw [List.size_toArray, kmk_drop_min, List.take_of_length_le (by rw [List.length_drop]; omega)]
theorem my_lto {k : Int} {uk : Tok} (F : Fr h₀ L s.heap m) (N : News h₀ L s.heap news) (hm : (l, lo) ∈ news) (hc : lo.cls = .type "list") (hd : ∃ e, lo.data = .seq vs.toArray e) (h0 : 0 ≤ k) (hz : vs.length ≤ 1000000)
    (h : ∀ D h', Fr h₀ L h' m → News h₀ L h' ((D, listOf (vs.take k.toNat).toArray 0) :: news) → (∀ p ∈ news, p.1 < D) → Q (.ref D) { s with heap := h' })
    (hs : subscripted slice false (.ref l) (.ref s.heap.objs.size) = operate [.ref s.heap.objs.size, .ref l] (getItem (.ref l) (.ref s.heap.objs.size)) := by with_unfolding_all rfl)
    (ht : ∀ r, letTemporaryGo value (.ref l) r = pure () := by intro _; with_unfolding_all rfl) :
    wpAny (model prog w) A (subscriptTail value slice (.ref l) (.ref s.heap.objs.size)) Q E { s with heap := s.heap.push { cls := .type "slice", data := .fields #[.none, .int k uk, .none] } } := by
  obtain ⟨e, hd⟩ := hd
  have hl : s.heap.IsList l vs.toArray := ⟨_, (N _ hm).1, hc, e, hd⟩
  refine kmk_slice_lit F N hl .none (.int k uk) ?_ h hs ht (by rw [List.size_toArray, sizeLine_eq]; omega)
  rw [kmk_pick_nat _ (bounds_to h0)]
  show (vs.drop 0).take _ = _
  rw [List.drop_zero, Nat.sub_zero, List.size_toArray, kmk_take_min]
end
end Mine
end

section
open Mine
local macro_rules | `(tactic| walk_at "eval ListComp") => `(tactic| refine stop_of ?_)
local macro_rules | `(tactic| walk_at "inplaceOp Mult") => `(tactic| (dsimp only; refine' imul_int ?h ?m; (case m => exact IntMulOk.of_right (intBits_le_64 (by omega) (by omega)))))

section
open PySem PySem.W PySem.Spec PySem.Calls PyProof.Rows PyProof.Rows.LCg
set_option maxRecDepth 100000
set_option maxHeartbeats 8000000
namespace Mine
def hookRow (p : Int) (rest : List Int) (acc : Int) (n : Nat) : Int := (List.range n).foldl (fun (a : Int) (j : Nat) => a * (p - (j : Int) + ((rest.filter fun q => decide ((j : Int) < q)).length : Int))) acc
def hooksFrom : Int → List Int → Int
  | a, [] => a
  | a, p :: r => hooksFrom (hookRow p r a p.toNat) r
section
local macro_rules | `(tactic| walk_at "subscriptTail Name Name ref int") => `(tactic| (refine' my_litem ?N ?m ?c ?d ?a ?b ?x ?_; (case N => k_asm); (case m => first | assumption | exact List.Mem.tail _ (by assumption) | exact List.Mem.tail _ (List.mem_append_left _ (by assumption)) | exact List.Mem.tail _ (List.Mem.tail _ (List.Mem.tail _ (List.mem_append_left _ (List.mem_append_left _ (by assumption)))))); (case c => assumption); (case d => assumption); (case a => omega); (case b => omega); (case x => assumption)))
local macro_rules | `(tactic| walk_at "subscriptTail Name Slice ref ref") => `(tactic| (dsimp only; refine' my_lfrom (s := ⟨_, _, _, _, _⟩) ?F ?N ?m ?c ?d ?a ?z ?_; (case F => k_asm); (case N => k_asm); (case m => first | assumption | exact List.Mem.tail _ (by assumption) | exact List.Mem.tail _ (List.mem_append_left _ (List.mem_append_left _ (by assumption)))); (case c => assumption); (case d => assumption); (case a => omega); (case z => omega); intro D9 h9 F9 N9 l9; dsimp only))
local macro_rules | `(tactic| walk_at "call builtin:len") => `(tactic| ((with_reducible show wpAny _ _ (call (Value.builtin "len") [Value.ref _]) _ _ _); refine' my_llen ?N ?m ?c ?d ?k ?_; (case N => k_asm); (case m => first | assumption | exact List.Mem.head _ | exact List.Mem.tail _ (by assumption)); (case c => first | assumption | exact rfl); (case d => first | assumption | exact ⟨_, rfl⟩); (case k => assumption)))
theorem hooks_spec (w : World) (mean : ExcName → Option Value) (mg mb : Str → Option Value) (LL : List Str) (news : List (Addr × Obj)) (l : Addr) (lo : Obj) (vs : List Value) (ns : List Int) :
    Ctr w mean mg mb LL 88 1 8 news ((l, lo) ∈ news ∧ lo.cls = .type "list" ∧ (∃ e, lo.data = .seq vs.toArray e) ∧ IntsAre vs ns ∧ ns.length ≤ 7 ∧ ∀ t ∈ ns, 0 ≤ t ∧ t ≤ 6) [.ref l] (fun v nx => (∃ t', v = .int (hooksFrom 1 ns) t') ∧ nx = news) := by
  unfold Ctr
  k_fill
  intro dp un gd cn cs a ccd cl outer A₀ base h₀ L m s Q E hB hF hK hN hT hk hpre hdp hu hret
  obtain ⟨hm, hlc, hld, hia, hlen, hts⟩ := hpre
  have hvl : vs.length = ns.length := hia.length
  have hvk : vs.length < 1000000 := by omega
  refine wpAny_call ?_
  k_dflt (refine' code_defC ?k1 ?k2 ?k3 ?k4 ?k5 ?kA ?kF ?kK ?k6 ?k7 ?k8 ?k9 ?kB ?kD ?_ ?c2 ?c3 ?c4; (case kA => exact rfl); (case kF => exact rfl); (case kK => assumption); (case k1 => k_asm); (case k2 => k_asm); (case k3 => k_asm); (case k4 => k_asm); (case k5 => k_asm); (case k6 => k_is); (case k7 => k_is); (case k8 => ktr_room); (case k9 => exact BindsTo.of_eq rfl); (case kB => exact rfl); (case kD => decide +kernel); (case c2 => exact rfl); (case c3 => exact rfl); (case c4 => exact rfl); k_whole; intro g' L' h' tk' cells' FG' F' N' Y' B' X' T' l1; (try k_lt l1); k_cells Y'; (try simp only [List.cons_append, List.nil_append] at N'); (try dsimp only); (try k_lift B'); (try k_fold))
  (rename (_ = Data.cell _) => d1)
  rename_i o0
  have d0 : ∃ v, o0.data = .cell v := ⟨_, d1⟩
  clear d1
  k_steps
  unfold Stop
  (rename Fr _ _ _ _ => wF)
  (rename News _ _ _ _ => wN)
  (rename IsRange _ _ _ _ _ _ _ _ => wR)
  (rename IntsAre _ _ => hia)
  refine' its_range (σ := Obj × Int × Nat) (fun c => (L' + 1, c.1) :: news) (fun c => [(Str.ofString "product", .int c.2.1 c.2.2)]) [Str.ofString "below"] (fun i c => (∃ v, c.1.data = .cell v) ∧ hooksFrom c.2.1 (ns.drop i) = hooksFrom 1 ns) (o0, 1, _) ns.length rfl wR ?sm ?sz wF wN (List.forall_mem_cons.mpr ⟨by with_unfolding_all rfl, List.forall_mem_nil _⟩) ⟨d0, rfl⟩ ?turn ?done
  case sm => exact small_of (n := ns.length) (by omega) (by decide) (by decide) (by omega)
  case sz => exact size_of (by omega)
  case turn =>
    rintro ⟨oc, acc, t1⟩ i t u h tk own I hi ⟨hoc, hacc⟩ hoff hI F₁ N₁
    dsimp only at hoc hacc F₁ N₁
    rw [Int.zero_add] at F₁
    simp only [List.cons_append] at N₁
    have hiL : i < ns.length := hi
    obtain ⟨tk0, hx⟩ := hia.get i ns[i] (by simp [hiL])
    have hdr : ns.drop i = ns[i] :: ns.drop (i + 1) := List.drop_eq_getElem_cons hi
    have hz := hts _ (List.getElem_mem hiL)
    generalize ns[i] = y at hx hdr hz
    have hz2 := Hide.mk hz
    clear wF wN wR hz
    (try k_fold)
    k_steps
    refine For_invTF F₁ ?_ (by intro _; rfl)
    k_steps
    unfold Stop
    (rename Fr _ _ _ _ => wF)
    (rename News _ _ _ _ => wN)
    (rename IsRange _ _ _ _ _ _ _ _ => wR)
    have hl2 : ∀ p ∈ news, p.1 ≠ L' + 1 := fun p hp => Nat.ne_of_lt (Nat.lt_succ_of_lt (l1 p hp))
    have hoff1 : ∀ p ∈ news ++ own, p.1 ≠ L' + 1 := by
      intro p hp
      rcases List.mem_append.mp hp with hp | hp
      · exact hl2 p hp
      · exact hoff p hp _ (.head _)
    refine' its_rangeT (σ := Obj × Int × Nat) (fun c => (L' + 1, c.1) :: (news ++ own)) (fun c => [(Str.ofString "product", .int c.2.1 c.2.2)]) [Str.ofString "below"] (fun j c => (∃ v, c.1.data = .cell v) ∧ c.2.1 = hookRow y (ns.drop (i + 1)) acc j) (oc, acc, t1) y.toNat rfl wR ?sm2 ?sz2 wF wN (List.forall_mem_cons.mpr ⟨by with_unfolding_all rfl, List.forall_mem_nil _⟩) ⟨hoc, rfl⟩ ?turn2 ?done2
    case sm2 => exact small_of (n := y.toNat) (by have := hz2.out; omega) (by decide) (by decide) (by have := hz2.out; omega)
    case sz2 => exact size_of (by have := hz2.out; omega)
    case turn2 =>
      rintro ⟨oc2, acc2, t2⟩ j tj u2 s1 own2 I2 hj ⟨hoc2, hacc2⟩ hof2 hI2 F₂ N₂
      dsimp only at hoc2 hacc2 F₂ N₂
      rw [Int.zero_add]
      simp only [List.cons_append] at N₂
      obtain ⟨v2, hv2⟩ := hoc2
      have hoff2 : ∀ p ∈ news ++ own ++ own2, p.1 ≠ L' + 1 := by
        intro p hp
        rcases List.mem_append.mp hp with hp | hp
        · exact hoff1 p hp
        · exact hof2 p hp _ (.head _)
      clear wF wN wR
      (try k_fold)
      k_steps
      unfold Stop
      refine LCt.ListComp_T (F₀ := by k_asm) (by with_unfolding_all rfl) (by decide) (by rfl) (by decide) (by rfl) ?_
      (repeat (first | walk1 | (dsimp only; walk1)))
      rename_i hA oA _ _ dA DD hD FD ND lD
      refine LCt.CompSrcT.ledger (by rfl) FD ND (List.Mem.head _) (by rw [List.size_toArray, List.length_drop, sizeLine_eq]; omega) ?_
      intro gg
      have hia2 := hia.drop ((i : Int) + 1).toNat
      refine' restT_inv (fun k ys nx => nx = (DD, listOf (vs.drop ((i : Int) + 1).toNat).toArray 0) :: (L' + 1, oA) :: (news ++ own ++ own2) ∧ IntsAre ys (((ns.drop ((i : Int) + 1).toNat).take k).filter fun q => decide ((j : Int) < q))) ?step ?fin (vs.drop ((i : Int) + 1).toNat).toArray.size 0 [] _ (Nat.zero_add _) ⟨rfl, .nil⟩
      case step =>
        rintro k ys nx v I3 oI3 C3 oC3 D3 m3 h3 tk3 E3 hk3 ⟨rfl, hys⟩ hP3 hC3 hx3 F3 N3 off3 ne3
        rw [List.size_toArray, hia2.length] at hk3
        obtain ⟨q, hq⟩ : ∃ q, (ns.drop ((i : Int) + 1).toNat)[k]? = some q := ⟨_, List.getElem?_eq_getElem hk3⟩
        obtain ⟨tq, hv3⟩ := hia2.get k q hq
        rw [List.getElem?_toArray, hv3] at hP3
        cases hP3
        have htk : (ns.drop ((i : Int) + 1).toNat).take (k + 1) = (ns.drop ((i : Int) + 1).toNat).take k ++ [q] := by rw [List.take_add_one, hq]; rfl
        clear F₂ N₂ FD ND
        (try k_fold)
        k_steps
        · (rename (j : Int) < q => ha)
          refine CompEnd.intro F3 N3 _ (fun p hp => hp) off3 (Or.inr ⟨_, List.Mem.head _, rfl, _, rfl⟩) ⟨rfl, ?_⟩
          rw [htk, List.filter_append, List.filter_cons, if_pos (decide_eq_true ha)]
          exact hys.append (.cons _ _ .nil)
        · (rename ¬ (j : Int) < q => ha)
          refine CompEnd.intro F3 N3 _ (fun p hp => hp) off3 (Or.inr ⟨_, List.Mem.head _, rfl, _, rfl⟩) ⟨rfl, ?_⟩
          rw [htk, List.filter_append, List.filter_cons, if_neg (by rw [decide_eq_false ha]; decide), List.filter_nil, List.append_nil]
          exact hys
      case fin =>
        rintro ys nx ⟨rfl, hys⟩
        rw [List.size_toArray, hia2.length, List.take_length] at hys
        have hyl := hys.length
        have hfl : (List.filter (fun q => decide ((j : Int) < q)) (ns.drop ((i : Int) + 1).toNat)).length ≤ 7 := by
          have := List.length_filter_le (fun q => decide ((j : Int) < q)) (ns.drop ((i : Int) + 1).toNat)
          rw [List.length_drop] at this
          omega
        have hyk : ys.length < 1000000 := by omega
        have hz3 := hz2.out
        intro Dn hn tn Fn Nn on
        clear FD ND
        (try k_fold)
        k_steps
        (rename Fr _ _ _ _ => wF)
        (rename News _ _ _ _ => wN)
        show EndT _ _ _ _ _ _ _ _ _ _ _
        refine' endT (σ := Obj × Int × Nat) (oA, acc2 * (y - (j : Int) + _), _) wF wN ?l1 ?l2 (offI hof2 hI2) (List.forall_mem_cons.mpr ⟨by with_unfolding_all rfl, List.forall_mem_nil _⟩) ?l5 ⟨⟨_, dA⟩, ?l6⟩
        case l1 =>
          intro p hp
          rcases List.mem_cons.mp hp with rfl | hp
          · exact .tail _ (.tail _ (List.Mem.head _))
          · exact .tail _ (.tail _ (.tail _ (List.mem_append.mpr (.inl hp))))
        case l2 => exact fun p hp => .tail _ (.tail _ (.tail _ (List.mem_append.mpr (.inr hp))))
        case l5 =>
          intro z h1 h3
          simp only [List.forall_mem_cons, List.not_mem_nil, false_implies, implies_true, and_true, List.contains_cons, List.contains_nil, Bool.or_false, beq_eq_false_iff_ne, ne_eq] at h1 h3
          simp [kstB, h1, h3]
        case l6 =>
          dsimp only
          rw [hacc2]
          show _ = (List.range (j + 1)).foldl _ _
          rw [List.range_succ, List.foldl_append]
          rfl
    case done2 =>
      rintro ⟨oc2, acc2, t2⟩ u2 h2 tk2 ⟨hoc2, hacc2⟩ F₂ N₂
      dsimp only at hoc2 hacc2 F₂ N₂
      clear wF wN wR
      (try k_fold)
      k_steps
      (rename Fr _ _ _ _ => wF)
      (rename News _ _ _ _ => wN)
      refine' endL (oc2, acc2, t2) wF wN ?l1 ?l2 (offI hoff hI) (List.forall_mem_cons.mpr ⟨by with_unfolding_all rfl, List.forall_mem_nil _⟩) ?l5 ⟨hoc2, ?l6⟩
      case l1 =>
        intro p hp
        rcases List.mem_cons.mp hp with rfl | hp
        · exact List.Mem.head _
        · exact .tail _ (List.mem_append.mpr (.inl hp))
      case l2 => exact fun p hp => .tail _ (List.mem_append.mpr (.inr hp))
      case l5 =>
        intro z h1 h2 h3
        simp only [List.forall_mem_cons, List.not_mem_nil, false_implies, implies_true, and_true, List.contains_cons, List.contains_nil, Bool.or_false, beq_eq_false_iff_ne, ne_eq] at h1 h2 h3
        simp [kstB, h1, h2, h3]
      case l6 =>
        dsimp only
        rw [hacc2, ← hacc, hdr]; rfl
  case done =>
    rintro ⟨oc, acc, t1⟩ u h tk ⟨hoc, hacc⟩ F₁ N₁
    dsimp only at hoc hacc F₁ N₁
    clear wF wN wR
    rw [List.drop_length] at hacc
    (try k_fold)
    k_steps
    (rename Fr _ _ _ _ => wF)
    (rename News _ _ _ _ => wN)
    exact hret _ news _ _ wF (fun p hp => wN p (.tail _ hp)) ⟨⟨_, congrArg (fun z => Value.int z _) hacc⟩, rfl⟩
end
end Mine
end

section
open PySem PySem.W PySem.Spec PySem.Calls PyProof.Rows
set_option maxRecDepth 100000
set_option maxHeartbeats 8000000
namespace Mine
section
variable {prog : Program} {w : World} {A : Around} {E : Value → Shared → Prop} {s : Shared} {env : Env} {h₀ : Heap} {x : Str} {body : List Stmt} {Q : Flow → Shared → Prop}
theorem its_dict {σ : Type} {d : Addr} {od : Obj} {kvs : List (Str × Value)} {m₀ : Str → Option Value} (Led : σ → List (Addr × Obj)) (ps : σ → List (Str × Value)) (stored : List Str) (Inv : Nat → σ → Prop) (c₀ : σ)
    (hh : A.handled = none) (ho : od.IsDictOf (strKind prog w) kvs) (hks : (d == sysModules) = false) (hl : ∀ c, (d, od) ∈ Led c)
    (F : Fr h₀ env.locals s.heap m₀) (N : News h₀ env.locals s.heap (Led c₀)) (hk : ∀ p ∈ ps c₀, m₀ p.1 = some p.2) (h0 : Inv 0 c₀)
    (turn : ∀ (c : σ) (i : Nat) (k : Str) (v : Value) (t : Tok) (u : Str → Option Value) h tk own I, kvs[i]? = some (k, v) → Inv i c → OwnOff own ((Led c).map (·.1)) → (∃ o, (I, o) ∈ own) →
      Fr h₀ env.locals h (fun y => if y = x then some (.str k t) else kstB (fun z => if stored.contains z then u z else m₀ z) (ps c) y) → News h₀ env.locals h (Led c ++ own) →
      wpAny (model prog w) A (execs body env) (PostL h₀ env.locals I { s with heap := h, toks := tk } x own Led ps stored m₀ (Inv (i + 1)) Q) E { s with heap := h, toks := tk })
    (done : ∀ (c : σ) (u : Str → Option Value) h tk, Inv kvs.length c → Fr h₀ env.locals h (fun y => if y = x then u y else kstB (fun z => if stored.contains z then u z else m₀ z) (ps c) y) → News h₀ env.locals h (Led c) → Q .next { s with heap := h, toks := tk }) :
    wpAny (model prog w) A (pyIter (.ref d)) (fun it s₂ => LoopAtV prog w A h₀ env x body Q E it s₂) E s := by
  have hol := (N _ (hl c₀)).1
  obtain ⟨es, ep, hex, hdat, hkeys, hpairs, hnd⟩ := ho
  have hda : s.heap.DictAt (strKind prog w) d kvs ep := ⟨od, es, hol, hex, hdat, hkeys, hpairs, hnd⟩
  refine wpAny_pyIter_dict hks hda ?_
  have hne : env.locals ≠ s.heap.objs.size := Nat.ne_of_lt F.ns.lt
  have hlI : d ≠ s.heap.objs.size := Nat.ne_of_lt (Heap.lt_size hol)
  refine loopG Led ps stored Inv c₀ (Walks.dictKeys hh s.heap.objs.size d hlI kvs ep) (fun b hb hne => .inr ⟨od, fun c => ?_⟩) (fun i h hs => ?_) (fun hm => ?_) (next_is_new F)
    ⟨⟨_, Heap.get?_push_size _ rfl, rfl, rfl⟩, hda.at' fun o e => Heap.get?_push_of_some _ e⟩ (F.push _) (fun p hp => ⟨Heap.get?_push_of_some _ (N p hp).1, (N p hp).2⟩) (fun p hp e => ?_) hk h0 ?_ ?_
  · rcases List.mem_cons.mp hb with q | q
    · exact absurd q hne
    · rw [List.mem_singleton.mp q]; exact hl c
  · obtain ⟨o, ho, _⟩ := hs.1; exact ⟨o, ho⟩
  · rcases List.mem_cons.mp hm with q | q
    · exact hne q
    · exact (N _ (hl c₀)).2.1 (List.mem_singleton.mp q).symm
  · exact absurd (Heap.lt_size (N p hp).1) (e ▸ Nat.lt_irrefl _)
  · rintro c i v u h tk own hi ⟨k, x', hx, hv⟩ hInv ho hI F₁ N₁
    obtain ⟨t, rfl⟩ : ∃ t, v = .str k t := Value.isStrOf_shape hv
    exact turn c i k x' t u h tk own _ hx hInv ho hI F₁ N₁
  · intro c u h tk hInv F' N'
    exact done c u h tk hInv F' N'
end
section
variable {prog : Program} {w : World} {A : Around} {E : Value → Shared → Prop} {s : Shared} {h₀ : Heap} {L : Addr} {m : Str → Option Value} {news : List (Addr × Obj)}
/-- the ledger when the object at d is another one -/
def upd (d : Addr) (o : Obj) (news : List (Addr × Obj)) : List (Addr × Obj) := (d, o) :: news.filter fun q => decide (q.1 ≠ d)
theorem upd_self {d : Addr} {o : Obj} : (d, o) ∈ upd d o news := .head _
theorem upd_other {d : Addr} {o : Obj} {q : Addr × Obj} (h : q ∈ news) (hne : q.1 ≠ d) : q ∈ upd d o news := .tail _ (List.mem_filter.mpr ⟨h, by simpa using hne⟩)
theorem upd_news {d : Addr} {o o' : Obj} {h' : Heap} (N : News h₀ L s.heap news) (hm : (d, o) ∈ news) (hs : Heap.SameBut d s.heap h') (ho : h'.get? d = some o') : News h₀ L h' (upd d o' news) := by
  intro q hq
  rcases List.mem_cons.mp hq with rfl | hq
  · exact ⟨ho, (N _ hm).2⟩
  · obtain ⟨h1, h2⟩ := List.mem_filter.mp hq
    have h3 : q.1 ≠ d := by simpa using h2
    exact ⟨(hs.2 q.1 h3).trans (N q h1).1, (N q h1).2⟩
theorem l_setM {p : Addr} {po : Obj} {vs : List Value} {k : Int} {t : Tok} {v : Value} {Q : Unit → Shared → Prop} (F : Fr h₀ L s.heap m) (N : News h₀ L s.heap news) (hm : (p, po) ∈ news) (hc : po.cls = .type "list") (hd : ∃ e, po.data = .seq vs.toArray e) (h0 : 0 ≤ k) (hk : k < vs.length) (hz : vs.length ≤ 1000000)
    (h : ∀ h' o', Fr h₀ L h' m → News h₀ L h' (upd p o' news) → o'.cls = .type "list" → (∃ e, o'.data = .seq (vs.set k.toNat v).toArray e) → Q () { s with heap := h' }) : wpAny (model prog w) A (setItem (.ref p) (.int k t) v) Q E s := by
  obtain ⟨e, hd⟩ := hd
  have hl : s.heap.IsList p vs.toArray := ⟨_, (N _ hm).1, hc, e, hd⟩
  refine wpAny_setItem_list hl h0 (by omega) (by rw [List.size_toArray]; exact hk) fun h' hl' hs => ?_
  obtain ⟨o', ho', hc', e', hd'⟩ := hl'
  refine h h' o' (F.change hs (N _ hm).2.1 (N _ hm).2.2) (upd_news N hm hs ho') hc' ⟨e', ?_⟩
  rw [hd']
  simp
theorem l_getI {p : Addr} {po : Obj} {vs : List Value} {k : Int} {t : Tok} {v : Value} {Q : Value → Shared → Prop} (N : News h₀ L s.heap news) (hm : (p, po) ∈ news) (hc : po.cls = .type "list") (hd : ∃ e, po.data = .seq vs.toArray e) (h0 : 0 ≤ k) (hk : k < 1000000) (hx : vs[k.toNat]? = some v) (h : Q v s) : wpAny (model prog w) A (getItem (.ref p) (.int k t)) Q E s := by
  obtain ⟨e, hd⟩ := hd
  have hl : s.heap.IsList p vs.toArray := ⟨_, (N _ hm).1, hc, e, hd⟩
  exact wpAny_getItem_list hl h0 (by omega) (by simpa using hx) h
theorem d_setM {d : Addr} {o : Obj} {kvs : List (Str × Value)} {k : Str} {t : Tok} {v : Value} {Q : Unit → Shared → Prop} (F : Fr h₀ L s.heap m) (N : News h₀ L s.heap news) (hm : (d, o) ∈ news) (ho : o.IsDictOf (strKind prog w) kvs) (hz : kvs.length ≤ 1000000)
    (h : ∀ h' o', Fr h₀ L h' m → News h₀ L h' (upd d o' news) → o'.IsDictOf (strKind prog w) (stored kvs k v) → Q () { s with heap := h', toks := s.toks + 1 }) : wpAny (model prog w) A (setItem (.ref d) (.str k t) v) Q E s := by
  refine wpAny_setItem_pairs (strKind_is _ _ _ _) (dict_of N hm ho) (fun h' hd hs => ?_) (by rw [sizeLine_eq]; omega)
  obtain ⟨o', ho', hd'⟩ := Heap.dictOf_iff.mp hd
  exact h h' o' (F.change hs (N _ hm).2.1 (N _ hm).2.2) (upd_news N hm hs ho') hd'
theorem l_add {a b : Addr} {ao bo : Obj} {vs ws : List Value} {Q : Value → Shared → Prop} (F : Fr h₀ L s.heap m) (N : News h₀ L s.heap news) (ha : (a, ao) ∈ news) (hb : (b, bo) ∈ news) (ha1 : ao.cls = .type "list") (ha2 : ∃ e, ao.data = .seq vs.toArray e) (hb1 : bo.cls = .type "list") (hb2 : ∃ e, bo.data = .seq ws.toArray e) (hz : vs.length + ws.length ≤ 1000000)
    (h : ∀ D h', Fr h₀ L h' m → News h₀ L h' ((D, listOf (vs ++ ws).toArray 0) :: news) → (∀ p ∈ news, p.1 < D) → Q (.ref D) { s with heap := h' }) : wpAny (model prog w) A (binaryOp .Add (.ref a) (.ref b)) Q E s := by
  obtain ⟨e1, ha2⟩ := ha2
  obtain ⟨e2, hb2⟩ := hb2
  have hl : s.heap.IsList a vs.toArray := ⟨_, (N _ ha).1, ha1, e1, ha2⟩
  have hl2 : s.heap.IsList b ws.toArray := ⟨_, (N _ hb).1, hb1, e2, hb2⟩
  exact add_lists F N hl hl2 (fun h' F' N' => h _ h' F' N' fun p hp => Heap.lt_size (N p hp).1) (by rw [sizeLine_eq]; omega)
end
section
variable {prog : Program} {w : World} {A : Around} {E : Value → Shared → Prop} {s : Shared} {h₀ : Heap} {L l : Addr} {m : Str → Option Value} {news : List (Addr × Obj)} {elts : List PySem.Expr} {env : Env} {k : Tok} {pos : Pos} {lo : Obj} {a b : Value}
theorem my_unpack2 {Q : Unit → Shared → Prop} (F : Fr h₀ L s.heap m) (N : News h₀ L s.heap news) (hm : (l, lo) ∈ news) (hc : lo.cls = .type "list") (hd : ∃ e, lo.data = .seq #[a, b] e) (hh : A.handled = none) (hn : (assignEach elts env).length = 2)
    (hstar : (assignEach elts env).findIdx? (·.1) = none) (h : ∀ h', Fr h₀ L h' m → News h₀ L h' news → wpAny (model prog w) A (assignInOrder ((assignEach elts env).map (·.2)) [a, b]) Q E { s with heap := h' }) :
    wpAny (model prog w) A (assign (.Tuple elts k pos) env (.ref l)) Q E s := by
  obtain ⟨e, hd⟩ := hd
  exact kun_list F N ⟨_, (N _ hm).1, hc, e, hd⟩ hh hn hstar h
end
/-- an entry of a level: the pair's place, the list's place -/
structure Ent where
  p : Addr
  po : Obj
  t : Addr
  lo : Obj
  vs : List Value
  ns : List Int
  w : Int
  tk : Tok
def Ent.led (e : Ent) : List (Addr × Obj) := [(e.p, e.po), (e.t, e.lo)]
def ledOf (es : List Ent) : List (Addr × Obj) := es.flatMap Ent.led
def kvsOf (n : Int) (es : List Ent) : List (Str × Value) := es.map fun e => (tx (toldL n e.ns), .ref e.p)
def absOf (es : List Ent) : List (List Int × Int) := es.map fun e => (e.ns, e.w)
structure EntOk (e : Ent) : Prop where
  pc : e.po.cls = .type "list"
  pd : ∃ x, e.po.data = .seq [Value.ref e.t, .int e.w e.tk].toArray x
  lc : e.lo.cls = .type "list"
  ld : ∃ x, e.lo.data = .seq e.vs.toArray x
  ia : IntsAre e.vs e.ns
  len : e.ns.length ≤ 7
  len1 : 1 ≤ e.ns.length
  rng : ∀ t ∈ e.ns, 0 ≤ t ∧ t ≤ 6
theorem ledOf_append (a b : List Ent) : ledOf (a ++ b) = ledOf a ++ ledOf b := List.flatMap_append
theorem mem_led_p {es : List Ent} {e : Ent} (h : e ∈ es) : (e.p, e.po) ∈ ledOf es := List.mem_flatMap.mpr ⟨e, h, .head _⟩
theorem mem_led_t {es : List Ent} {e : Ent} (h : e ∈ es) : (e.t, e.lo) ∈ ledOf es := List.mem_flatMap.mpr ⟨e, h, .tail _ (.head _)⟩
/-- the law's times with one reference fewer at k -/
def fewerL (ns : List Int) (k : Nat) : List Int := ns.take k ++ [ns.getD k 0 - 1] ++ ns.drop (k + 1)
def addW (n : Int) (f : List Int) (w : Int) : List (List Int × Int) → List (List Int × Int)
  | [] => [(f, 0 + w)]
  | (a, v) :: r => if toldL n a = toldL n f then (a, v + w) :: r else (a, v) :: addW n f w r
def lowK (n : Int) (lf : List (List Nat)) (ns : List Int) (w : Int) (acc : List (List Int × Int)) (k : Nat) : List (List Int × Int) :=
  if 0 < ns.getD k 0 ∧ toldL n (fewerL ns k) ∈ lf then addW n (fewerL ns k) w acc else acc
def lowE (n : Int) (lf : List (List Nat)) (acc : List (List Int × Int)) (e : List Int × Int) : List (List Int × Int) := (List.range (e.1.length - 1)).foldl (fun acc j => lowK n lf e.1 e.2 acc (j + 1)) acc
def lowF (n : Int) (lf : List (List Nat)) (level : List (List Int × Int)) : List (List Int × Int) := level.foldl (lowE n lf) []
theorem addW_hit {n : Int} {f : List Int} {w : Int} {a : List Int} {v : Int} {post : List (List Int × Int)} (he : toldL n a = toldL n f) : ∀ {pre : List (List Int × Int)}, (∀ e ∈ pre, toldL n e.1 ≠ toldL n f) → addW n f w (pre ++ (a, v) :: post) = pre ++ (a, v + w) :: post
  | [], _ => by rw [List.nil_append, List.nil_append, addW, if_pos he]
  | (b, u) :: pre, h => by
    rw [List.cons_append, addW, if_neg (h _ (.head _)), addW_hit he fun e he => h e (.tail _ he)]; rfl
theorem addW_miss {n : Int} {f : List Int} {w : Int} : ∀ {l : List (List Int × Int)}, (∀ e ∈ l, toldL n e.1 ≠ toldL n f) → addW n f w l = l ++ [(f, 0 + w)]
  | [], _ => rfl
  | (b, u) :: l, h => by
    rw [addW, if_neg (h _ (.head _)), addW_miss fun e he => h e (.tail _ he)]; rfl
theorem addW_len {n : Int} {f : List Int} {w : Int} : ∀ {l : List (List Int × Int)}, (addW n f w l).length ≤ l.length + 1
  | [] => Nat.le_refl _
  | (b, u) :: l => by
    rw [addW]
    split
    · simp
    · have := addW_len (n := n) (f := f) (w := w) (l := l)
      simp only [List.length_cons]; omega
theorem kvs_none {n : Int} {es : List Ent} {x : List Nat} (h : valueAt (kvsOf n es) (tx x) = none) : ∀ e ∈ es, toldL n e.ns ≠ x := by
  intro e he q
  unfold valueAt at h
  rw [Option.map_eq_none_iff, List.find?_eq_none] at h
  refine h (tx (toldL n e.ns), .ref e.p) (List.mem_map.mpr ⟨e, he, rfl⟩) ?_
  simp [q]
theorem kvs_some {n : Int} {x : List Nat} : ∀ {es : List Ent}, (valueAt (kvsOf n es) (tx x)).isSome = true → ∃ pre e post, es = pre ++ e :: post ∧ toldL n e.ns = x ∧ (∀ a ∈ pre, toldL n a.ns ≠ x) ∧ valueAt (kvsOf n es) (tx x) = some (.ref e.p)
  | [], h => by simp [kvsOf, valueAt] at h
  | e :: es, h => by
    by_cases q : toldL n e.ns = x
    · exact ⟨[], e, es, rfl, q, (fun _ h => by cases h), by simp [kvsOf, valueAt, q]⟩
    · have q2 : ¬ tx (toldL n e.ns) = tx x := by rw [tx_inj]; exact q
      have e1 : valueAt (kvsOf n (e :: es)) (tx x) = valueAt (kvsOf n es) (tx x) := by simp [kvsOf, valueAt, q2]
      rw [e1] at h ⊢
      obtain ⟨pre, a, post, h1, h2, h3, h4⟩ := kvs_some h
      refine ⟨e :: pre, a, post, by rw [h1]; rfl, h2, ?_, h4⟩
      intro b hb
      rcases List.mem_cons.mp hb with rfl | hb
      · exact q
      · exact h3 b hb
theorem kvs_snoc {n : Int} {es : List Ent} {e : Ent} (h : ∀ a ∈ es, toldL n a.ns ≠ toldL n e.ns) : stored (kvsOf n es) (tx (toldL n e.ns)) (.ref e.p) = kvsOf n (es ++ [e]) := by
  rw [stored_absent]
  · simp [kvsOf]
  · unfold valueAt
    rw [Option.map_eq_none_iff, List.find?_eq_none]
    intro kv hkv
    obtain ⟨a, ha, rfl⟩ := List.mem_map.mp hkv
    simp [tx_inj, h a ha]
theorem kvs_same {n : Int} {pre post : List Ent} {e e' : Ent} (h1 : e'.ns = e.ns) (h2 : e'.p = e.p) : kvsOf n (pre ++ e' :: post) = kvsOf n (pre ++ e :: post) := by simp [kvsOf, h1, h2]
theorem my_told {w : World} {mean : ExcName → Option Value} {mg mb : Str → Option Value} {LL : List Str} {news : List (Addr × Obj)} {n : Int} {tn : Tok} {l : Addr} {lo : Obj} {vs : List Value} {ns : List Int} {dp un : Nat} {gd : Option (List Code)} {cn : Str} {cs : Scope} {ad : Addr} {ccd : Value} {cl : List (Str × Addr)} {outer : List Env} {A₀ : Around} {base h₀ : Heap} {L : Addr} {m : Str → Option Value} {s : Shared} {Q E : Value → Shared → Prop}
    (k1 : Below A₀ base outer h₀) (k2 : Fr h₀ L s.heap m) (k3 : (hd.heap_39 w.params).In h₀) (k4 : News h₀ L s.heap news) (k5 : Top hd.view_39 LL mean mg mb h₀) (kK : cs.kind = .function) (kd : dp + 1 < recursionLimit) (ku : un + 8 < cLine)
    (hm : (l, lo) ∈ news) (hc : lo.cls = .type "list") (hd' : ∃ e, lo.data = .seq vs.toArray e) (hi : IntsAre vs ns) (hl : ns.length ≤ 7) (hr : ∀ t ∈ ns, -1 ≤ t ∧ t ≤ 6)
    (h : ∀ t' h' tk', Fr h₀ L h' m → News h₀ L h' news → Q (.str (tx (toldL n ns)) t') { s with heap := h', toks := tk' }) :
    wpAny (model Challenge.rw_wn0027_01.row.prog w) (ktrTop dp un gd cn cs L ad ccd cl outer) (call (.ref 62) [.ref l, .int n tn]) Q E s := by
  refine told_spec w mean mg mb LL news l lo vs ns n tn dp un gd cn cs ad ccd cl outer A₀ base h₀ L m s Q E k1 k2 k3 k4 k5 kK ⟨hm, hc, hd', hi, hl, hr⟩ kd ku ?_
  rintro v nx h' tk' F N ⟨⟨t', rfl⟩, rfl⟩
  exact h t' h' tk' F N
theorem fewer_len {ns : List Int} {k : Nat} (h : k < ns.length) : (fewerL ns k).length = ns.length := by
  unfold fewerL
  simp only [List.length_append, List.length_take, List.length_drop, List.length_singleton]; omega
theorem fewer_rng {ns : List Int} {k : Nat} {b : Int} (hb : ∀ t ∈ ns, 0 ≤ t ∧ t ≤ 6) (hy : b ≤ ns.getD k 0 - 1) (hb0 : b ≤ 0) (hk : k < ns.length) : ∀ t ∈ fewerL ns k, b ≤ t ∧ t ≤ 6 := by
  intro t ht
  unfold fewerL at ht
  rcases List.mem_append.mp ht with ht | ht
  · rcases List.mem_append.mp ht with ht | ht
    · have := hb t (List.mem_of_mem_take ht); omega
    · rw [List.mem_singleton.mp ht]
      refine ⟨hy, ?_⟩
      have e : ns.getD k 0 = ns[k] := by simp [List.getD, hk]
      have := hb _ (List.getElem_mem hk)
      rw [e]; omega
  · have := hb t (List.mem_of_mem_drop ht); omega
theorem fewer_ints {vs : List Value} {ns : List Int} {k : Nat} {y : Int} {t : Tok} (h : IntsAre vs ns) (hy : ns.getD k 0 = y) : IntsAre (vs.take k ++ [Value.int (y - 1) t] ++ vs.drop (k + 1)) (fewerL ns k) := by
  unfold fewerL
  rw [hy]
  exact ((h.take k).append (.cons _ _ .nil)).append (h.drop (k + 1))
def addrs (es : List Ent) : List Addr := es.flatMap fun e => [e.p, e.t]
theorem addr_of_led {es : List Ent} {q : Addr × Obj} (h : q ∈ ledOf es) : q.1 ∈ addrs es := by
  obtain ⟨e, he, hq⟩ := List.mem_flatMap.mp h
  refine List.mem_flatMap.mpr ⟨e, he, ?_⟩
  rcases List.mem_cons.mp hq with rfl | hq
  · exact .head _
  · rw [List.mem_singleton.mp hq]; exact .tail _ (.head _)
structure Apart (dl : Addr) (es : List Ent) (base : List (Addr × Obj)) : Prop where
  nd : (dl :: addrs es).Nodup
  off : ∀ a ∈ dl :: addrs es, ∀ q ∈ base, q.1 ≠ a
theorem led_of_addr {es : List Ent} {a : Addr} (h : a ∈ addrs es) : ∃ q ∈ ledOf es, q.1 = a := by
  obtain ⟨e, he, ha⟩ := List.mem_flatMap.mp h
  rcases List.mem_cons.mp ha with rfl | ha
  · exact ⟨_, mem_led_p he, rfl⟩
  · rw [List.mem_singleton.mp ha]; exact ⟨_, mem_led_t he, rfl⟩
theorem apart_snoc {dl : Addr} {es : List Ent} {base : List (Addr × Obj)} {e : Ent} {od : Obj} (hap : Apart dl es base) (h1 : ∀ q ∈ (dl, od) :: (ledOf es ++ base), q.1 < e.t) (h2 : e.t < e.p) : Apart dl (es ++ [e]) base := by
  have hA : addrs (es ++ [e]) = addrs es ++ [e.p, e.t] := by simp [addrs]
  have hlt : ∀ a ∈ dl :: addrs es, a < e.t := by
    intro a ha
    rcases List.mem_cons.mp ha with rfl | ha
    · exact h1 _ (.head _)
    · obtain ⟨q, hq, rfl⟩ := led_of_addr ha
      exact h1 q (.tail _ (List.mem_append_left _ hq))
  constructor
  · rw [hA, ← List.cons_append, List.nodup_append]
    refine ⟨hap.nd, ?_, ?_⟩
    · rw [List.nodup_cons]
      refine ⟨?_, by simp⟩
      intro hm
      exact absurd (List.mem_singleton.mp hm) (Nat.ne_of_gt h2)
    · intro a ha b hb e1
      have := hlt a ha
      rw [e1] at this
      rcases List.mem_cons.mp hb with hb | hb
      · rw [hb] at this; exact absurd this (Nat.not_lt.mpr (Nat.le_of_lt h2))
      · rw [List.mem_singleton.mp hb] at this; exact absurd this (Nat.lt_irrefl _)
  · intro a ha q hq
    rw [hA, ← List.cons_append] at ha
    have hq1 := h1 q (.tail _ (List.mem_append_right _ hq))
    rcases List.mem_append.mp ha with ha | ha
    · exact hap.off a ha q hq
    · rcases List.mem_cons.mp ha with rfl | ha
      · exact Nat.ne_of_lt (Nat.lt_trans hq1 h2)
      · rw [List.mem_singleton.mp ha]; exact Nat.ne_of_lt hq1
theorem addrs_mid {pre post : List Ent} {e : Ent} : addrs (pre ++ e :: post) = addrs pre ++ e.p :: e.t :: addrs post := by simp [addrs]
theorem apart_mid {dl : Addr} {pre post : List Ent} {e : Ent} {base : List (Addr × Obj)} (hap : Apart dl (pre ++ e :: post) base) : dl ≠ e.p ∧ (∀ a ∈ addrs pre, a ≠ e.p) ∧ e.t ≠ e.p ∧ (∀ a ∈ addrs post, a ≠ e.p) ∧ ∀ q ∈ base, q.1 ≠ e.p := by
  have hnd := hap.nd
  rw [addrs_mid, List.nodup_cons, List.nodup_append] at hnd
  obtain ⟨h1, h2, h3, h4⟩ := hnd
  rw [List.nodup_cons] at h3
  refine ⟨fun h => h1 (List.mem_append_right _ (h ▸ .head _)), fun a ha h => h4 a ha e.p (.head _) h, fun h => h3.1 (h ▸ .head _), fun a ha h => h3.1 (h ▸ .tail _ ha), hap.off e.p ?_⟩
  rw [addrs_mid]
  exact .tail _ (List.mem_append_right _ (.head _))
theorem upd_led {dl : Addr} {odx : Obj} {pre post : List Ent} {e e' : Ent} {base X : List (Addr × Obj)} {o' : Obj} (hap : Apart dl (pre ++ e :: post) base) (hX : ∀ q ∈ (dl, odx) :: (ledOf (pre ++ e :: post) ++ base), q ∈ X) (h1 : e'.p = e.p) (h2 : e'.po = o') (h3 : e'.t = e.t) (h4 : e'.lo = e.lo) :
    ∀ q ∈ (dl, odx) :: (ledOf (pre ++ e' :: post) ++ base), q ∈ upd e.p o' X := by
  obtain ⟨m1, m2, m3, m4, m5⟩ := apart_mid hap
  have hL : ∀ x : Ent, ledOf (pre ++ x :: post) = ledOf pre ++ (x.p, x.po) :: (x.t, x.lo) :: ledOf post := fun x => by simp [ledOf, Ent.led]
  rw [hL] at hX ⊢
  intro q hq
  rcases List.mem_cons.mp hq with rfl | hq
  · exact upd_other (hX _ (.head _)) m1
  · rcases List.mem_append.mp hq with hq | hq
    · rcases List.mem_append.mp hq with hq | hq
      · exact upd_other (hX _ (.tail _ (List.mem_append_left _ (List.mem_append_left _ hq)))) (m2 _ (addr_of_led hq))
      · rcases List.mem_cons.mp hq with rfl | hq
        · rw [h1, h2]; exact upd_self
        · rcases List.mem_cons.mp hq with rfl | hq
          · rw [h3, h4]
            exact upd_other (hX _ (.tail _ (List.mem_append_left _ (List.mem_append_right _ (.tail _ (.head _)))))) m3
          · exact upd_other (hX _ (.tail _ (List.mem_append_left _ (List.mem_append_right _ (.tail _ (.tail _ hq)))))) (m4 _ (addr_of_led hq))
    · exact upd_other (hX _ (.tail _ (List.mem_append_right _ hq))) (m5 q hq)
theorem low_skip {n : Int} {lf : List (List Nat)} {ns : List Int} {w : Int} {acc r : List (List Int × Int)} {j : Nat} (h : r = (List.range j).foldl (fun acc j => lowK n lf ns w acc (j + 1)) acc) (hc : ¬ (0 < ns.getD (j + 1) 0 ∧ toldL n (fewerL ns (j + 1)) ∈ lf)) :
    r = (List.range (j + 1)).foldl (fun acc j => lowK n lf ns w acc (j + 1)) acc := by
  rw [List.range_succ, List.foldl_append, ← h]
  show r = lowK n lf ns w r (j + 1)
  unfold lowK
  rw [if_neg hc]
theorem low_take {n : Int} {lf : List (List Nat)} {ns : List Int} {w : Int} {acc r : List (List Int × Int)} {j : Nat} (h : r = (List.range j).foldl (fun acc j => lowK n lf ns w acc (j + 1)) acc) (hc : 0 < ns.getD (j + 1) 0 ∧ toldL n (fewerL ns (j + 1)) ∈ lf) :
    addW n (fewerL ns (j + 1)) w r = (List.range (j + 1)).foldl (fun acc j => lowK n lf ns w acc (j + 1)) acc := by
  rw [List.range_succ, List.foldl_append, ← h]
  show _ = lowK n lf ns w r (j + 1)
  unfold lowK
  rw [if_pos hc]
theorem abs_mid {pre post : List Ent} {e : Ent} : absOf (pre ++ e :: post) = absOf pre ++ (e.ns, e.w) :: absOf post := by simp [absOf]
theorem abs_key {n : Int} {pre : List Ent} {x : List Nat} (h : ∀ a ∈ pre, toldL n a.ns ≠ x) : ∀ e ∈ absOf pre, toldL n e.1 ≠ x := by
  intro e he
  obtain ⟨a, ha, rfl⟩ := List.mem_map.mp he
  exact h a ha
theorem led_ne {dl : Addr} {od : Obj} {es : List Ent} {base : List (Addr × Obj)} {I : Addr} (h1 : ∀ a ∈ dl :: addrs es, a ≠ I) (h2 : ∀ q ∈ base, q.1 ≠ I) : ∀ p ∈ (dl, od) :: (ledOf es ++ base), p.1 ≠ I := by
  intro p hp
  rcases List.mem_cons.mp hp with rfl | hp
  · exact h1 _ (.head _)
  · rcases List.mem_append.mp hp with hp | hp
    · exact h1 _ (.tail _ (addr_of_led hp))
    · exact h2 p hp
theorem ne_led {dl : Addr} {od : Obj} {es : List Ent} {base : List (Addr × Obj)} {I : Addr} (h : ∀ p ∈ (dl, od) :: (ledOf es ++ base), p.1 ≠ I) : (∀ a ∈ dl :: addrs es, a ≠ I) ∧ ∀ q ∈ base, q.1 ≠ I := by
  refine ⟨fun a ha => ?_, fun q hq => h q (.tail _ (List.mem_append_right _ hq))⟩
  rcases List.mem_cons.mp ha with rfl | ha
  · exact h _ (.head _)
  · obtain ⟨q, hq, rfl⟩ := led_of_addr ha
    exact h q (.tail _ (List.mem_append_left _ hq))
theorem apart_same {dl : Addr} {pre post : List Ent} {e e' : Ent} {base : List (Addr × Obj)} (h : Apart dl (pre ++ e :: post) base) (h1 : e'.p = e.p) (h2 : e'.t = e.t) : Apart dl (pre ++ e' :: post) base := by
  have e : addrs (pre ++ e' :: post) = addrs (pre ++ e :: post) := by rw [addrs_mid, addrs_mid, h1, h2]
  exact ⟨e ▸ h.nd, fun a ha => h.off a (e ▸ ha)⟩
theorem led_ne_mid {dl : Addr} {od od' : Obj} {pre post : List Ent} {e e' : Ent} {base : List (Addr × Obj)} {I : Addr} (h : ∀ p ∈ (dl, od) :: (ledOf (pre ++ e :: post) ++ base), p.1 ≠ I) (h1 : e'.p = e.p) (h2 : e'.t = e.t) : ∀ p ∈ (dl, od') :: (ledOf (pre ++ e' :: post) ++ base), p.1 ≠ I := by
  obtain ⟨a, b⟩ := ne_led h
  refine led_ne ?_ b
  rw [addrs_mid] at a ⊢
  rw [h1, h2]; exact a
theorem ok_mid {pre post : List Ent} {e e' : Ent} (h : ∀ a ∈ pre ++ e :: post, EntOk a) (h' : EntOk e') : ∀ a ∈ pre ++ e' :: post, EntOk a := by
  intro a ha
  rcases List.mem_append.mp ha with ha | ha
  · exact h a (List.mem_append_left _ ha)
  · rcases List.mem_cons.mp ha with rfl | ha
    · exact h'
    · exact h a (List.mem_append_right _ (.tail _ ha))
end Mine
end

section
open Mine
local macro_rules | `(tactic| walk_at "call ref") => `(tactic| refine stop_of ?_)
local macro_rules | `(tactic| walk_at "binaryOp Add ref ref") => `(tactic| (refine' l_add ?F ?N ?a ?b ?a1 ?a2 ?b1 ?b2 ?z ?_; (case F => k_asm); (case N => k_asm); (case a => kcf_m); (case b => kcf_m); (case a1 => exact rfl); (case a2 => exact ⟨_, rfl⟩); (case b1 => exact rfl); (case b2 => exact ⟨_, rfl⟩); (case z => simp only [List.length_append, List.length_take, List.length_drop, List.length_cons, List.length_nil]; omega); intro D9 h9 F9 N9 l9))
local macro_rules | `(tactic| walk_at "subscriptTail Name Name ref str") => `(tactic| (refine' d_get ?N ?m ?o ?v ?_; (case N => k_asm); (case m => kcf_m); (case o => assumption); (case v => assumption)))

section
open PySem PySem.W PySem.Spec PySem.Calls PyProof.Rows PyProof.Rows.LCg
set_option maxRecDepth 100000
set_option maxHeartbeats 8000000
namespace Mine
theorem kvs_at {n : Int} {es : List Ent} {i : Nat} {k : Str} {v : Value} (h : (kvsOf n es)[i]? = some (k, v)) : ∃ e, es[i]? = some e ∧ k = tx (toldL n e.ns) ∧ v = .ref e.p := by
  unfold kvsOf at h
  rw [List.getElem?_map, Option.map_eq_some_iff] at h
  obtain ⟨e, he, hq⟩ := h
  cases hq
  exact ⟨e, he, rfl, rfl⟩
theorem For_invVF {prog : Program} {w : World} {A : Around} {s : Shared} {env : Env} {h₀ : Heap} {E : Value → Shared → Prop} {Q : Flow → Shared → Prop} {x : Str} {px pos : Pos} {iter : Expr} {body : List Stmt} {m : Str → Option Value} (_F : Fr h₀ env.locals s.heap m) (hx : env.kindOf x = some .local)
    (hp : (env.scope.kind == .class || (env.scope.kind == .module && env.locals != env.globals)) = false)
    (h : wpAny (model prog w) A (eval iter env) (fun xv s₁ => wpAny (model prog w) A (pyIter xv) (fun it s₂ => LoopAtV prog w A h₀ env x body Q E it s₂) E s₁) E s)
    (hs : ∀ x, foldedSetIterable iter env x = pure x := by intro _; rfl)
    (hE : PassesOwn (model prog w) A env E := by passes_own) :
    wpAny (model prog w) A (exec (.For (.Name x px) iter body [] pos) env) Q E s := For_invV h₀ hx hp h hs hE
section
local macro_rules | `(tactic| walk_at "subscriptTail Name Name ref int") => `(tactic| (refine' my_litem ?N ?m ?c ?d ?a ?b ?x ?_; (case N => k_asm); (case m => kcf_m); (case c => assumption); (case d => assumption); (case a => omega); (case b => omega); (case x => first | assumption | exact rfl)))
local macro_rules | `(tactic| walk_at "subscriptTail Name Slice ref ref") => `(tactic| (dsimp only; first | (refine' my_lfrom (s := ⟨_, _, _, _, _⟩) ?F ?N ?m ?c ?d ?a ?z ?_; (case F => k_asm); (case N => k_asm); (case m => kcf_m); (case c => assumption); (case d => assumption); (case a => omega); (case z => omega); intro D9 h9 F9 N9 l9; dsimp only) | (refine' my_lto (s := ⟨_, _, _, _, _⟩) ?F ?N ?m ?c ?d ?a ?z ?_; (case F => k_asm); (case N => k_asm); (case m => kcf_m); (case c => assumption); (case d => assumption); (case a => omega); (case z => omega); intro D9 h9 F9 N9 l9; dsimp only)))
local macro_rules | `(tactic| walk_at "setItem ref str") => `(tactic| refine stop_of ?_)
local macro_rules | `(tactic| walk_at "setItem ref int") => `(tactic| refine stop_of ?_)
local macro_rules | `(tactic| walk_at "compareOp In str ref") => `(tactic| (refine' my_inl ?N ?m ?c ?d ?v ?_; (case N => k_asm); (case m => kcf_m); (case c => assumption); (case d => assumption); (case v => assumption)))
local macro_rules | `(tactic| walk_at "compareOp NotIn str ref") => `(tactic| (refine' d_notin ?N ?m ?o ?s ?_; (case N => k_asm); (case m => kcf_m); (case o => assumption); (case s => assumption)))
local macro_rules | `(tactic| walk_at "getItem ref int") => `(tactic| (refine' l_getI ?N ?m ?c ?d ?a ?b ?x ?_; (case N => k_asm); (case m => kcf_m); (case c => assumption); (case d => assumption); (case a => decide); (case b => decide); (case x => exact rfl)))
local macro_rules | `(tactic| walk_at "assign Tuple") => `(tactic| (refine' my_unpack2 ?F ?N ?m ?c ?d ?hh ?hn ?hs ?_; (case F => k_asm); (case N => k_asm); (case m => kcf_m); (case c => assumption); (case d => assumption); (case hh => exact rfl); (case hn => exact rfl); (case hs => exact rfl); intro h9 F9 N9))
local macro_rules | `(tactic| walk_at "call builtin:len") => `(tactic| ((with_reducible show wpAny _ _ (call (Value.builtin "len") [Value.ref _]) _ _ _); refine' my_llen ?N ?m ?c ?d ?k ?_; (case N => k_asm); (case m => kcf_m); (case c => assumption); (case d => assumption); (case k => assumption)))
theorem lower_spec (w : World) (mean : ExcName → Option Value) (mg mb : Str → Option Value) (LL : List Str) (news : List (Addr × Obj)) (n : Int) (tn : Tok) (lf : List (List Nat)) (dv : Addr) (ov : Obj) (es0 : List Ent) (ll : Addr) (lol : Obj) (vl : List Value) :
    Ctr w mean mg mb LL 83 2 20 news ((dv, ov) ∈ news ∧ (dv == sysModules) = false ∧ ov.IsDictOf (strKind Challenge.rw_wn0027_01.row.prog w) (kvsOf n es0) ∧ (∀ q ∈ ledOf es0, q ∈ news) ∧ (∀ e ∈ es0, EntOk e) ∧ es0.length ≤ 1000 ∧ (ll, lol) ∈ news ∧ lol.cls = .type "list" ∧ (∃ e, lol.data = .seq vl.toArray e) ∧ StrsAre vl (lf.map tx))
      [.ref dv, .ref ll, .int n tn]
      (fun v nx => ∃ dl od es, v = .ref dl ∧ nx = (dl, od) :: (ledOf es ++ news) ∧ (dl == sysModules) = false ∧ od.IsDictOf (strKind Challenge.rw_wn0027_01.row.prog w) (kvsOf n es) ∧ (∀ e ∈ es, EntOk e) ∧ Apart dl es news ∧ absOf es = lowF n lf (absOf es0)) := by
  unfold Ctr
  k_fill
  intro dp un gd cn cs a ccd cl outer A₀ base h₀ L m s Q E hB hF hK hN hT hk hpre hdp hu hret
  obtain ⟨hm1, hks, hov, hled, hok, hlen, hm2, hlc, hld, hsa⟩ := hpre
  refine wpAny_call ?_
  k_dflt cell_enter
  k_steps
  rename_i dl _ od hl1 hlo hod _ _ _ _ _ _
  (rename Fr _ _ _ _ => wF)
  refine For_invVF wF (by rfl) (by rfl) ?_
  k_steps
  unfold Stop
  (rename Fr _ _ _ _ => wF)
  (rename News _ _ _ _ => wN)
  refine' its_dict (σ := Obj × List Ent) (fun c => (dl, c.1) :: (ledOf c.2 ++ news)) (fun _ => []) [Str.ofString "times", Str.ofString "ways", Str.ofString "k", Str.ofString "fewer", Str.ofString "told"]
    (fun i c => c.1.IsDictOf (strKind Challenge.rw_wn0027_01.row.prog w) (kvsOf n c.2) ∧ (∀ e ∈ c.2, EntOk e) ∧ Apart dl c.2 news ∧ absOf c.2 = ((absOf es0).take i).foldl (lowE n lf) [] ∧ c.2.length ≤ 7 * i) (od, []) rfl hov hks (fun c => .tail _ (List.mem_append_right _ hm1)) wF wN (List.forall_mem_nil _) ⟨hod, (fun _ h => nomatch h), ⟨by simp [addrs], fun a ha q hq => ?ap⟩, rfl, Nat.le_refl _⟩ ?turn ?done
  case ap =>
    have e : a = dl := by simpa [addrs] using ha
    rw [e]; exact Nat.ne_of_lt (hl1 q hq)
  case turn =>
    rintro ⟨od2, es⟩ i k v tk u h tkh own I hi ⟨hd2, hok2, hap, habs, hel⟩ hoff hI F₁ N₁
    dsimp only at hd2 hok2 hap habs hel F₁ N₁
    obtain ⟨e0, he0, rfl, rfl⟩ := kvs_at hi
    have hv0 := valueAt_of_get (by obtain ⟨_, _, _, _, _, _, hnd⟩ := hov; exact hnd) hi
    have hi0 : i < es0.length := (List.getElem?_eq_some_iff.mp he0).1
    have he0m : e0 ∈ es0 := List.mem_of_getElem? he0
    have hep := hled _ (mem_led_p he0m)
    have het := hled _ (mem_led_t he0m)
    obtain ⟨hpc, hpd, htc, htd, hia, h7, _, hrg⟩ := hok e0 he0m
    have h71 := (hok e0 he0m).len1
    have hvl : e0.vs.length = e0.ns.length := hia.length
    have hvk : e0.vs.length < 1000000 := by omega
    simp only [List.cons_append] at N₁
    clear wF wN
    (try k_fold)
    k_steps
    unfold Stop
    (rename Fr _ _ _ _ => wF)
    (rename News _ _ _ _ => wN)
    (rename IsRange _ _ _ _ _ _ _ _ => wR)
    (rename IntsAre _ _ => hia)
    have hap2 : Apart dl es (news ++ own) := ⟨hap.nd, fun a ha q hq => by
      rcases List.mem_append.mp hq with hq | hq
      · exact hap.off a ha q hq
      · refine hoff q hq a ?_
        rcases List.mem_cons.mp ha with rfl | ha
        · exact .head _
        · refine .tail _ (List.mem_map.mpr ?_)
          obtain ⟨e, he, ha⟩ := List.mem_flatMap.mp ha
          rcases List.mem_cons.mp ha with rfl | ha
          · exact ⟨_, List.mem_append_left _ (mem_led_p he), rfl⟩
          · rw [List.mem_singleton.mp ha]
            exact ⟨_, List.mem_append_left _ (mem_led_t he), rfl⟩⟩
    refine' its_range (σ := Obj × List Ent) (fun c => (dl, c.1) :: (ledOf c.2 ++ (news ++ own))) (fun _ => []) [Str.ofString "fewer", Str.ofString "told"]
      (fun j c => c.1.IsDictOf (strKind Challenge.rw_wn0027_01.row.prog w) (kvsOf n c.2) ∧ (∀ e ∈ c.2, EntOk e) ∧ Apart dl c.2 (news ++ own) ∧ absOf c.2 = (List.range j).foldl (fun acc j => lowK n lf e0.ns e0.w acc (j + 1)) (absOf es) ∧ c.2.length ≤ es.length + j) (od2, es) (e0.ns.length - 1) rfl wR ?sm ?sz wF (fun p hp => wN p (by rw [List.append_assoc]; exact hp)) (List.forall_mem_nil _) ⟨hd2, hok2, hap2, rfl, Nat.le_refl _⟩ ?turn2 ?done2
    case sm => exact small_of (n := e0.ns.length - 1) (by omega) (by decide) (by decide) (by omega)
    case sz => exact size_of (by omega)
    case turn2 =>
      rintro ⟨od3, es3⟩ j tj u2 h2 tk2 own2 I2 hj ⟨hd3, hok3, hap3, habs3, hel3⟩ hof2 hI2 F₂ N₂
      dsimp only at hd3 hok3 hap3 habs3 hel3 F₂ N₂
      simp only [List.cons_append] at N₂
      have hjl : j + 1 < e0.ns.length := by omega
      obtain ⟨ty, hy⟩ := hia.get (j + 1) e0.ns[j + 1] (by simp [hjl])
      have hyD : e0.ns.getD (j + 1) 0 = e0.ns[j + 1] := by simp [List.getD, hjl]
      have hyr := hrg _ (List.getElem_mem hjl)
      generalize e0.ns[j + 1] = y at hy hyD hyr
      have hK : ((1 : Int) + (j : Int)).toNat = j + 1 := by omega
      have hx : e0.vs[((1 : Int) + (j : Int)).toNat]? = some (.int y ty) := by rw [hK]; exact hy
      clear wF wN wR
      (try k_fold)
      k_steps
      unfold Stop
      (rename Fr _ _ _ _ => wF)
      (rename News _ _ _ _ => wN)
      rename_i Df _ _ _ lDf _
      have hfi := fewer_ints (t := tk2 + 1) hia hyD
      have hj1 : ((1 : Int) + (j : Int) + 1).toNat = j + 1 + 1 := by omega
      rw [hK, hj1] at wN
      generalize e0.vs.take (j + 1) ++ [Value.int (y - 1) (tk2 + 1)] ++ e0.vs.drop (j + 1 + 1) = fv at wN hfi
      have wN2 : News _ _ _ ((Df, listOf fv.toArray 0) :: (dl, od3) :: (ledOf es3 ++ (news ++ own) ++ own2)) := fun p hp => wN p (by
        rcases List.mem_cons.mp hp with rfl | hp
        · exact List.Mem.head _
        · exact .tail _ (.tail _ (.tail _ (.tail _ (.tail _ hp)))))
      have hlt : ∀ p ∈ (dl, od3) :: (ledOf es3 ++ (news ++ own) ++ own2), p.1 < Df := fun p hp => lDf p (by first | exact .tail _ (.tail _ (.tail _ hp)) | exact .tail _ (.tail _ (.tail _ (.tail _ hp))) | exact .tail _ (.tail _ (.tail _ (.tail _ (.tail _ hp)))))
      clear wN lDf
      have hfl := fewer_len hjl
      have hfr := fewer_rng (b := -1) hrg (by rw [hyD]; omega) (by decide) hjl
      refine' my_told ?k1 wF ?k3 wN2 ?k5 ?kK ?kd ?ku (List.Mem.head _) rfl ⟨_, rfl⟩ hfi (by omega) hfr ?_
      case k1 => k_asm
      case k3 => k_asm
      case k5 => k_asm
      case kK => exact rfl
      case kd => ktr_room
      case ku => ktr_units
      intro t9 h9 tk9 F9 N9
      have hsx := N9
      by_cases hy0 : 0 < y
      · by_cases hin : toldL n (fewerL e0.ns (j + 1)) ∈ lf
        · have hin' := decide_eq_true hin
          cases hvs : (valueAt (kvsOf n es3) (tx (toldL n (fewerL e0.ns (j + 1))))).isSome with
          | true =>
            have hb : (!(valueAt (kvsOf n es3) (tx (toldL n (fewerL e0.ns (j + 1))))).isSome) = false := by rw [hvs]; rfl
            obtain ⟨pre, e1, post, hes, hkey, hpre1, hv1⟩ := kvs_some hvs
            subst hes
            have he1 : e1 ∈ pre ++ e1 :: post := by simp
            have he1p := mem_led_p he1
            obtain ⟨hpc1, hpd1, htc1, htd1, hia1, h71', hlen1, hrg1⟩ := hok3 e1 he1
            (try k_fold)
            k_steps
            unfold Stop
            (rename Fr _ _ _ _ => wF)
            (rename News _ _ _ _ => wN)
            refine' l_setM wF wN (.tail _ (.tail _ (List.mem_append_left _ (List.mem_append_left _ he1p)))) hpc1 hpd1 (by decide) (show (1 : Int) < 2 by decide) (show 2 ≤ 1000000 by decide) ?_
            intro h7 o7 F7 N7 hc7 hd7
            obtain ⟨tk7, hd7⟩ : ∃ tk7 : Nat, ∃ e, o7.data = .seq [Value.ref e1.t, .int (e1.w + e0.w) tk7].toArray e := ⟨_, hd7⟩
            clear wF wN
            (try k_fold)
            k_steps
            (rename Fr _ _ _ _ => wF)
            (rename News _ _ _ _ => wN)
            obtain ⟨e2, he2⟩ : ∃ e2 : Ent, e2 = { e1 with po := o7, w := e1.w + e0.w, tk := tk7 } := ⟨_, rfl⟩
            have r1 : e2.p = e1.p := by rw [he2]
            have r2 : e2.po = o7 := by rw [he2]
            have r3 : e2.t = e1.t := by rw [he2]
            have r4 : e2.lo = e1.lo := by rw [he2]
            have r5 : e2.ns = e1.ns := by rw [he2]
            have r6 : e2.w = e1.w + e0.w := by rw [he2]
            have hok2 : EntOk e2 := by rw [he2]; exact ⟨hc7, hd7, htc1, htd1, hia1, h71', hlen1, hrg1⟩
            refine' endL (od3, pre ++ e2 :: post) wF wN ?l1 ?l2 (led_ne_mid (offI hof2 hI2) r1 r3) (List.forall_mem_nil _) ?l5 ⟨?l3, ok_mid hok3 hok2, apart_same hap3 r1 r3, ?l4, ?l6⟩
            case l1 => exact fun p hp => upd_led hap3 (fun q hq => by
              rcases List.mem_cons.mp hq with rfl | hq
              · exact .tail _ (List.Mem.head _)
              · exact .tail _ (.tail _ (List.mem_append_left _ hq))) r1 r2 r3 r4 p hp
            case l2 => exact fun p hp => upd_other (.tail _ (.tail _ (List.mem_append_right _ hp))) (hof2 p hp _ (.tail _ (List.mem_map.mpr ⟨_, List.mem_append_left _ he1p, rfl⟩)))
            case l5 =>
              intro z h1 h2 h3
              simp only [List.not_mem_nil, false_implies, implies_true, List.contains_cons, List.contains_nil, Bool.or_false, Bool.or_eq_false_iff, beq_eq_false_iff_ne, ne_eq] at h1 h2 h3
              simp [kstB, h1, h3]
            case l3 =>
              dsimp only
              rw [kvs_same (e := e1) r5 r1]; exact hd3
            case l4 =>
              dsimp only
              rw [← low_take habs3 ⟨by rw [hyD]; exact hy0, hin⟩, abs_mid, abs_mid, addW_hit hkey (abs_key hpre1), r5, r6]
            case l6 =>
              dsimp only
              rw [List.length_append, List.length_cons] at hel3 ⊢
              omega
          | false =>
            have hb : (!(valueAt (kvsOf n es3) (tx (toldL n (fewerL e0.ns (j + 1))))).isSome) = true := by rw [hvs]; rfl
            (try k_fold)
            k_steps
            unfold Stop
            (rename Fr _ _ _ _ => wF)
            (rename News _ _ _ _ => wN)
            rename_i Dp _ lDp
            obtain ⟨tkp, wN⟩ : ∃ tkp : Nat, News _ _ _ ((Dp, listOf #[Value.ref Df, .int 0 tkp] 0) :: (Df, listOf fv.toArray 0) :: (dl, od3) :: (ledOf es3 ++ (news ++ own) ++ own2)) := ⟨_, wN⟩
            have hkn : ∀ a ∈ es3, toldL n a.ns ≠ toldL n (fewerL e0.ns (j + 1)) := kvs_none (by cases hq : valueAt (kvsOf n es3) (tx (toldL n (fewerL e0.ns (j + 1)))) with | none => rfl | some v => rw [hq] at hvs; cases hvs)
            refine' d_setM wF wN (.tail _ (.tail _ (List.Mem.head _))) hd3 (by unfold kvsOf; rw [List.length_map]; omega) ?_
            intro h8 o8 F8 N8 hd8
            obtain ⟨e1, he1⟩ : ∃ e1 : Ent, e1 = ⟨Dp, listOf #[Value.ref Df, .int 0 tkp] 0, Df, listOf fv.toArray 0, fv, fewerL e0.ns (j + 1), 0, tkp⟩ := ⟨_, rfl⟩
            have q1 : e1.p = Dp := by rw [he1]
            have q2 : e1.t = Df := by rw [he1]
            have q3 : e1.w = 0 := by rw [he1]
            have q4 : e1.ns = fewerL e0.ns (j + 1) := by rw [he1]
            have q5 : (Dp, listOf #[Value.ref Df, .int 0 tkp] 0) = (e1.p, e1.po) := by rw [he1]
            have q6 : (Df, listOf fv.toArray 0) = (e1.t, e1.lo) := by rw [he1]
            have hok1 : EntOk e1 := by
              rw [he1]
              exact ⟨rfl, ⟨_, rfl⟩, rfl, ⟨_, rfl⟩, hfi, by dsimp only; omega, by dsimp only; omega, fewer_rng (b := 0) hrg (by rw [hyD]; omega) (by decide) hjl⟩
            have hd4 : o8.IsDictOf (strKind Challenge.rw_wn0027_01.row.prog w) (kvsOf n (es3 ++ [e1])) := by
              rw [← kvs_snoc (e := e1) (by rw [q4]; exact hkn), q4, q1]; exact hd8
            have hap4 : Apart dl (es3 ++ [e1]) (news ++ own) := apart_snoc (od := od3) hap3 (fun q hq => by
              rw [q2]
              rcases List.mem_cons.mp hq with rfl | hq
              · exact hlt _ (.head _)
              · exact hlt _ (.tail _ (List.mem_append_left _ hq))) (by rw [q1, q2]; exact lDp.1)
            have hv1 : valueAt (kvsOf n (es3 ++ [e1])) (tx (toldL n (fewerL e0.ns (j + 1)))) = some (.ref e1.p) := by
              refine valueAt_of_get (i := es3.length) (by obtain ⟨_, _, _, _, _, _, hnd⟩ := hd4; exact hnd) ?_
              unfold kvsOf
              rw [List.getElem?_map, List.getElem?_append_right (Nat.le_refl _), Nat.sub_self, ← q4]; rfl
            have hdn : ∀ a ∈ addrs es3, a ≠ dl := fun a ha e => (List.nodup_cons.mp hap3.nd).1 (e ▸ ha)
            have N4 : News _ _ _ ((dl, o8) :: (ledOf (es3 ++ [e1]) ++ (news ++ own) ++ own2)) := fun q hq => N8 q (by
              rcases List.mem_cons.mp hq with rfl | hq
              · exact upd_self
              · rcases List.mem_append.mp hq with hq | hq
                · rcases List.mem_append.mp hq with hq | hq
                  · rw [ledOf_append] at hq
                    rcases List.mem_append.mp hq with hq | hq
                    · exact upd_other (.tail _ (.tail _ (.tail _ (List.mem_append_left _ (List.mem_append_left _ hq))))) (hdn _ (addr_of_led hq))
                    · have hq2 : q ∈ [(e1.p, e1.po), (e1.t, e1.lo)] := by simpa [ledOf, Ent.led] using hq
                      rcases List.mem_cons.mp hq2 with rfl | hq2
                      · rw [← q5]; exact upd_other (.head _) (Nat.ne_of_gt lDp.2.1)
                      · rw [List.mem_singleton.mp hq2, ← q6]; exact upd_other (.tail _ (.head _)) (Nat.ne_of_gt (hlt (dl, od3) (.head _)))
                  · exact upd_other (.tail _ (.tail _ (.tail _ (List.mem_append_left _ (List.mem_append_right _ hq))))) (hap3.off dl (.head _) q hq)
                · exact upd_other (.tail _ (.tail _ (.tail _ (List.mem_append_right _ hq)))) (hof2 q hq dl (.head _)))
            have he1m : e1 ∈ es3 ++ [e1] := by simp
            have he1p := mem_led_p he1m
            obtain ⟨hpc1, hpd1, htc1, htd1, hia1, h71', hlen1, hrg1⟩ := hok1
            clear wF wN N8 he1 q5 q6 hd8
            (try k_fold)
            k_steps
            unfold Stop
            (rename Fr _ _ _ _ => wF)
            (rename News _ _ _ _ => wN)
            refine' l_setM wF wN (.tail _ (List.mem_append_left _ (List.mem_append_left _ he1p))) hpc1 hpd1 (by decide) (show (1 : Int) < 2 by decide) (show 2 ≤ 1000000 by decide) ?_
            intro h7 o7 F7 N7 hc7 hd7
            obtain ⟨tk7, hd7⟩ : ∃ tk7 : Nat, ∃ e, o7.data = .seq [Value.ref e1.t, .int (e1.w + e0.w) tk7].toArray e := ⟨_, hd7⟩
            clear wF wN
            (try k_fold)
            k_steps
            (rename Fr _ _ _ _ => wF)
            (rename News _ _ _ _ => wN)
            have hnI : ∀ p ∈ (dl, o8) :: (ledOf (es3 ++ [e1]) ++ (news ++ own)), p.1 ≠ I2 := by
              obtain ⟨g1, g2⟩ := ne_led (offI hof2 hI2)
              obtain ⟨oI, hIo⟩ := hI2
              have hI9 : I2 < Df := hlt (I2, oI) (.tail _ (List.mem_append_right _ hIo))
              refine led_ne ?_ g2
              intro a ha
              have hA : addrs (es3 ++ [e1]) = addrs es3 ++ [e1.p, e1.t] := by simp [addrs]
              rw [hA, ← List.cons_append] at ha
              rcases List.mem_append.mp ha with ha | ha
              · exact g1 a ha
              · rcases List.mem_cons.mp ha with rfl | ha
                · rw [q1]; exact Nat.ne_of_gt (Nat.lt_trans hI9 lDp.1)
                · rw [List.mem_singleton.mp ha, q2]; exact Nat.ne_of_gt hI9
            obtain ⟨e2, he2⟩ : ∃ e2 : Ent, e2 = { e1 with po := o7, w := e1.w + e0.w, tk := tk7 } := ⟨_, rfl⟩
            have r1 : e2.p = e1.p := by rw [he2]
            have r2 : e2.po = o7 := by rw [he2]
            have r3 : e2.t = e1.t := by rw [he2]
            have r4 : e2.lo = e1.lo := by rw [he2]
            have r5 : e2.ns = e1.ns := by rw [he2]
            have r6 : e2.w = e1.w + e0.w := by rw [he2]
            have hok2 : EntOk e2 := by rw [he2]; exact ⟨hc7, hd7, htc1, htd1, hia1, h71', hlen1, hrg1⟩
            refine' endL (o8, es3 ++ [e2]) wF wN ?l1 ?l2 (led_ne_mid (post := []) hnI r1 r3) (List.forall_mem_nil _) ?l5 ⟨?l3, ok_mid (post := []) (e := e1) (fun a ha => ?l7) hok2, apart_same (post := []) hap4 r1 r3, ?l4, ?l6⟩
            case l1 => exact fun p hp => upd_led (post := []) hap4 (fun q hq => by
              rcases List.mem_cons.mp hq with rfl | hq
              · exact List.Mem.head _
              · exact .tail _ (List.mem_append_left _ hq)) r1 r2 r3 r4 p hp
            case l2 => exact fun p hp => upd_other (.tail _ (List.mem_append_right _ hp)) (by rw [q1]; exact Nat.ne_of_lt (Nat.lt_trans (hlt p (.tail _ (List.mem_append_right _ hp))) lDp.1))
            case l5 =>
              intro z h1 h2 h3
              simp only [List.not_mem_nil, false_implies, implies_true, List.contains_cons, List.contains_nil, Bool.or_false, Bool.or_eq_false_iff, beq_eq_false_iff_ne, ne_eq] at h1 h2 h3
              simp [kstB, h1, h3]
            case l7 =>
              rcases List.mem_append.mp ha with ha | ha
              · exact hok3 a ha
              · rw [List.mem_singleton.mp ha]; exact ⟨hpc1, hpd1, htc1, htd1, hia1, h71', hlen1, hrg1⟩
            case l3 =>
              dsimp only
              rw [kvs_same (post := []) (e := e1) r5 r1]; exact hd4
            case l4 =>
              dsimp only
              rw [← low_take habs3 ⟨by rw [hyD]; exact hy0, hin⟩, addW_miss (abs_key hkn)]
              simp [absOf, q3, q4, r5, r6]
            case l6 =>
              dsimp only
              rw [List.length_append, List.length_singleton]
              omega
        · have hin' := decide_eq_false hin
          (try k_fold)
          k_steps
          (rename Fr _ _ _ _ => wF)
          (rename News _ _ _ _ => wN)
          refine' endL (od3, es3) wF wN ?l1 ?l2 (offI hof2 hI2) (List.forall_mem_nil _) ?l5 ⟨hd3, hok3, hap3, low_skip habs3 (fun q => hin q.2), by dsimp only; omega⟩
          case l1 =>
            intro p hp
            rcases List.mem_cons.mp hp with rfl | hp
            · exact .tail _ (List.Mem.head _)
            · exact .tail _ (.tail _ (List.mem_append_left _ hp))
          case l2 => exact fun p hp => .tail _ (.tail _ (List.mem_append_right _ hp))
          case l5 =>
            intro z h1 h2 h3
            simp only [List.not_mem_nil, false_implies, implies_true, List.contains_cons, List.contains_nil, Bool.or_false, Bool.or_eq_false_iff, beq_eq_false_iff_ne, ne_eq] at h1 h2 h3
            simp [kstB, h1, h3]
      · (try k_fold)
        k_steps
        (rename Fr _ _ _ _ => wF)
        (rename News _ _ _ _ => wN)
        refine' endL (od3, es3) wF wN ?l1 ?l2 (offI hof2 hI2) (List.forall_mem_nil _) ?l5 ⟨hd3, hok3, hap3, low_skip habs3 (fun q => hy0 (by rw [hyD] at q; exact q.1)), by dsimp only; omega⟩
        case l1 =>
          intro p hp
          rcases List.mem_cons.mp hp with rfl | hp
          · exact .tail _ (List.Mem.head _)
          · exact .tail _ (.tail _ (List.mem_append_left _ hp))
        case l2 => exact fun p hp => .tail _ (.tail _ (List.mem_append_right _ hp))
        case l5 =>
          intro z h1 h2 h3
          simp only [List.not_mem_nil, false_implies, implies_true, List.contains_cons, List.contains_nil, Bool.or_false, Bool.or_eq_false_iff, beq_eq_false_iff_ne, ne_eq] at h1 h2 h3
          simp [kstB, h1, h3]
    case done2 =>
      rintro ⟨od3, es3⟩ u2 h2 tk2 ⟨hd3, hok3, hap3, habs3, hel3⟩ F₂ N₂
      dsimp only at hd3 hok3 hap3 habs3 hel3 F₂ N₂
      clear wF wN wR
      (try k_fold)
      k_steps
      (rename Fr _ _ _ _ => wF)
      (rename News _ _ _ _ => wN)
      have hI3 : ∀ p ∈ (dl, od3) :: (ledOf es3 ++ news), p.1 ≠ I := by
        have hI4 := offI hoff hI
        obtain ⟨oI, hIo⟩ := hI
        intro p hp
        rcases List.mem_cons.mp hp with rfl | hp
        · exact fun e => hap3.off dl (.head _) _ (List.mem_append_right _ hIo) e.symm
        · rcases List.mem_append.mp hp with hp | hp
          · exact fun e => hap3.off _ (.tail _ (addr_of_led hp)) _ (List.mem_append_right _ hIo) e.symm
          · exact hI4 p (.tail _ (List.mem_append_right _ hp))
      refine' endL (od3, es3) wF wN ?l1 ?l2 hI3 (List.forall_mem_nil _) ?l5 ⟨hd3, hok3, ⟨hap3.nd, fun a ha q hq => hap3.off a ha q (List.mem_append_left _ hq)⟩, ?l6, ?l7⟩
      case l1 =>
        intro p hp
        rcases List.mem_cons.mp hp with rfl | hp
        · exact List.Mem.head _
        · rcases List.mem_append.mp hp with hp | hp
          · exact .tail _ (List.mem_append_left _ hp)
          · exact .tail _ (List.mem_append_right _ (List.mem_append_left _ hp))
      case l2 => exact fun p hp => .tail _ (List.mem_append_right _ (List.mem_append_right _ hp))
      case l5 =>
        intro z h1 h2 h3
        simp only [List.not_mem_nil, false_implies, implies_true, List.contains_cons, List.contains_nil, Bool.or_false, Bool.or_eq_false_iff, beq_eq_false_iff_ne, ne_eq] at h1 h2 h3
        simp [kstB, h1, h3]
      case l6 =>
        dsimp only
        have e1 : (absOf es0)[i]? = some (e0.ns, e0.w) := by unfold absOf; rw [List.getElem?_map, he0]; rfl
        rw [List.take_add_one, e1, List.foldl_append, ← habs, habs3]
        rfl
      case l7 => dsimp only; omega
  case done =>
    rintro ⟨od2, es⟩ u h tk ⟨hd2, hok2, hap, habs, hel⟩ F₁ N₁
    dsimp only at hd2 hok2 hap habs hel F₁ N₁
    clear wF wN
    (try k_fold)
    k_steps
    (rename Fr _ _ _ _ => wF)
    (rename News _ _ _ _ => wN)
    refine hret _ _ _ _ wF wN ⟨dl, od2, es, rfl, rfl, hlo, hd2, hok2, hap, ?_⟩
    rw [habs, List.take_of_length_le (by simp [absOf, kvsOf])]
    rfl
end
end Mine
end

section
open PySem PySem.W PySem.Spec PySem.Calls PyProof.Rows
set_option maxRecDepth 100000
set_option maxHeartbeats 8000000
namespace Mine
/-- how one depth of the row stands: in so many escapes still, or as a reference -/
inductive Sg where
  | esc (a : Nat)
  | ref (t : Nat)
  deriving DecidableEq
def Sg.txt (n : Int) (d : Nat) : Sg → List Nat
  | .esc a => [61] ++ rep a [51, 68] ++ hexL (mk n d) ++ [46]
  | .ref t => toldSeg n d (t : Int)
def Sg.stp (s : Sg) (c : Nat) : Sg :=
  match s with
  | .esc 0 => if c = 68 then .ref 0 else .esc 0
  | .esc (a + 1) => if c = 68 then .esc a else .esc (a + 1)
  | .ref t => if c = 69 then .ref (t + 1) else .ref t
def start (d : Nat) : Sg := if d = 0 then .ref 0 else .esc (d - 1)
def stAt (r : List Nat) (d : Nat) : Sg := r.foldl Sg.stp (start d)
def TT (n : Int) (D : Nat) (r : List Nat) : List Nat := (List.range (D + 1)).flatMap fun d => (stAt r d).txt n d
theorem stAt_snoc (r : List Nat) (c d : Nat) : stAt (r ++ [c]) d = (stAt r d).stp c := by simp [stAt]
theorem TT_nil (n : Int) (D : Nat) : TT n D [] = rowL n (D + 1) := by
  unfold TT rowL
  congr 1
  funext d
  unfold stAt start rowSeg
  by_cases h : d = 0
  · subst h; rfl
  · rw [if_neg h, if_neg h]; rfl
def Sg.small (k : Nat) : Sg → Prop
  | .esc a => a ≤ 6
  | .ref t => t ≤ k
theorem small_stp {s : Sg} {k c : Nat} (h : s.small k) : (s.stp c).small (k + 1) := by
  cases s with
  | esc a =>
    cases a with
    | zero => simp only [Sg.stp]; split <;> simp [Sg.small]
    | succ a => simp only [Sg.stp]; simp only [Sg.small] at h; split <;> simp only [Sg.small] <;> omega
  | ref t => simp only [Sg.stp]; simp only [Sg.small] at h; split <;> simp only [Sg.small] <;> omega
theorem small_at {d : Nat} (hd : d ≤ 6) (r : List Nat) : (stAt r d).small r.length := by
  have key : ∀ (r : List Nat) (s : Sg) (k : Nat), s.small k → (r.foldl Sg.stp s).small (k + r.length) := by
    intro r
    induction r with
    | nil => exact fun s k h => h
    | cons c r ih =>
      intro s k h
      have := ih (s.stp c) (k + 1) (small_stp h)
      rw [List.length_cons, ← Nat.add_assoc, Nat.add_right_comm]
      exact this
  have := key r (start d) 0 (by unfold start; split <;> simp only [Sg.small] <;> omega)
  rwa [Nat.zero_add] at this
theorem txt_len {n : Int} {d k : Nat} {s : Sg} (h : s.small k) (hk : k ≤ 6) : (s.txt n d).length ≤ 40 := by
  cases s with
  | esc a =>
    simp only [Sg.small] at h
    simp only [Sg.txt, List.length_append, rep_len, hexL_len, List.length_cons, List.length_nil]
    omega
  | ref t =>
    simp only [Sg.small] at h
    exact toldSeg_len (by omega)
theorem flat_len {f : Nat → List Nat} {N : Nat} (h : ∀ d, d < N → (f d).length ≤ 40) : ((List.range N).flatMap f).length ≤ 40 * N := by
  induction N with
  | zero => simp
  | succ N ih =>
    have h1 := ih fun d hd => h d (by omega)
    have h2 := h N (by omega)
    rw [List.range_succ, List.flatMap_append, List.length_append, List.flatMap_singleton]
    omega
theorem TT_len {n : Int} {D : Nat} {r : List Nat} (hD : D ≤ 6) (hr : r.length ≤ 6) : (TT n D r).length ≤ 1000 := by
  have := flat_len (f := fun d => (stAt r d).txt n d) (N := D + 1) fun d hd => txt_len (small_at (by omega) r) hr
  unfold TT
  omega
/-- the tokens of one depth -/
def Sg.tks (n : Int) (d : Nat) : Sg → List Tk
  | .esc 0 => (if mk n d = 0 then Tk.es 50 54 38 else if mk n d = 1 then Tk.es 51 67 60 else Tk.es 51 69 62) :: [.ch 46]
  | .esc (a + 1) => Tk.es 51 68 61 :: (rep a [51, 68] ++ hexL (mk n d) ++ [46]).map Tk.ch
  | .ref t => (toldSeg n d (t : Int)).map Tk.ch
theorem encs_map (l : List Nat) : encs (l.map Tk.ch) = l := by
  unfold encs
  induction l with
  | nil => rfl
  | cons a l ih => rw [List.map_cons, List.flatMap_cons, ih]; rfl
theorem decs_map (l : List Nat) : decs (l.map Tk.ch) = l := by
  unfold decs
  rw [List.map_map]
  exact List.map_id l
theorem encs_tks (n : Int) (d : Nat) (s : Sg) : encs (s.tks n d) = s.txt n d := by
  cases s with
  | esc a =>
    cases a with
    | zero =>
      simp only [Sg.tks, Sg.txt, hexL]
      (repeat' split) <;> rfl
    | succ a =>
      simp only [Sg.tks, Sg.txt]
      show Tk.enc _ ++ encs (List.map Tk.ch _) = _
      rw [encs_map, rep_succ]
      simp [Tk.enc]
  | ref t => exact encs_map _
theorem decs_tks (n : Int) (d : Nat) (s : Sg) : decs (s.tks n d) = (s.stp 68).txt n d := by
  cases s with
  | esc a =>
    cases a with
    | zero =>
      simp only [Sg.tks, Sg.stp, Sg.txt, if_pos]
      unfold toldSeg bareL
      rw [if_pos (show ((0 : Nat) : Int) = 0 from rfl)]
      (repeat' split) <;> rfl
    | succ a =>
      simp only [Sg.tks, Sg.stp, Sg.txt, if_pos]
      show 61 :: decs (List.map Tk.ch _) = _
      rw [decs_map]
      simp
  | ref t =>
    simp only [Sg.tks, Sg.stp]
    rw [decs_map, if_neg (by decide)]
    rfl
theorem rep_mem {x : Nat} {l : List Nat} : ∀ {k : Nat}, x ∈ rep k l → x ∈ l
  | 0, h => by simp [rep] at h
  | k + 1, h => by
    rw [rep_succ] at h
    exact (List.mem_append.mp h).elim id rep_mem
theorem hexL_mem {k : Int} {x : Nat} (h : x ∈ hexL k) : x ∈ [50, 54, 51, 67, 69] := by
  unfold hexL at h
  (repeat' split at h) <;> simp at h <;> rcases h with rfl | rfl <;> decide
theorem refL_mem {k : Int} {x : Nat} (h : x ∈ refL k) : x ∈ [97, 109, 112, 59, 108, 116, 103] := by
  unfold refL at h
  (repeat' split at h) <;> simp at h <;> (rcases h with rfl | rfl | rfl | rfl <;> decide) <;> (rcases h with rfl | rfl | rfl <;> decide)
theorem bareL_mem {k : Int} {x : Nat} (h : x ∈ bareL k) : x ∈ [38, 60, 62] := by
  unfold bareL at h
  (repeat' split at h) <;> simp at h <;> subst h <;> decide
theorem good9 {l : List Nat} (hl : l.all (fun x => decide (x ≠ 61 ∧ 33 ≤ x ∧ x < 127)) = true) {x : Nat} (hx : x ∈ l) : x ≠ 61 ∧ 33 ≤ x ∧ x < 127 := of_decide_eq_true (List.all_eq_true.mp hl x hx)
theorem toldSeg_good {n : Int} {d : Nat} {t : Int} {x : Nat} (h : x ∈ toldSeg n d t) : x ≠ 61 ∧ 33 ≤ x ∧ x < 127 := by
  unfold toldSeg at h
  split at h
  · rcases List.mem_append.mp h with h | h
    · exact good9 (l := [38, 60, 62]) rfl (bareL_mem h)
    · exact good9 (l := [46]) rfl h
  · rcases List.mem_append.mp h with h | h
    · rcases List.mem_append.mp h with h | h
      · rcases List.mem_append.mp h with h | h
        · exact good9 (l := [38]) rfl h
        · exact good9 (l := [97, 109, 112, 59]) rfl (rep_mem h)
      · exact good9 (l := [97, 109, 112, 59, 108, 116, 103]) rfl (refL_mem h)
    · exact good9 (l := [46]) rfl h
theorem ok_ch {x : Nat} (h : x ≠ 61 ∧ 33 ≤ x ∧ x < 127) : Tk.ok (.ch x) := h
theorem tks_ok {n : Int} {d : Nat} {s : Sg} : ∀ k ∈ s.tks n d, Tk.ok k := by
  intro k hk
  cases s with
  | esc a =>
    cases a with
    | zero =>
      simp only [Sg.tks] at hk
      rcases List.mem_cons.mp hk with rfl | hk
      · (repeat' split) <;> simp [Tk.ok, codes]
      · rw [List.mem_singleton.mp hk]; exact ok_ch (by decide)
    | succ a =>
      simp only [Sg.tks] at hk
      rcases List.mem_cons.mp hk with rfl | hk
      · simp [Tk.ok, codes]
      · obtain ⟨x, hx, rfl⟩ := List.mem_map.mp hk
        refine ok_ch ?_
        rcases List.mem_append.mp hx with hx | hx
        · rcases List.mem_append.mp hx with hx | hx
          · exact good9 (l := [51, 68]) rfl (rep_mem hx)
          · exact good9 (l := [50, 54, 51, 67, 69]) rfl (hexL_mem hx)
        · exact good9 (l := [46]) rfl hx
  | ref t =>
    obtain ⟨x, hx, rfl⟩ := List.mem_map.mp hk
    exact ok_ch (toldSeg_good hx)
theorem toldSeg_end (n : Int) (d : Nat) (t : Int) : ∃ b, toldSeg n d t = b ++ [46] := by
  unfold toldSeg
  split <;> exact ⟨_, rfl⟩
theorem tks_end {n : Int} {d : Nat} {s : Sg} : ∃ r', s.tks n d = r' ++ [.ch 46] := by
  cases s with
  | esc a =>
    cases a with
    | zero => exact ⟨[_], rfl⟩
    | succ a => exact ⟨Tk.es 51 68 61 :: (rep a [51, 68] ++ hexL (mk n d)).map Tk.ch, by simp [Sg.tks]⟩
  | ref t =>
    obtain ⟨b, hb⟩ := toldSeg_end n d (t : Int)
    exact ⟨b.map Tk.ch, by simp [Sg.tks, hb]⟩
theorem escL_append (a b : List Nat) : escL (a ++ b) = escL a ++ escL b := by simp [escL, sub1_append]
theorem escL_free {l : List Nat} (h : ∀ x ∈ l, x ≠ 38 ∧ x ≠ 60 ∧ x ≠ 62) : escL l = l := by
  unfold escL
  rw [sub1_free (fun q => (h _ q).1 rfl), sub1_free (fun q => (h _ q).2.1 rfl), sub1_free (fun q => (h _ q).2.2 rfl)]
theorem escL_txt (n : Int) (d : Nat) (s : Sg) : escL (s.txt n d) = (s.stp 69).txt n d := by
  cases s with
  | esc a =>
    have e : (Sg.esc a).stp 69 = .esc a := by cases a <;> rfl
    rw [e]
    refine escL_free fun x hx => ?_
    simp only [Sg.txt] at hx
    rcases List.mem_append.mp hx with hx | hx
    · rcases List.mem_append.mp hx with hx | hx
      · rcases List.mem_append.mp hx with hx | hx
        · simp at hx; omega
        · have := rep_mem hx; simp at this; omega
      · have := hexL_mem hx; simp at this; omega
    · simp at hx; omega
  | ref t =>
    show escL (toldSeg n d (t : Int)) = toldSeg n d ((t + 1 : Nat) : Int)
    have e1 : toldSeg n d ((t + 1 : Nat) : Int) = [38] ++ rep t [97, 109, 112, 59] ++ refL (mk n d) ++ [46] := by
      unfold toldSeg
      rw [if_neg (by omega)]
      congr 4
      omega
    rw [e1]
    cases t with
    | zero =>
      unfold toldSeg bareL refL
      rw [if_pos (show ((0 : Nat) : Int) = 0 from rfl)]
      (repeat' split) <;> rfl
    | succ t =>
      have e2 : toldSeg n d ((t + 1 : Nat) : Int) = [38] ++ (rep t [97, 109, 112, 59] ++ refL (mk n d) ++ [46]) := by
        unfold toldSeg
        rw [if_neg (by omega)]
        have : ((t + 1 : Nat) : Int) - 1 = (t : Int) := by omega
        rw [this, Int.toNat_natCast]
        simp
      rw [e2, escL_append, escL_free (l := rep t [97, 109, 112, 59] ++ refL (mk n d) ++ [46]) ?_, rep_succ]
      · simp [escL, sub1]
      · intro x hx
        rcases List.mem_append.mp hx with hx | hx
        · rcases List.mem_append.mp hx with hx | hx
          · have := rep_mem hx; simp at this; omega
          · have := refL_mem hx; simp at this; omega
        · simp at hx; omega
theorem escL_flat (f : Nat → List Nat) : ∀ l : List Nat, escL (l.flatMap f) = l.flatMap fun d => escL (f d)
  | [] => rfl
  | a :: l => by rw [List.flatMap_cons, escL_append, escL_flat f l, List.flatMap_cons]
theorem encs_flat (f : Nat → List Tk) : ∀ l : List Nat, encs (l.flatMap f) = l.flatMap fun d => encs (f d)
  | [] => rfl
  | a :: l => by rw [List.flatMap_cons, encs_append, encs_flat f l, List.flatMap_cons]
theorem decs_flat (f : Nat → List Tk) : ∀ l : List Nat, decs (l.flatMap f) = l.flatMap fun d => decs (f d)
  | [] => rfl
  | a :: l => by rw [List.flatMap_cons, decs_append, decs_flat f l, List.flatMap_cons]
theorem TT_txs (n : Int) (D : Nat) (hD : D ≤ 6) : Txs (TT n D) := by
  constructor
  · intro r hr
    have e : encs ((List.range (D + 1)).flatMap fun d => (stAt r d).tks n d) = TT n D r := by
      rw [encs_flat]
      unfold TT
      congr 1
      funext d
      exact encs_tks n d _
    refine ⟨(List.range (D + 1)).flatMap fun d => (stAt r d).tks n d, ⟨?_, ?_, ?_⟩, e.symm, ?_⟩
    · intro k hk
      obtain ⟨d, _, hd⟩ := List.mem_flatMap.mp hk
      exact tks_ok k hd
    · obtain ⟨r', h⟩ := tks_end (n := n) (d := D) (s := stAt r D)
      refine ⟨((List.range D).flatMap fun d => (stAt r d).tks n d) ++ r', ?_⟩
      rw [List.range_succ, List.flatMap_append, List.flatMap_singleton, h, List.append_assoc]
    · rw [e]; exact TT_len hD (by omega)
    · rw [decs_flat]
      unfold TT
      congr 1
      funext d
      rw [decs_tks, stAt_snoc]
  · intro r hr
    refine ⟨TT_len hD (by omega), ?_⟩
    unfold TT
    rw [escL_flat]
    congr 1
    funext d
    rw [escL_txt, stAt_snoc]
end Mine
end

section
open PySem PySem.W PySem.Spec PySem.Calls PyProof.Rows
set_option maxRecDepth 100000
set_option maxHeartbeats 8000000
namespace Mine
/-- a depth's text without its full stop -/
def body (n : Int) (d : Nat) (t : Int) : List Nat := if t = 0 then bareL (mk n d) else [38] ++ rep (t - 1).toNat [97, 109, 112, 59] ++ refL (mk n d)
theorem seg_body (n : Int) (d : Nat) (t : Int) : toldSeg n d t = body n d t ++ [46] := by unfold toldSeg body; split <;> rfl
theorem body_free (n : Int) (d : Nat) (t : Int) : 46 ∉ body n d t := by
  intro h
  unfold body at h
  split at h
  · have := bareL_mem h; simp at this
  · rcases List.mem_append.mp h with h | h
    · rcases List.mem_append.mp h with h | h
      · simp at h
      · have := rep_mem h; simp at this
    · have := refL_mem h; simp at this
theorem body_len (n : Int) (d : Nat) (t : Int) : (body n d t).length = if t = 0 then 1 else 1 + (t - 1).toNat * 4 + (refL (mk n d)).length := by
  unfold body
  split
  · exact bareL_len _
  · simp only [List.length_append, rep_len, List.length_cons, List.length_nil]
theorem body_inj {n : Int} {d : Nat} {t u : Int} (ht : 0 ≤ t) (hu : 0 ≤ u) (h : body n d t = body n d u) : t = u := by
  have h1 := congrArg List.length h
  rw [body_len, body_len] at h1
  have h2 : 3 ≤ (refL (mk n d)).length := by unfold refL; (repeat' split) <;> decide
  split at h1 <;> split at h1 <;> omega
theorem cut_at {x : Nat} : ∀ {a b r s : List Nat}, x ∉ a → x ∉ b → a ++ x :: r = b ++ x :: s → a = b ∧ r = s
  | [], [], r, s, _, _, h => ⟨rfl, (List.cons.inj h).2⟩
  | [], y :: b, r, s, _, hb, h => absurd (.head _) ((List.cons.inj h).1 ▸ hb)
  | y :: a, [], r, s, ha, _, h => absurd (.head _) ((List.cons.inj h).1.symm ▸ ha)
  | y :: a, z :: b, r, s, ha, hb, h => by
    obtain ⟨h1, h2⟩ := List.cons.inj h
    obtain ⟨h3, h4⟩ := cut_at (fun q => ha (.tail _ q)) (fun q => hb (.tail _ q)) h2
    exact ⟨by rw [h1, h3], h4⟩
theorem told_inj {n : Int} : ∀ {a b : List Int} {d : Nat}, (∀ t ∈ a, 0 ≤ t) → (∀ t ∈ b, 0 ≤ t) → toldFrom n d a = toldFrom n d b → a = b
  | [], [], _, _, _, _ => rfl
  | [], u :: b, d, _, _, h => by
    rw [toldFrom, toldFrom, seg_body] at h
    simp at h
  | t :: a, [], d, _, _, h => by
    rw [toldFrom, toldFrom, seg_body] at h
    simp at h
  | t :: a, u :: b, d, ha, hb, h => by
    rw [toldFrom, toldFrom, seg_body, seg_body, List.append_assoc, List.append_assoc] at h
    obtain ⟨h1, h2⟩ := cut_at (body_free n d t) (body_free n d u) h
    rw [body_inj (ha _ (.head _)) (hb _ (.head _)) h1, told_inj (fun q hq => ha q (.tail _ hq)) (fun q hq => hb q (.tail _ hq)) h2]
theorem toldL_inj {n : Int} {a b : List Int} (ha : ∀ t ∈ a, 0 ≤ t) (hb : ∀ t ∈ b, 0 ≤ t) : toldL n a = toldL n b ↔ a = b := ⟨told_inj ha hb, fun h => by rw [h]⟩
/-- the same steps on the times alone -/
def addP (f : List Int) (w : Int) : List (List Int × Int) → List (List Int × Int)
  | [] => [(f, 0 + w)]
  | (a, v) :: r => if a = f then (a, v + w) :: r else (a, v) :: addP f w r
def lowKP (lf : List (List Int)) (ns : List Int) (w : Int) (acc : List (List Int × Int)) (k : Nat) : List (List Int × Int) :=
  if 0 < ns.getD k 0 ∧ fewerL ns k ∈ lf then addP (fewerL ns k) w acc else acc
def lowEP (lf : List (List Int)) (acc : List (List Int × Int)) (e : List Int × Int) : List (List Int × Int) := (List.range (e.1.length - 1)).foldl (fun acc j => lowKP lf e.1 e.2 acc (j + 1)) acc
def lowP (lf : List (List Int)) (level : List (List Int × Int)) : List (List Int × Int) := level.foldl (lowEP lf) []
def Pos (l : List (List Int × Int)) : Prop := ∀ e ∈ l, ∀ t ∈ e.1, 0 ≤ t
theorem addP_eq {n : Int} {f : List Int} {w : Int} (hf : ∀ t ∈ f, 0 ≤ t) : ∀ {l : List (List Int × Int)}, Pos l → addW n f w l = addP f w l ∧ Pos (addP f w l)
  | [], _ => ⟨rfl, by intro e he; rw [List.mem_singleton.mp he]; exact hf⟩
  | (a, v) :: r, h => by
    have ha := h _ (.head _)
    obtain ⟨i1, i2⟩ := addP_eq (w := w) hf (l := r) fun e he => h e (.tail _ he)
    unfold addW addP
    by_cases q : a = f
    · rw [if_pos ((toldL_inj ha hf).mpr q), if_pos q]
      refine ⟨rfl, ?_⟩
      intro e he
      rcases List.mem_cons.mp he with rfl | he
      · exact ha
      · exact h e (.tail _ he)
    · rw [if_neg fun z => q ((toldL_inj ha hf).mp z), if_neg q, i1]
      refine ⟨rfl, ?_⟩
      intro e he
      rcases List.mem_cons.mp he with rfl | he
      · exact ha
      · exact i2 e he
theorem fewer_pos {ns : List Int} {k : Nat} (h : ∀ t ∈ ns, 0 ≤ t) (hk : 0 < ns.getD k 0) : ∀ t ∈ fewerL ns k, 0 ≤ t := by
  intro t ht
  unfold fewerL at ht
  rcases List.mem_append.mp ht with ht | ht
  · rcases List.mem_append.mp ht with ht | ht
    · exact h t (List.mem_of_mem_take ht)
    · rw [List.mem_singleton.mp ht]; omega
  · exact h t (List.mem_of_mem_drop ht)
theorem lowKP_eq {n : Int} {lf : List (List Int)} {ns : List Int} {w : Int} {acc : List (List Int × Int)} {k : Nat} (hl : ∀ a ∈ lf, ∀ t ∈ a, 0 ≤ t) (hn : ∀ t ∈ ns, 0 ≤ t) (ha : Pos acc) : lowK n (lf.map (toldL n)) ns w acc k = lowKP lf ns w acc k ∧ Pos (lowKP lf ns w acc k) := by
  unfold lowK lowKP
  by_cases h : 0 < ns.getD k 0
  · have hf := fewer_pos hn h
    have e : toldL n (fewerL ns k) ∈ lf.map (toldL n) ↔ fewerL ns k ∈ lf := by
      constructor
      · intro q
        obtain ⟨a, ha, e⟩ := List.mem_map.mp q
        rw [← (toldL_inj (hl a ha) hf).mp e]; exact ha
      · exact fun q => List.mem_map.mpr ⟨_, q, rfl⟩
    obtain ⟨i1, i2⟩ := addP_eq (n := n) (w := w) hf ha
    by_cases q : fewerL ns k ∈ lf
    · rw [if_pos ⟨h, e.mpr q⟩, if_pos ⟨h, q⟩]; exact ⟨i1, i2⟩
    · rw [if_neg fun z => q (e.mp z.2), if_neg fun z => q z.2]; exact ⟨rfl, ha⟩
  · rw [if_neg fun z => h z.1, if_neg fun z => h z.1]; exact ⟨rfl, ha⟩
theorem lowEP_eq {n : Int} {lf : List (List Int)} {e : List Int × Int} {acc : List (List Int × Int)} (hl : ∀ a ∈ lf, ∀ t ∈ a, 0 ≤ t) (hn : ∀ t ∈ e.1, 0 ≤ t) (ha : Pos acc) : lowE n (lf.map (toldL n)) acc e = lowEP lf acc e ∧ Pos (lowEP lf acc e) := by
  unfold lowE lowEP
  generalize List.range (e.1.length - 1) = js
  induction js generalizing acc with
  | nil => exact ⟨rfl, ha⟩
  | cons j js ih =>
    obtain ⟨i1, i2⟩ := lowKP_eq (n := n) (w := e.2) (k := j + 1) hl hn ha
    rw [List.foldl_cons, List.foldl_cons, i1]
    exact ih i2
theorem lowP_eq {n : Int} {lf : List (List Int)} (hl : ∀ a ∈ lf, ∀ t ∈ a, 0 ≤ t) {level : List (List Int × Int)} (hv : Pos level) : lowF n (lf.map (toldL n)) level = lowP lf level ∧ Pos (lowP lf level) := by
  unfold lowF lowP
  have h0 : Pos [] := fun _ h => nomatch h
  generalize ([] : List (List Int × Int)) = acc at h0
  induction level generalizing acc with
  | nil => exact ⟨rfl, h0⟩
  | cons e level ih =>
    obtain ⟨i1, i2⟩ := lowEP_eq (n := n) (e := e) hl (hv _ (.head _)) h0
    rw [List.foldl_cons, List.foldl_cons, i1]
    exact ih (fun e he => hv e (.tail _ he)) _ i2
def levelP (lf : List (List Int)) (times : List Int) : Nat → List (List Int × Int)
  | 0 => [(times, 1)]
  | s + 1 => lowP lf (levelP lf times s)
def factZ : Nat → Int
  | 0 => 1
  | s + 1 => factZ s * ((s : Int) + 1)
def cntD (r : List Nat) : Nat := (r.filter fun c => decide (c = 68)).length
/-- how many runs there are -/
def runsN (run : List Nat) : Nat := (riter run 20).length
def sumT (run : List Nat) : Nat := ((timesL run).drop 1).foldl (fun a t => a + t.toNat) 0
def runOk (run : List Nat) : Bool :=
  decide (runsN run ≤ 100) && decide ((riter run (runsN run)).length = runsN run) && (List.range (runsN run)).all (fun j => decide (j < (riter run j).length)) &&
  (riter run (runsN run)).all (fun r => decide (cntD r = cntD run) && decide (r.length = 6) && r.all (fun c => decide (c = 68) || decide (c = 69)) && decide ((List.range (cntD run + 1)).map (stAt r) = (timesL r).map fun t => Sg.ref t.toNat) && (timesL r).all (fun t => decide (0 ≤ t))) &&
  decide ((riter run (runsN run)).head? = some run) &&
  (List.range (sumT run + 1)).all (fun s => decide ((levelP ((riter run (runsN run)).map timesL) (timesL run) s).length ≤ 100)) &&
  decide (((timesL run).drop 1).foldl (fun a t => a + t) 0 = (sumT run : Int)) &&
  decide ((levelP ((riter run (runsN run)).map timesL) (timesL run) (sumT run)).map (fun e => e.2 * hooksFrom 1 ((timesL run).drop 1)) = [factZ (sumT run)])
def bits : Nat → List (List Nat)
  | 0 => [[]]
  | k + 1 => (bits k).flatMap fun r => [68 :: r, 69 :: r]
/-- the runs that open with p -/
def okP (p : List Nat) : Bool := (bits 3).all fun q => runOk (p ++ q)
set_option maxRecDepth 1000000 in
theorem ok_ddd : okP [68, 68, 68] = true := by decide +kernel
set_option maxRecDepth 1000000 in
theorem ok_dde : okP [68, 68, 69] = true := by decide +kernel
set_option maxRecDepth 1000000 in
theorem ok_ded : okP [68, 69, 68] = true := by decide +kernel
set_option maxRecDepth 1000000 in
theorem ok_dee : okP [68, 69, 69] = true := by decide +kernel
set_option maxRecDepth 1000000 in
theorem ok_edd : okP [69, 68, 68] = true := by decide +kernel
set_option maxRecDepth 1000000 in
theorem ok_ede : okP [69, 68, 69] = true := by decide +kernel
set_option maxRecDepth 1000000 in
theorem ok_eed : okP [69, 69, 68] = true := by decide +kernel
set_option maxRecDepth 1000000 in
theorem ok_eee : okP [69, 69, 69] = true := by decide +kernel
theorem mem_bits : ∀ {r : List Nat} {k : Nat}, r.length = k → (∀ c ∈ r, c = 68 ∨ c = 69) → r ∈ bits k
  | [], 0, _, _ => .head _
  | c :: r, k + 1, h, hc => by
    have ih := mem_bits (r := r) (k := k) (by simpa using h) fun c hm => hc c (.tail _ hm)
    refine List.mem_flatMap.mpr ⟨r, ih, ?_⟩
    rcases hc c (.head _) with rfl | rfl
    · exact .head _
    · exact .tail _ (.head _)
theorem runOk_of {run : List Nat} (h6 : run.length = 6) (hc : ∀ c ∈ run, c = 68 ∨ c = 69) : runOk run = true := by
  have hp : ∀ p ∈ bits 3, okP p = true := by
    intro p hp
    have h : p = [68, 68, 68] ∨ p = [69, 68, 68] ∨ p = [68, 69, 68] ∨ p = [69, 69, 68] ∨ p = [68, 68, 69] ∨ p = [69, 68, 69] ∨ p = [68, 69, 69] ∨ p = [69, 69, 69] := by simpa [bits] using hp
    rcases h with rfl | rfl | rfl | rfl | rfl | rfl | rfl | rfl
    · exact ok_ddd
    · exact ok_edd
    · exact ok_ded
    · exact ok_eed
    · exact ok_dde
    · exact ok_ede
    · exact ok_dee
    · exact ok_eee
  have h := List.all_eq_true.mp (hp (run.take 3) (mem_bits (by rw [List.length_take, h6]; rfl) fun c hm => hc c (List.mem_of_mem_take hm))) (run.drop 3) (mem_bits (by rw [List.length_drop, h6]) fun c hm => hc c (List.mem_of_mem_drop hm))
  rwa [List.take_append_drop] at h
end Mine
end

section
open PySem PySem.W PySem.Spec PySem.Calls PyProof.Rows
set_option maxRecDepth 100000
set_option maxHeartbeats 8000000
namespace Mine
structure RunFacts (n : Int) (run : List Nat) : Prop where
  runs : RunsOk run (runsN run)
  txts : ∀ r ∈ riter run (runsN run), r.length = 6 ∧ (∀ c ∈ r, c = 68 ∨ c = 69) ∧ TT n (cntD run) r = toldL n (timesL r) ∧ ∀ t ∈ timesL r, 0 ≤ t
  head : (riter run (runsN run)).head? = some run
  lens : ∀ s, s ≤ sumT run → (levelP ((riter run (runsN run)).map timesL) (timesL run) s).length ≤ 100
  sum : ((timesL run).drop 1).foldl (fun a t => a + t) 0 = (sumT run : Int)
  fin : (levelP ((riter run (runsN run)).map timesL) (timesL run) (sumT run)).map (fun e => e.2 * hooksFrom 1 ((timesL run).drop 1)) = [factZ (sumT run)]
theorem flat_told {n : Int} : ∀ (ns : List Int) (d : Nat) (f : Nat → Sg) (_ : (List.range' d ns.length).map f = ns.map fun t => Sg.ref t.toNat) (_ : ∀ t ∈ ns, 0 ≤ t), ((List.range' d ns.length).flatMap fun i => (f i).txt n i) = toldFrom n d ns
  | [], _, _, _, _ => rfl
  | t :: ns, d, f, h, hp => by
    rw [List.length_cons, List.range'_succ, List.map_cons, List.map_cons] at h
    obtain ⟨h1, h2⟩ := List.cons.inj h
    rw [List.length_cons, List.range'_succ, List.flatMap_cons, flat_told ns (d + 1) f h2 fun q hq => hp q (.tail _ hq), toldFrom, h1]
    have e : ((t.toNat : Nat) : Int) = t := Int.toNat_of_nonneg (hp t (.head _))
    simp only [Sg.txt, e]
theorem TT_told {n : Int} {D : Nat} {r : List Nat} {ns : List Int} (h : (List.range (D + 1)).map (stAt r) = ns.map fun t => Sg.ref t.toNat) (hp : ∀ t ∈ ns, 0 ≤ t) : TT n D r = toldL n ns := by
  have hl : D + 1 = ns.length := by
    have := congrArg List.length h
    simpa using this
  unfold TT toldL
  rw [hl, List.range_eq_range'] at h
  rw [hl, List.range_eq_range']
  exact flat_told ns 0 (stAt r) h hp
theorem runFacts (n : Int) {run : List Nat} (h6 : run.length = 6) (hc : ∀ c ∈ run, c = 68 ∨ c = 69) : RunFacts n run := by
  have h := runOk_of h6 hc
  unfold runOk at h
  simp only [Bool.and_eq_true, decide_eq_true_eq, List.all_eq_true, List.mem_range, Bool.or_eq_true] at h
  obtain ⟨⟨⟨⟨⟨⟨⟨h1, h2⟩, h3⟩, h4⟩, h5⟩, h7⟩, h8⟩, h9⟩ := h
  refine ⟨⟨h1, h2, h3⟩, fun r hr => ?_, h5, fun s hs => h7 s (by omega), h8, h9⟩
  obtain ⟨⟨⟨⟨a1, a2⟩, a3⟩, a4⟩, a5⟩ := h4 r hr
  exact ⟨a2, a3, TT_told a4 a5, a5⟩
theorem runFacts_of {vs : List Value} {ns : List Int} (_ : IntsAre vs ns) {run : List Nat} (h6 : run.length = 6) (hc : ∀ c ∈ run, c = 68 ∨ c = 69) : RunFacts ns.sum run := runFacts _ h6 hc
theorem known_start {prog : Program} {w : World} {n : Int} {D : Nat} {ok : Obj} {t u : Tok} (h : ok.IsDictOf (strKind prog w) (strPairs [(Value.str (Str.ofString "") t, Value.str (tx (rowL n (D + 1))) u)])) : ∃ kvs, ok.IsDictOf (strKind prog w) kvs ∧ Known (TT n D) kvs ∧ kvs.length ≤ 1 := by
  have e : Str.ofString "" = tx [] := by decide +kernel
  refine ⟨[(tx [], .str (tx (TT n D [])) u)], ?_, ⟨?_, ?_⟩, Nat.le_refl _⟩
  · rw [TT_nil, ← e]; exact h
  · intro k v hv
    unfold valueAt at hv
    by_cases q : tx [] = k
    · simp [q] at hv
      exact ⟨[], u, q.symm, hv.symm⟩
    · simp [q] at hv
  · simp [valueAt]
end Mine
end

section
open PySem PySem.W PySem.Spec PySem.Calls PyProof.Rows
set_option maxRecDepth 100000
set_option maxHeartbeats 8000000
namespace Mine
/-- what the walk of the law asks of a run, its runs rs and their texts T -/
structure RF (n : Int) (run : List Nat) (rs : List (List Nat)) (N : Nat) (T : List Nat → List Nat) : Prop where
  n100 : N ≤ 100
  len : rs.length = N
  tT : Txs T
  txts : ∀ r ∈ rs, r.length = 6 ∧ (∀ c ∈ r, c = 68 ∨ c = 69) ∧ T r = toldL n (timesL r) ∧ ∀ t ∈ timesL r, 0 ≤ t
  head : rs.head? = some run
  lens : ∀ s, s ≤ sumT run → (levelP (rs.map timesL) (timesL run) s).length ≤ 100
  sum : ((timesL run).drop 1).foldl (fun a t => a + t) 0 = (sumT run : Int)
  fin : (levelP (rs.map timesL) (timesL run) (sumT run)).map (fun e => e.2 * hooksFrom 1 ((timesL run).drop 1)) = [factZ (sumT run)]
theorem RunFacts.abs {n : Int} {run : List Nat} (h : RunFacts n run) (hD : cntD run ≤ 6) : RF n run (riter run (runsN run)) (runsN run) (TT n (cntD run)) :=
  ⟨h.runs.1, h.runs.2.1, TT_txs n _ hD, h.txts, h.head, h.lens, h.sum, h.fin⟩
end Mine
end

section
open PySem PySem.W PySem.Spec PySem.Calls PyProof.Rows PyProof.Rows.LCg
set_option maxRecDepth 100000
set_option maxHeartbeats 8000000
namespace Mine
section
variable {prog : Program} {w : World} {A : Around} {E : Value → Shared → Prop} {s : Shared} {value slice : PySem.Expr} {h₀ : Heap} {L l : Addr} {m : Str → Option Value} {news : List (Addr × Obj)} {vs : List Value} {Q : Value → Shared → Prop}
theorem base_lto {k : Int} {uk : Tok} (F : Fr h₀ L s.heap m) (N : News h₀ L s.heap news) (hl : h₀.IsList l vs.toArray) (h0 : 0 ≤ k) (hz : vs.length ≤ 1000000)
    (h : ∀ D h', Fr h₀ L h' m → News h₀ L h' ((D, listOf (vs.take k.toNat).toArray 0) :: news) → (∀ p ∈ news, p.1 < D) → Q (.ref D) { s with heap := h' })
    (hs : subscripted slice false (.ref l) (.ref s.heap.objs.size) = operate [.ref s.heap.objs.size, .ref l] (getItem (.ref l) (.ref s.heap.objs.size)) := by with_unfolding_all rfl)
    (ht : ∀ r, letTemporaryGo value (.ref l) r = pure () := by intro _; with_unfolding_all rfl) :
    wpAny (model prog w) A (subscriptTail value slice (.ref l) (.ref s.heap.objs.size)) Q E { s with heap := s.heap.push { cls := .type "slice", data := .fields #[.none, .int k uk, .none] } } := by
  have hl := hl.at fun o e => F.keep l o e
  refine kmk_slice_lit F N hl .none (.int k uk) ?_ h hs ht (by rw [List.size_toArray, sizeLine_eq]; omega)
  rw [kmk_pick_nat _ (bounds_to h0)]
  show (vs.drop 0).take _ = _
  rw [List.drop_zero, Nat.sub_zero, List.size_toArray, kmk_take_min]
end
theorem my_mod2 {prog : Program} {w : World} {A : Around} {E : Value → Shared → Prop} {s : Shared} {n : Int} {t u : Tok} {Q : Value → Shared → Prop} (h : ∀ p : Int, p = 0 ∨ p = 1 → Q (.int p s.toks) { s with toks := s.toks + 1 }) : wpAny (model prog w) A (binaryOp .Mod (.int n t) (.int 2 u)) Q E s := by
  refine mod_int (by decide) (h _ ?_)
  have h1 := Int.fmod_nonneg_of_pos n (b := 2) (by decide)
  have h2 := Int.fmod_lt_of_pos n (b := 2) (by decide)
  omega
theorem numbers_news {vs : List Value} {ns : List Int} {h₀ h : Heap} {L D : Addr} {rest : List (Addr × Obj)} {t1 t2 t3 t4 t5 t6 : Tok} (hI : IntsAre vs ns) (N : News h₀ L h ((D, listOf (vs.take (Int.toNat 6) ++ List.drop (((vs.take (Int.toNat 6)).length : Nat) : Int).toNat [Value.int 1 t1, Value.int 0 t2, Value.int 1 t3, Value.int 0 t4, Value.int 0 t5, Value.int 1 t6]).toArray 0) :: rest)) :
    ∃ nv nn, IntsAre nv nn ∧ nn.length = 6 ∧ News h₀ L h ((D, listOf nv.toArray 0) :: rest) := by
  refine ⟨_, _, (hI.take 6).append (IntsAre.drop (ns := [1, 0, 1, 0, 0, 1]) (.cons _ _ (.cons _ _ (.cons _ _ (.cons _ _ (.cons _ _ (.cons _ _ .nil)))))) _), ?_, N⟩
  have := hI.length
  simp only [List.length_append, List.length_take, List.length_drop, List.length_cons, List.length_nil, Int.toNat_natCast]
  have e : Int.toNat 6 = 6 := rfl
  rw [e, this]
  omega
theorem ed0 : Txt.item (Str.ofString "ED") 0 = tx [69] := by decide +kernel
theorem ed1 : Txt.item (Str.ofString "ED") 1 = tx [68] := by decide +kernel
theorem join_cs : ∀ cs : List Nat, Txt.join (Str.ofString "") (cs.map fun c => tx [c]) = tx cs
  | [] => rfl
  | c :: r => by
    have h := join_list (Str.ofString "") (tx [c]) (r.map fun c => tx [c])
    have e0 : (Str.ofString "").cps.toList = [] := by decide +kernel
    have e1 : ∀ r : List Nat, ((r.map fun c => tx [c]).flatMap fun q : Str => ([] : List Nat) ++ q.cps.toList) = r := by
      intro r
      induction r with
      | nil => rfl
      | cons a r ih => rw [List.map_cons, List.flatMap_cons, ih]; simp [tx]
    rw [e0, e1] at h
    have e3 : (Str.join (Str.ofString "") ((c :: r).map fun c => tx [c])).cps.toList = c :: r := by
      rw [List.map_cons, h]; simp [tx]
    have e4 : Txt.join (Str.ofString "") ((c :: r).map fun c => tx [c]) = Str.join (Str.ofString "") ((c :: r).map fun c => tx [c]) := by
      have := join_plain_closes (Str.ofString "") ((c :: r).map fun c => tx [c])
      exact eq_of_beq this
    have e2 : Txt.join (Str.ofString "") ((c :: r).map fun c => tx [c]) = tx (c :: r) := by
      rw [e4]
      generalize Str.join (Str.ofString "") ((c :: r).map fun c => tx [c]) = z at e3
      cases z with
      | mk a => simp at e3; unfold tx; rw [← e3]
    exact e2
theorem my_join {prog : Program} {w : World} {A : Around} {E : Value → Shared → Prop} {s : Shared} {h₀ : Heap} {L D : Addr} {news : List (Addr × Obj)} {lo : Obj} {ys : List Value} {cs : List Nat} {t : Tok} {Q : Value → Shared → Prop} (N : News h₀ L s.heap news) (hm : (D, lo) ∈ news) (hc : lo.cls = .type "list") (hd : ∃ e, lo.data = .seq ys.toArray e) (hs : StrsAre ys (cs.map fun c => tx [c])) (hl : cs.length ≤ 100)
    (h : ∀ t' k, Q (.str (tx cs) t') { s with toks := k }) : wpAny (model prog w) A (call (.builtin "str.join") [.str (Str.ofString "") t, .ref D]) Q E s := by
  obtain ⟨e, hd⟩ := hd
  have hl2 : s.heap.IsList D ys.toArray := ⟨_, (N _ hm).1, hc, e, hd⟩
  refine join_listC hl2 hs (by decide) ?_ ?_
  · have e1 : ((cs.map fun c => tx [c]).map (·.length)).sum = cs.length := by
      clear hs h hl
      induction cs with
      | nil => rfl
      | cons c r ih => rw [List.map_cons, List.map_cons, List.sum_cons, ih, tx_len, List.length_cons]; simp; omega
    rw [e1, List.length_map]; omega
  · intro t' k
    rw [join_cs]; exact h t' k
theorem my_times {w : World} {mean : ExcName → Option Value} {mg mb : Str → Option Value} {LL : List Str} {news : List (Addr × Obj)} {dp un : Nat} {gd : Option (List Code)} {cn : Str} {cs : Scope} {ad : Addr} {ccd : Value} {cl : List (Str × Addr)} {outer : List Env} {A₀ : Around} {base h₀ : Heap} {L : Addr} {m : Str → Option Value} {s : Shared} {Q E : Value → Shared → Prop}
    (k1 : Below A₀ base outer h₀) (k2 : Fr h₀ L s.heap m) (k3 : (hd.heap_39 w.params).In h₀) (k4 : News h₀ L s.heap news) (k5 : Top hd.view_39 LL mean mg mb h₀) (kK : cs.kind = .function) (kd : dp + 1 < recursionLimit) (ku : un + 8 < cLine) {run : List Nat} {t : Tok} (hr : run.length ≤ 6) (hc : ∀ c ∈ run, c = 68 ∨ c = 69)
    (h : ∀ l vs e h' tk', Fr h₀ L h' m → News h₀ L h' ((l, listOf vs.toArray e) :: news) → (∀ p ∈ news, p.1 < l) → IntsAre vs (timesL run) → Q (.ref l) { s with heap := h', toks := tk' }) :
    wpAny (model Challenge.rw_wn0027_01.row.prog w) (ktrTop dp un gd cn cs L ad ccd cl outer) (call (.ref 55) [.str (tx run) t]) Q E s := by
  refine times_spec w mean mg mb LL news run t dp un gd cn cs ad ccd cl outer A₀ base h₀ L m s Q E k1 k2 k3 k4 k5 kK ⟨hr, hc⟩ kd ku ?_
  rintro v nx h' tk' F N ⟨l, vs, e, rfl, rfl, h1, h2⟩
  exact h l vs e h' tk' F N h1 h2
theorem my_runs {w : World} {mean : ExcName → Option Value} {mg mb : Str → Option Value} {LL : List Str} {news : List (Addr × Obj)} {dp un : Nat} {gd : Option (List Code)} {cn : Str} {cs : Scope} {ad : Addr} {ccd : Value} {cl : List (Str × Addr)} {outer : List Env} {A₀ : Around} {base h₀ : Heap} {L : Addr} {m : Str → Option Value} {s : Shared} {Q E : Value → Shared → Prop}
    (k1 : Below A₀ base outer h₀) (k2 : Fr h₀ L s.heap m) (k3 : (hd.heap_39 w.params).In h₀) (k4 : News h₀ L s.heap news) (k5 : Top hd.view_39 LL mean mg mb h₀) (kK : cs.kind = .function) (kd : dp + 1 < recursionLimit) (ku : un + 8 < cLine) {run : List Nat} {K : Nat} {t : Tok} (hr : run.length = 6) (hc : RunsOk run K)
    (h : ∀ l vs e h' tk', Fr h₀ L h' m → News h₀ L h' ((l, listOf vs.toArray e) :: news) → (∀ p ∈ news, p.1 < l) → StrsAre vs ((riter run K).map tx) → Q (.ref l) { s with heap := h', toks := tk' }) :
    wpAny (model Challenge.rw_wn0027_01.row.prog w) (ktrTop dp un gd cn cs L ad ccd cl outer) (call (.ref 76) [.str (tx run) t]) Q E s := by
  refine runs_spec w mean mg mb LL news run K t dp un gd cn cs ad ccd cl outer A₀ base h₀ L m s Q E k1 k2 k3 k4 k5 kK ⟨hr, hc⟩ kd ku ?_
  rintro v nx h' tk' F N ⟨l, vs, e, rfl, rfl, h1, h2⟩
  exact h l vs e h' tk' F N h1 h2
theorem my_row {w : World} {mean : ExcName → Option Value} {mg mb : Str → Option Value} {LL : List Str} {news : List (Addr × Obj)} {dp un : Nat} {gd : Option (List Code)} {cn : Str} {cs : Scope} {ad : Addr} {ccd : Value} {cl : List (Str × Addr)} {outer : List Env} {A₀ : Around} {base h₀ : Heap} {L : Addr} {m : Str → Option Value} {s : Shared} {Q E : Value → Shared → Prop}
    (k1 : Below A₀ base outer h₀) (k2 : Fr h₀ L s.heap m) (k3 : (hd.heap_39 w.params).In h₀) (k4 : News h₀ L s.heap news) (k5 : Top hd.view_39 LL mean mg mb h₀) (kK : cs.kind = .function) (kd : dp + 1 < recursionLimit) (ku : un + 8 < cLine) {d : Nat} {z n : Int} {td tn : Tok} (hz : z = (d : Int)) (hd6 : d ≤ 6)
    (h : ∀ t' h' tk', Fr h₀ L h' m → News h₀ L h' news → Q (.str (tx (rowL n (d + 1))) t') { s with heap := h', toks := tk' }) :
    wpAny (model Challenge.rw_wn0027_01.row.prog w) (ktrTop dp un gd cn cs L ad ccd cl outer) (call (.ref 50) [.int z td, .int n tn]) Q E s := by
  subst hz
  refine row_spec w mean mg mb LL news d n td tn dp un gd cn cs ad ccd cl outer A₀ base h₀ L m s Q E k1 k2 k3 k4 k5 kK hd6 kd ku ?_
  rintro v nx h' tk' F N ⟨⟨t', rfl⟩, rfl⟩
  exact h t' h' tk' F N
theorem my_hooks {w : World} {mean : ExcName → Option Value} {mg mb : Str → Option Value} {LL : List Str} {news : List (Addr × Obj)} {dp un : Nat} {gd : Option (List Code)} {cn : Str} {cs : Scope} {ad : Addr} {ccd : Value} {cl : List (Str × Addr)} {outer : List Env} {A₀ : Around} {base h₀ : Heap} {L : Addr} {m : Str → Option Value} {s : Shared} {Q E : Value → Shared → Prop}
    (k1 : Below A₀ base outer h₀) (k2 : Fr h₀ L s.heap m) (k3 : (hd.heap_39 w.params).In h₀) (k4 : News h₀ L s.heap news) (k5 : Top hd.view_39 LL mean mg mb h₀) (kK : cs.kind = .function) (kd : dp + 1 < recursionLimit) (ku : un + 8 < cLine) {l : Addr} {lo : Obj} {vs : List Value} {ns : List Int} (hm : (l, lo) ∈ news) (hc : lo.cls = .type "list") (hd' : ∃ e, lo.data = .seq vs.toArray e) (hi : IntsAre vs ns) (hl : ns.length ≤ 7) (hr : ∀ t ∈ ns, 0 ≤ t ∧ t ≤ 6)
    (h : ∀ t' h' tk', Fr h₀ L h' m → News h₀ L h' news → Q (.int (hooksFrom 1 ns) t') { s with heap := h', toks := tk' }) :
    wpAny (model Challenge.rw_wn0027_01.row.prog w) (ktrTop dp un gd cn cs L ad ccd cl outer) (call (.ref 88) [.ref l]) Q E s := by
  refine hooks_spec w mean mg mb LL news l lo vs ns dp un gd cn cs ad ccd cl outer A₀ base h₀ L m s Q E k1 k2 k3 k4 k5 kK ⟨hm, hc, hd', hi, hl, hr⟩ kd ku ?_
  rintro v nx h' tk' F N ⟨⟨t', rfl⟩, rfl⟩
  exact h t' h' tk' F N
theorem my_lower {w : World} {mean : ExcName → Option Value} {mg mb : Str → Option Value} {LL : List Str} {news : List (Addr × Obj)} {dp un : Nat} {gd : Option (List Code)} {cn : Str} {cs : Scope} {ad : Addr} {ccd : Value} {cl : List (Str × Addr)} {outer : List Env} {A₀ : Around} {base h₀ : Heap} {L : Addr} {m : Str → Option Value} {s : Shared} {Q E : Value → Shared → Prop}
    (k1 : Below A₀ base outer h₀) (k2 : Fr h₀ L s.heap m) (k3 : (hd.heap_39 w.params).In h₀) (k4 : News h₀ L s.heap news) (k5 : Top hd.view_39 LL mean mg mb h₀) (kK : cs.kind = .function) (kd : dp + 2 < recursionLimit) (ku : un + 20 < cLine) {n : Int} {tn : Tok} {lf : List (List Nat)} {dv : Addr} {ov : Obj} {es0 : List Ent} {ll : Addr} {lol : Obj} {vl : List Value} (h1 : (dv, ov) ∈ news) (h2 : (dv == sysModules) = false) (h3 : ov.IsDictOf (strKind Challenge.rw_wn0027_01.row.prog w) (kvsOf n es0)) (h4 : ∀ q ∈ ledOf es0, q ∈ news) (h5 : ∀ e ∈ es0, EntOk e) (h6 : es0.length ≤ 1000) (h7 : (ll, lol) ∈ news) (h8 : lol.cls = .type "list") (h9 : ∃ e, lol.data = .seq vl.toArray e) (h10 : StrsAre vl (lf.map tx))
    (h : ∀ dl od es h' tk', Fr h₀ L h' m → News h₀ L h' ((dl, od) :: (ledOf es ++ news)) → (dl == sysModules) = false → od.IsDictOf (strKind Challenge.rw_wn0027_01.row.prog w) (kvsOf n es) → (∀ e ∈ es, EntOk e) → Apart dl es news → absOf es = lowF n lf (absOf es0) → Q (.ref dl) { s with heap := h', toks := tk' }) :
    wpAny (model Challenge.rw_wn0027_01.row.prog w) (ktrTop dp un gd cn cs L ad ccd cl outer) (call (.ref 83) [.ref dv, .ref ll, .int n tn]) Q E s := by
  refine lower_spec w mean mg mb LL news n tn lf dv ov es0 ll lol vl dp un gd cn cs ad ccd cl outer A₀ base h₀ L m s Q E k1 k2 k3 k4 k5 kK ⟨h1, h2, h3, h4, h5, h6, h7, h8, h9, h10⟩ kd ku ?_
  rintro v nx h' tk' F N ⟨dl, od, es, rfl, rfl, g1, g2, g3, g4, g5⟩
  exact h dl od es h' tk' F N g1 g2 g3 g4 g5
theorem timesTail_len : ∀ r : List Nat, (timesTail r).length = cntD r
  | [] => rfl
  | c :: r => by
    have ih := timesTail_len r
    unfold timesTail
    by_cases h : c = 68
    · rw [if_pos h, List.length_cons, ih]; simp [cntD, h]
    · rw [if_neg h, ih]; simp [cntD, h]
theorem timesL_len (r : List Nat) : (timesL r).length = cntD r + 1 := by
  unfold timesL
  rw [List.length_cons, timesTail_len]
theorem cntD_le (r : List Nat) : cntD r ≤ r.length := List.length_filter_le _ _
end Mine
end

section
open PySem PySem.W PySem.Spec PySem.Calls PyProof.Rows PyProof.Rows.LCg
set_option maxRecDepth 100000
set_option maxHeartbeats 8000000
namespace Mine
section
variable {M : Model} {A : Around} {E : Value → Shared → Prop} {s : Shared} {h₀ : Heap} {L a : Addr} {m : Str → Option Value} {cn : Str} {cs : Scope} {ccd : Value} {cl : List (Str × Addr)}
  {x : Str} {v : Value} {Q : Unit → Shared → Prop} {news : List (Addr × Obj)} {c : Addr} {o : Obj} {v₀ : Option Value}
/-- a store into a cell of the ledger, the ledger by upd -/
theorem storeX_M (F : Fr h₀ L s.heap m) (N : News h₀ L s.heap news) (hc : cl.lookup x = some c) (hm : (c, o) ∈ news) (hd : o.data = .cell v₀)
    (h : ∀ h' o', Fr h₀ L h' m → News h₀ L h' (upd c o' news) → o'.data = .cell (some v) → Q () { s with heap := h' })
    (hk : cs.kind = .function := by rfl) (hx : (envX cn cs L a ccd cl).kindOf x = some .cell := by rfl) : wpAny M A (storeName (envX cn cs L a ccd cl) x v) Q E s := by
  have hmem := N (c, o) hm
  refine wpAny_storeName_cell hk hx hc ⟨o, hmem.1, hd⟩ fun h' hv hs => ?_
  obtain ⟨o', ho', hd'⟩ := hv
  exact h h' o' (F.change hs hmem.2.1 hmem.2.2) (upd_news N hm hs ho') hd'
end
/-- small facts of a run, decided for the 64 -/
structure RB (run : List Nat) : Prop where
  rng : ∀ t ∈ timesL run, 0 ≤ t ∧ t ≤ 6
  s36 : sumT run ≤ 36
  sum : ((timesL run).drop 1).sum = (sumT run : Int)
  hk0 : 0 ≤ hooksFrom 1 ((timesL run).drop 1)
  hk1 : hooksFrom 1 ((timesL run).drop 1) ≤ 1000000
def rbOk (r : List Nat) : Bool := (timesL r).all (fun t => decide (0 ≤ t ∧ t ≤ 6)) && decide (sumT r ≤ 36) && decide (((timesL r).drop 1).sum = (sumT r : Int)) && decide (0 ≤ hooksFrom 1 ((timesL r).drop 1)) && decide (hooksFrom 1 ((timesL r).drop 1) ≤ 1000000)
set_option maxRecDepth 1000000 in
theorem all_rb : (bits 6).all rbOk = true := by decide +kernel
theorem rb_of {run : List Nat} (h6 : run.length = 6) (hc : ∀ c ∈ run, c = 68 ∨ c = 69) : RB run := by
  have h := List.all_eq_true.mp all_rb run (mem_bits h6 hc)
  unfold rbOk at h
  simp only [Bool.and_eq_true, decide_eq_true_eq, List.all_eq_true] at h
  obtain ⟨⟨⟨⟨h1, h2⟩, h3⟩, h4⟩, h5⟩ := h
  exact ⟨h1, h2, h3, h4, h5⟩
theorem level_pos {lf : List (List Int)} (hl : ∀ a ∈ lf, ∀ t ∈ a, 0 ≤ t) {times : List Int} (ht : ∀ t ∈ times, 0 ≤ t) : ∀ i, Pos (levelP lf times i)
  | 0 => by
    intro e he
    rw [List.mem_singleton.mp he]; exact ht
  | i + 1 => (lowP_eq (n := 0) hl (level_pos hl ht i)).2
theorem level_step {n : Int} {lf : List (List Int)} (hl : ∀ a ∈ lf, ∀ t ∈ a, 0 ≤ t) {times : List Int} (ht : ∀ t ∈ times, 0 ≤ t) {i : Nat} {es es' : List Ent} (h : absOf es = levelP lf times i) (h' : absOf es' = lowF n (lf.map (toldL n)) (absOf es)) : absOf es' = levelP lf times (i + 1) := by
  rw [h', h, (lowP_eq hl (level_pos hl ht i)).1]; rfl
theorem told_texts {T : List Nat → List Nat} {n : Int} {rs : List (List Nat)} (h : ∀ r ∈ rs, T r = toldL n (timesL r)) : (rs.map fun r => tx (T r)) = (((rs.map timesL).map (toldL n)).map tx) := by
  rw [List.map_map, List.map_map]
  exact List.map_congr_left fun r hr => by rw [h r hr]; rfl
theorem abs_len (es : List Ent) : (absOf es).length = es.length := List.length_map ..
theorem kvs_len (n : Int) (es : List Ent) : (kvsOf n es).length = es.length := List.length_map ..
/-- the one entry that is left -/
theorem abs_one {es : List Ent} {lv : List (List Int × Int)} {H Z : Int} (h : absOf es = lv) (hf : lv.map (fun e => e.2 * H) = [Z]) : ∃ e, es = [e] ∧ e.w * H = Z := by
  subst h
  unfold absOf at hf
  match es, hf with
  | [e], hf => exact ⟨e, rfl, by simpa using hf⟩
  | [], hf => cases hf
  | _ :: _ :: _, hf => cases (List.cons.inj hf).2
section
variable {prog : Program} {w : World} {A : Around} {E : Value → Shared → Prop} {s : Shared} {h₀ : Heap} {L : Addr} {m : Str → Option Value} {env : Env}
/-- the source of a comprehension is a dict by texts that stands in the ledger -/
def SrcD (prog : Program) (w : World) (A : Around) (h₀ : Heap) (L : Addr) (m : Str → Option Value) (env : Env) (elt : PySem.Expr) (x : Str) (scope : Scope) (cl : List (Str × Addr)) (Fin : Shared → List Value → List (Addr × Obj) → Prop) (xv : Value) (s₁ : Shared) : Prop :=
  ∃ d od kvs news, xv = .ref d ∧ A.handled = none ∧ (d == sysModules) = false ∧ Fr h₀ L s₁.heap m ∧ News h₀ L s₁.heap news ∧ (d, od) ∈ news ∧ od.IsDictOf (strKind prog w) kvs ∧ kvs.length ≤ sizeLine ∧
    ∀ s₂ : Shared, (∃ h, s₂ = { s₁ with heap := h }) → CompRest prog w A h₀ L m env elt x scope cl s₂ (fun nw => (d, od) ∈ nw) (fun i v => ∃ k y, kvs[i]? = some (k, y) ∧ (strKind prog w).is k v = true) (Fin s₂) kvs.length 0 [] news
theorem ListComp_D {elt iter : PySem.Expr} {x : Str} {px : PySem.Pos} {scope : Scope} {cl : List (Str × Addr)} {pos : PySem.Pos} {Q : Value → Shared → Prop} (F₀ : Fr h₀ L s.heap m)
    (hclos : closureFor scope env = pure cl) (hcell : ∀ y ∈ scope.names, y.2 ≠ .cell) (hkind : scope.kind = .function)
    (hnames : ∀ y ∈ scope.names, y.2 = .local → scope.names.lookup y.1 = some .local) (hx : scope.names.lookup x = some .local)
    (h : wpAny (model prog w) A (eval iter env) (SrcD prog w A h₀ L m env elt x scope cl (fun s₂ => FinE h₀ L m s₂ Q)) E s)
    (hs : ∀ x, foldedSetIterable iter env x = pure x := by intro _; rfl) :
    wpAny (model prog w) A (eval (.ListComp elt [⟨.Name x px, iter, [], 0⟩] scope pos) env) Q E s := by
  rw [eval_ListComp]
  refine wpAny_comprehension_free (use := none) rfl hs hclos hkind hnames (wpAny_mono h (fun xv s₁ h₁ => ?_) fun _ _ e => e)
  obtain ⟨d, od, kvs, news, rfl, hh, hsm, F, N, hm, hod, hsz, R⟩ := h₁
  have hob := (N _ hm).1
  obtain ⟨es, ep, hex, hdat, hkeys, hpairs, hnd⟩ := hod
  have hda : s₁.heap.DictAt (strKind prog w) d kvs ep := ⟨od, es, hob, hex, hdat, hkeys, hpairs, hnd⟩
  have hlt : d < s₁.heap.objs.size := Heap.lt_size hob
  refine wpAny_pyIter_dict hsm hda ?_
  have up : ∀ b o, s₁.heap.get? b = some o → (s₁.heap.push { cls := .type "dict_keyiterator", data := .fields #[.ref d, .int 0 0, .int kvs.length 0, .int ep 0] }).get? b = some o := fun b o e => Heap.get?_push_of_some _ e
  refine block_U (Walks.dictKeys hh s₁.heap.objs.size d (Nat.ne_of_lt hlt) kvs ep) hsz (fun i h st => by obtain ⟨o, e, _⟩ := st.1; exact ⟨o, e⟩)
    (fun i h h' o nw st e e' k N S => ⟨by obtain ⟨o', q, r⟩ := st.1; rw [e] at q; cases q; exact ⟨o, e', r⟩, ⟨od, es, (N _ S).1, hex, hdat, hkeys, hpairs, hnd⟩⟩) hcell hkind hx
    ⟨⟨_, Heap.get?_push_size _ rfl, rfl, rfl⟩, hda.at' (up d)⟩ (fun b hb => ?_)
    (F.keeps up) (N.grown up) (Nat.ne_of_lt F.ns.lt) (next_is_new F) (fun p hp => Nat.ne_of_lt (Heap.lt_size (N p hp).1)) hm (R _ ⟨_, rfl⟩) ?_
  · show b < (s₁.heap.push _).objs.size
    rw [Heap.size_push]
    rcases List.mem_cons.mp hb with rfl | hb
    · exact Nat.lt_succ_self _
    · rw [List.mem_singleton.mp hb]; exact Nat.lt_succ_of_lt hlt
  · intro D C h tk m' ys news' F' N' o1 hn hC₀ hD₀ hCL hDL hCD offC fin
    refine ⟨m', hn, fun h'' hs'' => fin D h'' tk (F'.change hs'' hCL hC₀) (fun p hp => ?_) o1⟩
    refine ⟨hs''.extBut _ _ ?_ (N' p hp).1, (N' p hp).2⟩
    rcases List.mem_cons.mp hp with rfl | hp
    · exact Ne.symm hCD
    · exact offC p hp
theorem SrcD.intro {elt : PySem.Expr} {x : Str} {scope : Scope} {cl : List (Str × Addr)} {Fin : Shared → List Value → List (Addr × Obj) → Prop} {d : Addr} {od : Obj} {kvs : List (Str × Value)} {news : List (Addr × Obj)} {s₁ : Shared}
    (hh : A.handled = none) (hsm : (d == sysModules) = false) (F : Fr h₀ L s₁.heap m) (N : News h₀ L s₁.heap news) (hm : (d, od) ∈ news) (hod : od.IsDictOf (strKind prog w) kvs) (hsz : kvs.length ≤ sizeLine)
    (h : ∀ g, CompRest prog w A h₀ L m env elt x scope cl { s₁ with heap := g } (fun nw => (d, od) ∈ nw) (fun i v => ∃ k y, kvs[i]? = some (k, y) ∧ (strKind prog w).is k v = true) (Fin { s₁ with heap := g }) kvs.length 0 [] news) :
    SrcD prog w A h₀ L m env elt x scope cl Fin (.ref d) s₁ := ⟨d, od, kvs, news, rfl, hh, hsm, F, N, hm, hod, hsz, fun _ ⟨g, e⟩ => e ▸ h g⟩
end
/-- what a turn over the levels changes -/
structure LvSt where
  oc : Obj
  dl : Addr
  od : Obj
  es : List Ent
  pr : Int
  tk : Tok
theorem level_start {prog : Program} {w : World} {n : Int} {od : Obj} {t : Tok} {times : List Int} {vt : List Value} {lt : Addr} {et : Nat} {lp : Addr} {tk : Tok} {h₀ h : Heap} {L dv LC TC : Addr} {a0 b3 a4 a5 a8 : Addr × Obj} {oL oT : Obj}
    (N : News h₀ L h [a0, (lp, listOf #[Value.ref lt, .int 1 tk] 0), (dv, od), b3, a4, a5, (lt, listOf vt.toArray et), (LC, oL), a8, (TC, oT)])
    (ho : od.IsDictOf (strKind prog w) (strPairs [(Value.str (tx (toldL n times)) t, Value.ref lp)])) (hL : oL.data = .cell (some (.ref dv))) (hT : oT.data = .cell (some (.ref lt)))
    (hi : IntsAre vt times) (h7 : times.length ≤ 7) (h1 : 1 ≤ times.length) (hr : ∀ t ∈ times, 0 ≤ t ∧ t ≤ 6) :
    ∃ (es : List Ent) (oL oT od : Obj), News h₀ L h ((LC, oL) :: (dv, od) :: (ledOf es ++ [b3, (lt, listOf vt.toArray et), (TC, oT)])) ∧ od.IsDictOf (strKind prog w) (kvsOf n es) ∧ oL.data = .cell (some (.ref dv)) ∧ oT.data = .cell (some (.ref lt)) ∧ (∀ e ∈ es, EntOk e) ∧ absOf es = [(times, 1)] := by
  refine ⟨[⟨lp, listOf #[Value.ref lt, .int 1 tk] 0, lt, listOf vt.toArray et, vt, times, 1, tk⟩], oL, oT, od, ?_, ho, hL, hT, ?_, rfl⟩
  · intro p hp
    refine N p ?_
    have e : ledOf [(⟨lp, listOf #[Value.ref lt, .int 1 tk] 0, lt, listOf vt.toArray et, vt, times, 1, tk⟩ : Ent)] = [(lp, listOf #[Value.ref lt, .int 1 tk] 0), (lt, listOf vt.toArray et)] := rfl
    rw [e] at hp
    simp only [List.mem_cons, List.cons_append, List.nil_append, List.not_mem_nil, or_false] at hp ⊢
    rcases hp with h | h | h | h | h | h | h <;> simp [h]
  · intro e he
    rw [List.mem_singleton.mp he]
    exact ⟨rfl, ⟨0, rfl⟩, rfl, ⟨et, rfl⟩, hi, h7, h1, hr⟩
theorem mem_pick5 {α : Type} {p a b c d x : α} {r : List α} (h : p ∈ a :: b :: c :: d :: x :: r) : p ∈ x :: a :: b :: c :: d :: r := by
  simp only [List.mem_cons] at h ⊢
  rcases h with h | h | h | h | h | h <;> simp [h]
theorem mem_unpick5 {α : Type} {p a b c d x : α} {r : List α} (h : p ∈ x :: a :: b :: c :: d :: r) : p ∈ a :: b :: c :: d :: x :: r := by
  simp only [List.mem_cons] at h ⊢
  rcases h with h | h | h | h | h | h <;> simp [h]
theorem led_next {LC dl2 dl : Addr} {oc oc3 od2 od : Obj} {es2 es : List Ent} {base own : List (Addr × Obj)} (hap : Apart dl2 es2 ((LC, oc) :: (dl, od) :: (ledOf es ++ base ++ own))) (hb : ∀ p ∈ base, p.1 ≠ LC) (ho : ∀ p ∈ own, p.1 ≠ LC) :
    ∀ q ∈ (LC, oc3) :: (dl2, od2) :: (ledOf es2 ++ base ++ own), q ∈ upd LC oc3 ((dl2, od2) :: (ledOf es2 ++ ((LC, oc) :: (dl, od) :: (ledOf es ++ base ++ own)))) := by
  intro q hq
  rcases List.mem_cons.mp hq with rfl | hq
  · exact upd_self
  · rcases List.mem_cons.mp hq with rfl | hq
    · exact upd_other (.head _) fun e => hap.off _ (.head _) (LC, oc) (.head _) e.symm
    · rcases List.mem_append.mp hq with hq | hq
      · rcases List.mem_append.mp hq with hq | hq
        · exact upd_other (.tail _ (List.mem_append_left _ hq)) fun e => hap.off _ (.tail _ (addr_of_led hq)) (LC, oc) (.head _) e.symm
        · exact upd_other (.tail _ (List.mem_append_right _ (.tail _ (.tail _ (List.mem_append_left _ (List.mem_append_right _ hq)))))) (hb q hq)
      · exact upd_other (.tail _ (List.mem_append_right _ (.tail _ (.tail _ (List.mem_append_right _ hq))))) (ho q hq)
theorem led_off {LC dl2 dl I : Addr} {oc oc3 od2 od : Obj} {es2 es : List Ent} {base own : List (Addr × Obj)} (hap : Apart dl2 es2 ((LC, oc) :: (dl, od) :: (ledOf es ++ base ++ own))) (hI : ∃ o, (I, o) ∈ own) (hold : ∀ p ∈ (LC, oc) :: (dl, od) :: (ledOf es ++ base), p.1 ≠ I) :
    ∀ p ∈ (LC, oc3) :: (dl2, od2) :: (ledOf es2 ++ base), p.1 ≠ I := by
  obtain ⟨oI, hIo⟩ := hI
  have hIm : (I, oI) ∈ (LC, oc) :: (dl, od) :: (ledOf es ++ base ++ own) := .tail _ (.tail _ (List.mem_append_right _ hIo))
  intro p hp
  rcases List.mem_cons.mp hp with rfl | hp
  · exact hold (LC, oc) (.head _)
  · rcases List.mem_cons.mp hp with rfl | hp
    · exact fun e => hap.off _ (.head _) _ hIm e.symm
    · rcases List.mem_append.mp hp with hp | hp
      · exact fun e => hap.off _ (.tail _ (addr_of_led hp)) _ hIm e.symm
      · exact hold p (.tail _ (.tail _ (List.mem_append_right _ hp)))
end Mine
end

section
open PySem PySem.W PySem.Spec PySem.Calls PyProof.Rows PyProof.Rows.LCg
set_option maxRecDepth 100000
set_option maxHeartbeats 8000000
namespace Mine
section
local macro_rules | `(tactic| walk_at "binaryOp Mod int int") => `(tactic| (refine' my_mod2 ?_; intro p9 hp9; rcases hp9 with h9 | h9 <;> subst h9))
local macro_rules | `(tactic| walk_at "CompSrc") => `(tactic| refine stop_of ?_)
local macro_rules | `(tactic| walk_at "CompEnd") => `(tactic| refine stop_of ?_)
local macro_rules | `(tactic| walk_at "call builtin:str.join") => `(tactic| (refine' my_join ?N ?m ?c ?d ?s ?l ?_; (case N => k_asm); (case m => kcf_m); (case c => exact rfl); (case d => exact ⟨_, rfl⟩); (case s => assumption); (case l => omega); intro t9 k9))
local macro_rules | `(tactic| walk_at "exec Assign cons ListComp") => `(tactic| refine stop_of ?_)
local macro_rules | `(tactic| walk_at "subscriptTail Name Slice ref ref") => `(tactic| (dsimp only; first | (refine' base_lto (s := ⟨_, _, _, _, _⟩) ?F ?N ?m ?a ?z ?_; (case F => k_asm); (case N => k_asm); (case m => assumption); (case a => decide); (case z => omega); intro D9 h9 F9 N9 l9; dsimp only) | (refine' my_lfrom (s := ⟨_, _, _, _, _⟩) ?F ?N ?m ?c ?d ?a ?z ?_; (case F => k_asm); (case N => k_asm); (case m => kcf_m); (case c => exact rfl); (case d => exact ⟨_, rfl⟩); (case a => omega); (case z => exact Nat.le_of_ble_eq_true rfl); intro D9 h9 F9 N9 l9; dsimp only)))
local macro_rules | `(tactic| walk_at "call builtin:len") => `(tactic| ((with_reducible show wpAny _ _ (call (Value.builtin "len") [Value.ref _]) _ _ _); refine' my_llen ?N ?m ?c ?d ?k ?_; (case N => k_asm); (case m => kcf_m); (case c => exact rfl); (case d => exact ⟨_, rfl⟩); (case k => first | omega | (rw [List.length_take]; omega))))
local macro_rules | `(tactic| walk_at "subscriptTail") => `(tactic| ((with_reducible show wpAny _ _ (subscriptTail (PySem.Expr.List _ _) _ (Value.ref _) (Value.ref _)) _ _ _); refine kba_turn (value' := PySem.Expr.Name (PySem.Str.ofString "_") ⟨0, 0, 0, 0⟩) (fun _ => rfl) ?_; (try dsimp only); refine' my_lfrom (s := ⟨_, _, _, _, _⟩) ?F ?N ?m ?c ?d ?a ?z ?_; (case F => k_asm); (case N => k_asm); (case m => kcf_m); (case c => exact rfl); (case d => exact ⟨_, rfl⟩); (case a => omega); (case z => exact Nat.le_of_ble_eq_true rfl); intro D9 h9 F9 N9 l9; dsimp only))
local macro_rules | `(tactic| walk_at "subscriptTail Name Constant ref int") => `(tactic| (refine' my_litem ?N ?m ?c ?d ?a ?b ?x ?_; (case N => k_asm); (case m => kcf_m); (case c => first | assumption | exact rfl); (case d => first | assumption | exact ⟨_, rfl⟩); (case a => decide); (case b => decide); (case x => first | assumption | exact rfl)))
local macro_rules | `(tactic| walk_at "subscriptTail Subscript Constant ref int") => `(tactic| (refine' my_litem ?N ?m ?c ?d ?a ?b ?x ?_; (case N => k_asm); (case m => kcf_m); (case c => first | assumption | exact rfl); (case d => first | assumption | exact ⟨_, rfl⟩); (case a => decide); (case b => decide); (case x => first | assumption | exact rfl)))
local macro_rules | `(tactic| walk_at "binaryOp Mult int int") => `(tactic| (dsimp only; refine' mul_int ?h ?m; (case m => exact IntMulOk.of_right (intBits_le_64 (by omega) (by omega)))))
theorem X : PySem.Challenge.rw_wn0027_01.Holds := Mine.hd (by
  w_strict (
    k_go0
    (all_goals try k_fold)
    (rename List Int => ns0)
    (rename World => w0)
    (rename IntsAre _ _ => hI)
    (rename (¬ (63 : Int) < _) => hlen)
    (try (rename WShape.hasAll _ _ _ = true => hz1; clear hz1))
    have hvl := hI.length
    have hvn : List.length _ ≤ 63 := Nat.le_of_not_lt (fun q => hlen (Int.ofNat_lt.mpr q))
    k_steps
    unfold Stop
    (rename Fr _ _ _ _ => wF)
    (rename News _ _ _ _ => wN)
    obtain ⟨nv, nn, hnum, hn6, wN⟩ := numbers_news hI wN
    have wN : News _ _ _ [_, _, _, _] := fun p hp => wN p (by
      rcases List.mem_cons.mp hp with rfl | hp
      · exact List.Mem.head _
      · exact .tail _ (.tail _ (.tail _ (.tail _ (.tail _ hp)))))
    refine LCg.ListComp_U (F₀ := wF) (by with_unfolding_all rfl) (by decide) (by rfl) (by decide) (by rfl) ?_
    (repeat (first | walk1 | (dsimp only; walk1)))
    unfold Stop
    refine LCg.CompSrc.ledger (by rfl) wF wN (List.Mem.head _) (by rw [List.size_toArray, hnum.length, hn6]; decide) ?_
    intro gg
    refine' rest_inv (fun k ys nx => nx = _ ∧ ∃ cs : List Nat, cs.length = k ∧ (∀ c ∈ cs, c = 68 ∨ c = 69) ∧ StrsAre ys (cs.map fun c => tx [c])) ?ystep ?yfin nv.toArray.size 0 [] _ (Nat.zero_add _) ⟨rfl, [], rfl, (fun _ h => by cases h), .nil⟩
    case ystep =>
      rintro k ys nx v I3 oI3 C3 oC3 D3 m3 h3 tk3 E3 hk3 ⟨rfl, cs, hcl, hcs, hys⟩ hP3 hC3 hx3 F3 N3 off3 ne3
      rw [List.size_toArray, hnum.length] at hk3
      obtain ⟨tq, hv3⟩ := hnum.get k nn[k] (by simp [hk3])
      rw [List.getElem?_toArray, hv3] at hP3
      cases hP3
      clear wF wN
      (try k_fold)
      k_steps
      all_goals unfold Stop
      · refine CompEnd.intro F3 N3 _ (fun p hp => hp) off3 (Or.inr ⟨_, List.Mem.head _, rfl, _, rfl⟩) ⟨rfl, cs ++ [69], by rw [List.length_append, hcl]; rfl, ?yc1, ?ys1⟩
        case yc1 =>
          intro c hc
          rcases List.mem_append.mp hc with hc | hc
          · exact hcs c hc
          · exact .inr (List.mem_singleton.mp hc)
        case ys1 =>
          rw [ed0, List.map_append]; exact StrsAre.snoc hys _ _
      · refine CompEnd.intro F3 N3 _ (fun p hp => hp) off3 (Or.inr ⟨_, List.Mem.head _, rfl, _, rfl⟩) ⟨rfl, cs ++ [68], by rw [List.length_append, hcl]; rfl, ?yc2, ?ys2⟩
        case yc2 =>
          intro c hc
          rcases List.mem_append.mp hc with hc | hc
          · exact hcs c hc
          · exact .inl (List.mem_singleton.mp hc)
        case ys2 =>
          rw [ed1, List.map_append]; exact StrsAre.snoc hys _ _
    case yfin =>
      rintro ys nx ⟨rfl, run, hcl, hcs, hys⟩
      rw [List.size_toArray, hnum.length, hn6] at hcl
      intro Dn hn tn Fn Nn on
      clear wF wN
      (try k_fold)
      k_steps
      unfold Stop
      (rename Fr _ _ _ _ => wF)
      (rename News _ _ _ _ => wN)
      have wN : News _ _ _ [_, _, _] := fun p hp => wN p (.tail _ (.tail _ hp))
      refine' my_times ?yt1 wF ?yt3 wN ?yt5 ?ytK ?ytd ?ytu (by omega) hcs ?_
      case yt1 => k_asm
      case yt3 => k_asm
      case yt5 => k_asm
      case ytK => exact rfl
      case ytd => ktr_room
      case ytu => ktr_units
      intro lt vt et ht tkt wF wN htlt hti
      k_lt htlt
      have htl := hti.length
      rw [timesL_len] at htl
      have hDl := cntD_le run
      have hD6 : cntD run ≤ 6 := by omega
      clear hys on hnum
      (try k_fold)
      k_steps
      unfold Stop
      (rename Fr _ _ _ _ => wF)
      (rename News _ _ _ _ => wN)
      refine' my_row ?yu1 wF ?yu3 wN ?yu5 ?yuK ?yud ?yuu (d := cntD run) ?yuz hD6 ?_
      case yu1 => k_asm
      case yu3 => k_asm
      case yu5 => k_asm
      case yuK => exact rfl
      case yud => ktr_room
      case yuu => ktr_units
      case yuz => omega
      intro tr hr tkr wF wN
      (try k_fold)
      k_steps
      unfold Stop
      have hF := runFacts ns0.sum hcl hcs
      (rename Fr _ _ _ _ => wF)
      (rename News _ _ _ _ => wN)
      (rename (_ == sysModules) = false => lok)
      (rename Obj.IsDictOf _ _ (strPairs _) => hdk)
      (rename _ = Data.cell (some (Value.ref _)) => dc2)
      obtain ⟨kvs0, hdk2, hkn0, hkl0⟩ := known_start hdk
      refine LCg.Assign_ListComp_U (F₀ := wF) (by rfl) (by with_unfolding_all rfl) (by with_unfolding_all rfl) (by decide) (by rfl) (by decide) (by rfl) (by rfl) (by rfl) ?_
      (repeat (first | walk1 | (dsimp only; walk1)))
      unfold Stop
      (rename Fr _ _ _ _ => wF)
      (rename News _ _ _ _ => wN)
      refine' my_runs ?yv1 wF ?yv3 wN ?yv5 ?yvK ?yvd ?yvu hcl hF.runs ?_
      case yv1 => k_asm
      case yv3 => k_asm
      case yv5 => k_asm
      case yvK => exact rfl
      case yvd => ktr_room
      case yvu => ktr_units
      intro lr vr er hr2 tkr2 wF wN hlr hsr
      k_lt hlr
      have hG := hF.abs hD6
      clear hF
      generalize riter run (runsN run) = rs at hG hsr
      generalize runsN run = N at hG
      generalize TT ns0.sum (cntD run) = T at hG hkn0
      have hvl9 : vr.length = N := by rw [StrsAre.len hsr, List.length_map, hG.len]
      have hN9 := hG.n100
      (repeat (first | walk1 | (dsimp only; walk1)))
      unfold Stop
      refine LCg.CompSrc.ledger (by rfl) wF wN (List.Mem.head _) (by rw [List.size_toArray, hvl9]; exact Nat.le_trans hN9 (by rw [sizeLine_eq]; decide)) ?_
      intro gg
      refine' rest_inv (fun k ys nx => ∃ o kvs, nx = _ :: (_, o) :: _ ∧ o.IsDictOf (strKind Challenge.rw_wn0027_01.row.prog w0) kvs ∧ Known T kvs ∧ kvs.length ≤ 1 + 6 * k ∧ StrsAre ys ((rs.take k).map fun r => tx (T r))) ?ywstep ?ywfin vr.toArray.size 0 [] _ (Nat.zero_add _) ⟨_, kvs0, rfl, hdk2, hkn0, hkl0, .nil⟩
      case ywstep =>
        rintro k ys nx v I3 oI3 C3 oC3 D3 m3 h3 tk3 E3 hk3 ⟨o5, kvs5, rfl, ho5, hk5, hl5, hys⟩ hP3 hC3 hx3 F3 N3 off3 ne3
        rw [List.size_toArray, hvl9] at hk3
        obtain ⟨r, hr⟩ : ∃ r, rs[k]? = some r := ⟨_, List.getElem?_eq_getElem (by rw [hG.len]; exact hk3)⟩
        obtain ⟨tv, hv3⟩ := StrsAre.at hsr (i := k) (y := tx r) (by rw [List.getElem?_map, hr]; rfl)
        rw [List.getElem?_toArray, hv3] at hP3
        cases hP3
        obtain ⟨hr6, hrc, hrT, hrP⟩ := hG.txts r (List.mem_of_getElem? hr)
        have htk9 : rs.take (k + 1) = rs.take k ++ [r] := by rw [List.take_add_one, hr]; rfl
        clear wF wN
        (try k_fold)
        k_steps
        unfold Stop
        (rename Fr _ _ _ _ => wF)
        (rename News _ _ _ _ => wN)
        have wN := fun p hp => wN p (mem_unpick5 hp)
        have hne := off3
        obtain ⟨_, ⟨hne1, hne2, hne3⟩, _⟩ := hne
        refine' my_leftR (left_spec w0 _ _ _ _ T hG.tT _ lok _ ?yrest 6 r hr6 (Nat.le_refl _) hrc) ho5 hk5 (by omega) ?yl1 wF ?yl3 wN ?yl5 ?ylK ?yld ?ylu ?_
        case yrest =>
          intro p hp
          simp only [List.mem_cons, List.not_mem_nil, or_false] at hp
          rcases hp with rfl | rfl | rfl | rfl | rfl | rfl | rfl | rfl
          all_goals (show @Ne Nat _ _; dsimp only; omega)
        case yl1 => k_asm
        case yl3 => k_asm
        case yl5 => k_asm
        case ylK => exact rfl
        case yld => rw [hr6]; ktr_room
        case ylu => rw [hr6]; ktr_units
        intro t6 h6 tk6 o6 kvs6 F6 N6 ho6 hk6 hl6
        clear wF wN
        k_steps
        unfold Stop
        refine CompEnd.intro F6 N6 _ (fun p hp => mem_pick5 hp) off3 (Or.inr ⟨_, List.Mem.head _, rfl, _, rfl⟩) ⟨o6, kvs6, rfl, ho6, hk6, by omega, ?yys⟩
        case yys =>
          rw [htk9, List.map_append]
          exact StrsAre.snoc hys _ _
      case ywfin =>
        rintro ys nx ⟨o5, kvs5, rfl, ho5, hk5, hl5, hys⟩
        intro Dn hn tn Fn Nn on
        simp only [LCg.Off1, and_true] at on
        rw [List.size_toArray, hvl9, ← hG.len, List.take_length] at hys
        obtain ⟨rs', hrs'⟩ : ∃ rs', rs = run :: rs' := by
          have h := hG.head
          cases rs with
          | nil => cases h
          | cons a r => exact ⟨r, by rw [List.head?_cons, Option.some.injEq] at h; rw [h]⟩
        obtain ⟨hrT, hrP⟩ := (hG.txts run (by rw [hrs']; exact .head _)).2.2
        obtain ⟨ty0, hy0⟩ := StrsAre.at hys (i := 0) (y := tx (toldL ns0.sum (timesL run))) (by rw [List.getElem?_map, hrs', ← hrT]; rfl)
        have hB := rb_of hcl hcs
        (rename Shared => s1)
        clear wF wN
        (try k_fold)
        k_steps
        unfold Stop
        (rename Fr _ _ _ _ => wF)
        (rename News _ _ _ _ => wN)
        refine' my_told ?yt1 wF ?yt3 wN ?yt5 ?ytK ?ytd ?ytu (.tail _ (.tail _ (.tail _ (List.Mem.head _)))) rfl ⟨_, rfl⟩ hti (by rw [timesL_len]; omega) (fun t ht => ⟨Int.le_trans (by decide) (hB.rng t ht).1, (hB.rng t ht).2⟩) ?_
        case yt1 => k_asm
        case yt3 => k_asm
        case yt5 => k_asm
        case ytK => exact rfl
        case ytd => ktr_room
        case ytu => ktr_units
        intro tt ht2 tkt2 wF wN
        (try k_fold)
        k_steps
        (rename Fr _ _ _ _ => wF)
        (rename News _ _ _ _ => wN)
        refine' kdn_eval (knd := PySem.strKind _ _) wF wN ?yb ?ya ?yl ?ye ?yn ?_
        case yb => exact Top.nolimit (by k_asm)
        case ya => rfl
        case yl => rfl
        case ye => exact List.cons_ne_nil _ _
        case yn => exact Nat.le_of_ble_eq_true rfl
        intro dv hv2 ov F9 N9 l9 lok9 hd9
        (try k_lt l9)
        clear wF wN
        (try k_fold)
        k_steps
        unfold Stop
        (rename Fr _ _ _ _ => wF)
        (rename News _ _ _ _ => wN)
        (rename IsRange _ _ _ _ _ _ _ _ => wR)
        (rename Obj.IsDictOf _ _ (strPairs _) => hlev)
        (rename _ = Data.cell (some (Value.ref dv)) => dcl)
        (rename _ = Data.cell (some (Value.ref lt)) => dct)
        obtain ⟨es0, oL0, oT, od0, wN, hdk0, dcl, dct, hok0, habs0⟩ := level_start wN hlev dcl dct hti (by rw [timesL_len]; omega) (by rw [timesL_len]; omega) hB.rng
        have hS36 := hB.s36
        have hSum := hB.sum
        have hlens := hG.lens
        have hfin := hG.fin
        generalize sumT run = S at hS36 hSum hlens hfin
        refine' its_range (σ := LvSt) (fun c => (s1.heap.objs.size + 1 + 1 + 1, c.oc) :: (c.dl, c.od) :: (ledOf c.es ++ [(Dn, lst ys), (lt, W.listOf vt.toArray et), (s1.heap.objs.size + 1, oT)])) (fun c => [(Str.ofString "product", .int c.pr c.tk)]) []
          (fun i c => c.oc.data = .cell (some (.ref c.dl)) ∧ (c.dl == sysModules) = false ∧ c.od.IsDictOf (strKind Challenge.rw_wn0027_01.row.prog w0) (kvsOf ns0.sum c.es) ∧ (∀ e ∈ c.es, EntOk e) ∧ Hide (absOf c.es = levelP (rs.map timesL) (timesL run) i) ∧ Hide (c.pr = factZ i)) ⟨oL0, dv, od0, es0, 1, _⟩ S rfl wR ?sm ?sz wF wN (List.forall_mem_cons.mpr ⟨by with_unfolding_all rfl, List.forall_mem_nil _⟩) ⟨dcl, lok9, hdk0, hok0, ⟨habs0⟩, ⟨rfl⟩⟩ ?turn ?done
        case sm => exact small_of (n := S) (by rw [hSum]; omega) (by decide) (by decide) (by omega)
        case sz => exact size_of (by rw [hSum]; omega)
        case turn =>
          rintro ⟨oc, dl, od, es, pr, tkp⟩ i t u h tk own I hi ⟨hoc, hsm, hod, hok, ⟨habs⟩, ⟨hpr⟩⟩ hoff hI F₁ N₁
          dsimp only at hoc hsm hod hok habs hpr F₁ N₁
          have hesl : es.length ≤ 100 := by
            rw [← abs_len, habs]; exact hlens i (by omega)
          rw [Int.zero_add] at F₁
          simp only [List.cons_append] at N₁
          have habs := Hide.mk habs
          have hpr := Hide.mk hpr
          clear wF wN wR
          (try k_fold)
          have hys' : StrsAre ys (((rs.map timesL).map (toldL ns0.sum)).map tx) := by
            rw [← told_texts fun r hr => (hG.txts r hr).2.2.1]; exact hys
          dsimp only at hoff
          k_steps
          unfold Stop
          (rename Fr _ _ _ _ => wF)
          (rename News _ _ _ _ => wN)
          refine' my_lower ?yk1 wF ?yk3 wN ?yk5 ?ykK ?ykd ?yku (.tail _ (List.Mem.head _)) hsm hod (fun q hq => .tail _ (.tail _ (List.mem_append_left _ (List.mem_append_left _ hq)))) hok (by omega) (.tail _ (.tail _ (List.mem_append_left _ (List.mem_append_right _ (List.Mem.head _))))) rfl ⟨_, rfl⟩ hys' ?_
          case yk1 => k_asm
          case yk3 => k_asm
          case yk5 => k_asm
          case ykK => exact rfl
          case ykd => ktr_room
          case yku => ktr_units
          intro dl2 od2 es2 h2 tk2 F2 N2 hsm2 hod2 hok2 hap2 habs2
          clear wF wN
          (try k_fold)
          k_steps
          (rename Fr _ _ _ _ => wF)
          (rename News _ _ _ _ => wN)
          refine' storeX_M wF wN ?yc (List.mem_cons_of_mem _ (List.mem_append_right _ (List.Mem.head _))) hoc ?_
          case yc => exact rfl
          intro h3 oc3 F3 N3 hoc3
          have hoffL : ∀ p ∈ own, p.1 ≠ s1.heap.objs.size + 1 + 1 + 1 := fun p hp => hoff p hp _ (.head _)
          have N4 : News _ _ _ _ := fun p hp => N3 p (led_next hap2 ?ybase hoffL p hp)
          case ybase =>
            refine List.forall_mem_cons.mpr ⟨?_, List.forall_mem_cons.mpr ⟨?_, List.forall_mem_cons.mpr ⟨?_, List.forall_mem_nil _⟩⟩⟩ <;> (show @Ne Nat _ _; dsimp only; omega)
          clear N3 wF wN
          (try k_fold)
          k_steps
          (rename Fr _ _ _ _ => wF)
          (rename News _ _ _ _ => wN)
          refine' endL ⟨oc3, dl2, od2, es2, pr * ((i : Int) + 1), _⟩ wF wN ?l1 (fun p hp => .tail _ (.tail _ (List.mem_append_right _ hp))) (led_off hap2 hI (offI hoff hI)) (List.forall_mem_cons.mpr ⟨by with_unfolding_all rfl, List.forall_mem_nil _⟩) ?l5 ⟨hoc3, hsm2, hod2, hok2, ⟨level_step ?l6 (fun t ht => (hB.rng t ht).1) habs.out habs2⟩, ⟨?l7⟩⟩
          case l1 =>
            intro p hp
            rcases List.mem_cons.mp hp with rfl | hp
            · exact List.Mem.head _
            · rcases List.mem_cons.mp hp with rfl | hp
              · exact .tail _ (List.Mem.head _)
              · exact .tail _ (.tail _ (List.mem_append_left _ hp))
          case l5 =>
            intro z h1 h2 h3
            simp only [List.forall_mem_cons, List.not_mem_nil, false_implies, implies_true, and_true, List.contains_nil, ne_eq] at h1 h2 h3
            simp [kstB, h1, h2]
          case l6 =>
            intro a ha t ht
            obtain ⟨r, hr, rfl⟩ := List.mem_map.mp ha
            exact (hG.txts r hr).2.2.2 t ht
          case l7 =>
            dsimp only
            rw [hpr.out]; rfl
        case done =>
          rintro ⟨oc, dl, od, es, pr, tkp⟩ u h tk ⟨hoc, hsm, hod, hok, ⟨habs⟩, ⟨hpr⟩⟩ F₁ N₁
          dsimp only at hoc hsm hod hok habs hpr F₁ N₁
          obtain ⟨e, rfl, hew⟩ := abs_one habs hfin
          clear wF wN wR
          (try k_fold)
          simp only [ledOf, Ent.led, List.flatMap_cons, List.flatMap_nil, List.cons_append, List.nil_append, List.append_nil] at N₁
          have hew := Hide.mk hew
          have hpr := Hide.mk hpr
          obtain ⟨hpc, hpd, htc, htd, hia, h7e, hlen1, hrg⟩ := hok e (List.Mem.head _)
          have hvat : valueAt (kvsOf ns0.sum [e]) (tx (toldL ns0.sum e.ns)) = some (.ref e.p) := by simp [kvsOf, valueAt]
          k_steps
          unfold Stop
          (rename Fr _ _ _ _ => wF)
          (rename News _ _ _ _ => wN)
          refine ListComp_D (F₀ := wF) (by with_unfolding_all rfl) (by decide) (by rfl) (by decide) (by rfl) ?_
          (repeat (first | walk1 | (dsimp only; walk1)))
          refine SrcD.intro (by rfl) hsm wF wN (.tail _ (List.Mem.head _)) hod (by rw [kvs_len, sizeLine_eq]; exact Nat.le_of_ble_eq_true rfl) ?_
          intro gg2
          refine CompRest.succ (k := 0) ?_
          intro v I9 oI9 C9 oC9 D9 m9 h9 tk9 E9 hP9 hC9 hx9 F9 N9 off9 ne9
          obtain ⟨k9, y9, hk9, hv9⟩ := hP9
          obtain ⟨t9, rfl⟩ : ∃ t, v = .str k9 t := Value.isStrOf_shape hv9
          obtain ⟨e9, he9, rfl, rfl⟩ := kvs_at hk9
          have he9 : e = e9 := by simpa using he9
          subst he9
          clear wF wN
          (try k_fold)
          k_steps
          unfold Stop
          (rename Fr _ _ _ _ => wF)
          (rename News _ _ _ _ => wN)
          (rename IntsAre _ (List.drop 1 _) => hi9)
          refine' my_hooks ?yh1 wF ?yh3 wN ?yh5 ?yhK ?yhd ?yhu (List.Mem.head _) rfl ⟨_, rfl⟩ hi9 (by rw [List.length_drop, timesL_len]; omega) (fun t ht => hB.rng t (List.mem_of_mem_drop ht)) ?_
          case yh1 => k_asm
          case yh3 => k_asm
          case yh5 => k_asm
          case yhK => exact rfl
          case yhd => ktr_room
          case yhu => ktr_units
          intro th hh tkh wF wN
          have hk0 := hB.hk0
          have hk1 := hB.hk1
          generalize hooksFrom 1 (List.drop 1 (timesL run)) = H at hk0 hk1 hew ⊢
          (try k_fold)
          k_steps
          unfold Stop
          (rename Fr _ _ _ _ => wF)
          (rename News _ _ _ _ => wN)
          refine CompEnd.intro wF wN _ (fun p hp => .tail _ hp) off9 (.tail _ (List.Mem.head _)) ?_
          refine CompRest.zero ?_
          unfold FinE
          intro Dz hz tz Fz Nz oz
          simp only [LCg.Off1, and_true] at oz
          simp only [List.nil_append] at Nz
          obtain rfl : pr = e.w * H := hpr.out.trans hew.out.symm
          clear wF wN hew hpr
          (try k_fold)
          k_steps))
end
end Mine
end
end
end
end
end
open PySem PySem.W PyProof.Rows
theorem PySem.Challenge.cw_wn0027_01_holds : PySem.Challenge.rw_wn0027_01.Holds := by
  exact Mine.X
