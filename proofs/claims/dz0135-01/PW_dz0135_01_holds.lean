import PyProof.Rows.All
import Wide.All
import OpenK.AllK
import Wide.FinOn
import PySem.Challenge.RW_dz0135_01
open PySem PySem.W PyProof.Rows
set_option Elab.async false
set_option maxRecDepth 100000
set_option maxHeartbeats 8000000
namespace Mine
open_top hd for PySem.Challenge.rw_dz0135_01
end Mine

namespace Mine

abbrev Pr := Str × Option Str
inductive Res where
  | bad (w : Str)
  | ok (l : List Pr)

def fig (w : Str) : Bool := match w.cps.toList with
  | [] => false
  | c :: _ => decide (48 ≤ c) && decide (c ≤ 57)

def addW (l : List Pr) (w : Str) : Option (List Pr) :=
  if fig w = true then
    match l.getLast? with
    | some (f, none) => some (l.dropLast ++ [(f, some w)])
    | _ => none
  else some (l ++ [(w, none)])

def feed : List Str → List Pr → Res
  | [], l => .ok l
  | w :: ws, l => match addW l w with
    | none => .bad w
    | some l' => feed ws l'

def parse : List Str → List Pr → Res
  | [], acc => .ok acc
  | [f], acc => if fig f = true then .bad f else .ok (acc ++ [(f, none)])
  | f :: v :: r, acc => if fig f = true then .bad f else if fig v = true then parse r (acc ++ [(f, some v)]) else parse (v :: r) (acc ++ [(f, none)])

theorem feed_parse_n : ∀ (n : Nat) (ws : List Str), ws.length ≤ n → ∀ acc : List Pr, (∀ f w r, ws = w :: r → fig w = true → acc.getLast? ≠ some (f, none)) → feed ws acc = parse ws acc := by
  intro n
  induction n with
  | zero =>
    intro ws h acc _
    cases ws with
    | nil => simp [feed, parse]
    | cons w r => simp at h
  | succ n ih =>
    intro ws h acc hl
    match ws, h, hl with
    | [], _, _ => simp [feed, parse]
    | [f], _, hl =>
      cases hf : fig f with
      | true =>
        have := fun g => hl g f [] rfl hf
        have hn : addW acc f = none := by
          unfold addW
          rw [if_pos hf]
          split
          · rename_i g hg; exact absurd hg (this g)
          · rfl
        rw [feed, parse, if_pos hf, hn]
      | false => simp [feed, parse, addW, hf]
    | f :: v :: r, h, hl =>
      cases hf : fig f with
      | true =>
        have hn := fun g => hl g f _ rfl hf
        have : addW acc f = none := by
          unfold addW
          rw [if_pos hf]
          split
          · rename_i g hg; exact absurd hg (hn g)
          · rfl
        rw [feed, parse, if_pos hf, this]
      | false =>
        have h1 : addW acc f = some (acc ++ [(f, none)]) := by simp [addW, hf]
        rw [feed, parse, h1, if_neg (by simp [hf])]
        cases hv : fig v with
        | true =>
          have h2 : addW (acc ++ [(f, none)]) v = some (acc ++ [(f, some v)]) := by simp [addW, hv]
          simp only [feed, h2, if_true]
          refine ih r (by simp at h; omega) _ fun g w r' _ _ => by simp
        | false =>
          simp only [if_false, Bool.false_eq_true]
          refine ih (v :: r) (by simpa using h) _ fun g w r' e q => ?_
          cases e
          rw [hv] at q; cases q

theorem feed_parse (ws : List Str) : feed ws [] = parse ws [] := feed_parse_n ws.length ws (Nat.le_refl _) [] (fun f w r _ _ => by simp)

/-- one step of the words read so far -/
theorem feed_snoc : ∀ (ws : List Str) (acc l : List Pr) (w : Str), feed ws acc = .ok l → feed (ws ++ [w]) acc = match addW l w with | none => .bad w | some l' => .ok l' := by
  intro ws
  induction ws with
  | nil => intro acc l w h; simp only [feed, Res.ok.injEq] at h; subst h; simp [feed]
  | cons v r ih =>
    intro acc l w h
    simp only [feed, List.cons_append] at h ⊢
    cases hv : addW acc v with
    | none => rw [hv] at h; cases h
    | some l' => rw [hv] at h; exact ih l' l w h

theorem feed_bad : ∀ (ws : List Str) (acc l : List Pr) (w : Str) (r : List Str), feed ws acc = .ok l → addW l w = none → feed (ws ++ w :: r) acc = .bad w := by
  intro ws
  induction ws with
  | nil => intro acc l w r h hw; simp only [feed, Res.ok.injEq] at h; subst h; simp [feed, hw]
  | cons v q ih =>
    intro acc l w r h hw
    simp only [feed, List.cons_append] at h ⊢
    cases hv : addW acc v with
    | none => rw [hv] at h; cases h
    | some l' => rw [hv] at h; exact ih l' l w r h hw

def pairD : Pr → Dat
  | (f, none) => .tuple [.str f, .none]
  | (f, some v) => .tuple [.str f, .str v]


/-! words by the signs -/
def scanL (l : List Nat) : KWd.St := l.foldl KWd.step ([], Str.empty)

theorem scan_eq (x : Str) : KWd.scan x = scanL x.cps.toList := rfl

theorem scanL_snoc (l : List Nat) (c : Nat) : scanL (l ++ [c]) = KWd.step (scanL l) c := by
  unfold scanL
  rw [List.foldl_append]
  rfl

theorem fold_more : ∀ (l : List Nat) (ws : List Str) (run : Str), ∃ ws', (l.foldl KWd.step (ws, run)).1 = ws ++ ws'
  | [], ws, run => ⟨[], by simp⟩
  | c :: l, ws, run => by
    rw [List.foldl_cons]
    by_cases h1 : Unicode.isSpace c = true
    · by_cases h2 : run.length = 0
      · have e : KWd.step (ws, run) c = (ws, run) := by unfold KWd.step; rw [if_pos h1, if_pos h2]
        rw [e]
        exact fold_more l ws run
      · have e : KWd.step (ws, run) c = (ws ++ [run], Str.empty) := by unfold KWd.step; rw [if_pos h1, if_neg h2]
        rw [e]
        obtain ⟨q, hq⟩ := fold_more l (ws ++ [run]) Str.empty
        exact ⟨run :: q, by rw [hq]; simp⟩
    · have e : KWd.step (ws, run) c = (ws, run ++ ⟨#[c]⟩) := by unfold KWd.step; rw [if_neg h1]
      rw [e]
      exact fold_more l ws _

theorem words_full (x : Str) : Txt.words x = (scanL (x.cps.toList ++ [32])).1 := by
  rw [KWd.words_scan, scanL_snoc, scan_eq]
  have h32 : Unicode.isSpace 32 = true := by decide +kernel
  generalize scanL x.cps.toList = st
  unfold KWd.fin KWd.step
  rw [if_pos h32]
  by_cases h : st.2.length = 0
  · rw [if_pos h, if_pos h]
  · rw [if_neg h, if_neg h]

theorem words_mid {x : Str} {pre post : List Nat} {c : Nat} {ws : List Str} {run : Str} (hx : x.cps.toList ++ [32] = pre ++ c :: post) (hs : scanL pre = (ws, run)) (hc : Unicode.isSpace c = true) (hr : run.length ≠ 0) :
    ∃ r, Txt.words x = ws ++ run :: r := by
  rw [words_full, hx]
  have e : pre ++ c :: post = (pre ++ [c]) ++ post := by simp
  rw [e]
  unfold scanL at hs ⊢
  rw [List.foldl_append, List.foldl_append, hs]
  have : List.foldl KWd.step (ws, run) [c] = (ws ++ [run], Str.empty) := by
    show KWd.step (ws, run) c = _
    unfold KWd.step
    rw [if_pos hc, if_neg hr]
  rw [this]
  obtain ⟨q, hq⟩ := fold_more post (ws ++ [run]) Str.empty
  exact ⟨q, by rw [hq]; simp⟩

def okS (x : Str) : Prop := PyData.strOk x = true
theorem okS_iff (x : Str) : okS x ↔ ∀ c ∈ x.cps.toList, c < 0x110000 := by
  unfold okS PyData.strOk
  rw [Array.all_eq_true']
  simp
theorem okS_empty : okS Str.empty := by unfold okS; decide +kernel
theorem okS_append {x y : Str} (hx : okS x) (hy : okS y) : okS (x ++ y) := by
  rw [okS_iff] at *
  rw [PySem.Str.cps_append, Array.toList_append]
  intro c hc
  rcases List.mem_append.mp hc with h | h
  · exact hx c h
  · exact hy c h
theorem okS_one {c : Nat} (h : c < 0x110000) : okS ⟨#[c]⟩ := by
  rw [okS_iff]
  intro d hd
  simp at hd
  subst hd; exact h

theorem fold_ok : ∀ (l : List Nat), (∀ c ∈ l, c < 0x110000) → ∀ (ws : List Str) (run : Str), (∀ w ∈ ws, okS w) → okS run → (∀ w ∈ (l.foldl KWd.step (ws, run)).1, okS w) ∧ okS (l.foldl KWd.step (ws, run)).2
  | [], _, ws, run, h1, h2 => ⟨h1, h2⟩
  | c :: l, h, ws, run, h1, h2 => by
    rw [List.foldl_cons]
    have hl : ∀ c ∈ l, c < 0x110000 := fun d hd => h d (.tail _ hd)
    unfold KWd.step
    split
    · split
      · exact fold_ok l hl ws run h1 h2
      · refine fold_ok l hl _ _ (fun w hw => ?_) okS_empty
        rcases List.mem_append.mp hw with q | q
        · exact h1 w q
        · rw [List.mem_singleton.mp q]; exact h2
    · exact fold_ok l hl ws _ h1 (okS_append h2 (okS_one (h c (.head _))))
theorem words_ok {x : Str} (h : okS x) : ∀ w ∈ Txt.words x, okS w := by
  rw [words_full]
  refine (fold_ok _ (fun c hc => ?_) [] Str.empty (fun _ h => nomatch h) okS_empty).1
  rcases List.mem_append.mp hc with q | q
  · exact (okS_iff x).mp h c q
  · rw [List.mem_singleton.mp q]; decide

end Mine

namespace Mine
theorem okS_item {x : Str} (h : okS x) (i : Int) : okS (Txt.item x i) := by
  refine okS_one ?_
  have key : ∀ c, Txt.charAt x i = some c → c ∈ x.cps.toList := by
    intro c hc
    unfold Txt.charAt at hc
    obtain ⟨k, _, hk⟩ := Option.bind_eq_some_iff.mp hc
    exact Array.mem_toList_iff.mpr (Array.mem_of_getElem? hk)
  cases hc : Txt.charAt x i with
  | none => decide
  | some c => exact (okS_iff x).mp h c (key c hc)
theorem okS_chr (k : Int) : okS ⟨#[(k.fmod 1114112).toNat]⟩ := by
  refine okS_one ?_
  have h1 := Int.fmod_nonneg_of_pos k (b := 1114112) (by decide)
  have h2 := Int.fmod_lt_of_pos k (b := 1114112) (by decide)
  omega
theorem signs_snoc {ws : List Str} {y : Str} {pre : List Int} {k : Int} (h : ws.length = pre.length ∧ ∀ x ∈ ws, x.length = 1 ∧ okS x) (hy : y.length = 1) (hk : okS y) :
    (ws ++ [y]).length = (pre ++ [k]).length ∧ ∀ x ∈ ws ++ [y], x.length = 1 ∧ okS x := by
  refine ⟨by simp [h.1], fun x hx => ?_⟩
  rcases List.mem_append.mp hx with q | q
  · exact h.2 x q
  · rw [List.mem_singleton.mp q]; exact ⟨hy, hk⟩
theorem menu_ok : okS (Str.ofString " \n09aX.") := by unfold okS; decide +kernel
theorem sum_ones : ∀ (ws : List Str), (∀ x ∈ ws, x.length = 1 ∧ okS x) → (ws.map (·.length)).sum = ws.length
  | [], _ => rfl
  | w :: r, h => by
    rw [List.map_cons, List.sum_cons, List.length_cons, sum_ones r fun x hx => h x (.tail _ hx), (h w (.head _)).1]; omega
theorem glue_facts : ∀ (ws : List Str) (a : Str), (∀ x ∈ ws, x.length = 1 ∧ okS x) → okS a →
    (⟨ws.foldl (fun acc p => acc ++ (Str.ofString "").cps ++ p.cps) a.cps⟩ : Str).length = a.length + ws.length ∧ okS ⟨ws.foldl (fun acc p => acc ++ (Str.ofString "").cps ++ p.cps) a.cps⟩
  | [], a, _, ha => ⟨rfl, ha⟩
  | w :: r, a, h, ha => by
    rw [List.foldl_cons]
    have e : a.cps ++ (Str.ofString "").cps ++ w.cps = (a ++ w).cps := by
      rw [PySem.Str.cps_append]
      have : (Str.ofString "").cps = #[] := by decide
      rw [this, Array.append_empty]
    rw [e]
    obtain ⟨h1, h2⟩ := glue_facts r (a ++ w) (fun x hx => h x (.tail _ hx)) (okS_append ha (h w (.head _)).2)
    refine ⟨?_, h2⟩
    rw [h1, PySem.Str.length_append, (h w (.head _)).1, List.length_cons]
    omega
theorem join_facts {ws : List Str} {n : Nat} (hn : ws.length = n) (h : ∀ x ∈ ws, x.length = 1 ∧ okS x) : (Txt.join (Str.ofString "") ws).length = n ∧ okS (Txt.join (Str.ofString "") ws) := by
  subst hn
  unfold Txt.join Builtin.Str.glued
  cases ws with
  | nil => exact ⟨rfl, okS_empty⟩
  | cons w r =>
    have := glue_facts r w (fun x hx => h x (.tail _ hx)) (h w (.head _)).2
    refine ⟨?_, this.2⟩
    have h1 := this.1
    rw [(h w (.head _)).1] at h1
    rw [List.length_cons, Nat.add_comm]
    exact h1
end Mine

namespace Mine

def resD : Res → Dat
  | .bad w => .str (Str.ofString "bad feature name: " ++ reprText w)
  | .ok l => .tuple (l.map pairD)

def okP (p : Pr) : Prop := okS p.1 ∧ ∀ v, p.2 = some v → okS v

theorem addW_ok {l l' : List Pr} {w : Str} (hl : ∀ p ∈ l, okP p) (hw : okS w) (h : addW l w = some l') : ∀ p ∈ l', okP p := by
  unfold addW at h
  split at h
  · split at h
    · rename_i f hf
      cases h
      intro p hp
      rcases List.mem_append.mp hp with q | q
      · exact hl p (List.dropLast_subset l q)
      · rw [List.mem_singleton.mp q]
        have := hl _ (List.mem_of_getLast? hf)
        exact ⟨this.1, fun v hv => by cases hv; exact hw⟩
    · cases h
  · cases h
    intro p hp
    rcases List.mem_append.mp hp with q | q
    · exact hl p q
    · rw [List.mem_singleton.mp q]
      exact ⟨hw, fun v hv => by cases hv⟩

theorem feed_ok : ∀ (ws : List Str) (acc l : List Pr), (∀ w ∈ ws, okS w) → (∀ p ∈ acc, okP p) → feed ws acc = .ok l → ∀ p ∈ l, okP p := by
  intro ws
  induction ws with
  | nil => intro acc l _ h e; simp only [feed, Res.ok.injEq] at e; subst e; exact h
  | cons w r ih =>
    intro acc l hw h e
    simp only [feed] at e
    cases ha : addW acc w with
    | none => rw [ha] at e; cases e
    | some l' => rw [ha] at e; exact ih l' l (fun v hv => hw v (.tail _ hv)) (addW_ok h (hw w (.head _)) ha) e

theorem kqdOk_pair {p : Pr} (h : okP p) : kqdOk 1 (pairD p) = true := by
  obtain ⟨f, v⟩ := p
  have h1 : PyData.strOk f = true := h.1
  cases v with
  | none => simp [pairD, kqdOk, h1]
  | some v =>
    have h2 : PyData.strOk v = true := h.2 v rfl
    simp [pairD, kqdOk, h1, h2]
theorem kqdOk_up : ∀ (n : Nat) (d : Dat), kqdOk n d = true → kqdOk (n + 1) d = true := by
  intro n
  induction n with
  | zero => intro d h; cases d <;> simp_all [kqdOk]
  | succ n ih =>
    intro d h
    cases d with
    | tuple ds => simp only [kqdOk, List.all_eq_true] at h ⊢; exact fun e he => ih e (h e he)
    | list ds => simp only [kqdOk, List.all_eq_true] at h ⊢; exact fun e he => ih e (h e he)
    | _ => simp_all [kqdOk]
theorem kqdOk_to (n k : Nat) (d : Dat) (h : kqdOk n d = true) : kqdOk (n + k) d = true := by
  induction k with
  | zero => exact h
  | succ k ih => exact kqdOk_up _ _ ih

section
variable {prog : Program} {w : World} {A : Around} {E : Value → Shared → Prop} {s : Shared} {h₀ : Heap} {L : Addr} {news tl1 tl2 : List (Addr × Obj)} {v1 v2 : Value} {Q : Value → Shared → Prop}
theorem cmp_same {x : Str} (N : News h₀ L s.heap (tl2 ++ (tl1 ++ news))) (hx : okS x) (h1 : DatIn tl1 v1 (resD (feed (Txt.words x) []))) (h2 : DatIn tl2 v2 (resD (feed (Txt.words x) []))) (hu : A.units + 64 < cLine) (h : Q (.bool false) s) :
    wpAny (model prog w) A (compareOp .NotEq v1 v2) Q E s := by
  cases hr : feed (Txt.words x) [] with
  | bad y =>
    rw [hr] at h1 h2
    simp only [resD] at h1 h2
    cases h1; cases h2
    exact ne_str (by simpa using h)
  | ok l =>
    rw [hr] at h1 h2
    have hok : kqdOk 8 (resD (.ok l)) = true := by
      refine kqdOk_to 2 6 _ ?_
      simp only [resD, kqdOk, List.all_eq_true, List.mem_map]
      rintro _ ⟨p, hp, rfl⟩
      exact kqdOk_pair (feed_ok _ _ _ (words_ok hx) (fun q hq => absurd hq List.not_mem_nil) hr p hp)
    obtain ⟨as, ra⟩ := kqd_in N 8 (h1.mono (fun p hp => List.mem_append.mpr (.inr (List.mem_append.mpr (.inl hp))))) hok
    obtain ⟨bs, rb⟩ := kqd_in N 8 (h2.mono (fun p hp => List.mem_append.mpr (.inl hp))) hok
    have la := kqd_lay 8 _ hok
    have hs : SeqAt.shaped (kqdP (resD (.ok l))) = true := by
      unfold SeqAt.shaped; rw [la.1, Bool.true_and]; exact decide_eq_true (Nat.le_trans la.2 (by decide))
    refine ne_dataH ra rb hs hs hu ?_
    rw [(kqd_eqv 8 _ _ 8 hok hok).mpr rfl]
    exact h
end

abbrev P0 : Program := PySem.Challenge.rw_dz0135_01.row.prog

/-- a call of the def at f upon a text, from the law's frame -/
def Calls1 (w : World) (mean : ExcName → Option Value) (mg mb : Str → Option Value) (f : Addr) : Prop :=
  ∀ (H : Heap) (cn : Str) (cs : Scope) (L a : Addr) (ccd : Value) (m : Str → Option Value) (news : List (Addr × Obj)) (s : Shared) (x : Str) (t : Tok) (Q E : Value → Shared → Prop),
    Below callerA H [] H → Fr H L s.heap m → (hd.heap_39 w.params).In H → News H L s.heap news → Top hd.view_39 (looseW hd.view_39 []) mean mg mb H → cs.kind = .function → x.length ≤ 1000 → okS x →
    (∀ r tl h' tk', Fr H L h' m → News H L h' (tl ++ news) → DatIn tl r (resD (feed (Txt.words x) [])) → Q r { s with heap := h', toks := tk' }) →
    wpAny (model P0 w) (callerA.deeper (envOf cn cs L a ccd)) (call (.ref f) [.str x t]) Q E s

section
variable {w : World} {mean : ExcName → Option Value} {mg mb : Str → Option Value} {f : Addr} {H : Heap} {cn : Str} {cs : Scope} {L a : Addr} {ccd : Value} {m : Str → Option Value} {news : List (Addr × Obj)} {s : Shared} {x : Str} {t : Tok} {Q E : Value → Shared → Prop}
theorem calls_use (C : Calls1 w mean mg mb f) (F : Fr H L s.heap m) (X : (hd.heap_39 w.params).In H) (N : News H L s.heap news) (T : Top hd.view_39 (looseW hd.view_39 []) mean mg mb H) (B : Below callerA H [] H) (hk : cs.kind = .function) (hx : x.length ≤ 1000) (ho : okS x)
    (h : ∀ r tl h' tk', Fr H L h' m → News H L h' (tl ++ news) → DatIn tl r (resD (feed (Txt.words x) [])) → Q r { s with heap := h', toks := tk' }) :
    wpAny (model P0 w) (callerA.deeper (envOf cn cs L a ccd)) (call (.ref f) [.str x t]) Q E s := C _ _ _ _ _ _ _ _ _ _ _ _ _ B F X N T hk hx ho h
end
theorem okS_slice {x : Str} (h : okS x) (a b : Option Int) : okS (Txt.slice x a b) := by
  unfold Txt.slice
  split
  · exact h
  · rw [okS_iff] at h ⊢
    intro c hc
    obtain ⟨i, _, hi⟩ := List.mem_filterMap.mp hc
    exact h c (Array.mem_toList_iff.mpr (Array.mem_of_getElem? hi))
section
variable {prog : Program} {w : World} {A : Around} {E : Value → Shared → Prop} {s : Shared} {env : Env} {h₀ : Heap} {x : Str} {body : List Stmt} {Q : Flow → Shared → Prop}
theorem part_iter {l : Addr} {vs : List Value} {nn : Nat} {m₀ : Str → Option Value} {news : List (Addr × Obj)}
    (hh : A.handled = none) (hl : (l, listOf vs.toArray nn) ∈ news) (F : Fr h₀ env.locals s.heap m₀) (N : News h₀ env.locals s.heap news)
    (turn : ∀ (i : Nat) (v : Value) (m₁ : Str → Option Value) (h : Heap) (tk : Nat) (own : List (Addr × Obj)), vs[i]? = some v → OwnOff own (news.map (·.1)) → (∀ z, z ≠ x → m₁ z = m₀ z) → Fr h₀ env.locals h (fun y => if y = x then some v else m₁ y) → News h₀ env.locals h (news ++ own) →
      wpAny (model prog w) A (execs body env) (InvPostG h₀ env.locals (fun m' nx => (l, listOf vs.toArray nn) ∈ nx ∧ nx = news ∧ ∀ z, z ≠ x → m' z = m₀ z) own { s with heap := h, toks := tk } Q) E { s with heap := h, toks := tk })
    (done : ∀ (m₁ : Str → Option Value) (h : Heap) (tk : Nat), (∀ z, z ≠ x → m₁ z = m₀ z) → Fr h₀ env.locals h m₁ → News h₀ env.locals h news → Q .next { s with heap := h, toks := tk }) :
    wpAny (model prog w) A (pyIter (.ref l)) (fun it s₂ => LoopAtV prog w A h₀ env x body Q E it s₂) E s := by
  refine kdl_iter (J := fun _ m nx => nx = news ∧ ∀ z, z ≠ x → m z = m₀ z) hh hl F N ⟨rfl, fun _ _ => rfl⟩ ?_ ?_
  · rintro i v m₁ nx h tk own hv hoff _ ⟨rfl, hm⟩ F N
    exact turn i v m₁ h tk own hv hoff hm F N
  · rintro m₁ nx h tk ⟨rfl, hm⟩ F N
    exact done m₁ h tk hm F N
end
theorem tail_len {y : Str} (h : y.length ≤ 24) : (y ++ Str.ofString " core 2.0 xml 1 9a").length ≤ 42 := by
  have e : (Str.ofString " core 2.0 xml 1 9a").length = 18 := by decide
  rw [PySem.Str.length_append, e]; omega
theorem okS_tail : okS (Str.ofString " core 2.0 xml 1 9a") := by unfold okS; decide +kernel
end Mine

namespace Mine
open PySem.Calls

section
variable {prog : Program} {w : World} {A : Around} {E : Value → Shared → Prop} {s : Shared} {env : Env} {h₀ : Heap} {x : Str} {body : List Stmt} {Q : Flow → Shared → Prop}
/-- a loop over the signs of a text, the ledger growing -/
theorem text_iter {xt : Str} {tx : Tok} {m₀ : Str → Option Value} {news : List (Addr × Obj)} (J : Nat → (Str → Option Value) → List (Addr × Obj) → Prop)
    (hh : A.handled = none) (F : Fr h₀ env.locals s.heap m₀) (N : News h₀ env.locals s.heap news) (hj : J 0 m₀ news)
    (turn : ∀ (i c : Nat) (t : Tok) (m₁ : Str → Option Value) (nx : List (Addr × Obj)) (h : Heap) (tk : Nat) (own : List (Addr × Obj)), xt.cps[i]? = some c → OwnOff own (nx.map (·.1)) → J i m₁ nx → Fr h₀ env.locals h (fun y => if y = x then some (.str ⟨#[c]⟩ t) else m₁ y) → News h₀ env.locals h (nx ++ own) →
      wpAny (model prog w) A (execs body env) (InvPostG h₀ env.locals (J (i + 1)) own { s with heap := h, toks := tk } Q) E { s with heap := h, toks := tk })
    (done : ∀ (m₁ : Str → Option Value) (nx : List (Addr × Obj)) (h : Heap) (tk : Nat), J xt.cps.size m₁ nx → Fr h₀ env.locals h m₁ → News h₀ env.locals h nx → Q .next { s with heap := h, toks := tk }) :
    wpAny (model prog w) A (pyIter (.str xt tx)) (fun it s₂ => LoopAtV prog w A h₀ env x body Q E it s₂) E s := by
  have key : ∀ (o : Obj) (T : String), (s.heap.push o).IsStrIter s.heap.objs.size T xt tx 0 → Walks prog w A s.heap.objs.size [s.heap.objs.size] [s.heap.objs.size] xt.cps.size (SignAt xt) (fun i h => h.IsStrIter s.heap.objs.size T xt tx i) →
      LoopAtV prog w A h₀ env x body Q E (.ref s.heap.objs.size) { s with heap := s.heap.push o } := by
    intro o T hst W
    refine kdr_loop J W (fun _ h => h) (fun _ h => h) ?_ ?_ ?_ ?_ hst (F.push _) (fun p hp => ⟨Heap.get?_push_of_some _ (N p hp).1, (N p hp).2⟩) hj ?_ ?_
    · intro i h hi b hb
      rw [List.mem_singleton.mp hb]
      obtain ⟨o', ho', _⟩ := hi
      exact ⟨o', ho'⟩
    · intro hm
      exact absurd F.ns.lt ((List.mem_singleton.mp hm) ▸ Nat.lt_irrefl _)
    · intro b hb
      rw [List.mem_singleton.mp hb]
      exact next_is_new F
    · intro p hp hI
      exact absurd (Heap.lt_size (N p hp).1) ((List.mem_singleton.mp hI) ▸ Nat.lt_irrefl _)
    · rintro i v m₁ nx h tk own _ ⟨c, u, hc, rfl⟩ hoff hJ F₁ N₁
      exact turn i c u m₁ nx h tk own hc hoff hJ F₁ N₁
    · intro m₁ nx h tk hJ F₁ N₁
      exact done m₁ nx h tk hJ F₁ N₁
  cases ha : xt.cps.all (· < 128)
  · exact wpAny_pyIter_wide ha (key _ _ ⟨_, Heap.get?_push_size _ rfl, rfl, rfl⟩ (Walks.strWide hh _ xt tx))
  · exact wpAny_pyIter_ascii ha (key _ _ ⟨_, Heap.get?_push_size _ rfl, rfl, rfl⟩ (Walks.strAscii hh _ xt tx))

theorem set_last {l : Addr} {vs : List Value} {u v : Value} {n : Nat} {t : Tok} {Q : Unit → Shared → Prop} (ho : s.heap.get? l = some (listOf (vs ++ [u]).toArray n))
    (hQ : Q () { s with heap := s.heap.update l (Obj.mapSeq (·.setIfInBounds vs.length v)) }) : wpAny (model prog w) A (setItem (.ref l) (.int (-1) t) v) Q E s := by
  have hl : s.heap.IsList l (vs ++ [u]).toArray := PySem.IsL.isList (n := n) ho
  unfold setItem
  try with_reducible refine wpAny_holding ?_
  first | refine wpAny_bind (wpAny_pure ?_) | skip
  refine wpAny_bind (wpAny_sequenceKey hl.typeIs (by decide) ?_)
  refine wpAny_bind (wpAny_callSpecial?_slot (name := Str.ofString "__setitem__") hl.typeIs slot_list_setitem
    (wpAny_call_entry slot_list_setitem hl.typeIs entry_list_setitem ?_ (args_list_setitem _ _ _)))
  show wpAny _ _ (Builtin.List.listSubscript? (.int (-1) t) >>= _) _ _ s
  refine wpAny_bind (wpAny_listSubscript_int (fitsIndex_neg (by decide) (by decide)) ?_)
  have hsz : ((vs ++ [u]).toArray).size = vs.length + 1 := by simp
  have hidx : seqIndex? (Int.negSucc 0) ((vs ++ [u]).toArray).size = some vs.length := by
    rw [seqIndex_neg (by decide) (by rw [hsz]; omega), hsz]
    congr 1
    omega
  show wpAny _ _ ((Builtin.List.listItems (.ref l) >>= fun xs => pure ((seqIndex? (Int.negSucc 0) xs.size).bind fun i => xs[i]?.map (i, ·))) >>= _) _ _ s
  refine wpAny_bind (wpAny_bind ?_)
  show wpAny _ _ (seqItems? (.ref l) >>= _) _ _ s
  refine wpAny_bind (wpAny_seqItems ho rfl (wpAny_pure (wpAny_pure ?_)))
  rw [hidx]
  have hx : ((vs ++ [u]).toArray)[vs.length]? = some u := by simp
  simp only [Option.bind_some, hx, Option.map_some]
  show wpAny _ _ (setSeqItemAt l vs.length v >>= _) _ _ s
  refine wpAny_bind (wpAny_setSeqItemAt ho rfl ?_)
  first
    | exact wpAny_bind (wpAny_pure (wpAny_pure ⟨.none, rfl, wpAny_pure hQ⟩))
    | exact wpAny_pure ⟨.none, rfl, wpAny_pure hQ⟩
end

structure TF (l : Addr) (news : List (Addr × Obj)) (full : List Nat) (i : Nat) (vs : List Value) (tl : List (Addr × Obj)) (word : Str) (ws : List Str) (ps : List Pr) : Prop where
  sub : ∀ p ∈ news, p ∈ tl
  off : ∀ p ∈ tl, p.1 ≠ l
  dat : DatAll tl vs (ps.map pairD)
  scan : scanL (full.take i) = (ws, word)
  fed : feed ws [] = .ok ps
  len : ps.length ≤ i
  wlen : word.length ≤ i

def TJ (l : Addr) (news : List (Addr × Obj)) (m₀ : Str → Option Value) (full : List Nat) (i : Nat) (m : Str → Option Value) (nx : List (Addr × Obj)) : Prop :=
  ∃ (vs : List Value) (n : Nat) (tl : List (Addr × Obj)) (word : Str) (tw : Tok) (ws : List Str) (ps : List Pr),
    nx = (l, listOf vs.toArray n) :: tl ∧ TF l news full i vs tl word ws ps ∧ m (Str.ofString "word") = some (.str word tw) ∧ ∀ z, z ≠ Str.ofString "sign" → z ≠ Str.ofString "word" → m z = m₀ z

section
variable {prog : Program} {w : World} {A : Around} {E : Value → Shared → Prop} {s : Shared} {env : Env} {h₀ : Heap} {body : List Stmt} {Q : Flow → Shared → Prop}
theorem told_iter {l : Addr} {xt : Str} {tx tw₀ : Tok} {m₀ : Str → Option Value} {news : List (Addr × Obj)}
    (hh : A.handled = none) (F : Fr h₀ env.locals s.heap m₀) (N : News h₀ env.locals s.heap ((l, listOf #[] 0) :: news)) (hl : ∀ p ∈ news, p.1 < l) (hw : m₀ (Str.ofString "word") = some (.str (Str.ofString "") tw₀))
    (turn : ∀ (i c : Nat) (t : Tok) (vs : List Value) (n : Nat) (tl : List (Addr × Obj)) (word : Str) (tw : Tok) (ws : List Str) (ps : List Pr) (h : Heap) (tk : Nat) (own : List (Addr × Obj)),
      xt.cps.toList[i]? = some c → OwnOff own (((l, listOf vs.toArray n) :: tl).map (·.1)) → TF l news xt.cps.toList i vs tl word ws ps →
      Fr h₀ env.locals h (fun y => if y = Str.ofString "sign" then some (.str ⟨#[c]⟩ t) else if y = Str.ofString "word" then some (.str word tw) else m₀ y) → News h₀ env.locals h ((l, listOf vs.toArray n) :: (tl ++ own)) →
      wpAny (model prog w) A (execs body env) (InvPostG h₀ env.locals (TJ l news m₀ xt.cps.toList (i + 1)) own { s with heap := h, toks := tk } Q) E { s with heap := h, toks := tk })
    (done : ∀ (u : Str → Option Value) (vs : List Value) (n : Nat) (tl : List (Addr × Obj)) (word : Str) (tw : Tok) (ws : List Str) (ps : List Pr) (h : Heap) (tk : Nat),
      TF l news xt.cps.toList xt.cps.toList.length vs tl word ws ps → Fr h₀ env.locals h (fun y => if y = Str.ofString "sign" then u y else if y = Str.ofString "word" then some (.str word tw) else m₀ y) → News h₀ env.locals h ((l, listOf vs.toArray n) :: tl) → Q .next { s with heap := h, toks := tk }) :
    wpAny (model prog w) A (pyIter (.str xt tx)) (fun it s₂ => LoopAtV prog w A h₀ env (Str.ofString "sign") body Q E it s₂) E s := by
  refine text_iter (TJ l news m₀ xt.cps.toList) hh F N ⟨[], 0, news, Str.ofString "", tw₀, [], [], rfl, ⟨fun _ h => h, fun p hp => Nat.ne_of_lt (hl p hp), .nil, rfl, rfl, Nat.le_refl _, Nat.le_refl _⟩, hw, fun _ _ _ => rfl⟩ ?_ ?_
  · rintro i c t m₁ nx h tk own hc hoff ⟨vs, n, tl, word, tw, ws, ps, rfl, H, h1, h2⟩ F₁ N₁
    refine turn i c t vs n tl word tw ws ps h tk own (by simpa using hc) hoff H ?_ N₁
    have e : (fun y => if y = Str.ofString "sign" then some (.str ⟨#[c]⟩ t) else if y = Str.ofString "word" then some (.str word tw) else m₀ y) = (fun y => if y = Str.ofString "sign" then some (.str ⟨#[c]⟩ t) else m₁ y) := by
      funext y
      by_cases hy : y = Str.ofString "sign"
      · rw [if_pos hy, if_pos hy]
      · rw [if_neg hy, if_neg hy]
        by_cases hz : y = Str.ofString "word"
        · rw [if_pos hz, hz, h1]
        · rw [if_neg hz, h2 y hy hz]
    rw [e]
    exact F₁
  · rintro m₁ nx h tk ⟨vs, n, tl, word, tw, ws, ps, rfl, H, h1, h2⟩ F₁ N₁
    refine done m₁ vs n tl word tw ws ps h tk (by simpa using H) ?_ N₁
    have e : (fun y => if y = Str.ofString "sign" then m₁ y else if y = Str.ofString "word" then some (.str word tw) else m₀ y) = m₁ := by
      funext y
      by_cases hy : y = Str.ofString "sign"
      · rw [if_pos hy]
      · rw [if_neg hy]
        by_cases hz : y = Str.ofString "word"
        · rw [if_pos hz, hz, h1]
        · rw [if_neg hz, h2 y hy hz]
    rw [e]
    exact F₁
end
end Mine

namespace Mine
open PySem.Calls
theorem item0 {word : Str} (h : 1 ≤ word.length) : ∃ c r, word.cps.toList = c :: r ∧ Txt.item word 0 = ⟨#[c]⟩ := by
  have h' : 1 ≤ word.cps.toList.length := by simpa [PySem.Str.length] using h
  cases hl : word.cps.toList with
  | nil => rw [hl] at h'; simp at h'
  | cons c r =>
    refine ⟨c, r, rfl, ?_⟩
    unfold Txt.item Txt.charAt
    have h0 : word.cps[0]? = some c := by
      rw [← Array.getElem?_toList, hl]; rfl
    have hs : seqIndex? 0 word.length = some 0 := by
      unfold seqIndex?
      simp
      omega
    rw [hs]
    simp [h0]
theorem lt_one {a b : Nat} : ([a] < [b]) ↔ a < b := by
  rw [List.cons_lt_cons_iff]
  constructor
  · rintro (h | ⟨_, h⟩)
    · exact h
    · exact absurd h (List.not_lt_nil _)
  · exact .inl
theorem s0 : (Str.ofString "0").cps.toList = [48] := by decide
theorem s9 : (Str.ofString "9").cps.toList = [57] := by decide
theorem fig_lt {word : Str} (h : 1 ≤ word.length) (q : (Txt.item word 0).cps.toList < (Str.ofString "0").cps.toList) : fig word = false := by
  obtain ⟨c, r, e, ei⟩ := item0 h
  rw [ei, s0] at q
  have q' : c < 48 := lt_one.mp q
  unfold fig
  rw [e]
  simp; omega
theorem fig_gt {word : Str} (h : 1 ≤ word.length) (q : (Str.ofString "9").cps.toList < (Txt.item word 0).cps.toList) : fig word = false := by
  obtain ⟨c, r, e, ei⟩ := item0 h
  rw [ei, s9] at q
  have q' : 57 < c := lt_one.mp q
  unfold fig
  rw [e]
  simp; omega
theorem fig_in {word : Str} (h : 1 ≤ word.length) (p : ¬ (Txt.item word 0).cps.toList < (Str.ofString "0").cps.toList) (q : ¬ (Str.ofString "9").cps.toList < (Txt.item word 0).cps.toList) : fig word = true := by
  obtain ⟨c, r, e, ei⟩ := item0 h
  rw [ei, s9] at q
  rw [ei, s0] at p
  have q' : ¬ 57 < c := fun z => q (lt_one.mpr z)
  have p' : ¬ c < 48 := fun z => p (lt_one.mpr z)
  unfold fig
  rw [e]
  simp; omega
theorem space_of {c : Nat} {b : Bool} (h : Txt.isspace ⟨#[c]⟩ = b) : Unicode.isSpace c = b := by
  rw [← h]
  unfold Txt.isspace
  have : (⟨#[c]⟩ : Str).length = 1 := rfl
  rw [this]
  simp
theorem empty_of {word : Str} (h : (word != Str.ofString "") = false) : word = Str.ofString "" := by
  simpa using h
theorem empty_is : Str.ofString "" = Str.empty := by decide

section
variable {l : Addr} {news : List (Addr × Obj)} {full : List Nat} {i c : Nat} {vs : List Value} {tl : List (Addr × Obj)} {word : Str} {ws : List Str} {ps : List Pr}
theorem take_snoc {full : List Nat} {i c : Nat} (h : full[i]? = some c) : full.take (i + 1) = full.take i ++ [c] := by
  simp [List.take_add_one, h]
theorem TF.blank0 (H : TF l news full i vs tl word ws ps) (hc : full[i]? = some c) (hs : Unicode.isSpace c = true) (hw : word = Str.ofString "") : TF l news full (i + 1) vs tl word ws ps := by
  refine ⟨H.sub, H.off, H.dat, ?_, H.fed, Nat.le_succ_of_le H.len, Nat.le_succ_of_le H.wlen⟩
  rw [take_snoc hc, scanL_snoc, H.scan]
  unfold KWd.step
  rw [if_pos hs, if_pos (by rw [hw]; rfl)]
theorem TF.sign (H : TF l news full i vs tl word ws ps) (hc : full[i]? = some c) (hs : Unicode.isSpace c = false) : TF l news full (i + 1) vs tl (word ++ ⟨#[c]⟩) ws ps := by
  refine ⟨H.sub, H.off, H.dat, ?_, H.fed, Nat.le_succ_of_le H.len, ?_⟩
  · rw [take_snoc hc, scanL_snoc, H.scan]
    unfold KWd.step
    rw [if_neg (by rw [hs]; decide)]
  · have := H.wlen
    rw [PySem.Str.length_append]
    show word.length + 1 ≤ i + 1
    omega
theorem scan_word (H : TF l news full i vs tl word ws ps) (hc : full[i]? = some c) (hs : Unicode.isSpace c = true) (hw : 1 ≤ word.length) : scanL (full.take (i + 1)) = (ws ++ [word], Str.ofString "") := by
  rw [take_snoc hc, scanL_snoc, H.scan]
  unfold KWd.step
  rw [if_pos hs, if_neg (show ¬ word.length = 0 by omega), empty_is]
theorem feed_snoc_ok {ws : List Str} {ps qs : List Pr} {w : Str} (h : feed ws [] = .ok ps) (ha : addW ps w = some qs) : feed (ws ++ [w]) [] = .ok qs := by
  rw [feed_snoc ws [] ps w h, ha]
theorem TF.fresh {D : Addr} {tw : Tok} {k : Nat} (H : TF l news full i vs tl word ws ps) (hc : full[i]? = some c) (hs : Unicode.isSpace c = true) (hw : 1 ≤ word.length) (hf : fig word = false) (hD : l < D) :
    TF l news full (i + 1) (vs ++ [.ref D]) ((D, ({ cls := .type "tuple", data := .seq [.str word tw, .none].toArray k } : Obj)) :: tl) (Str.ofString "") (ws ++ [word]) (ps ++ [(word, none)]) := by
  refine ⟨fun p hp => .tail _ (H.sub p hp), ?_, ?_, scan_word H hc hs hw, feed_snoc_ok H.fed (by simp [addW, hf]), ?_, Nat.zero_le _⟩
  · intro p hp
    rcases List.mem_cons.mp hp with rfl | hp
    · exact fun e => Nat.lt_irrefl _ (show D < D from (show D = l from e) ▸ hD)
    · exact H.off p hp
  · rw [List.map_append]
    exact (H.dat.mono fun p hp => .tail _ hp).append (.one (.tuple (.head _) (.cons (.str _ _) (.cons .none .nil))))
  · rw [List.length_append]
    exact Nat.succ_le_succ H.len
theorem TF.second {D : Addr} {f : Str} {tw tf : Tok} {k : Nat} {u : Value} (H : TF l news full i (vs ++ [u]) tl word ws (ps ++ [(f, none)])) (hc : full[i]? = some c) (hs : Unicode.isSpace c = true) (hw : 1 ≤ word.length) (hf : fig word = true) (hD : l < D) (hv : DatAll tl vs (ps.map pairD)) :
    TF l news full (i + 1) (vs ++ [.ref D]) ((D, ({ cls := .type "tuple", data := .seq [.str f tf, .str word tw].toArray k } : Obj)) :: tl) (Str.ofString "") (ws ++ [word]) (ps ++ [(f, some word)]) := by
  refine ⟨fun p hp => .tail _ (H.sub p hp), ?_, ?_, scan_word H hc hs hw, feed_snoc_ok H.fed (by simp [addW, hf]), ?_, Nat.zero_le _⟩
  · intro p hp
    rcases List.mem_cons.mp hp with rfl | hp
    · exact fun e => Nat.lt_irrefl _ (show D < D from (show D = l from e) ▸ hD)
    · exact H.off p hp
  · rw [List.map_append]
    exact (hv.mono fun p hp => .tail _ hp).append (.one (.tuple (.head _) (.cons (.str _ _) (.cons (.str _ _) .nil))))
  · have := H.len
    rw [List.length_append] at this ⊢
    exact Nat.le_succ_of_le this
end
theorem dat_snoc {news : List (Addr × Obj)} {d : Dat} : ∀ {vs : List Value} {ds : List Dat}, DatAll news vs (ds ++ [d]) → ∃ vs' u, vs = vs' ++ [u] ∧ DatAll news vs' ds ∧ DatIn news u d
  | _, [], .cons h .nil => ⟨[], _, rfl, .nil, h⟩
  | _, _ :: _, .cons h r => by
    obtain ⟨vs', u, e, h1, h2⟩ := dat_snoc r
    exact ⟨_ :: vs', u, by rw [e]; rfl, .cons h h1, h2⟩
theorem pair_in {news : List (Addr × Obj)} {f : Str} {v : Option Str} {u : Value} (h : DatIn news u (pairD (f, v))) :
    ∃ a k tf w, u = .ref a ∧ (a, ({ cls := .type "tuple", data := .seq [.str f tf, w].toArray k } : Obj)) ∈ news ∧ ((v = none ∧ w = .none) ∨ ∃ g tg, v = some g ∧ w = .str g tg) := by
  cases v with
  | none =>
    simp only [pairD] at h
    cases h with
    | tuple hm r =>
      cases r with
      | cons h1 r => cases h1; cases r with
        | cons h2 r => cases h2; cases r; exact ⟨_, _, _, _, rfl, hm, .inl ⟨rfl, rfl⟩⟩
  | some g =>
    simp only [pairD] at h
    cases h with
    | tuple hm r =>
      cases r with
      | cons h1 r => cases h1; cases r with
        | cons h2 r => cases h2; cases r; exact ⟨_, _, _, _, rfl, hm, .inr ⟨g, _, rfl, rfl⟩⟩

section
variable {prog : Program} {w : World} {A : Around} {E : Value → Shared → Prop} {s : Shared} {h₀ : Heap} {L l : Addr} {m : Str → Option Value} {news rest : List (Addr × Obj)} {vs : List Value} {n : Nat}
theorem news_one (N : News h₀ L s.heap news) {o : Obj} (hm : (l, o) ∈ news) (hr : ∀ p ∈ rest, p ∈ news ∧ p.1 ≠ l) : News h₀ L s.heap ((l, o) :: rest) := fun p hp => by
  rcases List.mem_cons.mp hp with rfl | hp
  · exact N _ hm
  · exact N p (hr p hp).1
theorem app_news {x : Value} {Q : Value → Shared → Prop} (F : Fr h₀ L s.heap m) (N : News h₀ L s.heap news) (hm : (l, listOf vs.toArray n) ∈ news) (hr : ∀ p ∈ rest, p ∈ news ∧ p.1 ≠ l) (hsz : vs.length ≤ 1001)
    (h : ∀ h', Fr h₀ L h' m → News h₀ L h' ((l, listOf (vs ++ [x]).toArray (n + 1)) :: rest) → Q .none { s with heap := h' }) : wpAny (model prog w) A (call (.builtin "list.append") [.ref l, x]) Q E s := by
  refine append_K F (news_one N hm hr) (.head fun p hp => (hr p hp).2) (fun h' F' N' => h h' F' ?_) (by rw [sizeLine_eq, List.size_toArray]; omega)
  rw [List.push_toArray] at N'
  exact N'
theorem set_news {u v : Value} {t : Tok} {Q : Unit → Shared → Prop} (F : Fr h₀ L s.heap m) (N : News h₀ L s.heap news) (hm : (l, listOf (vs ++ [u]).toArray n) ∈ news) (hr : ∀ p ∈ rest, p ∈ news ∧ p.1 ≠ l)
    (h : ∀ h', Fr h₀ L h' m → News h₀ L h' ((l, listOf (vs ++ [v]).toArray n) :: rest) → Q () { s with heap := h' }) : wpAny (model prog w) A (setItem (.ref l) (.int (-1) t) v) Q E s := by
  have z := N _ hm
  refine set_last z.1 (h _ (F.change (Heap.SameBut.update ..) z.2.1 z.2.2) (ki_turn (pre := []) _ (news_one N hm hr) (fun _ h => nomatch h) (fun p hp => (hr p hp).2) ?_ ?_))
  · apply Array.toList_inj.mp
    simp
  · simp
theorem tj_end {m₀ m' : Str → Option Value} {own news' tl' : List (Addr × Obj)} {s₁ : Shared} {h' : Heap} {tk i n' : Nat} {full : List Nat} {vs' : List Value} {word' : Str} {tw' : Tok} {ws' : List Str} {ps' : List Pr} (H : TF l news full (i + 1) vs' tl' word' ws' ps')
    (F : Fr h₀ L h' m') (N : News h₀ L h' news') (hn : ∀ p ∈ (l, listOf vs'.toArray n') :: tl', p ∈ news') (ho : ∀ p ∈ own, p ∈ news') (hoff : OwnOff own (((l, listOf vs'.toArray n') :: tl').map (·.1)))
    (hw : m' (Str.ofString "word") = some (.str word' tw')) (hm : ∀ z, z ≠ Str.ofString "sign" → z ≠ Str.ofString "word" → m' z = m₀ z) :
    InvEndG h₀ L (TJ l news m₀ full (i + 1)) own s₁ { s₁ with heap := h', toks := tk } :=
  InvEndG.intro F N ⟨vs', n', tl', word', tw', ws', ps', rfl, H, hw, hm⟩ hoff hn ho
theorem off_more {own tl : List (Addr × Obj)} {vs vs' : List Value} {n n' : Nat} {D : Addr} {o : Obj} (h : OwnOff own (((l, listOf vs.toArray n) :: tl).map (·.1))) (hD : ∀ p ∈ own, p.1 < D) :
    OwnOff own (((l, listOf vs'.toArray n') :: (D, o) :: tl).map (·.1)) := by
  intro p hp b hb
  simp only [List.map_cons, List.mem_cons] at hb
  rcases hb with rfl | rfl | hb
  · exact h p hp _ (by simp)
  · exact Nat.ne_of_lt (hD p hp)
  · exact h p hp b (by simp only [List.map_cons, List.mem_cons]; exact .inr hb)
theorem allLt_mem {d : Nat} : ∀ {l : List (Addr × Obj)}, AllLt d l → ∀ p ∈ l, p.1 < d
  | [], _, p, hp => absurd hp List.not_mem_nil
  | q :: r, h, p, hp => by
    rcases List.mem_cons.mp hp with e | hp
    · rw [e]; exact h.1
    · exact allLt_mem h.2 p hp
end

section
variable {prog : Program} {w : World} {A : Around} {E : Value → Shared → Prop} {s : Shared} {h₀ : Heap} {L l l2 : Addr} {m : Str → Option Value} {news tl own : List (Addr × Obj)} {vs : List Value} {n i : Nat} {full : List Nat} {word : Str} {ws : List Str} {ps : List Pr}
theorem app_told {x : Value} {D : Addr} {o : Obj} {Q : Value → Shared → Prop} (F : Fr h₀ L s.heap m) (N : News h₀ L s.heap ((D, o) :: (l, listOf vs.toArray n) :: (tl ++ own))) (H : TF l news full i vs tl word ws ps) (hoff : OwnOff own (((l, listOf vs.toArray n) :: tl).map (·.1))) (hD : l < D) (hsz : vs.length ≤ 1001)
    (h : ∀ h', Fr h₀ L h' m → News h₀ L h' ((l, listOf (vs ++ [x]).toArray (n + 1)) :: (D, o) :: (tl ++ own)) → Q .none { s with heap := h' }) : wpAny (model prog w) A (call (.builtin "list.append") [.ref l, x]) Q E s := by
  refine app_news F N (.tail _ (.head _)) (fun p hp => ?_) hsz h
  rcases List.mem_cons.mp hp with rfl | hp
  · exact ⟨.head _, Nat.ne_of_gt hD⟩
  · refine ⟨.tail _ (.tail _ hp), ?_⟩
    rcases List.mem_append.mp hp with hp | hp
    · exact H.off p hp
    · exact hoff p hp l (by simp)
theorem TF.okP (H : TF l news full i vs tl word ws ps) (hf : ∀ c ∈ full, c < 0x110000) : ∀ p ∈ ps, okP p := by
  refine feed_ok ws [] ps ?_ (fun _ h => absurd h List.not_mem_nil) H.fed
  have := (fold_ok (full.take i) (fun c hc => hf c (List.mem_of_mem_take hc)) [] Str.empty (fun _ h => absurd h List.not_mem_nil) okS_empty).1
  have e := H.scan
  unfold scanL at e
  rw [e] at this
  exact this
theorem told_eq {Q : Value → Shared → Prop} (N : News h₀ L s.heap ((l2, listOf #[] 0) :: (l, listOf vs.toArray n) :: (tl ++ own))) (H : TF l news full i vs tl word ws ps) (hf : ∀ c ∈ full, c < 0x110000) (hu : A.units + 64 < cLine)
    (h : Q (.bool ps.isEmpty) s) : wpAny (model prog w) A (compareOp .Eq (.ref l) (.ref l2)) Q E s := by
  refine kqd_eq (xs := vs) (ys := []) N (.tail _ (.head _)) rfl rfl H.dat (fun p hp => .tail _ (.tail _ (List.mem_append.mpr (.inl hp)))) (.head _) rfl rfl (DatAll.nil (news := [])) (fun p hp => absurd hp List.not_mem_nil) ?_ (fun _ h => absurd h List.not_mem_nil) hu ?_
  · intro d hd
    obtain ⟨p, hp, rfl⟩ := List.mem_map.mp hd
    exact kqdOk_to 1 7 _ (kqdOk_pair (H.okP hf p hp))
  · cases ps with
    | nil => simpa using h
    | cons p r => simpa using h
end
theorem news_tail {h₀ h : Heap} {L : Addr} {q : Addr × Obj} {r : List (Addr × Obj)} (N : News h₀ L h (q :: r)) : News h₀ L h r := fun p hp => N p (.tail _ hp)
theorem okS_blank : okS (Str.ofString " ") := by unfold okS; decide +kernel

section
variable {h₀ : Heap} {L l : Addr} {news tl own : List (Addr × Obj)} {vs : List Value} {n i c k1 k2 : Nat} {full : List Nat} {word : Str} {ws : List Str} {ps : List Pr} {m₀ m' : Str → Option Value} {s₁ : Shared} {h' : Heap} {tk : Nat} {D : Addr} {tw tw' tf : Tok} {f : Str} {u : Value}
theorem fresh_end (H : TF l news full i vs tl word ws ps) (hc : full[i]? = some c) (hs : Unicode.isSpace c = true) (hw : 1 ≤ word.length) (hf : fig word = false) (l1 : l < D ∧ AllLt D (tl ++ own)) (hoff : OwnOff own (((l, listOf vs.toArray n) :: tl).map (·.1)))
    (F : Fr h₀ L h' m') (N : News h₀ L h' ((l, listOf (vs ++ [Value.ref D]).toArray k1) :: (D, ({ cls := .type "tuple", data := .seq [.str word tw, .none].toArray k2 } : Obj)) :: (tl ++ own)))
    (hm1 : m' (Str.ofString "word") = some (.str (Str.ofString "") tw')) (hm2 : ∀ z, z ≠ Str.ofString "sign" → z ≠ Str.ofString "word" → m' z = m₀ z) : InvEndG h₀ L (TJ l news m₀ full (i + 1)) own s₁ { s₁ with heap := h', toks := tk } := by
  refine tj_end (n' := k1) (H.fresh (D := D) (tw := tw) (k := k2) hc hs hw hf l1.1) F N ?_ ?_ (off_more hoff fun p hp => allLt_mem l1.2 p (List.mem_append.mpr (.inr hp))) hm1 hm2
  · intro p hp
    rcases List.mem_cons.mp hp with rfl | hp
    · exact .head _
    rcases List.mem_cons.mp hp with rfl | hp
    · exact .tail _ (.head _)
    · exact .tail _ (.tail _ (List.mem_append.mpr (.inl hp)))
  · intro p hp; exact .tail _ (.tail _ (List.mem_append.mpr (.inr hp)))
theorem second_end (H : TF l news full i (vs ++ [u]) tl word ws (ps ++ [(f, none)])) (hc : full[i]? = some c) (hs : Unicode.isSpace c = true) (hw : 1 ≤ word.length) (hf : fig word = true) (hv : DatAll tl vs (ps.map pairD)) (l1 : l < D ∧ AllLt D (tl ++ own)) (hoff : OwnOff own (((l, listOf (vs ++ [u]).toArray n) :: tl).map (·.1)))
    (F : Fr h₀ L h' m') (N : News h₀ L h' ((l, listOf (vs ++ [Value.ref D]).toArray k1) :: (D, ({ cls := .type "tuple", data := .seq [.str f tf, .str word tw].toArray k2 } : Obj)) :: (tl ++ own)))
    (hm1 : m' (Str.ofString "word") = some (.str (Str.ofString "") tw')) (hm2 : ∀ z, z ≠ Str.ofString "sign" → z ≠ Str.ofString "word" → m' z = m₀ z) : InvEndG h₀ L (TJ l news m₀ full (i + 1)) own s₁ { s₁ with heap := h', toks := tk } := by
  refine tj_end (n' := k1) (TF.second (D := D) (tw := tw) (tf := tf) (k := k2) H hc hs hw hf l1.1 hv) F N ?_ ?_ (off_more hoff fun p hp => allLt_mem l1.2 p (List.mem_append.mpr (.inr hp))) hm1 hm2
  · intro p hp
    rcases List.mem_cons.mp hp with rfl | hp
    · exact .head _
    rcases List.mem_cons.mp hp with rfl | hp
    · exact .tail _ (.head _)
    · exact .tail _ (.tail _ (List.mem_append.mpr (.inl hp)))
  · intro p hp; exact .tail _ (.tail _ (List.mem_append.mpr (.inr hp)))
theorem TF.okW (H : TF l news full i vs tl word ws ps) (hf : ∀ c ∈ full, c < 0x110000) : okS word := by
  have := (fold_ok (full.take i) (fun c hc => hf c (List.mem_of_mem_take hc)) [] Str.empty (fun _ h => absurd h List.not_mem_nil) okS_empty).2
  have e := H.scan
  unfold scanL at e
  rw [e] at this
  exact this
theorem repr_len {word : Str} (h : okS word) (hl : word.length ≤ 1001) : (reprText word).length ≤ 10012 := by
  have := StrLaws.reprText_len word (fun c hc => Nat.lt_of_lt_of_le ((okS_iff word).mp h c hc) (by decide))
  omega
theorem bad_end {x : Str} (H : TF l news (x ++ Str.ofString " ").cps.toList i vs tl word ws ps) (hc : (x ++ Str.ofString " ").cps.toList[i]? = some c) (hs : Unicode.isSpace c = true) (hw : 1 ≤ word.length) (hb : addW ps word = none) :
    feed (Txt.words x) [] = .bad word := by
  have hfull : (x ++ Str.ofString " ").cps.toList = x.cps.toList ++ [32] := by
    rw [PySem.Str.cps_append, Array.toList_append]; rfl
  rw [hfull] at H hc
  have e : x.cps.toList ++ [32] = (x.cps.toList ++ [32]).take i ++ c :: (x.cps.toList ++ [32]).drop (i + 1) := by
    have ht := List.take_append_drop (i + 1) (x.cps.toList ++ [32])
    rw [take_snoc hc, List.append_assoc] at ht
    exact ht.symm
  obtain ⟨r, hr⟩ := words_mid e H.scan hs (by omega)
  rw [hr]
  exact feed_bad ws [] ps word r H.fed hb
theorem idx_last {vs : List Value} {u : Value} : seqIndex? (-1) (vs ++ [u]).length = some vs.length := by
  rw [seqIndex_neg (by decide) (by rw [List.length_append]; simp; omega), List.length_append]
  congr 1
  simp
  omega
theorem get_last {vs : List Value} {u : Value} : (vs ++ [u])[vs.length]? = some u := by simp
end

section
variable {prog : Program} {w : World} {A : Around} {E : Value → Shared → Prop} {s : Shared} {h₀ : Heap} {L l : Addr} {m : Str → Option Value} {news tl own : List (Addr × Obj)} {vs : List Value} {n i : Nat} {full : List Nat} {word : Str} {ws : List Str} {ps : List Pr}
theorem set_told {u v : Value} {t : Tok} {D : Addr} {o : Obj} {Q : Unit → Shared → Prop} (F : Fr h₀ L s.heap m) (N : News h₀ L s.heap ((D, o) :: (l, listOf (vs ++ [u]).toArray n) :: (tl ++ own))) (H : TF l news full i (vs ++ [u]) tl word ws ps) (hoff : OwnOff own (((l, listOf (vs ++ [u]).toArray n) :: tl).map (·.1))) (hD : l < D)
    (h : ∀ h', Fr h₀ L h' m → News h₀ L h' ((l, listOf (vs ++ [v]).toArray n) :: (D, o) :: (tl ++ own)) → Q () { s with heap := h' }) : wpAny (model prog w) A (setItem (.ref l) (.int (-1) t) v) Q E s := by
  refine set_news F N (.tail _ (.head _)) (fun p hp => ?_) h
  rcases List.mem_cons.mp hp with rfl | hp
  · exact ⟨.head _, Nat.ne_of_gt hD⟩
  · refine ⟨.tail _ (.tail _ hp), ?_⟩
    rcases List.mem_append.mp hp with hp | hp
    · exact H.off p hp
    · exact hoff p hp l (by simp)
end
end Mine

theorem Mine.told_calls (w : World) (mean : ExcName → Option Value) (mg mb : Str → Option Value) : Mine.Calls1 w mean mg mb 28 := by
  unfold Mine.Calls1 Mine.P0
  k_fill
  intro H cn cs L a ccd m news s x t Q E B F X N T hk hxl hxo hret
  refine wpAny_call ?_
  k_dflt ktr_enter
  clear N F
  repeat' ((fail_if_success (with_reducible show wpAny _ _ (exec (Stmt.For _ _ _ _ _) _) _ _ _)); first | (k_unfold; (try dsimp only)) | walk1 | (dsimp only; walk1) | fail "no step")
  rename_i l h1 hl h2 h3 F N
  with_unfolding_all refine' For_invVF F ?k1 ?k2 ?_
  case k1 => exact rfl
  case k2 => exact rfl
  repeat' ((fail_if_success (with_reducible show wpAny _ _ (pyIter _) _ _ _)); first | (k_unfold; (try dsimp only)) | walk1 | (dsimp only; walk1) | fail "no step")
  refine Mine.told_iter rfl F N hl rfl ?turn ?done
  case done =>
    intro u vs n tl word tw ws ps h tk H F N
    k_steps
    have hps : vs.length = ps.length := by simpa using H.dat.length
    have hb := H.len
    have hfull : (x ++ Str.ofString " ").cps.toList = x.cps.toList ++ [32] := by
      rw [PySem.Str.cps_append, Array.toList_append]; rfl
    have hfl : (x ++ Str.ofString " ").cps.toList.length = x.length + 1 := by
      rw [hfull]; simp [PySem.Str.length]
    have hw : Txt.words x = ws := by
      have := H.scan
      rw [List.take_length, hfull] at this
      rw [Mine.words_full, this]
    refine kde_tupleOf F N (News.isList N (.head _)) (by simp; omega) rfl ?_
    intro D h' F' N' l1
    refine leaveK_ F' N' ?_
    intro kF kN
    refine hret _ ((D, ({ cls := .type "tuple", data := .seq vs.toArray } : Obj)) :: (l, W.listOf vs.toArray n) :: tl) _ _ kF ?_ ?_
    · intro p hp
      exact (List.mem_append.mp hp).elim (kN p) fun h => kN p (.tail _ (.tail _ (H.sub p h)))
    · rw [hw, H.fed]
      exact .tuple (.head _) (H.dat.mono fun p hp => .tail _ (.tail _ hp))
  case turn =>
    intro i c t vs n tl word tw ws ps h tk own hc hoff H F N
    skip
    have hlen := H.len
    have hwlen := H.wlen
    have hvl : vs.length = ps.length := by simpa using H.dat.length
    have hi : i < (x ++ Str.ofString " ").cps.toList.length := (List.getElem?_eq_some_iff.mp hc).1
    have hfl : (x ++ Str.ofString " ").cps.toList.length = x.length + 1 := by
      rw [PySem.Str.cps_append, Array.toList_append, List.length_append]; rfl
    have hv1 : vs.length ≤ 1001 := by omega
    have hw1 : word.length ≤ 1001 := by omega
    k_steps
    · rename_i D h' F' N' l1
      refine Mine.app_told F' N' H hoff l1.1 hv1 ?_
      intro h6 F6 N6
      clear F' N' F N
      k_steps
      rename_i h7 F7 N7
      refine Mine.fresh_end H hc (Mine.space_of (by assumption)) (by assumption) (Mine.fig_lt (by assumption) (by assumption)) l1 hoff F7 N7 rfl ?_
      intro z z1 z2
      rw [if_neg z2, if_neg z1, if_neg z2]
    · rename_i D h' F' N' l1
      refine Mine.app_told F' N' H hoff l1.1 hv1 ?_
      intro h6 F6 N6
      clear F' N' F N
      k_steps
      rename_i h7 F7 N7
      refine Mine.fresh_end H hc (Mine.space_of (by assumption)) (by assumption) (Mine.fig_gt (by assumption) (by assumption)) l1 hoff F7 N7 rfl ?_
      intro z z1 z2
      rw [if_neg z2, if_neg z1, if_neg z2]
    · rename_i l2 h' F' N' l1
      have hfig := Mine.fig_in (word := word) (by assumption) (by assumption) (by assumption)
      have hsp := Mine.space_of (c := c) (by assumption)
      have hfull := (Mine.okS_iff _).mp (Mine.okS_append hxo Mine.okS_blank)
      have hrl := Mine.repr_len (H.okW hfull) hw1
      clear F N
      refine Mine.told_eq N' H hfull (by units_room) ?_
      replace N' := Mine.news_tail N'
      rcases List.eq_nil_or_concat ps with rfl | ⟨ps, q, rfl⟩
      · show wpAny _ _ (truthy (Value.bool true)) _ _ _
        repeat' ((fail_if_success (with_reducible show wpAny _ _ (call (Value.builtin "repr") _ _) _ _ _)); first | (k_unfold; (try dsimp only)) | walk1 | (dsimp only; walk1) | fail "no step")
        refine P.repr_of_str ?_ (by rw [sizeLine_eq]; omega)
        k_steps
        rename_i kF kN _ _
        refine hret _ [] _ _ kF ?_ ?_
        · intro p hp; exact kN p (.tail _ (List.mem_append.mpr (.inl (H.sub p hp))))
        · rw [Mine.bad_end H hc hsp (by assumption) (by simp [Mine.addW, hfig])]
          exact .str _ _
      · have e : (ps.concat q).isEmpty = false := by simp
        rw [e]
        rw [List.concat_eq_append] at *
        obtain ⟨f, v⟩ := q
        obtain ⟨vs, u, rfl, hva, hvu⟩ := Mine.dat_snoc (by simpa using H.dat)
        obtain ⟨a, k, tf, y, rfl, hmem, hy⟩ := Mine.pair_in hvu
        show wpAny _ _ (truthy (Value.bool false)) _ _ _
        repeat' ((fail_if_success (with_reducible show wpAny _ _ (subscriptTail _ _ _ _) _ _ _)); first | (k_unfold; (try dsimp only)) | walk1 | (dsimp only; walk1) | fail "no step")
        refine kde_neg (News.isList N' (.head _)) (by decide) (by decide) Mine.idx_last Mine.get_last ?_
        repeat' ((fail_if_success (with_reducible show wpAny _ _ (subscriptTail _ _ _ _) _ _ _)); first | (k_unfold; (try dsimp only)) | walk1 | (dsimp only; walk1) | fail "no step")
        refine item_tupleT (News.isTup N' (.tail _ (List.mem_append.mpr (.inl hmem)))) (by decide) (by decide) rfl rfl ?_
        rcases hy with ⟨rfl, rfl⟩ | ⟨g', tg, rfl, rfl⟩
        · repeat' ((fail_if_success (with_reducible show wpAny _ _ (subscriptTail _ _ _ _) _ _ _)); first | (k_unfold; (try dsimp only)) | walk1 | (dsimp only; walk1) | fail "no step")
          refine kde_neg (News.isList N' (.head _)) (by decide) (by decide) Mine.idx_last Mine.get_last ?_
          repeat' ((fail_if_success (with_reducible show wpAny _ _ (subscriptTail _ _ _ _) _ _ _)); first | (k_unfold; (try dsimp only)) | walk1 | (dsimp only; walk1) | fail "no step")
          refine item_tupleT (News.isTup N' (.tail _ (List.mem_append.mpr (.inl hmem)))) (by decide) (by decide) rfl rfl ?_
          repeat' ((fail_if_success (with_reducible show wpAny _ _ (setItem _ _ _) _ _ _)); first | (k_unfold; (try dsimp only)) | walk1 | (dsimp only; walk1) | fail "no step")
          rename_i D h6 F6 N6 l6
          skip
          refine Mine.set_told F6 N6 H hoff l6.1 ?_
          intro h7 F7 N7
          clear F6 N6
          k_steps
          rename_i h8 F8 N8
          refine Mine.second_end H hc hsp (by assumption) hfig hva l6 hoff F8 N8 rfl ?_
          intro z z1 z2
          rw [if_neg z2, if_neg z1, if_neg z2]
        · repeat' ((fail_if_success (with_reducible show wpAny _ _ (call (Value.builtin "repr") _ _) _ _ _)); first | (k_unfold; (try dsimp only)) | walk1 | (dsimp only; walk1) | fail "no step")
          refine P.repr_of_str ?_ (by rw [sizeLine_eq]; omega)
          k_steps
          rename_i kF kN _ _
          refine hret _ [] _ _ kF ?_ ?_
          · intro p hp; exact kN p (.tail _ (List.mem_append.mpr (.inl (H.sub p hp))))
          · rw [Mine.bad_end H hc hsp (by assumption) (by simp [Mine.addW, hfig])]
            exact .str _ _
    · refine Mine.tj_end (H.blank0 hc (Mine.space_of (by assumption)) (Mine.empty_of (by assumption))) F N ?_ ?_ hoff rfl ?_
      · intro p hp
        rcases List.mem_cons.mp hp with rfl | hp
        · exact .head _
        · exact .tail _ (List.mem_append.mpr (.inl hp))
      · intro p hp; exact .tail _ (List.mem_append.mpr (.inr hp))
      · intro z z1 z2
        rw [if_neg z1, if_neg z2]
    · rename_i h' F' N'
      refine Mine.tj_end (H.sign hc (Mine.space_of (by assumption))) F' N' ?_ ?_ hoff rfl ?_
      · intro p hp
        rcases List.mem_cons.mp hp with rfl | hp
        · exact .head _
        · exact .tail _ (List.mem_append.mpr (.inl hp))
      · intro p hp; exact .tail _ (List.mem_append.mpr (.inr hp))
      · intro z z1 z2
        rw [if_neg z2, if_neg z1, if_neg z2]

namespace Mine
open PySem.Calls
section
variable {prog : Program} {w : World} {A : Around} {E : Value → Shared → Prop} {s : Shared}
theorem item_at {value slice : PySem.Expr} {l : Addr} {vs : List Value} {k : Int} {u : Tok} {v : Value} {Q : Value → Shared → Prop} (hl : s.heap.IsList l vs.toArray) (h0 : 0 ≤ k) (hfit : k < 2 ^ 63) (hx : vs[k.toNat]? = some v) (h : Q v s)
    (hs : subscripted slice false (.ref l) (.int k u) = operate [.ref l, .int k u] (getItem (.ref l) (.int k u)) := by with_unfolding_all rfl) :
    wpAny (model prog w) A (subscriptTail value slice (.ref l) (.int k u)) Q E s :=
  tail_any hl.typeIs slot_list_getitem.lookup (wpAny_getItem_list hl h0 hfit (by simpa using hx) h) hs
end

/-- the state of the while loop -/
structure WS where
  i : Nat
  ti : Tok
  vs : List Value
  n : Nat
  tl : List (Addr × Obj)
  ps : List Pr

def WLed (lf D : Addr) (l : List (Str × Tok)) (c : WS) : List (Addr × Obj) := (lf, listOf c.vs.toArray c.n) :: (D, listOf (strValues l).toArray 0) :: c.tl
def WPs (c : WS) : List (Str × Value) := [(Str.ofString "i", .int (c.i : Int) c.ti)]
structure WF (lf : Addr) (news : List (Addr × Obj)) (c : WS) : Prop where
  sub : ∀ p ∈ news, p ∈ c.tl
  off : ∀ p ∈ c.tl, p.1 ≠ lf
  dat : DatAll c.tl c.vs (c.ps.map pairD)
structure WP (ws : List Str) (c : WS) : Prop where
  le : c.i ≤ ws.length
  go : parse (ws.drop c.i) c.ps = parse ws []
  len : c.ps.length ≤ c.i
def WM (ws : List Str) (c : WS) : Nat := ws.length - c.i

theorem word_at {l : List (Str × Tok)} {ws : List Str} {i : Nat} (e : l.map (·.1) = ws) (h : i < ws.length) : ∃ f t, (strValues l)[i]? = some (.str f t) ∧ ws[i]? = some f := by
  subst e
  rw [List.length_map] at h
  refine ⟨(l[i]).1, (l[i]).2, ?_, ?_⟩
  · unfold strValues
    simp [h]
  · simp [h]

abbrev wStored : List Str := [Str.ofString "feature", Str.ofString "version", Str.ofString "v"]
section
variable {prog : Program} {w : World} {A : Around} {E : Value → Shared → Prop} {Q : Flow → Shared → Prop} {s : Shared} {env : Env} {h₀ : Heap} {L lf D : Addr} {news : List (Addr × Obj)} {l : List (Str × Tok)} {ws : List Str}
theorem parse_while {test : Expr} {body : List Stmt} {pos : Pos} {m₀ : Str → Option Value} {t₀ : Tok} (ws : List Str)
    (F : Fr h₀ L s.heap m₀) (N : News h₀ L s.heap ((D, listOf (strValues l).toArray 0) :: (lf, listOf #[] 0) :: news)) (hlf : ∀ p ∈ news, p.1 < lf) (hi : m₀ (Str.ofString "i") = some (.int 0 t₀))
    (turn : ∀ (i : Nat) (ti : Tok) (vs : List Value) (n : Nat) (tl : List (Addr × Obj)) (ps : List Pr) (u : Str → Option Value) (h : Heap) (tk : Nat), WF lf news ⟨i, ti, vs, n, tl, ps⟩ → WP ws ⟨i, ti, vs, n, tl, ps⟩ →
      Fr h₀ L h (fun y => if y = Str.ofString "i" then some (.int (i : Int) ti) else if wStored.contains y then u y else m₀ y) → News h₀ L h ((lf, listOf vs.toArray n) :: (D, listOf (strValues l).toArray 0) :: tl) →
      wpAny (model prog w) A (isTrue test env (eval test env)) (fun b s₂ =>
        if b = true then wpAny (model prog w) A (execs body env) (KswPost h₀ L s (WLed lf D l) WPs (WF lf news) wStored m₀ (WP ws) (WM ws) Q ⟨i, ti, vs, n, tl, ps⟩) E s₂ else Q .next s₂) E { s with heap := h, toks := tk })
    (hE : PassesOwn (model prog w) A env E := by passes_own) :
    wpAny (model prog w) A (exec (.While test body [] pos) env) Q E s := by
  refine ksw_while (WLed lf D l) WPs (WF lf news) wStored (WP ws) (WM ws) ⟨0, t₀, [], 0, news, []⟩ F ?_ ⟨fun _ h => h, fun p hp => Nat.ne_of_lt (hlf p hp), .nil⟩ ?_ ⟨Nat.zero_le _, rfl, Nat.zero_le _⟩ ?_ hE
  · intro p hp
    refine N p ?_
    rcases List.mem_cons.mp hp with rfl | hp
    · exact .tail _ (.head _)
    rcases List.mem_cons.mp hp with rfl | hp
    · exact .head _
    · exact .tail _ (.tail _ hp)
  · intro p hp
    rcases List.mem_cons.mp hp with rfl | hp
    · exact hi
    · exact absurd hp List.not_mem_nil
  · rintro ⟨i, ti, vs, n, tl, ps⟩ u h tk hf hp F₁ N₁
    exact turn i ti vs n tl ps u h tk hf hp F₁ N₁
end

theorem le_sum : ∀ (ws : List Str) (a : Str), a ∈ ws → a.length ≤ (ws.map (·.length)).sum
  | w :: r, a, h => by
    rw [List.map_cons, List.sum_cons]
    rcases List.mem_cons.mp h with rfl | h
    · exact Nat.le_add_right _ _
    · exact Nat.le_trans (le_sum r a h) (Nat.le_add_left _ _)
theorem word_len {x : Str} (h : x.length ≤ 1000) : (∀ a ∈ Txt.words x, a.length ≤ 1001) ∧ (Txt.words x).length ≤ 1001 := by
  have hw := StrLaws.words_weight x
  refine ⟨fun a ha => ?_, by omega⟩
  have := le_sum _ a ha
  omega
theorem parse_done {ws : List Str} {i : Nat} {ps : List Pr} (h : parse (ws.drop i) ps = parse ws []) (hi : ¬ i < ws.length) : feed ws [] = .ok ps := by
  rw [feed_parse, ← h, List.drop_eq_nil_of_le (by omega)]
  rfl
theorem drop_at {ws : List Str} {i : Nat} {f : Str} (h : ws[i]? = some f) : ws.drop i = f :: ws.drop (i + 1) := by
  obtain ⟨hi, e⟩ := List.getElem?_eq_some_iff.mp h
  rw [List.drop_eq_getElem_cons hi, e]

theorem digits : (Str.ofString "0123456789").cps.toList = [48, 49, 50, 51, 52, 53, 54, 55, 56, 57] := by decide
theorem occ_fig {f : Str} (h : 1 ≤ f.length) {b : Bool} (e : (Builtin.Str.occurrences (Str.ofString "0123456789") (Txt.item f 0) 0 (Str.ofString "0123456789").length 1).isEmpty = b) : fig f = !b := by
  obtain ⟨c, r, e1, e2⟩ := item0 h
  rw [e2] at e
  have q := StrLaws.found_one (Str.ofString "0123456789") c
  rw [e, digits] at q
  rw [q]
  unfold fig
  rw [e1]
  rw [Bool.eq_iff_iff]
  simp
  omega
theorem parse_bad {ws : List Str} {i : Nat} {ps : List Pr} {f : Str} (h : parse (ws.drop i) ps = parse ws []) (hf : ws[i]? = some f) (hg : fig f = true) : feed ws [] = .bad f := by
  rw [feed_parse, ← h, drop_at hf]
  cases hd : ws.drop (i + 1) with
  | nil => simp [parse, hg]
  | cons v r => simp [parse, hg]
theorem parse_plain {ws : List Str} {i : Nat} {ps : List Pr} {f : Str} (hf : ws[i]? = some f) (hg : fig f = false) (hv : ∀ v, ws[i + 1]? = some v → fig v = false) : parse (ws.drop (i + 1)) (ps ++ [(f, none)]) = parse (ws.drop i) ps := by
  rw [drop_at hf]
  cases hd : ws.drop (i + 1) with
  | nil => simp [parse, hg]
  | cons v r =>
    have e : ws[i + 1]? = some v := by
      have := congrArg List.head? hd
      rw [List.head?_drop] at this
      simpa using this
    simp [parse, hg, hv v e]
theorem parse_vers {ws : List Str} {i : Nat} {ps : List Pr} {f v : Str} (hf : ws[i]? = some f) (hg : fig f = false) (hv : ws[i + 1]? = some v) (hgv : fig v = true) : parse (ws.drop (i + 2)) (ps ++ [(f, some v)]) = parse (ws.drop i) ps := by
  rw [drop_at hf, drop_at hv]
  simp [parse, hg, hgv]

section
variable {prog : Program} {w : World} {A : Around} {E : Value → Shared → Prop} {s : Shared} {h₀ : Heap} {L lf D T : Addr} {m m₀ m' : Str → Option Value} {news tl : List (Addr × Obj)} {vs : List Value} {n i k1 k2 : Nat} {ws : List Str} {ps : List Pr} {l : List (Str × Tok)} {o od : Obj} {ti ti' tf tv : Tok} {f v : Str} {h' : Heap} {tk : Nat}
theorem app_feat {x : Value} {Q : Value → Shared → Prop} (F : Fr h₀ L s.heap m) (N : News h₀ L s.heap ((T, o) :: (lf, listOf vs.toArray n) :: (D, od) :: tl)) (hT : lf < T) (hD : lf < D) (hoff : ∀ p ∈ tl, p.1 ≠ lf) (hsz : vs.length ≤ 1001)
    (h : ∀ h', Fr h₀ L h' m → News h₀ L h' ((lf, listOf (vs ++ [x]).toArray (n + 1)) :: (T, o) :: (D, od) :: tl) → Q .none { s with heap := h' }) : wpAny (model prog w) A (call (.builtin "list.append") [.ref lf, x]) Q E s := by
  refine app_news F N (.tail _ (.head _)) (fun p hp => ?_) hsz h
  rcases List.mem_cons.mp hp with rfl | hp
  · exact ⟨.head _, Nat.ne_of_gt hT⟩
  rcases List.mem_cons.mp hp with rfl | hp
  · exact ⟨.tail _ (.tail _ (.head _)), Nat.ne_of_gt hD⟩
  · exact ⟨.tail _ (.tail _ (.tail _ hp)), hoff p hp⟩

theorem w_end {i' : Nat} {q : Pr} {y : Value} (hF : WF lf news ⟨i, ti, vs, n, tl, ps⟩) (hi' : i < i') (hil : i' ≤ ws.length) (hgo : parse (ws.drop i') (ps ++ [q]) = parse ws []) (hlen : ps.length ≤ i) (hT : lf < T)
    (hd : ∀ nx : List (Addr × Obj), (T, ({ cls := .type "tuple", data := .seq [.str f tf, y].toArray k2 } : Obj)) ∈ nx → DatIn nx (.ref T) (pairD q))
    (F : Fr h₀ L h' m') (N : News h₀ L h' ((lf, listOf (vs ++ [Value.ref T]).toArray k1) :: (T, ({ cls := .type "tuple", data := .seq [.str f tf, y].toArray k2 } : Obj)) :: (D, listOf (strValues l).toArray 0) :: tl))
    (hi : m' (Str.ofString "i") = some (.int (i' : Int) ti')) (hm : ∀ z, z ≠ Str.ofString "i" → z ≠ Str.ofString "feature" → z ≠ Str.ofString "version" → z ≠ Str.ofString "v" → m' z = m₀ z) :
    KswEnd h₀ L s (WLed lf D l) WPs (WF lf news) wStored m₀ (WP ws) (WM ws) ⟨i, ti, vs, n, tl, ps⟩ { s with heap := h', toks := tk } := by
  refine ksw_end ⟨i', ti', vs ++ [.ref T], k1, (T, ({ cls := .type "tuple", data := .seq [.str f tf, y].toArray k2 } : Obj)) :: tl, ps ++ [q]⟩ F N ?_ ⟨?_, ?_, ?_⟩ ?_ ?_ ⟨hil, hgo, ?_⟩ ?_
  · intro p hp
    rcases List.mem_cons.mp hp with rfl | hp
    · exact .head _
    rcases List.mem_cons.mp hp with rfl | hp
    · exact .tail _ (.tail _ (.head _))
    rcases List.mem_cons.mp hp with rfl | hp
    · exact .tail _ (.head _)
    · exact .tail _ (.tail _ (.tail _ hp))
  · intro p hp; exact .tail _ (hF.sub p hp)
  · intro p hp
    rcases List.mem_cons.mp hp with rfl | hp
    · exact Nat.ne_of_gt hT
    · exact hF.off p hp
  · show DatAll _ (vs ++ [.ref T]) ((ps ++ [q]).map pairD)
    rw [List.map_append]
    exact (hF.dat.mono fun p hp => .tail _ hp).append (.one (hd _ (.head _)))
  · intro p hp
    rcases List.mem_cons.mp hp with rfl | hp
    · exact hi
    · exact absurd hp List.not_mem_nil
  · intro z h1 h2
    have z1 : z ≠ Str.ofString "i" := h1 _ (.head _)
    simp only [wStored, List.contains_cons, List.contains_nil, Bool.or_false, Bool.or_eq_false_iff, beq_eq_false_iff_ne, ne_eq] at h2
    exact hm z z1 h2.1 h2.2.1 h2.2.2
  · show (ps ++ [q]).length ≤ i'
    rw [List.length_append]
    show ps.length + 1 ≤ i'
    omega
  · show ws.length - i' < ws.length - i
    omega
theorem w_end1 (hF : WF lf news ⟨i, ti, vs, n, tl, ps⟩) (hP : WP ws ⟨i, ti, vs, n, tl, ps⟩) (hf : ws[i]? = some f) (hg : fig f = false) (hv : ∀ v, ws[i + 1]? = some v → fig v = false) (hT : lf < T)
    (F : Fr h₀ L h' m') (N : News h₀ L h' ((lf, listOf (vs ++ [Value.ref T]).toArray k1) :: (T, ({ cls := .type "tuple", data := .seq [.str f tf, .none].toArray k2 } : Obj)) :: (D, listOf (strValues l).toArray 0) :: tl))
    (hi : m' (Str.ofString "i") = some (.int ((i : Int) + 1) ti')) (hm : ∀ z, z ≠ Str.ofString "i" → z ≠ Str.ofString "feature" → z ≠ Str.ofString "version" → z ≠ Str.ofString "v" → m' z = m₀ z) :
    KswEnd h₀ L s (WLed lf D l) WPs (WF lf news) wStored m₀ (WP ws) (WM ws) ⟨i, ti, vs, n, tl, ps⟩ { s with heap := h', toks := tk } := by
  have hil : i < ws.length := (List.getElem?_eq_some_iff.mp hf).1
  exact w_end (i' := i + 1) (q := (f, none)) hF (Nat.lt_succ_self _) hil ((parse_plain hf hg hv).trans hP.go) hP.len hT (fun nx hx => .tuple hx (.cons (.str _ _) (.cons .none .nil))) F N hi hm
theorem w_end2 (hF : WF lf news ⟨i, ti, vs, n, tl, ps⟩) (hP : WP ws ⟨i, ti, vs, n, tl, ps⟩) (hf : ws[i]? = some f) (hg : fig f = false) (hv : ws[i + 1]? = some v) (hgv : fig v = true) (hT : lf < T)
    (F : Fr h₀ L h' m') (N : News h₀ L h' ((lf, listOf (vs ++ [Value.ref T]).toArray k1) :: (T, ({ cls := .type "tuple", data := .seq [.str f tf, .str v tv].toArray k2 } : Obj)) :: (D, listOf (strValues l).toArray 0) :: tl))
    (hi : m' (Str.ofString "i") = some (.int ((i : Int) + 1 + 1) ti')) (hm : ∀ z, z ≠ Str.ofString "i" → z ≠ Str.ofString "feature" → z ≠ Str.ofString "version" → z ≠ Str.ofString "v" → m' z = m₀ z) :
    KswEnd h₀ L s (WLed lf D l) WPs (WF lf news) wStored m₀ (WP ws) (WM ws) ⟨i, ti, vs, n, tl, ps⟩ { s with heap := h', toks := tk } := by
  have hil : i + 1 < ws.length := (List.getElem?_eq_some_iff.mp hv).1
  exact w_end (i' := i + 2) (q := (f, some v)) hF (by omega) hil ((parse_vers hf hg hv hgv).trans hP.go) hP.len hT (fun nx hx => .tuple hx (.cons (.str _ _) (.cons (.str _ _) .nil))) F N hi hm
end
theorem bad_text (f : Str) : Str.empty ++ Str.ofString "bad feature name: " ++ reprText f = Str.ofString "bad feature name: " ++ reprText f := by
  rw [PySem.Str.empty_append]
end Mine

theorem Mine.said_calls (w : World) (mean : ExcName → Option Value) (mg mb : Str → Option Value) : Mine.Calls1 w mean mg mb 35 := by
  unfold Mine.Calls1 Mine.P0
  k_fill
  intro H cn cs L a ccd m news s x t Q E B F X N T hk hxl hxo hret
  refine wpAny_call ?_
  k_dflt (refine' code_defS0 ?k1 ?k2 ?k3 ?k4 ?k5 ?kA ?k6 ?k7 ?k8 ?k9 ?kB ?_ ?cK ?c2 ?c3 ?c4 ?c5; (case kA => exact rfl); (case k2 => k_asm); (case k1 => k_asm); (case k3 => k_asm); (case k4 => k_asm); (case k5 => k_asm); (case k6 => k_is); (case k7 => k_is); (case k8 => ktr_room); (case k9 => exact BindsTo.of_eq rfl); (case kB => exact locs rfl); (case cK => exact hk); (case c2 => exact rfl); (case c3 => exact rfl); (case c4 => exact rfl); (case c5 => decide); k_whole; intro g' L' h' FG' F' N' B' X' T' D'; (try dsimp only); (try k_lift B'); (try k_fold))
  clear F N
  repeat' ((fail_if_success (with_reducible show wpAny _ _ (call (Value.builtin "str.split") _ _) _ _ _)); first | (k_unfold; (try dsimp only)) | walk1 | (dsimp only; walk1) | fail "no step")
  rename_i lf h3 hlf h4 F1 N1
  refine KSpl.split0 F1 N1 ?_ (by rw [sizeLine_eq]; omega)
  intro D l h2 k2 hl hst F2 N2 hD
  have hl2 := And.intro hl trivial
  clear F1 N1
  repeat' ((fail_if_success (with_reducible show wpAny _ _ (exec (Stmt.While _ _ _ _) _) _ _ _)); first | (k_unfold; (try dsimp only)) | walk1 | (dsimp only; walk1) | fail "no step")
  rename_i F3 N3
  have hpos := StrLaws.words_pos x
  have hwl := (Mine.word_len hxl).1
  have hwn := (Mine.word_len hxl).2
  have hwo := Mine.words_ok hxo
  generalize hws : Txt.words x = ws at *
  have hlen : (strValues l).length = ws.length := by rw [← hl2.1]; simp [strValues]
  refine Mine.parse_while ws F3 N3 hlf rfl ?_
  clear F3 N3
  intro i ti vs n tl ps u h tk hF hP F N
  have hile : i ≤ ws.length := hP.le
  have hilen : ps.length ≤ i := hP.len
  have hll : l.length = ws.length := by rw [← hl2.1]; simp
  repeat' ((fail_if_success (with_reducible show wpAny _ _ (subscriptTail _ _ _ _) _ _ _)); first | (k_unfold; (try dsimp only)) | walk1 | (dsimp only; walk1) | fail "no step")
  · rename_i hlt
    obtain ⟨f, tf, hv, hf⟩ := Mine.word_at (i := i) hl2.1 (by omega)
    have hfm : f ∈ ws := List.mem_of_getElem? hf
    have hf1 := hpos f hfm
    have hf2 := hwl f hfm
    have hf3 := hwo f hfm
    have hf4 := Mine.repr_len hf3 hf2
    refine Mine.item_at (News.isList N (.tail _ (.head _))) (by omega) (by omega) hv ?_
    have hlD : lf < D := hD _ (.head _)
    have hvl : vs.length = ps.length := by simpa using hF.dat.length
    k_steps
    · rename_i y ty hv h5 F' N'
      have hyw : ws[i + 1]? = some y := by rw [← hl2.1]; exact hv
      have hym := List.mem_of_getElem? hyw
      have hy1 := hpos _ hym
      k_steps
      · rename_i T h6 F' N' l1
        refine Mine.app_feat F' N' l1.1 hlD hF.off (by omega) ?_
        intro h7 F7 N7
        clear F' N'
        k_steps
        refine Mine.w_end1 hF hP hf (Mine.occ_fig (b := true) hf1 (by assumption)) (fun v hvv => by rw [hyw] at hvv; cases hvv; exact Mine.occ_fig (b := true) hy1 (by assumption)) l1.1 F7 N7 rfl ?_
        intro z z1 z2 z3 z4
        have hz : Mine.wStored.contains z = false := by simp [Mine.wStored, z2, z3, z4]
        simp only [z1, z2, z3, z4, hz, if_false, Bool.false_eq_true]
      · rename_i T h6 F' N' l1
        refine Mine.app_feat F' N' l1.1 hlD hF.off (by omega) ?_
        intro h7 F7 N7
        clear F' N'
        k_steps
        refine Mine.w_end2 hF hP hf (Mine.occ_fig (b := true) hf1 (by assumption)) hyw (Mine.occ_fig (b := false) hy1 (by assumption)) l1.1 F7 N7 rfl ?_
        intro z z1 z2 z3 z4
        have hz : Mine.wStored.contains z = false := by simp [Mine.wStored, z2, z3, z4]
        simp only [z1, z2, z3, z4, hz, if_false, Bool.false_eq_true]
    · rename_i T h6 F' N' l1
      refine Mine.app_feat F' N' l1.1 hlD hF.off (by omega) ?_
      intro h7 F7 N7
      clear F' N'
      k_steps
      refine Mine.w_end1 hF hP hf (Mine.occ_fig (b := true) hf1 (by assumption)) (fun v hvv => by have := (List.getElem?_eq_some_iff.mp hvv).1; omega) l1.1 F7 N7 rfl ?_
      intro z z1 z2 z3 z4
      have hz : Mine.wStored.contains z = false := by simp [Mine.wStored, z2, z3, z4]
      simp only [z1, z2, z3, z4, hz, if_false, Bool.false_eq_true]
    · rename_i kF kN _ _
      rw [Mine.bad_text]
      refine hret _ [] _ _ kF (fun p hp => kN p (.tail _ (.tail _ (hF.sub p hp)))) ?_
      rw [Mine.parse_bad hP.go hf (Mine.occ_fig (b := false) hf1 (by assumption))]
      exact .str _ _
  · have hvl : vs.length = ps.length := by simpa using hF.dat.length
    refine kde_tupleOf F N (News.isList N (.head _)) (by simp; omega) rfl ?_
    intro Dt h' F' N' l1
    clear F N
    k_steps
    rename_i kF kN _ _
    refine hret _ ((Dt, ({ cls := .type "tuple", data := .seq vs.toArray } : Obj)) :: (lf, W.listOf vs.toArray n) :: (D, W.listOf (strValues l).toArray 0) :: tl) _ _ kF (fun p hp => kN p ?_) ?_
    rotate_left
    · rw [Mine.parse_done hP.go (by show ¬ i < ws.length; omega)]
      exact .tuple (.head _) (hF.dat.mono fun p hp => .tail _ (.tail _ (.tail _ hp)))
    · exact (List.mem_append.mp hp).elim _root_.id fun h => .tail _ (.tail _ (.tail _ (hF.sub p h)))

theorem PySem.Challenge.cw_dz0135_01_holds : PySem.Challenge.rw_dz0135_01.Holds := by
  refine Mine.hd ?_
  (k_with "pyIter ref" => (k_of "number" => k_state (fun pre signs => signs.length = pre.length ∧ ∀ x ∈ signs, x.length = 1 ∧ Mine.okS x) "signs$"))
  (k_with "state" => first | exact ⟨rfl, fun _ h => nomatch h⟩ | (refine Mine.signs_snoc ⟨by assumption, by assumption⟩ (by first | assumption | rfl) ?_; first | exact Mine.okS_chr _ | exact Mine.okS_item Mine.menu_ok _))
  k_go0
  (all_goals try k_fold)
  k_steps
  rename_i hl hx h1 h2
  have hj := Mine.join_facts hl hx
  have h24 : (List.take 24 ‹List Int›).length ≤ 24 := List.length_take_le _ _
  refine join_list (News.isList kNews (.tail _ (.head _))) kFacts (by rw [Mine.sum_ones _ hx, hl]; have : (Str.ofString "").length = 0 := by decide
                                                                      rw [this]; omega) ?_
  intro t' k'
  obtain ⟨hj1, hj2⟩ := hj
  generalize Txt.join (Str.ofString "") _ = y at hj1 hj2 ⊢
  have hy : y.length ≤ 24 := by omega
  k_steps
  rename_i hR hF hN hK
  have h18 : (Str.ofString " core 2.0 xml 1 9a").length = 18 := by decide
  refine kst_range (σ := Unit) (n := y.length + 18 + 1) (fun _ => []) (fun _ => []) (fun _ => True) [Str.ofString "part"] (fun _ _ => True) () (by rfl) hR ?small ?size hF (fun _ h => nomatch h) trivial (fun _ h => nomatch h) trivial ?turn ?done
  case small => exact small_one (by decide) (by decide) (by omega) (by omega)
  case size => rw [rangeSize_one, h18]; split <;> omega
  case turn =>
    intro c pre k t u h tk own hk hlt hoff _ _ F N
    have hk0 : 0 ≤ k := by omega
    have hk1 : k ≤ (y.length : Int) + 18 := by omega
    clear hR hF hN hK
    k_steps
    rename_i tk2 a2 l' h' F' N' l1
    have hyo : Mine.okS (y ++ Str.ofString " core 2.0 xml 1 9a") := Mine.okS_append hj2 Mine.okS_tail
    have hyl := Mine.tail_len hy
    refine Mine.part_iter rfl (List.Mem.head _) F' N' ?_ ?_
    · intro i v m₁ h tk own2 hv hoff2 hm F N
      have hv2 : ∃ x t, v = .str x t ∧ Mine.okS x ∧ x.length ≤ 42 := by
        match i, hv with
        | 0, hv => cases hv; exact ⟨_, _, rfl, Mine.okS_slice hyo _ _, by omega⟩
        | 1, hv => cases hv; exact ⟨_, _, rfl, Mine.okS_slice hyo _ _, by omega⟩
        | (i + 2), hv => cases hv
      obtain ⟨x, t, rfl, hxo, hxl⟩ := hv2
      clear F' N'
      repeat' ((fail_if_success (with_reducible show wpAny _ _ (call (Value.ref 35) _ _) _ _ _)); first | (k_unfold; (try dsimp only)) | walk1 | (dsimp only; walk1) | fail "no step")
      refine Mine.calls_use (Mine.said_calls _ _ _ _) F (by k_asm) N (by k_asm) (by assumption) rfl (by omega) hxo ?_
      intro r1 tl1 h1 tk1 F1 N1 D1
      clear F N
      repeat' ((fail_if_success (with_reducible show wpAny _ _ (call (Value.ref 28) _ _) _ _ _)); first | (k_unfold; (try dsimp only)) | walk1 | (dsimp only; walk1) | fail "no step")
      refine Mine.calls_use (Mine.told_calls _ _ _ _) F1 (by k_asm) N1 (by k_asm) (by assumption) rfl (by omega) hxo ?_
      intro r2 tl2 h2 tk2 F2 N2 D2
      clear F1 N1
      repeat' ((fail_if_success (with_reducible show wpAny _ _ (compareOp _ _ _) _ _ _)); first | (k_unfold; (try dsimp only)) | walk1 | (dsimp only; walk1) | fail "no step")
      refine Mine.cmp_same N2 hxo D1 D2 (by units_room) ?_
      k_steps
      refine InvEndG.intro F2 N2 ⟨List.Mem.head _, rfl, fun z hz => ?_⟩ hoff2 ?_ ?_
      · exact (if_neg hz).trans (hm z hz)
      · intro p hp; exact List.mem_append.mpr (.inr (List.mem_append.mpr (.inr (List.mem_append.mpr (.inl hp)))))
      · intro p hp; exact List.mem_append.mpr (.inr (List.mem_append.mpr (.inr (List.mem_append.mpr (.inr hp)))))
    · intro m₁ h tk hm F N
      clear F' N'
      k_steps
      refine kst_end (Led := fun _ => []) () F N (fun p hp => absurd hp List.not_mem_nil) (fun p hp => List.Mem.tail _ hp) rfl trivial (fun p hp => absurd hp List.not_mem_nil) (fun z h1 _ h3 => ?_) trivial
      have hz : z ≠ Str.ofString "part" := by rintro rfl; exact absurd h3 (by decide)
      refine (hm z hz).trans ((if_neg h1).trans ?_)
      exact if_neg (by rw [h3]; decide)
  case done =>
    intro c u h tk _ _ F N
    k_steps
