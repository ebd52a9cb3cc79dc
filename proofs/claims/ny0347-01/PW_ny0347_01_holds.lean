import PyProof.Rows.All
import Wide.All
import OpenK.AllK
import Wide.FinOn
import PySem.Challenge.RW_ny0347_01
set_option Elab.async false
set_option maxRecDepth 100000
set_option compiler.extract_closed false
set_option genSizeOf false
set_option genSizeOfSpec false
set_option genInjectivity false
section
open PySem PySem.W PyProof.Rows PyProof
namespace Mine
open Builtin.Str in
theorem slice_one {x : Str} {i : Int} {c : Nat} {r : List Nat} (h0 : 0 ≤ i) (h : x.cps.toList.drop i.toNat = c :: r) : Txt.slice x (some i) (some (i + 1)) = ⟨#[c]⟩ := by
  have hl : i.toNat < x.cps.toList.length := by
    apply Nat.lt_of_not_le
    intro hn
    rw [List.drop_eq_nil_of_le hn] at h
    cases h
  have e : Txt.slice x (some i) (some (i + 1)) = StrLaws.sliceText x (some i) (some (i + 1)) := rfl
  rw [e, StrLaws.sliceText_plain ⟨h0, by (first | lia | omega), by (first | lia | omega)⟩, h]
  have e2 : (i + 1 - i).toNat = 1 := by (first | lia | omega)
  rw [e2]
  rfl
theorem slice_head {x : Str} {j : Nat} (h : j ≤ x.length) : Txt.slice x none (some (j : Int)) = ⟨(x.cps.toList.take j).toArray⟩ := by
  have e : Txt.slice x none (some (j : Int)) = StrLaws.sliceText x none (some (j : Int)) := rfl
  have h' : j ≤ x.cps.toList.length := by simpa [Str.length] using h
  rw [e, StrLaws.sliceText_to ⟨by (first | lia | omega), by (first | lia | omega)⟩]
  have e2 : ((j : Int) - 0).toNat = j := by (first | lia | omega)
  rw [e2, List.drop_zero]
theorem no_in {hay : Str} {c : Nat} (h : c ∉ hay.cps.toList) : (Builtin.Str.occurrences hay ⟨#[c]⟩ 0 hay.length 1).isEmpty = true := by
  have := StrLaws.found_one hay c
  rw [decide_eq_false h] at this
  simpa using this
theorem yes_in {hay : Str} {c : Nat} (h : c ∈ hay.cps.toList) : (Builtin.Str.occurrences hay ⟨#[c]⟩ 0 hay.length 1).isEmpty = false := by
  have := StrLaws.found_one hay c
  rw [decide_eq_true h] at this
  simpa using this
theorem nin {hay : Str} {c : Nat} (h : c ∉ hay.cps.toList) : (!(Builtin.Str.occurrences hay ⟨#[c]⟩ 0 hay.length 1).isEmpty) = false := by rw [no_in h]; rfl
theorem yin {hay : Str} {c : Nat} (h : c ∈ hay.cps.toList) : (!(Builtin.Str.occurrences hay ⟨#[c]⟩ 0 hay.length 1).isEmpty) = true := by rw [yes_in h]; rfl
theorem one_ne {c k : Nat} {x : Str} (hx : x = ⟨#[k]⟩) (h : c ≠ k) : ((⟨#[c]⟩ : Str) == x) = false := by
  subst hx
  simp [h]
theorem one_len (c : Nat) : (((⟨#[c]⟩ : Str).length : Nat) : Int) ≠ 0 := by simp [Str.length]
end Mine
end
section
open PySem PySem.W PyProof.Rows PyProof
namespace Mine
inductive LSt where
  | none
  | ws
  | a
  | q (k : Nat)
noncomputable def LSt.val (t : Tok) : LSt → Value
  | .none => Value.none
  | .ws => .str (Str.ofString " ") t
  | .a => .str (Str.ofString "a") t
  | .q k => .str ⟨#[k]⟩ t
noncomputable def fin (qd : Bool) (tok : Str) : Option Str := if qd = false ∧ tok = Str.ofString "" then none else some tok
noncomputable def isqB (c : Nat) : Bool := c == 39 || c == 34
/-- one word read: the word or none, the state and the signs left; none: it raises -/
noncomputable def rd : LSt → Bool → Str → List Nat → Option (Option Str × LSt × List Nat)
  | .none, qd, tok, l => some (fin qd tok, .none, l)
  | .ws, qd, tok, [] => some (fin qd tok, .none, [])
  | .ws, qd, tok, c :: r => if c = 32 then rd .ws qd tok r else if isqB c = true then rd (.q c) qd tok r else rd .a qd ⟨#[c]⟩ r
  | .q _, _, _, [] => none
  | .q k, _, tok, c :: r => if c = k then rd .a true tok r else rd (.q k) true (tok ++ ⟨#[c]⟩) r
  | .a, qd, tok, [] => some (fin qd tok, .none, [])
  | .a, qd, tok, c :: r => if c = 32 then some (fin qd tok, .ws, r) else if isqB c = true then rd (.q c) qd tok r else rd .a qd (tok ++ ⟨#[c]⟩) r
theorem rd_ws_b {qd tok r} : rd .ws qd tok (32 :: r) = rd .ws qd tok r := by simp [rd]
theorem rd_ws_q {c qd tok r} (h : c = 39 ∨ c = 34) : rd .ws qd tok (c :: r) = rd (.q c) qd tok r := by rcases h with rfl | rfl <;> simp [rd, isqB]
theorem rd_ws_p {c qd tok r} (h1 : c ≠ 32) (h2 : c ≠ 39) (h3 : c ≠ 34) : rd .ws qd tok (c :: r) = rd .a qd ⟨#[c]⟩ r := by simp [rd, isqB, h1, h2, h3]
theorem rd_a_b {qd tok r} : rd .a qd tok (32 :: r) = some (fin qd tok, .ws, r) := by simp [rd]
theorem rd_a_q {c qd tok r} (h : c = 39 ∨ c = 34) : rd .a qd tok (c :: r) = rd (.q c) qd tok r := by rcases h with rfl | rfl <;> simp [rd, isqB]
theorem rd_a_p {c qd tok r} (h1 : c ≠ 32) (h2 : c ≠ 39) (h3 : c ≠ 34) : rd .a qd tok (c :: r) = rd .a qd (tok ++ ⟨#[c]⟩) r := by simp [rd, isqB, h1, h2, h3]
theorem rd_q_y {k qd tok r} : rd (.q k) qd tok (k :: r) = rd .a true tok r := by simp [rd]
theorem rd_q_n {k c qd tok r} (h : c ≠ k) : rd (.q k) qd tok (c :: r) = rd (.q k) true (tok ++ ⟨#[c]⟩) r := by simp [rd, h]
end Mine
end
section
open PySem PySem.W PyProof.Rows PySem.Calls
namespace Mine
/-- the words that list(lex) gives, and whether it comes to an end -/
inductive Lx : LSt → List Nat → List Str → Bool → Prop where
  | stop {st : LSt} {l : List Nat} {st' : LSt} {l' : List Nat} : rd st false (Str.ofString "") l = some (none, st', l') → Lx st l [] true
  | word {st : LSt} {l : List Nat} {x : Str} {st' : LSt} {l' : List Nat} {ws : List Str} {ok : Bool} : rd st false (Str.ofString "") l = some (some x, st', l') → Lx st' l' ws ok → Lx st l (x :: ws) ok
  | bad {st : LSt} {l : List Nat} : rd st false (Str.ofString "") l = none → Lx st l [] false
theorem StrsAre.snoc {vs : List Value} {ys : List Str} (h : StrsAre vs ys) (x : Str) (t : Tok) : StrsAre (vs ++ [.str x t]) (ys ++ [x]) := by
  induction h with
  | nil => exact .cons x t .nil
  | cons y u _ ih => exact .cons y u ih
end Mine
end
section
open PySem PySem.W PyProof.Rows PySem.Calls
namespace Mine
noncomputable abbrev Piece := Str × Str
noncomputable abbrev tupO (vs : Array Value) : Obj := { cls := .type "tuple", data := .seq vs }
noncomputable abbrev listO (vs : Array Value) (n : Nat) : Obj := { cls := .type "list", data := .seq vs n }
/-- the ledger bears the pieces -/
inductive PcsIn (news : List (Addr × Obj)) : List Value → List Piece → Prop where
  | nil : PcsIn news [] []
  | cons {a : Addr} {m p : Str} {t1 t2 : Tok} {vs : List Value} {ps : List Piece} : (a, tupO #[.str m t1, .str p t2]) ∈ news → PcsIn news vs ps → PcsIn news (.ref a :: vs) ((m, p) :: ps)
theorem PcsIn.mono {news news' : List (Addr × Obj)} {vs : List Value} {ps : List Piece} (h : PcsIn news vs ps) (hs : ∀ p ∈ news, p ∈ news') : PcsIn news' vs ps := by
  induction h with
  | nil => exact .nil
  | cons hm _ ih => exact .cons (hs _ hm) ih
theorem PcsIn.snoc {news : List (Addr × Obj)} {vs : List Value} {ps : List Piece} {a : Addr} {m p : Str} {t1 t2 : Tok} (h : PcsIn news vs ps) (hm : (a, tupO #[.str m t1, .str p t2]) ∈ news) : PcsIn news (vs ++ [.ref a]) (ps ++ [(m, p)]) := by
  induction h with
  | nil => exact .cons hm .nil
  | cons hm' _ ih => exact .cons hm' ih
theorem PcsIn.append {news : List (Addr × Obj)} {vs ws : List Value} {ps qs : List Piece} (h : PcsIn news vs ps) (h' : PcsIn news ws qs) : PcsIn news (vs ++ ws) (ps ++ qs) := by
  induction h with
  | nil => exact h'
  | cons hm _ ih => exact .cons hm ih
theorem PcsIn.len {news : List (Addr × Obj)} {vs : List Value} {ps : List Piece} (h : PcsIn news vs ps) : vs.length = ps.length := by
  induction h with
  | nil => rfl
  | cons _ _ ih => simp [ih]
theorem PcsIn.at {news : List (Addr × Obj)} {vs : List Value} {ps : List Piece} (h : PcsIn news vs ps) : ∀ {i : Nat} {v : Value}, vs[i]? = some v → ∃ a m p t1 t2, v = .ref a ∧ (a, tupO #[.str m t1, .str p t2]) ∈ news ∧ ps.drop i = (m, p) :: ps.drop (i + 1) := by
  induction h with
  | nil => intro i v h; simp at h
  | @cons a m p t1 t2 vs ps hm _ ih =>
    intro i v h
    cases i with
    | zero => simp at h; exact ⟨a, m, p, t1, t2, h.symm, hm, by simp⟩
    | succ i => simp at h; obtain ⟨a, m, p, t1, t2, h1, h2, h3⟩ := ih h; exact ⟨a, m, p, t1, t2, h1, h2, by simpa using h3⟩
theorem add_led {prog : Program} {w : World} {A : Around} {E : Value → Shared → Prop} {s : Shared} {h₀ : Heap} {L l b : Addr} {m : Str → Option Value} {news : List (Addr × Obj)} {xs ys : Array Value} {n n2 : Nat} {Q : Value → Shared → Prop}
    (F : Fr h₀ L s.heap m) (N : News h₀ L s.heap news) (m1 : (l, listO xs n) ∈ news) (m2 : (b, listO ys n2) ∈ news) (hsz : xs.size + ys.size ≤ 100000)
    (h : ∀ x h', Fr h₀ L h' m → News h₀ L h' ((x, listO (xs ++ ys) 0) :: news) → (∀ p ∈ news, p.1 < x) → Q (.ref x) { s with heap := h' }) : wpAny (model prog w) A (binaryOp .Add (.ref l) (.ref b)) Q E s := by
  refine P.add_list (N _ m1).1 (N _ m2).1 (h _ _ (F.push _) ?_ fun p hp => Heap.lt_size (N p hp).1) (by rw [sizeLine_eq]; (first | lia | omega))
  intro p hp
  rcases List.mem_cons.mp hp with rfl | hp
  · exact ⟨Heap.get?_push_size _ rfl, Nat.ne_of_gt F.ns.lt, next_is_new F⟩
  · exact ⟨Heap.get?_push_of_some _ (N p hp).1, (N p hp).2⟩
theorem name_head {h₀ h : Heap} {L k : Addr} {o : Obj} {rest : List (Addr × Obj)} {G : Prop} (_N : News h₀ L h ((k, o) :: rest)) (f : ∀ k', k' = k → G) : G := f k rfl
noncomputable def writingOf (p : Piece) : Str := p.1 ++ p.2 ++ p.1
noncomputable def truncT : Str := Str.ofString " [truncated]..."
/-- _law_cut -/
noncomputable def cutP : List Piece → Int → List Piece → List Piece × Str
  | [], _, kept => (kept ++ [(Str.ofString "", truncT)], Str.ofString "")
  | q :: r, room, kept =>
    if ((writingOf q).length : Int) ≤ room then cutP r (room - (writingOf q).length) (kept ++ [q])
    else if q.1 = Str.ofString "" ∨ room = 0 then (kept ++ [(Str.ofString "", Txt.slice q.2 none (some room) ++ truncT)], Str.ofString "")
    else (kept, Txt.slice (writingOf q) none (some room) ++ truncT)
end Mine
end
section
open PySem PySem.W PyProof.Rows PySem.Calls
namespace Mine
/-- the nest -/
inductive Tr where
  | int (i : Int)
  | str (x : Str)
  | node (k : Nat) (ts : List Tr)
mutual
noncomputable def Tr.size : Tr → Nat
  | .int _ => 1
  | .str _ => 1
  | .node _ ts => Tr.sizes ts + 2
noncomputable def Tr.sizes : List Tr → Nat
  | [] => 0
  | t :: r => Tr.size t + Tr.sizes r + 1
end
mutual
noncomputable def Tr.dep : Tr → Nat
  | .int _ => 0
  | .str _ => 0
  | .node _ ts => Tr.deps ts + 1
noncomputable def Tr.deps : List Tr → Nat
  | [] => 0
  | t :: r => max (Tr.dep t) (Tr.deps r)
end
mutual
inductive TrIn (news : List (Addr × Obj)) : Value → Tr → Prop where
  | int {i : Int} {t : Tok} : TrIn news (.int i t) (.int i)
  | str {x : Str} {t : Tok} : TrIn news (.str x t) (.str x)
  | node {a b : Addr} {k : Nat} {t : Tok} {n n2 : Nat} {vs : Array Value} {ts : List Tr} : (a, listO #[.int k t, .ref b] n) ∈ news → (b, listO vs n2) ∈ news → TrsIn news vs.toList ts → TrIn news (.ref a) (.node k ts)
inductive TrsIn (news : List (Addr × Obj)) : List Value → List Tr → Prop where
  | nil : TrsIn news [] []
  | cons {v : Value} {t : Tr} {vs : List Value} {ts : List Tr} : TrIn news v t → TrsIn news vs ts → TrsIn news (v :: vs) (t :: ts)
end
mutual
inductive ThIn (news : List (Addr × Obj)) : Value → Tr → Prop where
  | int {i : Int} {t : Tok} : ThIn news (.int i t) (.int i)
  | str {x : Str} {t : Tok} : ThIn news (.str x t) (.str x)
  | list {a : Addr} {n : Nat} {vs : Array Value} {ts : List Tr} : (a, listO vs n) ∈ news → ThsIn news vs.toList ts → ThIn news (.ref a) (.node 0 ts)
  | tuple {a : Addr} {vs : Array Value} {ts : List Tr} : (a, tupO vs) ∈ news → ThsIn news vs.toList ts → ThIn news (.ref a) (.node 1 ts)
inductive ThsIn (news : List (Addr × Obj)) : List Value → List Tr → Prop where
  | nil : ThsIn news [] []
  | cons {v : Value} {t : Tr} {vs : List Value} {ts : List Tr} : ThIn news v t → ThsIn news vs ts → ThsIn news (v :: vs) (t :: ts)
end
theorem TrIn.mono {news news' : List (Addr × Obj)} (hs : ∀ p ∈ news, p ∈ news') {v : Value} {t : Tr} (h : TrIn news v t) : TrIn news' v t :=
  TrIn.rec (motive_1 := fun v t _ => TrIn news' v t) (motive_2 := fun vs ts _ => TrsIn news' vs ts) .int .str (fun h1 h2 _ ih => .node (hs _ h1) (hs _ h2) ih) .nil (fun _ _ a b => .cons a b) h
theorem TrsIn.mono {news news' : List (Addr × Obj)} (hs : ∀ p ∈ news, p ∈ news') {vs : List Value} {ts : List Tr} (h : TrsIn news vs ts) : TrsIn news' vs ts :=
  TrsIn.rec (motive_1 := fun v t _ => TrIn news' v t) (motive_2 := fun vs ts _ => TrsIn news' vs ts) .int .str (fun h1 h2 _ ih => .node (hs _ h1) (hs _ h2) ih) .nil (fun _ _ a b => .cons a b) h
theorem ThIn.mono {news news' : List (Addr × Obj)} (hs : ∀ p ∈ news, p ∈ news') {v : Value} {t : Tr} (h : ThIn news v t) : ThIn news' v t :=
  ThIn.rec (motive_1 := fun v t _ => ThIn news' v t) (motive_2 := fun vs ts _ => ThsIn news' vs ts) .int .str (fun h1 _ ih => .list (hs _ h1) ih) (fun h1 _ ih => .tuple (hs _ h1) ih) .nil (fun _ _ a b => .cons a b) h
theorem ThsIn.mono {news news' : List (Addr × Obj)} (hs : ∀ p ∈ news, p ∈ news') {vs : List Value} {ts : List Tr} (h : ThsIn news vs ts) : ThsIn news' vs ts :=
  ThsIn.rec (motive_1 := fun v t _ => ThIn news' v t) (motive_2 := fun vs ts _ => ThsIn news' vs ts) .int .str (fun h1 _ ih => .list (hs _ h1) ih) (fun h1 _ ih => .tuple (hs _ h1) ih) .nil (fun _ _ a b => .cons a b) h
theorem ThsIn.snoc {news : List (Addr × Obj)} {vs : List Value} {ts : List Tr} (h : ThsIn news vs ts) {v : Value} {t : Tr} (h0 : ThIn news v t) : ThsIn news (vs ++ [v]) (ts ++ [t]) :=
  ThsIn.rec (motive_1 := fun _ _ _ => True) (motive_2 := fun vs ts _ => ThsIn news (vs ++ [v]) (ts ++ [t])) trivial trivial (fun _ _ _ => trivial) (fun _ _ _ => trivial) (.cons h0 .nil) (fun a _ _ b => .cons a b) h
theorem TrsIn.len {news : List (Addr × Obj)} {vs : List Value} {ts : List Tr} (h : TrsIn news vs ts) : vs.length = ts.length :=
  TrsIn.rec (motive_1 := fun _ _ _ => True) (motive_2 := fun vs ts _ => vs.length = ts.length) trivial trivial (fun _ _ _ _ => trivial) rfl (fun _ _ _ b => congrArg Nat.succ b) h
theorem TrsIn.at {news : List (Addr × Obj)} {vs : List Value} {ts : List Tr} (h : TrsIn news vs ts) : ∀ {i : Nat} {v : Value}, vs[i]? = some v → ∃ t, TrIn news v t ∧ ts.drop i = t :: ts.drop (i + 1) :=
  TrsIn.rec (motive_1 := fun _ _ _ => True) (motive_2 := fun vs ts _ => ∀ {i : Nat} {v : Value}, vs[i]? = some v → ∃ t, TrIn news v t ∧ ts.drop i = t :: ts.drop (i + 1)) trivial trivial (fun _ _ _ _ => trivial)
    (fun h => nomatch h) (by
      intro v t vs ts h1 _ _ ih i u h
      rcases i with _ | i
      · exact ⟨_, Option.some.inj h ▸ h1, rfl⟩
      · exact ih h) h
theorem size_pos (t : Tr) : 0 < t.size := by cases t <;> simp [Tr.size]
theorem size_mem {ts : List Tr} {t : Tr} (h : t ∈ ts) : t.size < Tr.sizes ts + 1 := by
  induction ts with
  | nil => cases h
  | cons a r ih =>
    show t.size < Tr.size a + Tr.sizes r + 1 + 1
    rcases List.mem_cons.mp h with rfl | h
    · exact Nat.lt_succ_of_le (Nat.le_succ_of_le (Nat.le_add_right _ _))
    · exact Nat.lt_succ_of_lt (Nat.lt_of_lt_of_le (ih h) (Nat.succ_le_succ (Nat.le_add_left _ _)))
theorem dep_mem {ts : List Tr} {t : Tr} (h : t ∈ ts) : t.dep ≤ Tr.deps ts := by
  induction ts with
  | nil => cases h
  | cons a r ih =>
    show t.dep ≤ max (Tr.dep a) (Tr.deps r)
    rcases List.mem_cons.mp h with rfl | h
    · exact Nat.le_max_left _ _
    · exact Nat.le_trans (ih h) (Nat.le_max_right _ _)
mutual
noncomputable def Tr.wide : Tr → Prop
  | .int i => -1000 ≤ i ∧ i ≤ 1000
  | .str x => x.length ≤ 7 ∧ ∀ c ∈ x.cps.toList, c ∈ [97, 98, 32, 39, 40, 41]
  | .node k ts => k ≤ 1 ∧ ts.length ≤ 100 ∧ Tr.wides ts
noncomputable def Tr.wides : List Tr → Prop
  | [] => True
  | t :: r => Tr.wide t ∧ Tr.wides r
end
theorem wide_mem {ts : List Tr} {t : Tr} (hw : Tr.wides ts) (h : t ∈ ts) : t.wide := by
  induction ts with
  | nil => cases h
  | cons a r ih =>
    have hw : Tr.wide a ∧ Tr.wides r := hw
    rcases List.mem_cons.mp h with rfl | h
    · exact hw.1
    · exact ih hw.2 h
end Mine
end
section
open PySem PySem.W PyProof.Rows PySem.Calls PyProof.Rows.LCg
namespace Mine
theorem off1_ne {D : Addr} {l : List (Addr × Obj)} (h : Off1 D l) : ∀ p ∈ l, p.1 ≠ D := by
  induction l with
  | nil => intro p hp; cases hp
  | cons a r ih =>
    intro p hp
    rcases List.mem_cons.mp hp with rfl | hp
    · exact h.1
    · exact ih h.2 p hp
theorem ThsIn.len {news : List (Addr × Obj)} {vs : List Value} {ts : List Tr} (h : ThsIn news vs ts) : vs.length = ts.length :=
  ThsIn.rec (motive_1 := fun _ _ _ => True) (motive_2 := fun vs ts _ => vs.length = ts.length) trivial trivial (fun _ _ _ => trivial) (fun _ _ _ => trivial) rfl (fun _ _ _ b => congrArg Nat.succ b) h
end Mine
end
section
open PySem PySem.W PyProof.Rows PySem.Calls
namespace Mine
theorem log_small {i : Int} (h : -1000 ≤ i ∧ i ≤ 1000) : i.natAbs.log2 < 1920 := by
  have h1 : i.natAbs ≤ 1000 := by (first | lia | omega)
  rcases Nat.eq_zero_or_pos i.natAbs with h0 | h0
  · rw [h0]; decide
  · exact (Nat.log2_lt (n := i.natAbs) (k := 1920) (by (first | lia | omega))).mpr (Nat.lt_of_le_of_lt h1 (Nat.lt_of_lt_of_le (by decide : 1000 < 2 ^ 10) (Nat.pow_le_pow_right (by decide) (by decide))))
noncomputable def qmark (x : Str) : Str := if 39 ∈ x.cps.toList then Str.ofString "\"" else Str.ofString "'"
noncomputable def commaP (i : Nat) : List Piece := if i = 0 then [] else [(Str.ofString "", Str.ofString ", ")]
noncomputable def openP (k : Nat) : Piece := (Str.ofString "", if k = 1 then Str.ofString "(" else Str.ofString "[")
noncomputable def shutP (k n : Nat) : List Piece := (if k = 1 ∧ n = 1 then [(Str.ofString "", Str.ofString ",")] else []) ++ [(Str.ofString "", if k = 1 then Str.ofString ")" else Str.ofString "]")]
mutual
noncomputable def piecesOf : Tr → List Piece
  | .int i => [(Str.ofString "", Str.ofString (toString i))]
  | .str x => [(qmark x, x)]
  | .node k ts => openP k :: (piecesOfs ts 0 ++ shutP k ts.length)
noncomputable def piecesOfs : List Tr → Nat → List Piece
  | [], _ => []
  | t :: r, i => commaP i ++ (piecesOf t ++ piecesOfs r (i + 1))
end
theorem piecesOfs_snoc : ∀ (ts : List Tr) (i : Nat) (t : Tr), piecesOfs (ts ++ [t]) i = piecesOfs ts i ++ (commaP (i + ts.length) ++ piecesOf t)
  | [], i, t => by simp [piecesOfs]
  | s :: r, i, t => by
    have := piecesOfs_snoc r (i + 1) t
    simp only [List.cons_append, piecesOfs, this, List.length_cons, List.append_assoc]
    rw [show i + 1 + r.length = i + (r.length + 1) from by (first | lia | omega)]
mutual
noncomputable def dataOf : Tr → PyData
  | .int i => .int i
  | .str x => .str x
  | .node k ts => if k = 1 then .tuple (datasOf ts) else .list (datasOf ts)
noncomputable def datasOf : List Tr → List PyData
  | [] => []
  | t :: r => dataOf t :: datasOf r
end
end Mine
end
section
open PySem PySem.W PyProof.Rows PySem.Calls
namespace Mine
/-- _law_words: the rows; the signs of a part first, then the pieces behind it -/
noncomputable def rwS : List Nat → List (List Str) → List Str → List (List Str) × List Str
  | [], d, c => (d, c)
  | x :: r, d, c => if x = 32 then rwS r (d ++ [c]) [] else rwS r d (c ++ [⟨#[x]⟩])
noncomputable def rwP : List Piece → Str → List (List Str) → List Str → List (List Str)
  | [], _, d, c => d ++ [c]
  | q :: r, hid, d, c => if q.1 = Str.ofString "" then rwP r hid (rwS q.2.cps.toList d c).1 (rwS q.2.cps.toList d c).2 else if q.1 ≠ hid then rwP r hid d (c ++ [q.2]) else rwP r hid d c
noncomputable def rwC (l : List Nat) (r : List Piece) (hid : Str) (d : List (List Str)) (c : List Str) : List (List Str) := rwP r hid (rwS l d c).1 (rwS l d c).2
theorem rwC_nil (r : List Piece) (hid : Str) (d : List (List Str)) (c : List Str) : rwC [] r hid d c = rwP r hid d c := rfl
theorem rwC_b (l : List Nat) (r : List Piece) (hid : Str) (d : List (List Str)) (c : List Str) : rwC (32 :: l) r hid d c = rwC l r hid (d ++ [c]) [] := by simp [rwC, rwS]
theorem rwC_s {x : Nat} (h : x ≠ 32) (l : List Nat) (r : List Piece) (hid : Str) (d : List (List Str)) (c : List Str) : rwC (x :: l) r hid d c = rwC l r hid d (c ++ [⟨#[x]⟩]) := by simp [rwC, rwS, h]
noncomputable def wtR (row : List Str) : Nat := (row.map fun x => x.length + 1).sum
noncomputable def wtD (d : List (List Str)) : Nat := (d.map fun row => wtR row + 1).sum
noncomputable def remP (ps : List Piece) : Nat := (ps.map fun q => 2 * q.2.length + 1).sum
noncomputable def wordsP (ps : List Piece) (hid : Str) : List Str := ((rwP ps hid [] []).filter (· ≠ [])).map (Txt.join (Str.ofString ""))
/-- the ledger bears the rows -/
inductive RowsIn (news : List (Addr × Obj)) : List Value → List (List Str) → Prop where
  | nil : RowsIn news [] []
  | cons {a : Addr} {us : Array Value} {n : Nat} {row : List Str} {vs : List Value} {rows : List (List Str)} : (a, listO us n) ∈ news → StrsAre us.toList row → RowsIn news vs rows → RowsIn news (.ref a :: vs) (row :: rows)
theorem RowsIn.mono {news news' : List (Addr × Obj)} {vs : List Value} {rows : List (List Str)} (h : RowsIn news vs rows) (hs : ∀ p ∈ news, p ∈ news') : RowsIn news' vs rows := by
  induction h with
  | nil => exact .nil
  | cons hm h1 _ ih => exact .cons (hs _ hm) h1 ih
theorem RowsIn.snoc {news : List (Addr × Obj)} {vs : List Value} {rows : List (List Str)} {a : Addr} {us : Array Value} {n : Nat} {row : List Str} (h : RowsIn news vs rows) (hm : (a, listO us n) ∈ news) (h1 : StrsAre us.toList row) : RowsIn news (vs ++ [.ref a]) (rows ++ [row]) := by
  induction h with
  | nil => exact .cons hm h1 .nil
  | cons hm' h2 _ ih => exact .cons hm' h2 ih
theorem RowsIn.len {news : List (Addr × Obj)} {vs : List Value} {rows : List (List Str)} (h : RowsIn news vs rows) : vs.length = rows.length := by
  induction h with
  | nil => rfl
  | cons _ _ _ ih => simp [ih]
theorem RowsIn.at {news : List (Addr × Obj)} {vs : List Value} {rows : List (List Str)} (h : RowsIn news vs rows) : ∀ {i : Nat} {v : Value}, vs[i]? = some v → ∃ a us n row, v = .ref a ∧ (a, listO us n) ∈ news ∧ StrsAre us.toList row ∧ rows.drop i = row :: rows.drop (i + 1) := by
  induction h with
  | nil => intro i v h; simp at h
  | @cons a us n row vs rows hm h1 _ ih =>
    intro i v h
    cases i with
    | zero => simp at h; exact ⟨a, us, n, row, h.symm, hm, h1, by simp⟩
    | succ i => simp at h; obtain ⟨a, us, n, row, e1, e2, e3, e4⟩ := ih h; exact ⟨a, us, n, row, e1, e2, e3, by simpa using e4⟩
theorem StrsAre.len {vs : List Value} {ys : List Str} (h : StrsAre vs ys) : vs.length = ys.length := by
  induction h with
  | nil => rfl
  | cons _ _ _ ih => exact congrArg Nat.succ ih
theorem wtR_len (row : List Str) : row.length ≤ wtR row := by
  induction row with
  | nil => exact Nat.zero_le _
  | cons a r ih => simp only [wtR, List.map_cons, List.sum_cons, List.length_cons] at *; (first | lia | omega)
theorem wtD_len (d : List (List Str)) : d.length ≤ wtD d := by
  induction d with
  | nil => exact Nat.zero_le _
  | cons a r ih => simp only [wtD, List.map_cons, List.sum_cons, List.length_cons] at *; (first | lia | omega)
theorem wtR_snoc (row : List Str) (x : Str) : wtR (row ++ [x]) = wtR row + (x.length + 1) := by simp [wtR]
theorem wtD_snoc (d : List (List Str)) (row : List Str) : wtD (d ++ [row]) = wtD d + (wtR row + 1) := by simp [wtD]
/-- what is so between the turns -/
structure RwI (T : List (List Str)) (hid : Str) (rest : List (Addr × Obj)) (R : Addr) (l : List Nat) (ps : List Piece) (r : Addr) (cur rvs : Array Value) (tl : List (Addr × Obj)) : Prop where
  sub : ∀ p ∈ rest, p ∈ tl
  ne : ∀ p ∈ tl, p.1 ≠ r ∧ p.1 ≠ R
  rR : (@Ne Nat r R)
  ex : ∃ d c, RowsIn tl rvs.toList d ∧ StrsAre cur.toList c ∧ rwC l ps hid d c = T ∧ wtD d + wtR c + 2 * l.length + remP ps ≤ 4000 ∧ (∀ row ∈ d, ∀ x ∈ row, PyData.strOk x = true) ∧ (∀ x ∈ c, PyData.strOk x = true)
end Mine
end
section
open PySem PySem.W PyProof.Rows PySem.Calls
namespace Mine
/-- a frame of the way, under the top one; its list has one more item, the frame above it -/
structure LF where
  a : Addr
  b : Addr
  k : Nat
  kt : Tok
  na : Nat
  vs : Array Value
  nb : Nat
  ts : List Tr
noncomputable def nodeO (k : Nat) (kt : Tok) (b : Addr) (na : Nat) : Obj := listO #[.int k kt, .ref b] na
noncomputable def lowLed : List LF → Addr → List (Addr × Obj)
  | [], _ => []
  | f :: r, a => (f.b, listO (f.vs.push (.ref a)) f.nb) :: (f.a, listO #[.int f.k f.kt, .ref f.b] f.na) :: lowLed r f.a
noncomputable def lowVals (low : List LF) : List Value := (low.reverse.map fun f => Value.ref f.a)
noncomputable def LowOk (cl : List (Addr × Obj)) (low : List LF) : Prop := ∀ f ∈ low, TrsIn cl f.vs.toList f.ts ∧ f.k ≤ 1 ∧ Tr.wides f.ts
noncomputable def lowSize : List LF → Nat
  | [] => 0
  | f :: r => Tr.sizes f.ts + 3 + lowSize r
noncomputable def rootOf : List LF → Addr → Addr
  | [], a => a
  | f :: r, _ => rootOf r f.a
structure NeS where
  a : Addr
  b : Addr
  k : Nat
  kt : Tok
  na : Nat
  vs : Array Value
  nb : Nat
  ts : List Tr
  low : List LF
  nw : Nat
  cl : List (Addr × Obj)
noncomputable abbrev NeX (c : NeS) : List (Addr × Obj) := lowLed c.low c.a ++ c.cl
noncomputable abbrev NeLed (Wy : Addr) (c : NeS) : List (Addr × Obj) := (c.b, listO c.vs c.nb) :: (Wy, listO ((lowVals c.low).toArray.push (.ref c.a)) c.nw) :: (c.a, listO #[.int c.k c.kt, .ref c.b] c.na) :: NeX c
structure NeP (Wy root : Addr) (i : Nat) (c : NeS) : Prop where
  nd : ∀ x : Nat, ((NeLed Wy c).map (fun p => (p.1 : Nat))).count x ≤ 1
  ts : TrsIn c.cl c.vs.toList c.ts
  wide : c.k ≤ 1 ∧ Tr.wides c.ts
  low : LowOk c.cl c.low
  deep : c.low.length ≤ 4
  size : Tr.sizes c.ts + 3 + lowSize c.low ≤ 3 * (i + 1)
  root : rootOf c.low c.a = root
theorem sizes_len : ∀ ts : List Tr, ts.length ≤ Tr.sizes ts
  | [] => Nat.le_refl _
  | t :: r => by have := sizes_len r; simp only [Tr.sizes, List.length_cons]; (first | lia | omega)
theorem sizes_snoc (ts : List Tr) (t : Tr) : Tr.sizes (ts ++ [t]) = Tr.sizes ts + (Tr.size t + 1) := by
  induction ts with
  | nil => simp [Tr.sizes]
  | cons a r ih => simp only [List.cons_append, Tr.sizes, ih]; (first | lia | omega)
theorem wides_snoc {ts : List Tr} {t : Tr} (h : Tr.wides ts) (ht : t.wide) : Tr.wides (ts ++ [t]) := by
  induction ts with
  | nil => exact ⟨ht, trivial⟩
  | cons a r ih => exact ⟨h.1, ih h.2⟩
theorem TrsIn.snoc {news : List (Addr × Obj)} {vs : List Value} {ts : List Tr} (h : TrsIn news vs ts) {v : Value} {t : Tr} (h0 : TrIn news v t) : TrsIn news (vs ++ [v]) (ts ++ [t]) :=
  TrsIn.rec (motive_1 := fun _ _ _ => True) (motive_2 := fun vs ts _ => TrsIn news (vs ++ [v]) (ts ++ [t])) trivial trivial (fun _ _ _ _ => trivial) (.cons h0 .nil) (fun a _ _ b => .cons a b) h
theorem nd_off {l : List (Addr × Obj)} {b : Nat} (h : ((b :: l.map (fun p => (p.1 : Nat))).count b) ≤ 1) : ∀ p ∈ l, p.1 ≠ b := by
  intro p hp e
  have : 0 < (l.map (fun p => (p.1 : Nat))).count b := List.count_pos_iff.mpr (List.mem_map.mpr ⟨p, hp, e⟩)
  rw [List.count_cons_self] at h
  (first | lia | omega)
theorem NeP.off {Wy root : Addr} {i : Nat} {c : NeS} (h : NeP Wy root i c) : (@Ne Nat c.b Wy) ∧ (@Ne Nat c.b c.a) ∧ (@Ne Nat Wy c.a) ∧ (∀ p ∈ NeX c, p.1 ≠ c.b) ∧ (∀ p ∈ NeX c, p.1 ≠ Wy) ∧ (∀ p ∈ NeX c, p.1 ≠ c.a) := by
  have h1 := nd_off (l := (Wy, listO #[] 0) :: (c.a, listO #[] 0) :: NeX c) (b := c.b) (h.nd c.b)
  have h2 := nd_off (l := (c.a, listO #[] 0) :: NeX c) (b := Wy) (by
    have := h.nd Wy
    simp only [NeLed, List.map_cons, List.count_cons] at this ⊢
    (first | lia | omega))
  have h3 := nd_off (l := NeX c) (b := c.a) (by
    have := h.nd c.a
    simp only [NeLed, List.map_cons, List.count_cons] at this ⊢
    (first | lia | omega))
  refine ⟨fun e => h1 _ (List.Mem.head _) e.symm, fun e => h1 _ (List.Mem.tail _ (List.Mem.head _)) e.symm, fun e => h2 _ (List.Mem.head _) e.symm, fun p hp => h1 p (List.Mem.tail _ (List.Mem.tail _ hp)), fun p hp => h2 p (List.Mem.tail _ hp), h3⟩
/-- an item that is no node -/
theorem NeP.leaf {Wy root : Addr} {i : Nat} {c : NeS} (h : NeP Wy root i c) {v : Value} {t : Tr} (hv : TrIn c.cl v t) (hw : t.wide) (hs : t.size = 1) (nb' : Nat) : NeP Wy root (i + 1) { c with vs := c.vs.push v, nb := nb', ts := c.ts ++ [t] } := by
  obtain ⟨nd, ts, wd, low, deep, size, root⟩ := h
  refine ⟨nd, ?_, ⟨wd.1, wides_snoc wd.2 hw⟩, low, deep, ?_, root⟩
  · show TrsIn c.cl (c.vs.push v).toList _
    rw [Array.toList_push]; exact ts.snoc hv
  · show Tr.sizes (c.ts ++ [t]) + 3 + lowSize c.low ≤ _
    rw [sizes_snoc, hs]
    have : Tr.sizes c.ts + 3 + lowSize c.low ≤ 3 * (i + 1) := size
    (first | lia | omega)
/-- a node opened -/
theorem NeP.push {Wy root a' b' : Addr} {i k' : Nat} {kt' : Tok} {na' nb' nb2 nw' : Nat} {c : NeS} (h : NeP Wy root i c) (hk : k' ≤ 1) (hd : c.low.length < 4) (hab : (@Ne Nat b' a')) (ha : ∀ p ∈ NeLed Wy c, p.1 ≠ a') (hb : ∀ p ∈ NeLed Wy c, p.1 ≠ b') :
    NeP Wy root (i + 1) { a := a', b := b', k := k', kt := kt', na := na', vs := #[], nb := nb', ts := [], low := ⟨c.a, c.b, c.k, c.kt, c.na, c.vs, nb2, c.ts⟩ :: c.low, nw := nw', cl := c.cl } := by
  have ca : ((NeLed Wy c).map (fun p => (p.1 : Nat))).count a' = 0 := List.count_eq_zero.mpr fun hm => by obtain ⟨p, hp, e⟩ := List.mem_map.mp hm; exact ha p hp e
  have cb : ((NeLed Wy c).map (fun p => (p.1 : Nat))).count b' = 0 := List.count_eq_zero.mpr fun hm => by obtain ⟨p, hp, e⟩ := List.mem_map.mp hm; exact hb p hp e
  obtain ⟨nd, ts, wd, low, deep, size, root⟩ := h
  refine ⟨?_, .nil, ⟨hk, trivial⟩, ?_, ?_, ?_, root⟩
  · intro x
    have hx := nd x
    simp only [NeLed, NeX, lowLed, List.map_cons, List.map_append, List.cons_append, List.count_cons, List.count_append, beq_iff_eq] at hx ca cb ⊢
    by_cases e1 : b' = x
    · subst e1
      have : ¬ a' = b' := fun e => hab e.symm
      simp only [if_true, this, if_false] at *
      (first | lia | omega)
    · by_cases e2 : a' = x
      · subst e2
        simp only [if_true, e1, if_false] at *
        (first | lia | omega)
      · simp only [e1, e2, if_false] at *
        (first | lia | omega)
  · intro f hf
    rcases List.mem_cons.mp hf with rfl | hf
    · exact ⟨ts, wd.1, wd.2⟩
    · exact low f hf
  · simp only [List.length_cons]; (first | lia | omega)
  · have hz : Tr.sizes ([] : List Tr) = 0 := rfl
    simp only [lowSize, hz]; (first | lia | omega)
/-- the top node shut -/
theorem NeP.pop {Wy root : Addr} {i nw' : Nat} {c : NeS} {f : LF} {r : List LF} (h : NeP Wy root i c) (hi : i ≤ 20) (hl : c.low = f :: r) :
    NeP Wy root (i + 1) { a := f.a, b := f.b, k := f.k, kt := f.kt, na := f.na, vs := f.vs.push (.ref c.a), nb := f.nb, ts := f.ts ++ [.node c.k c.ts], low := r, nw := nw', cl := (c.b, listO c.vs c.nb) :: (c.a, listO #[.int c.k c.kt, .ref c.b] c.na) :: c.cl } := by
  obtain ⟨nd, ts, wd, low, deep, size, root⟩ := h
  rw [hl] at low deep size root
  have up : ∀ p ∈ c.cl, p ∈ (c.b, listO c.vs c.nb) :: (c.a, listO #[.int c.k c.kt, .ref c.b] c.na) :: c.cl := fun p hp => List.Mem.tail _ (List.Mem.tail _ hp)
  obtain ⟨f1, f2, f3⟩ := low f (List.Mem.head _)
  refine ⟨?_, ?_, ⟨f2, wides_snoc f3 ⟨wd.1, ?_, wd.2⟩⟩, fun g hg => ?_, ?_, ?_, root⟩
  · intro x
    have hx := nd x
    simp only [NeLed, NeX, hl, lowLed, List.map_cons, List.map_append, List.cons_append, List.count_cons, List.count_append, beq_iff_eq] at hx ⊢
    (first | lia | omega)
  · show TrsIn _ (f.vs.push (.ref c.a)).toList _
    rw [Array.toList_push]
    exact (f1.mono up).snoc (.node (List.Mem.tail _ (List.Mem.head _)) (List.Mem.head _) (ts.mono up))
  · have := sizes_len c.ts
    have h2 : Tr.sizes c.ts + 3 + lowSize (f :: r) ≤ 3 * (i + 1) := size
    (first | lia | omega)
  · obtain ⟨g1, g2, g3⟩ := low g (List.Mem.tail _ hg)
    exact ⟨g1.mono up, g2, g3⟩
  · simp only [List.length_cons] at deep; show r.length ≤ 4; (first | lia | omega)
  · show Tr.sizes (f.ts ++ [.node c.k c.ts]) + 3 + lowSize r ≤ _
    rw [sizes_snoc]
    simp only [lowSize, Tr.size] at size ⊢
    (first | lia | omega)
/-- the whole tree, as the ledger bears it -/
theorem ne_whole {led : List (Addr × Obj)} : ∀ (low : List LF) (a b : Addr) (k : Nat) (kt : Tok) (na nb : Nat) (vs : Array Value) (ts : List Tr), (a, listO #[.int k kt, .ref b] na) ∈ led → (b, listO vs nb) ∈ led → TrsIn led vs.toList ts → k ≤ 1 → Tr.wides ts → Tr.sizes ts + 3 + lowSize low ≤ 60 →
    (∀ f ∈ low, TrsIn led f.vs.toList f.ts ∧ f.k ≤ 1 ∧ Tr.wides f.ts) → (∀ p ∈ lowLed low a, p ∈ led) → ∃ k' ts', TrIn led (.ref (rootOf low a)) (.node k' ts') ∧ (Tr.node k' ts').wide ∧ (Tr.node k' ts').size ≤ 60
  | [], a, b, k, kt, na, nb, vs, ts, h1, h2, h3, h4, h5, h6, _, _ => by
    refine ⟨k, ts, .node h1 h2 h3, ⟨h4, ?_, h5⟩, ?_⟩
    · have := sizes_len ts; (first | lia | omega)
    · simp only [Tr.size]; (first | lia | omega)
  | f :: r, a, b, k, kt, na, nb, vs, ts, h1, h2, h3, h4, h5, h6, h7, h8 => by
    obtain ⟨g1, g2, g3⟩ := h7 f (List.Mem.head _)
    simp only [lowSize] at h6
    have hwn : (Tr.node k ts).wide := ⟨h4, by have := sizes_len ts; (first | lia | omega), h5⟩
    refine ne_whole r f.a f.b f.k f.kt f.na f.nb (f.vs.push (.ref a)) (f.ts ++ [.node k ts]) (h8 _ (List.Mem.tail _ (List.Mem.head _))) (h8 _ (List.Mem.head _)) ?_ g2 (wides_snoc g3 hwn) ?_ (fun g hg => h7 g (List.Mem.tail _ hg)) (fun p hp => h8 p (List.Mem.tail _ (List.Mem.tail _ hp)))
    · rw [Array.toList_push]; exact g1.snoc (.node h1 h2 h3)
    · rw [sizes_snoc]; simp only [Tr.size]; (first | lia | omega)
theorem NeP.whole {Wy root : Addr} {i : Nat} {c : NeS} (h : NeP Wy root i c) (hi : i ≤ 12) : ∃ k ts, TrIn (NeLed Wy c) (.ref root) (.node k ts) ∧ (Tr.node k ts).wide ∧ (Tr.node k ts).size ≤ 60 := by
  obtain ⟨nd, ts, wd, low, deep, size, root⟩ := h
  subst root
  have up : ∀ p ∈ c.cl, p ∈ NeLed Wy c := fun p hp => List.Mem.tail _ (List.Mem.tail _ (List.Mem.tail _ (List.mem_append_right _ hp)))
  exact ne_whole c.low c.a c.b c.k c.kt c.na c.nb c.vs c.ts (List.Mem.tail _ (List.Mem.tail _ (List.Mem.head _))) (List.Mem.head _) (ts.mono up) wd.1 wd.2 (by (first | lia | omega)) (fun f hf => ⟨(low f hf).1.mono up, (low f hf).2⟩) fun p hp => List.Mem.tail _ (List.Mem.tail _ (List.Mem.tail _ (List.mem_append_left _ hp)))
end Mine
end
section
open PySem PySem.W PyProof.Rows PySem.Calls
namespace Mine
/-- the end of a turn -/
noncomputable def KfEnd {σ : Type} (h₀ : Heap) (L : Addr) (s : Shared) (own : List (Addr × Obj)) (wr : List Addr) (Led : σ → List (Addr × Obj)) (ps : σ → List (Str × Value)) (stored : List Str) (m₀ : Str → Option Value) (P : σ → Prop) (s₂ : Shared) : Prop :=
  ∃ (c' : σ) (h' : Heap) (tk : Nat) (m' : Str → Option Value) (news' : List (Addr × Obj)), s₂ = { s with heap := h', toks := tk } ∧ Fr h₀ L h' m' ∧ News h₀ L h' news' ∧ (∀ p ∈ own, p ∈ news') ∧ (∀ p ∈ Led c', p ∈ news' ∧ p.1 ∉ wr) ∧ (∀ p ∈ ps c', m' p.1 = some p.2) ∧ (∀ z, (∀ p ∈ ps c', z ≠ p.1) → stored.contains z = false → m' z = m₀ z) ∧ P c'
noncomputable def KfPost {σ : Type} (h₀ : Heap) (L : Addr) (s : Shared) (own : List (Addr × Obj)) (wr : List Addr) (Led : σ → List (Addr × Obj)) (ps : σ → List (Str × Value)) (stored : List Str) (m₀ : Str → Option Value) (P : σ → Prop) (Q : Flow → Shared → Prop) (f : Flow) (s₂ : Shared) : Prop :=
  match f with
  | .ret v => Q (.ret v) s₂
  | .brk => Q .next s₂
  | _ => KfEnd h₀ L s own wr Led ps stored m₀ P s₂
theorem kf_end {σ : Type} {h₀ : Heap} {L : Addr} {s : Shared} {own : List (Addr × Obj)} {wr : List Addr} {Led : σ → List (Addr × Obj)} {ps : σ → List (Str × Value)} {stored : List Str} {m₀ m' : Str → Option Value} {P : σ → Prop} {h' : Heap} {tk : Nat} {news' : List (Addr × Obj)} (c' : σ)
    (F : Fr h₀ L h' m') (N : News h₀ L h' news') (ho : ∀ p ∈ own, p ∈ news') (hn : ∀ p ∈ Led c', p ∈ news' ∧ p.1 ∉ wr) (hk : ∀ p ∈ ps c', m' p.1 = some p.2) (hr : ∀ z, (∀ p ∈ ps c', z ≠ p.1) → stored.contains z = false → m' z = m₀ z) (hp : P c') :
    KfEnd h₀ L s own wr Led ps stored m₀ P { s with heap := h', toks := tk } := ⟨c', h', tk, m', news', rfl, F, N, ho, hn, hk, hr, hp⟩
section
variable {prog : Program} {w : World} {A : Around} {E : Value → Shared → Prop} {s : Shared} {env : Env} {h₀ : Heap} {target : Expr} {body : List Stmt} {Q : Flow → Shared → Prop}
theorem turns_of {σ : Type} {I : Addr} {fp wr : List Addr} {n : Nat} {Pv Md : Nat → Value → Heap → Prop} {St : Nat → Heap → Prop} {m₀ : Str → Option Value} (Led : σ → List (Addr × Obj)) (ps : σ → List (Str × Value)) (stored : List Str) (P : Nat → σ → Prop) (c₀ : σ)
    (W : KTurns prog w A target I fp wr n Pv Md St) (hLf : env.locals ∉ fp) (hwr : ∀ b ∈ wr, h₀.get? b = none) (hst : St 0 s.heap)
    (F : Fr h₀ env.locals s.heap m₀) (N : News h₀ env.locals s.heap (Led c₀)) (hap : ∀ p ∈ Led c₀, p.1 ∉ wr) (hk : ∀ p ∈ ps c₀, m₀ p.1 = some p.2) (hp : P 0 c₀)
    (turn : ∀ i v c (u : Str → Option Value) own h tk, i < n → Pv i v h → P i c → St (i + 1) h → (∀ p ∈ Led c, p.1 ∉ wr) → (∀ b ∈ fp, h₀.get? b = none → ∀ o, h.get? b = some o → (b, o) ∈ own) → (∀ p ∈ own, p.1 ∈ fp) → Fr h₀ env.locals h (kstB (fun z => if stored.contains z then u z else m₀ z) (ps c)) → News h₀ env.locals h (own ++ Led c) →
      wpAny (model prog w) A (assign target env v) (fun _ s₃ => wpAny (model prog w) A (execs body env)
        (KfPost h₀ env.locals { s with heap := h, toks := tk } own wr Led ps stored m₀ (P (i + 1)) Q) E s₃) E { s with heap := h, toks := tk })
    (done : ∀ c (u : Str → Option Value) h tk, P n c → Fr h₀ env.locals h (kstB (fun z => if stored.contains z then u z else m₀ z) (ps c)) → News h₀ env.locals h (Led c) → Q .next { s with heap := h, toks := tk }) :
    TurnsAt prog w A h₀ env target body Q E (.ref I) s := by
  refine ⟨I, fp, wr, n, Pv, Md, St, m₀, Led c₀, (fun i m nx => ∃ c, nx = Led c ∧ (∀ p ∈ ps c, m p.1 = some p.2) ∧ (∀ z, (∀ p ∈ ps c, z ≠ p.1) → stored.contains z = false → m z = m₀ z) ∧ P i c), rfl, W, hLf, hwr, hap, hst, F, N, ⟨c₀, rfl, hk, fun _ _ _ => rfl, hp⟩, ?_, ?_⟩
  · rintro i v m₁ news₁ h₁ tk₁ own hi hv ⟨c, rfl, h1, h2, hp'⟩ hap' hof hog hin hst' F₁ N₁
    refine wpAny_mono (turn i v c m₁ own h₁ tk₁ hi hv hp' hst' hap' hin hof (ksw_fr h1 h2 F₁) N₁) (fun _ s₃ h₃ => wpAny_mono h₃ (fun f s₄ h₄ => ?_) fun _ _ e => e) fun _ _ e => e
    have fin : KfEnd h₀ env.locals { s with heap := h₁, toks := tk₁ } own wr Led ps stored m₀ (P (i + 1)) s₄ → LoopStepU h₀ env.locals wr own (fun m nx => ∃ c, nx = Led c ∧ (∀ p ∈ ps c, m p.1 = some p.2) ∧ (∀ z, (∀ p ∈ ps c, z ≠ p.1) → stored.contains z = false → m z = m₀ z) ∧ P (i + 1) c) { s with heap := h₁, toks := tk₁ } .next s₄ := by
      rintro ⟨c', h', tk, m', news', rfl, F', N', ho, hn, hk', hr', hp''⟩
      refine ⟨rfl, h', tk, m', Led c', rfl, F', fun p hp => ?_, fun p hp => (hn p hp).2, c', rfl, hk', hr', hp''⟩
      rcases List.mem_append.mp hp with hp | hp
      · exact N' p (ho p hp)
      · exact N' p (hn p hp).1
    cases f with
    | ret v => exact h₄
    | brk => exact h₄
    | next => exact fin h₄
    | cont => exact fin h₄
  · rintro h' tk m' news' F' N' _ ⟨c, rfl, h1, h2, hp'⟩
    exact done c m' h' tk hp' (ksw_fr h1 h2 F') N'
/-- a loop over a list of the ledger -/
theorem turns_list {σ : Type} {l : Addr} {vs : Array Value} {k : Nat} {m₀ : Str → Option Value} (Led : σ → List (Addr × Obj)) (ps : σ → List (Str × Value)) (stored : List Str) (P : Nat → σ → Prop) (c₀ : σ)
    (hh : A.handled = none) (F : Fr h₀ env.locals s.heap m₀) (N : News h₀ env.locals s.heap (Led c₀)) (hl : (l, ({ cls := .type "list", data := .seq vs k } : Obj)) ∈ Led c₀) (hk : ∀ p ∈ ps c₀, m₀ p.1 = some p.2) (hp : P 0 c₀)
    (turn : ∀ i v c (u : Str → Option Value) I oI h tk, vs[i]? = some v → P i c → (∀ p ∈ Led c, p.1 ≠ I) → l ≠ I → Fr h₀ env.locals h (kstB (fun z => if stored.contains z then u z else m₀ z) (ps c)) → News h₀ env.locals h ((I, oI) :: Led c) →
      wpAny (model prog w) A (assign target env v) (fun _ s₃ => wpAny (model prog w) A (execs body env)
        (KfPost h₀ env.locals { s with heap := h, toks := tk } [(I, oI)] [I] Led ps stored m₀ (P (i + 1)) Q) E s₃) E { s with heap := h, toks := tk })
    (hlc : ∀ i c, P i c → (l, ({ cls := .type "list", data := .seq vs k } : Obj)) ∈ Led c)
    (done : ∀ c (u : Str → Option Value) h tk, P vs.size c → Fr h₀ env.locals h (kstB (fun z => if stored.contains z then u z else m₀ z) (ps c)) → News h₀ env.locals h (Led c) → Q .next { s with heap := h, toks := tk }) :
    wpAny (model prog w) A (pyIter (.ref l)) (fun it s₂ => TurnsAt prog w A h₀ env target body Q E it s₂) E s := by
  have hls : s.heap.IsList l vs := ⟨_, (N _ hl).1, rfl, k, rfl⟩
  have hlt : l < s.heap.objs.size := Heap.lt_size (N _ hl).1
  have hlo := (N _ hl).2
  have hne : l ≠ s.heap.objs.size := Nat.ne_of_lt hlt
  refine wpAny_pyIter_list hls ?_
  refine turns_of Led ps stored (fun i c => i ≤ vs.size ∧ P i c) c₀ (KTurns.ofWalks (Walks.list hh s.heap.objs.size l hne vs) fun i v s Q E st q => letGo_listiter st.1 q) ?_ ?_ ⟨⟨_, Heap.get?_push_size _ rfl, rfl, rfl⟩, hls.at fun o e => Heap.get?_push_of_some _ e⟩ (F.push _) (fun p hp => ⟨Heap.get?_push_of_some _ (N p hp).1, (N p hp).2⟩) ?_ hk ⟨Nat.zero_le _, hp⟩ ?_ (fun c u h tk hP F' N' => done c u h tk hP.2 F' N')
  · intro hm
    rcases List.mem_cons.mp hm with e | hm
    · exact absurd F.ns.lt (e ▸ Nat.lt_irrefl _)
    · exact hlo.1 (List.mem_singleton.mp hm).symm
  · intro b hb
    rw [List.mem_singleton.mp hb]
    exact next_is_new F
  · intro p hp hI
    exact absurd (Heap.lt_size (N p hp).1) ((List.mem_singleton.mp hI) ▸ Nat.lt_irrefl _)
  · rintro i v c u own h tk hi hv ⟨_, hP⟩ ⟨⟨oI, hoI, _, _⟩, _⟩ hap hin hof F' N'
    have hmem : (s.heap.objs.size, oI) ∈ own := hin _ (by simp) (next_is_new F) oI hoI
    have hl' := hlc i c hP
    have N₂ : News h₀ env.locals h ((s.heap.objs.size, oI) :: Led c) := fun p hp => by
      rcases List.mem_cons.mp hp with rfl | hp
      · exact N' _ (List.mem_append_left _ hmem)
      · exact N' p (List.mem_append_right _ hp)
    refine wpAny_mono (turn i v c u s.heap.objs.size oI h tk hv hP (fun p hp e => hap p hp (by rw [e]; simp)) hne F' N₂) (fun _ s₃ h₃ => wpAny_mono h₃ (fun f s₄ h₄ => ?_) fun _ _ e => e) fun _ _ e => e
    have fin : KfEnd h₀ env.locals { s with heap := h, toks := tk } [(s.heap.objs.size, oI)] [s.heap.objs.size] Led ps stored m₀ (P (i + 1)) s₄ → KfEnd h₀ env.locals { s with heap := h, toks := tk } own [s.heap.objs.size] Led ps stored m₀ (fun c => i + 1 ≤ vs.size ∧ P (i + 1) c) s₄ := by
      rintro ⟨c', h', tk', m', news', rfl, F'', N'', ho, hn, hk', hr', hp''⟩
      have hlc' := hlc (i + 1) c' hp''
      refine ⟨c', h', tk', m', news' ++ own, rfl, F'', ?_, fun p hp => List.mem_append_right _ hp, fun p hp => ⟨List.mem_append_left _ (hn p hp).1, (hn p hp).2⟩, hk', hr', ⟨hi, hp''⟩⟩
      intro p hp
      rcases List.mem_append.mp hp with hp | hp
      · exact N'' p hp
      · have hfp := hof p hp
        have hp2 := N' p (List.mem_append_left _ hp)
        rcases List.mem_cons.mp hfp with e1 | e1
        · have e2 : p.2 = oI := by
            have := hp2.1
            rw [e1, hoI] at this
            exact (Option.some.inj this).symm
          have e3 : p = (s.heap.objs.size, oI) := Prod.ext e1 e2
          rw [e3]
          exact N'' _ (ho _ (by simp))
        · have e1' := List.mem_singleton.mp e1
          have hll := N' _ (List.mem_append_right _ hl')
          have e2 : p.2 = ({ cls := .type "list", data := .seq vs k } : Obj) := by
            have := hp2.1
            rw [e1', hll.1] at this
            exact (Option.some.inj this).symm
          have e3 : p = (l, _) := Prod.ext e1' e2
          rw [e3]
          exact N'' _ (hn _ hlc').1
    cases f with
    | ret v => exact h₄
    | brk => exact h₄
    | next => exact fin h₄
    | cont => exact fin h₄
end
end Mine
end
section
open PySem PySem.W PyProof.Rows PySem.Calls PyProof.Rows.LCg PyProof.Rows.LCp
namespace Mine
section
variable {prog : Program} {w : World} {A : Around} {s : Shared} {h₀ : Heap} {L : Addr} {m : Str → Option Value} {env : Env} {elt : Expr} {scope : Scope} {cl : List (Str × Addr)} {S : List (Addr × Obj) → Prop} {P : Nat → Value → Prop} {Fin : List Value → List (Addr × Obj) → Prop}
theorem CompEnd.mono {s₁ s₂ : Shared} {I C D : Addr} {oI oC oD : Obj} {r r' : Value → List (Addr × Obj) → Prop} {y : Value} (h : CompEnd h₀ L m s₁ I oI C oC D oD S r y s₂) (hr : ∀ news', S news' → r y news' → r' y news') : CompEnd h₀ L m s₁ I oI C oC D oD S r' y s₂ := by
  obtain ⟨h', tk, news', e, F, N, off, hS, hrr⟩ := h
  exact ⟨h', tk, news', e, F, N, off, hS, hr news' hS hrr⟩
theorem compP_ind {x x₂ : Str} (n : Nat) (J : Nat → List Value → List (Addr × Obj) → Prop)
    (step : ∀ i ys news v, i < n → P i v → J i ys news → ∃ (t : Addr) (ot : Obj) (v₁ v₂ : Value) (nt : Nat), v = .ref t ∧ (t, ot) ∈ news ∧ ot.cls = .type "tuple" ∧ ot.data = .seq #[v₁, v₂] nt ∧
      ∀ I oI C oC D m₂ h tk (E' : Value → Shared → Prop), NsObj oC m₂ → m₂ x = some v₁ → m₂ x₂ = some v₂ → Fr h₀ L h m → News h₀ L h ((I, oI) :: (C, oC) :: (D, lst ys) :: news) → Off3 I C D news → ((@Ne Nat I C) ∧ (@Ne Nat I D) ∧ (@Ne Nat C D)) →
      wpAny (model prog w) A (eval elt (compEnvC scope cl C env)) (CompEnd h₀ L m { s with heap := h, toks := tk } I oI C oC D (lst ys) S (fun y news' => J (i + 1) (ys ++ [y]) news')) E' { s with heap := h, toks := tk })
    (fin : ∀ ys news, J n ys news → Fin ys news) : ∀ k i ys news, i + k = n → J i ys news → CompRestP prog w A h₀ L m env elt x x₂ scope cl s S P Fin k i ys news := by
  intro k
  induction k with
  | zero => intro i ys news e hJ; (obtain rfl : i = n := (by (first | lia | omega))); exact fin ys news hJ
  | succ k ih =>
    intro i ys news e hJ
    refine CompRestP.succ fun v hv => ?_
    obtain ⟨t, ot, v₁, v₂, nt, h1, h2, h3, h4, h5⟩ := step i ys news v (by (first | lia | omega)) hv hJ
    exact ⟨t, ot, v₁, v₂, nt, h1, h2, h3, h4, fun I oI C oC D m₂ h tk E' a b c d e f g => wpAny_mono (h5 I oI C oC D m₂ h tk E' a b c d e f g) (fun y s₂ hh => CompEnd.mono hh fun news' _ hj => ih (i + 1) _ news' (by (first | lia | omega)) hj) fun _ _ z => z⟩
theorem compU_ind {x : Str} (n : Nat) (J : Nat → List Value → List (Addr × Obj) → Prop)
    (step : ∀ i ys news v, i < n → P i v → J i ys news → ∀ I oI C oC D m₂ h tk (E' : Value → Shared → Prop), NsObj oC m₂ → m₂ x = some v → Fr h₀ L h m → News h₀ L h ((I, oI) :: (C, oC) :: (D, lst ys) :: news) → Off3 I C D news → ((@Ne Nat I C) ∧ (@Ne Nat I D) ∧ (@Ne Nat C D)) →
      wpAny (model prog w) A (eval elt (compEnvC scope cl C env)) (CompEnd h₀ L m { s with heap := h, toks := tk } I oI C oC D (lst ys) S (fun y news' => J (i + 1) (ys ++ [y]) news')) E' { s with heap := h, toks := tk })
    (fin : ∀ ys news, J n ys news → Fin ys news) : ∀ k i ys news, i + k = n → J i ys news → CompRest prog w A h₀ L m env elt x scope cl s S P Fin k i ys news := by
  intro k
  induction k with
  | zero => intro i ys news e hJ; (obtain rfl : i = n := (by (first | lia | omega))); exact fin ys news hJ
  | succ k ih =>
    intro i ys news e hJ
    refine CompRest.succ fun v I oI C oC D m₂ h tk E' hv a b c d e' f => ?_
    exact wpAny_mono (step i ys news v (by (first | lia | omega)) hv hJ I oI C oC D m₂ h tk E' a b c d e' f) (fun y s₂ hh => CompEnd.mono hh fun news' _ hj => ih (i + 1) _ news' (by (first | lia | omega)) hj) fun _ _ z => z
end
end Mine
end
section
open PySem PySem.W PyProof.Rows PySem.Calls
namespace Mine
section
variable {prog : Program} {w : World} {A : Around} {E : Value → Shared → Prop} {s : Shared} {env : Env} {h₀ : Heap} {body : List Stmt} {Q : Flow → Shared → Prop} {x : Str} {px : Pos}
/-- a loop over an iterator just made -/
theorem turns_push {σ : Type} {n : Nat} {m₀ : Str → Option Value} {oI₀ : Obj} {Pv : Nat → Value → Prop} {St : Nat → Heap → Prop} (Led : σ → List (Addr × Obj)) (ps : σ → List (Str × Value)) (stored : List Str) (P : Nat → σ → Prop) (c₀ : σ)
    (W : Walks prog w A s.heap.objs.size [s.heap.objs.size] [s.heap.objs.size] n Pv St) (hst : St 0 (s.heap.push oI₀)) (hex : ∀ i h, St i h → ∃ o, h.get? s.heap.objs.size = some o)
    (F : Fr h₀ env.locals s.heap m₀) (N : News h₀ env.locals s.heap (Led c₀)) (hk : ∀ p ∈ ps c₀, m₀ p.1 = some p.2) (hp : P 0 c₀)
    (turn : ∀ i v c (u : Str → Option Value) I oI h tk, i < n → Pv i v → P i c → (∀ p ∈ Led c, p.1 ≠ I) → Fr h₀ env.locals h (kstB (fun z => if stored.contains z then u z else m₀ z) (ps c)) → News h₀ env.locals h ((I, oI) :: Led c) →
      wpAny (model prog w) A (assign (.Name x px) env v) (fun _ s₃ => wpAny (model prog w) A (execs body env)
        (KfPost h₀ env.locals { s with heap := h, toks := tk } [(I, oI)] [I] Led ps stored m₀ (P (i + 1)) Q) E s₃) E { s with heap := h, toks := tk })
    (done : ∀ c (u : Str → Option Value) h tk, P n c → Fr h₀ env.locals h (kstB (fun z => if stored.contains z then u z else m₀ z) (ps c)) → News h₀ env.locals h (Led c) → Q .next { s with heap := h, toks := tk }) :
    TurnsAt prog w A h₀ env (.Name x px) body Q E (.ref s.heap.objs.size) { s with heap := s.heap.push oI₀ } := by
  refine turns_of (s := { s with heap := s.heap.push oI₀ }) Led ps stored P c₀ (KTurns.ofWalks W fun i v s' Q' E' st q => wpAny_pure q) ?_ ?_ hst (F.push _) (fun p hp => ⟨Heap.get?_push_of_some _ (N p hp).1, (N p hp).2⟩) ?_ hk hp ?_ (fun c u h tk hP F' N' => done c u h tk hP F' N')
  · intro hm
    exact absurd F.ns.lt (List.mem_singleton.mp hm ▸ Nat.lt_irrefl _)
  · intro b hb
    rw [List.mem_singleton.mp hb]
    exact next_is_new F
  · intro p hp hI
    exact absurd (Heap.lt_size (N p hp).1) ((List.mem_singleton.mp hI) ▸ Nat.lt_irrefl _)
  · rintro i v c u own h tk hi hv hP st' hap hin hof F' N'
    obtain ⟨oI, hoI⟩ := hex _ _ st'
    have hmem : (s.heap.objs.size, oI) ∈ own := hin _ (List.mem_singleton.mpr rfl) (next_is_new F) oI hoI
    have N₂ : News h₀ env.locals h ((s.heap.objs.size, oI) :: Led c) := fun p hp => by
      rcases List.mem_cons.mp hp with rfl | hp
      · exact N' _ (List.mem_append_left _ hmem)
      · exact N' p (List.mem_append_right _ hp)
    refine wpAny_mono (turn i v c u s.heap.objs.size oI h tk hi hv hP (fun p hp e => hap p hp (by rw [e]; exact List.mem_singleton.mpr rfl)) F' N₂) (fun _ s₃ h₃ => wpAny_mono h₃ (fun f s₄ h₄ => ?_) fun _ _ e => e) fun _ _ e => e
    have fin : KfEnd h₀ env.locals { s with heap := h, toks := tk } [(s.heap.objs.size, oI)] [s.heap.objs.size] Led ps stored m₀ (P (i + 1)) s₄ → KfEnd h₀ env.locals { s with heap := h, toks := tk } own [s.heap.objs.size] Led ps stored m₀ (P (i + 1)) s₄ := by
      rintro ⟨c', h', tk', m', news', rfl, F'', N'', ho, hn, hk', hr', hp''⟩
      refine ⟨c', h', tk', m', news' ++ own, rfl, F'', ?_, fun p hp => List.mem_append_right _ hp, fun p hp => ⟨List.mem_append_left _ (hn p hp).1, (hn p hp).2⟩, hk', hr', hp''⟩
      intro p hp
      rcases List.mem_append.mp hp with hp | hp
      · exact N'' p hp
      · have e1 := List.mem_singleton.mp (hof p hp)
        have hp2 := N' p (List.mem_append_left _ hp)
        have e2 : p.2 = oI := by
          have := hp2.1
          rw [e1, hoI] at this
          exact (Option.some.inj this).symm
        have e3 : p = (s.heap.objs.size, oI) := Prod.ext e1 e2
        rw [e3]
        exact N'' _ (ho _ (List.mem_singleton.mpr rfl))
    cases f with
    | ret v => exact h₄
    | brk => exact h₄
    | next => exact fin h₄
    | cont => exact fin h₄
/-- a loop over a range from 0 -/
theorem turns_range {σ : Type} {r : Addr} {t₁ u₁ v₁ : Tok} {n : Nat} {m₀ : Str → Option Value} (Led : σ → List (Addr × Obj)) (ps : σ → List (Str × Value)) (stored : List Str) (P : Nat → σ → Prop) (c₀ : σ)
    (hh : A.handled = none) (hr : IsRange s.heap r 0 (n : Int) 1 t₁ u₁ v₁) (hn : n ≤ 100000) (F : Fr h₀ env.locals s.heap m₀) (N : News h₀ env.locals s.heap (Led c₀)) (hk : ∀ p ∈ ps c₀, m₀ p.1 = some p.2) (hp : P 0 c₀)
    (turn : ∀ i c (u : Str → Option Value) I oI h tk t, i < n → P i c → (∀ p ∈ Led c, p.1 ≠ I) → Fr h₀ env.locals h (kstB (fun z => if stored.contains z then u z else m₀ z) (ps c)) → News h₀ env.locals h ((I, oI) :: Led c) →
      wpAny (model prog w) A (assign (.Name x px) env (.int (i : Int) t)) (fun _ s₃ => wpAny (model prog w) A (execs body env)
        (KfPost h₀ env.locals { s with heap := h, toks := tk } [(I, oI)] [I] Led ps stored m₀ (P (i + 1)) Q) E s₃) E { s with heap := h, toks := tk })
    (done : ∀ c (u : Str → Option Value) h tk, P n c → Fr h₀ env.locals h (kstB (fun z => if stored.contains z then u z else m₀ z) (ps c)) → News h₀ env.locals h (Led c) → Q .next { s with heap := h, toks := tk }) :
    wpAny (model prog w) A (pyIter (.ref r)) (fun it s₂ => TurnsAt prog w A h₀ env (.Name x px) body Q E it s₂) E s := by
  have hsz : Builtin.Range.rangeSize 0 (n : Int) 1 = (n : Int) := by
    unfold Builtin.Range.rangeSize
    simp
    (first | lia | omega)
  have fl : ∀ z : Int, -5 ≤ z → z ≤ 200000 → Builtin.Range.rangeFitsLong z = true := by
    intro z h1 h2
    unfold Builtin.Range.rangeFitsLong
    have a1 : -(2 ^ 63 : Int) ≤ z := by (first | lia | omega)
    have a2 : z < (2 ^ 63 : Int) := by (first | lia | omega)
    rw [decide_eq_true a1, decide_eq_true a2]; rfl
  have hsm : Builtin.Range.small 0 (n : Int) 1 = true := by
    unfold Builtin.Range.small
    rw [hsz, fl 0 (by (first | lia | omega)) (by (first | lia | omega)), fl n (by (first | lia | omega)) (by (first | lia | omega)), fl 1 (by (first | lia | omega)) (by (first | lia | omega)), if_pos (by decide), fl (n + (1 - 1)) (by (first | lia | omega)) (by (first | lia | omega))]
    simp
  refine wpAny_pyIter_range hr hsm ?_
  refine turns_push Led ps stored P c₀ (LCg.range_walks hh 0 n) (by show IsRangeIter _ _ _ _ _; rw [hsz]; simpa using Heap.get?_push_size _ rfl) (fun i h st => ⟨_, st⟩) F N hk hp ?_ done
  rintro i v c u I oI h tk hi ⟨t, rfl⟩ hP hap F' N'
  rw [Int.zero_add]
  exact turn i c u I oI h tk t hi hP hap F' N'
/-- a loop over a text's signs -/
theorem turns_str {σ : Type} {y : Str} {t₁ : Tok} {m₀ : Str → Option Value} (Led : σ → List (Addr × Obj)) (ps : σ → List (Str × Value)) (stored : List Str) (P : Nat → σ → Prop) (c₀ : σ)
    (hh : A.handled = none) (F : Fr h₀ env.locals s.heap m₀) (N : News h₀ env.locals s.heap (Led c₀)) (hk : ∀ p ∈ ps c₀, m₀ p.1 = some p.2) (hp : P 0 c₀)
    (turn : ∀ i ch c (u : Str → Option Value) I oI h tk t, y.cps.toList.drop i = ch :: y.cps.toList.drop (i + 1) → P i c → (∀ p ∈ Led c, p.1 ≠ I) → Fr h₀ env.locals h (kstB (fun z => if stored.contains z then u z else m₀ z) (ps c)) → News h₀ env.locals h ((I, oI) :: Led c) →
      wpAny (model prog w) A (assign (.Name x px) env (.str ⟨#[ch]⟩ t)) (fun _ s₃ => wpAny (model prog w) A (execs body env)
        (KfPost h₀ env.locals { s with heap := h, toks := tk } [(I, oI)] [I] Led ps stored m₀ (P (i + 1)) Q) E s₃) E { s with heap := h, toks := tk })
    (done : ∀ c (u : Str → Option Value) h tk, P y.cps.size c → Fr h₀ env.locals h (kstB (fun z => if stored.contains z then u z else m₀ z) (ps c)) → News h₀ env.locals h (Led c) → Q .next { s with heap := h, toks := tk }) :
    wpAny (model prog w) A (pyIter (.str y t₁)) (fun it s₂ => TurnsAt prog w A h₀ env (.Name x px) body Q E it s₂) E s := by
  have key : ∀ (o : Obj) (St : Nat → Heap → Prop), (∀ i h, St i h → ∃ o, h.get? s.heap.objs.size = some o) → (∀ A' : Around, A'.handled = none → Walks prog w A' s.heap.objs.size [s.heap.objs.size] [s.heap.objs.size] y.cps.size (SignAt y) St) → St 0 (s.heap.push o) →
      TurnsAt prog w A h₀ env (.Name x px) body Q E (.ref s.heap.objs.size) { s with heap := s.heap.push o } := by
    intro o St hex W hst
    refine turns_push Led ps stored P c₀ (W A hh) hst hex F N hk hp ?_ done
    rintro i v c u I oI h tk hi ⟨ch, t, hch, rfl⟩ hP hap F' N'
    refine turn i ch c u I oI h tk t ?_ hP hap F' N'
    have hlt : i < y.cps.toList.length := by simpa using hi
    rw [List.drop_eq_getElem_cons hlt]
    congr 1
    have : y.cps.toList[i]? = some ch := by simpa using hch
    rw [List.getElem?_eq_getElem hlt] at this
    exact Option.some.inj this
  cases ha : y.cps.all (· < 128)
  · exact wpAny_pyIter_wide ha (key _ _ (fun i h st => let ⟨o, ho, _⟩ := st; ⟨o, ho⟩) (fun A' hA => Walks.strWide hA _ y t₁) ⟨_, Heap.get?_push_size _ rfl, rfl, rfl⟩)
  · exact wpAny_pyIter_ascii ha (key _ _ (fun i h st => let ⟨o, ho, _⟩ := st; ⟨o, ho⟩) (fun A' hA => Walks.strAscii hA _ y t₁) ⟨_, Heap.get?_push_size _ rfl, rfl, rfl⟩)
end
end Mine
end
section
open PySem PySem.W PyProof.Rows PySem.Calls PyProof.Rows.LCg PyProof.Rows.LCp
namespace Mine
section
variable {prog : Program} {w : World} {A : Around} {E : Value → Shared → Prop} {s : Shared} {h₀ : Heap} {L : Addr} {m : Str → Option Value} {env : Env} {ct elt : Expr} {scope : Scope} {cl : List (Str × Addr)} {S : List (Addr × Obj) → Prop} {P : Nat → Value → Prop} {Fin : List Value → List (Addr × Obj) → Prop}
theorem compT_ind {x : Str} (n : Nat) (J : Nat → List Value → List (Addr × Obj) → Prop)
    (step : ∀ i ys news v, i < n → P i v → J i ys news → ∀ I oI C oC D m₂ h tk (E' : Value → Shared → Prop), NsObj oC m₂ → m₂ x = some v → Fr h₀ L h m → News h₀ L h ((I, oI) :: (C, oC) :: (D, lst ys) :: news) → Off3 I C D news → ((@Ne Nat I C) ∧ (@Ne Nat I D) ∧ (@Ne Nat C D)) →
      wpAny (model prog w) A (isTrue ct (compEnvC scope cl C env) (eval ct (compEnvC scope cl C env))) (fun ok s' => if ok = true then
        wpAny (model prog w) A (eval elt (compEnvC scope cl C env)) (CompEnd h₀ L m { s with heap := h, toks := tk } I oI C oC D (lst ys) S (fun y news' => J (i + 1) (ys ++ [y]) news')) E' s'
        else CompEnd h₀ L m { s with heap := h, toks := tk } I oI C oC D (lst ys) S (fun _ news' => J (i + 1) ys news') Value.none s') E' { s with heap := h, toks := tk })
    (fin : ∀ ys news, J n ys news → Fin ys news) : ∀ k i ys news, i + k = n → J i ys news → LCt.CompRestT prog w A h₀ L m env ct elt x scope cl s S P Fin k i ys news := by
  intro k
  induction k with
  | zero => intro i ys news e hJ; (obtain rfl : i = n := (by (first | lia | omega))); exact fin ys news hJ
  | succ k ih =>
    intro i ys news e hJ
    refine LCt.CompRestT.succ fun v I oI C oC D m₂ h tk E' hv a b c d e' f => ?_
    refine wpAny_mono (step i ys news v (by (first | lia | omega)) hv hJ I oI C oC D m₂ h tk E' a b c d e' f) (fun ok s₂ hh => ?_) fun _ _ z => z
    cases ok with
    | true =>
      rw [if_pos rfl] at hh ⊢
      exact wpAny_mono hh (fun y s₃ h3 => CompEnd.mono h3 fun news' _ hj => ih (i + 1) _ news' (by (first | lia | omega)) hj) fun _ _ z => z
    | false =>
      rw [if_neg (by decide)] at hh ⊢
      exact CompEnd.mono hh fun news' _ hj => ih (i + 1) _ news' (by (first | lia | omega)) hj
/-- a comprehension over a text, with a test -/
noncomputable def SrcTS (prog : Program) (w : World) (A : Around) (h₀ : Heap) (L : Addr) (m : Str → Option Value) (env : Env) (ct elt : Expr) (x : Str) (scope : Scope) (cl : List (Str × Addr)) (Q : Value → Shared → Prop) (xv : Value) (s₁ : Shared) : Prop :=
  ∃ y t news, xv = .str y t ∧ A.handled = none ∧ Fr h₀ L s₁.heap m ∧ News h₀ L s₁.heap news ∧ y.cps.size ≤ sizeLine ∧
    ∀ g, LCt.CompRestT prog w A h₀ L m env ct elt x scope cl { s₁ with heap := g } (fun _ => True) (SignAt y) (FinE h₀ L m { s₁ with heap := g } Q) y.cps.size 0 [] news
theorem ListComp_TS {iter : Expr} {x : Str} {px : Pos} {pos : Pos} {Q : Value → Shared → Prop} (F₀ : Fr h₀ L s.heap m)
    (hclos : closureFor scope env = pure cl) (hcell : ∀ y ∈ scope.names, y.2 ≠ .cell) (hkind : scope.kind = .function)
    (hnames : ∀ y ∈ scope.names, y.2 = .local → scope.names.lookup y.1 = some .local) (hx : scope.names.lookup x = some .local)
    (h : wpAny (model prog w) A (eval iter env) (SrcTS prog w A h₀ L m env ct elt x scope cl Q) E s)
    (hs : ∀ x, foldedSetIterable iter env x = pure x := by intro _; rfl) :
    wpAny (model prog w) A (eval (.ListComp elt [⟨.Name x px, iter, [ct], 0⟩] scope pos) env) Q E s := by
  rw [eval_ListComp]
  refine wpAny_comprehension_free (use := none) rfl hs hclos hkind hnames (wpAny_mono h (fun xv s₁ h₁ => ?_) fun _ _ e => e)
  obtain ⟨y, t, news, rfl, hh, F, N, hsz, R⟩ := h₁
  cases ha : y.cps.all (· < 128)
  · refine wpAny_pyIter_wide ha ?_
    refine LCt.block_T (Walks.strWide hh s₁.heap.objs.size y t) hsz (fun i h st => by obtain ⟨o, e, _⟩ := st; exact ⟨o, e⟩) (fun i h h' o nw st e e' _ _ _ => by obtain ⟨o', q, r⟩ := st; rw [e] at q; cases q; exact ⟨o, e', r⟩) hcell hkind hx ⟨_, Heap.get?_push_size _ rfl, rfl, rfl⟩ (fun b hb => ?_)
      (F.keeps fun _ _ e => Heap.get?_push_of_some _ e) (N.grown fun _ _ e => Heap.get?_push_of_some _ e) (Nat.ne_of_lt F.ns.lt) (next_is_new F) (fun p hp => Nat.ne_of_lt (Heap.lt_size (N p hp).1)) trivial (R _) ?_
    · rw [List.mem_singleton.mp hb]
      show s₁.heap.objs.size < (s₁.heap.push _).objs.size
      rw [Heap.size_push]; exact Nat.lt_succ_self _
    · intro D C h tk m' ys news' F' N' o1 hn hC₀ hD₀ hCL hDL hCD offC fin
      refine ⟨m', hn, fun h'' hs'' => fin D h'' tk (F'.change hs'' hCL hC₀) (fun p hp => ?_) o1⟩
      refine ⟨hs''.extBut _ _ ?_ (N' p hp).1, (N' p hp).2⟩
      rcases List.mem_cons.mp hp with rfl | hp
      · exact Ne.symm hCD
      · exact offC p hp
  · refine wpAny_pyIter_ascii ha ?_
    refine LCt.block_T (Walks.strAscii hh s₁.heap.objs.size y t) hsz (fun i h st => by obtain ⟨o, e, _⟩ := st; exact ⟨o, e⟩) (fun i h h' o nw st e e' _ _ _ => by obtain ⟨o', q, r⟩ := st; rw [e] at q; cases q; exact ⟨o, e', r⟩) hcell hkind hx ⟨_, Heap.get?_push_size _ rfl, rfl, rfl⟩ (fun b hb => ?_)
      (F.keeps fun _ _ e => Heap.get?_push_of_some _ e) (N.grown fun _ _ e => Heap.get?_push_of_some _ e) (Nat.ne_of_lt F.ns.lt) (next_is_new F) (fun p hp => Nat.ne_of_lt (Heap.lt_size (N p hp).1)) trivial (R _) ?_
    · rw [List.mem_singleton.mp hb]
      show s₁.heap.objs.size < (s₁.heap.push _).objs.size
      rw [Heap.size_push]; exact Nat.lt_succ_self _
    · intro D C h tk m' ys news' F' N' o1 hn hC₀ hD₀ hCL hDL hCD offC fin
      refine ⟨m', hn, fun h'' hs'' => fin D h'' tk (F'.change hs'' hCL hC₀) (fun p hp => ?_) o1⟩
      refine ⟨hs''.extBut _ _ ?_ (N' p hp).1, (N' p hp).2⟩
      rcases List.mem_cons.mp hp with rfl | hp
      · exact Ne.symm hCD
      · exact offC p hp
end
end Mine
end
section
open PySem PySem.W PyProof.Rows PySem.Calls
namespace Mine
/-- a sign outside marks; a text within marks k -/
inductive It where
  | ch (c : Nat)
  | qu (k : Nat) (x : List Nat)
noncomputable def It.flat : It → List Nat
  | .ch c => [c]
  | .qu k x => k :: (x ++ [k])
noncomputable def flatI : List It → List Nat
  | [] => []
  | i :: r => i.flat ++ flatI r
noncomputable def It.ok : It → Prop
  | .ch c => c ≠ 39 ∧ c ≠ 34
  | .qu k x => (k = 39 ∨ k = 34) ∧ k ∉ x
noncomputable def wdI : List It → Option Str → List Str
  | [], none => []
  | [], some t => [t]
  | .ch c :: r, o => if c = 32 then (match o with | none => wdI r none | some t => t :: wdI r none) else wdI r (some (o.getD (Str.ofString "") ++ ⟨#[c]⟩))
  | .qu _ x :: r, o => wdI r (some (o.getD (Str.ofString "") ++ ⟨x.toArray⟩))
theorem emp_app (x : Str) : Str.ofString "" ++ x = x := Str.empty_append x
theorem str_app_list (t : Str) (a b : List Nat) : t ++ ⟨(a ++ b).toArray⟩ = (t ++ ⟨a.toArray⟩ : Str) ++ ⟨b.toArray⟩ := by
  apply Str.ext'
  simp [Str.cps_append]
theorem str_snoc_ne (t : Str) (c : Nat) : t ++ (⟨#[c]⟩ : Str) ≠ Str.ofString "" := by
  intro h
  have := congrArg Str.length h
  rw [Str.length_append] at this
  have h2 : (Str.ofString "").length = 0 := by decide +kernel
  rw [h2] at this
  simp [Str.length] at this
theorem str_app_nil (t : Str) : t ++ (⟨#[]⟩ : Str) = t := by apply Str.ext'; simp [Str.cps_append]
/-- within marks up to the closing one -/
theorem rd_q {k : Nat} {x : List Nat} (hx : k ∉ x) : ∀ (qd : Bool) (t : Str) (r : List Nat), rd (.q k) qd t (x ++ k :: r) = rd .a true (t ++ ⟨x.toArray⟩) r := by
  induction x with
  | nil => intro qd t r; show rd (.q k) qd t (k :: r) = _; rw [rd_q_y]; exact congrArg (fun z => rd .a true z r) (str_app_nil t).symm
  | cons c x ih =>
    intro qd t r
    have hc : c ≠ k := fun e => hx (e ▸ List.Mem.head _)
    show rd (.q k) qd t (c :: (x ++ k :: r)) = _
    rw [rd_q_n hc, ih fun h => hx (List.Mem.tail _ h)]
    have : t ++ (⟨#[c]⟩ : Str) ++ ⟨x.toArray⟩ = t ++ ⟨(c :: x).toArray⟩ := (str_app_list t [c] x).symm
    rw [this]
theorem rd_q_open {k : Nat} {x : List Nat} (hx : k ∉ x) : ∀ (qd : Bool) (t : Str), rd (.q k) qd t x = none := by
  induction x with
  | nil => intro qd t; rfl
  | cons c x ih =>
    intro qd t
    have hc : c ≠ k := fun e => hx (e ▸ List.Mem.head _)
    rw [rd_q_n hc]
    exact ih (fun h => hx (List.Mem.tail _ h)) _ _
/-- as Lx, from the middle of a word -/
noncomputable def LxG (st : LSt) (qd : Bool) (t : Str) (l : List Nat) (ws : List Str) (ok : Bool) : Prop :=
  (∃ st' l', rd st qd t l = some (none, st', l') ∧ ws = [] ∧ ok = true) ∨ (∃ x st' l' ws', rd st qd t l = some (some x, st', l') ∧ Lx st' l' ws' ok ∧ ws = x :: ws') ∨ (rd st qd t l = none ∧ ws = [] ∧ ok = false)
theorem LxG.done {st : LSt} {l : List Nat} {ws : List Str} {ok : Bool} (h : LxG st false (Str.ofString "") l ws ok) : Lx st l ws ok := by
  rcases h with ⟨_, _, h, rfl, rfl⟩ | ⟨_, _, _, _, h, h2, rfl⟩ | ⟨h, rfl, rfl⟩
  · exact .stop h
  · exact .word h h2
  · exact .bad h
theorem LxG.eq {st st' : LSt} {qd qd' : Bool} {t t' : Str} {l l' : List Nat} {ws : List Str} {ok : Bool} (e : rd st qd t l = rd st' qd' t' l') (h : LxG st' qd' t' l' ws ok) : LxG st qd t l ws ok := by
  unfold LxG at *; rw [e]; exact h
theorem Lx.none_stop : Lx .none [] [] true := .stop (st' := .none) (l' := []) (by simp [rd, fin])
theorem fin_some {qd : Bool} {t : Str} (h : qd = true ∨ t ≠ Str.ofString "") : fin qd t = some t := by
  unfold fin
  rw [if_neg]
  rintro ⟨h1, h2⟩
  rcases h with h | h
  · rw [h1] at h; cases h
  · exact h h2
theorem lex_items (tail : List Nat) (ok : Bool) (W : Option Str → List Str) (B : Nat) (hW : ∀ o, (W o).length ≤ B) (hA : LxG .ws false (Str.ofString "") tail (W none) ok)
    (hB : ∀ qd t, (qd = true ∨ t ≠ Str.ofString "") → LxG .a qd t tail (W (some t)) ok) : ∀ (is : List It), (∀ i ∈ is, i.ok) →
    (∃ ws, LxG .ws false (Str.ofString "") (flatI is ++ tail) ws ok ∧ ws.length ≤ is.length + B ∧ (∀ V, (∀ o, W o = wdI V o) → ws = wdI (is ++ V) none)) ∧
      ∀ qd t, (qd = true ∨ t ≠ Str.ofString "") → ∃ ws, LxG .a qd t (flatI is ++ tail) ws ok ∧ ws.length ≤ is.length + B ∧ (∀ V, (∀ o, W o = wdI V o) → ws = wdI (is ++ V) (some t)) := by
  intro is
  induction is with
  | nil => intro _; exact ⟨⟨_, hA, by simpa using hW none, fun V hV => hV none⟩, fun qd t h => ⟨_, hB qd t h, by simpa using hW (some t), fun V hV => hV (some t)⟩⟩
  | cons i r ih =>
    intro hok
    obtain ⟨⟨w1, ihA, lA, eA⟩, ihB⟩ := ih fun j hj => hok j (List.Mem.tail _ hj)
    have hi := hok i (List.Mem.head _)
    cases i with
    | ch c =>
      obtain ⟨h1, h2⟩ := hi
      by_cases hc : c = 32
      · subst hc
        refine ⟨⟨w1, LxG.eq rd_ws_b ihA, by simp only [List.length_cons]; (first | lia | omega), fun V hV => ?_⟩, fun qd t h => ⟨t :: w1, .inr (.inl ⟨t, .ws, _, _, ?_, LxG.done ihA, rfl⟩), by simp only [List.length_cons]; (first | lia | omega), fun V hV => ?_⟩⟩
        · rw [eA V hV]; simp [wdI]
        · show rd .a qd t (32 :: (flatI r ++ tail)) = _
          rw [rd_a_b, fin_some h]
        · rw [eA V hV]; simp [wdI]
      · refine ⟨?_, fun qd t h => ?_⟩
        · obtain ⟨w2, b1, l2, b2⟩ := ihB false ⟨#[c]⟩ (.inr (by have := str_snoc_ne (Str.ofString "") c; rwa [emp_app] at this))
          refine ⟨w2, LxG.eq (rd_ws_p hc h1 h2) b1, by simp only [List.length_cons]; (first | lia | omega), fun V hV => ?_⟩
          rw [b2 V hV]; simp [wdI, hc, emp_app]
        · obtain ⟨w2, b1, l2, b2⟩ := ihB qd (t ++ ⟨#[c]⟩) (.inr (str_snoc_ne t c))
          refine ⟨w2, LxG.eq (rd_a_p hc h1 h2) b1, by simp only [List.length_cons]; (first | lia | omega), fun V hV => ?_⟩
          rw [b2 V hV]; simp [wdI, hc]
    | qu k x =>
      obtain ⟨h1, h2⟩ := hi
      have e : flatI (.qu k x :: r) ++ tail = k :: (x ++ k :: (flatI r ++ tail)) := by simp [flatI, It.flat]
      rw [e]
      refine ⟨?_, fun qd t h => ?_⟩
      · obtain ⟨w2, b1, l2, b2⟩ := ihB true (Str.ofString "" ++ ⟨x.toArray⟩) (.inl rfl)
        refine ⟨w2, LxG.eq ((rd_ws_q h1).trans (rd_q h2 _ _ _)) b1, by simp only [List.length_cons]; (first | lia | omega), fun V hV => ?_⟩
        rw [b2 V hV]; simp [wdI]
      · obtain ⟨w2, b1, l2, b2⟩ := ihB true (t ++ ⟨x.toArray⟩) (.inl rfl)
        refine ⟨w2, LxG.eq ((rd_a_q h1).trans (rd_q h2 _ _ _)) b1, by simp only [List.length_cons]; (first | lia | omega), fun V hV => ?_⟩
        rw [b2 V hV]; simp [wdI]
/-- all texts closed -/
theorem lex_whole {is : List It} (h : ∀ i ∈ is, i.ok) : Lx .ws (flatI is) (wdI is none) true := by
  obtain ⟨⟨ws, h1, _, h2⟩, _⟩ := lex_items [] true (wdI []) 1 (fun o => by cases o <;> simp [wdI]) (.inl ⟨.none, [], by simp [rd, fin], rfl, rfl⟩) (fun qd t h => .inr (.inl ⟨t, .none, [], [], by simp only [rd]; rw [fin_some h], Lx.none_stop, rfl⟩)) is h
  have e := h2 [] fun _ => rfl
  rw [List.append_nil] at e h1
  exact e ▸ h1.done
/-- the last text not closed -/
theorem lex_broken {is : List It} {k : Nat} {x : List Nat} (h : ∀ i ∈ is, i.ok) (hk : k = 39 ∨ k = 34) (hx : k ∉ x) : ∃ ws, Lx .ws (flatI is ++ k :: x) ws false ∧ ws.length ≤ is.length := by
  obtain ⟨⟨ws, h1, hl, _⟩, _⟩ := lex_items (k :: x) false (fun _ => []) 0 (fun _ => Nat.le_refl _) (.inr (.inr ⟨(rd_ws_q hk).trans (rd_q_open hx _ _), rfl, rfl⟩)) (fun qd t _ => .inr (.inr ⟨(rd_a_q hk).trans (rd_q_open hx _ _), rfl, rfl⟩)) is h
  exact ⟨ws, h1.done, hl⟩
theorem wdI_len : ∀ (is : List It) (o : Option Str), (wdI is o).length ≤ is.length + 1
  | [], none => by simp [wdI]
  | [], some _ => by simp [wdI]
  | .ch c :: r, o => by
    have h1 := wdI_len r none
    have h2 := wdI_len r (some (o.getD (Str.ofString "") ++ ⟨#[c]⟩))
    simp only [wdI]
    split
    · cases o <;> simp <;> (first | lia | omega)
    · simp; (first | lia | omega)
  | .qu _ x :: r, o => by
    have h2 := wdI_len r (some (o.getD (Str.ofString "") ++ ⟨x.toArray⟩))
    simp only [wdI]
    simp; (first | lia | omega)
end Mine
end
section
open PySem PySem.W PyProof.Rows PySem.Calls
namespace Mine
open StrLaws Builtin.Str
/-- the count of open brackets; none: one is shut that is not open -/
noncomputable def bst : List Nat → Int → Option Int
  | [], n => some n
  | c :: r, n => if c = 40 then bst r (n + 1) else if c = 41 then (if n - 1 < 0 then none else bst r (n - 1)) else bst r n
theorem bst_app : ∀ (p q : List Nat) (n : Int), bst (p ++ q) n = (bst p n).bind (bst q)
  | [], _, _ => rfl
  | c :: r, q, n => by
    simp only [List.cons_append, bst]
    split
    · exact bst_app r q _
    · split
      · split
        · rfl
        · exact bst_app r q _
      · exact bst_app r q _
theorem bst_nonneg : ∀ (p : List Nat) (n : Int), 0 ≤ n → ∀ m, bst p n = some m → 0 ≤ m
  | [], n, h, m, e => by simp only [bst, Option.some.injEq] at e; (first | lia | omega)
  | c :: r, n, h, m, e => by
    simp only [bst] at e
    split at e
    · exact bst_nonneg r _ (by (first | lia | omega)) m e
    · split at e
      · split at e
        · cases e
        · exact bst_nonneg r _ (by (first | lia | omega)) m e
      · exact bst_nonneg r _ h m e
theorem bst_pair {n : Int} (h : 0 ≤ n) : bst [40, 41] n = some n := by
  have e : bst [40, 41] n = if n + 1 - 1 < 0 then none else some (n + 1 - 1) := rfl
  rw [e, if_neg (by (first | lia | omega))]
  congr 1; (first | lia | omega)
theorem bst_filter : ∀ (p : List Nat) (n : Int), bst (p.filter fun c => c == 40 || c == 41) n = bst p n
  | [], _ => rfl
  | c :: r, n => by
    by_cases h : c = 40
    · subst h
      show bst (40 :: r.filter fun c => c == 40 || c == 41) n = _
      simp only [bst, bst_filter r]
    · by_cases h2 : c = 41
      · subst h2
        show bst (41 :: r.filter fun c => c == 40 || c == 41) n = _
        simp only [bst, bst_filter r]
      · have : (c == 40 || c == 41) = false := by simp [h, h2]
        simp only [List.filter, this, bst, h, h2, if_false]; exact bst_filter r _
noncomputable abbrev parT : Str := Str.ofString "()"
theorem parT_eq : parT = ⟨#[40, 41]⟩ := by decide +kernel
theorem emptyT_eq : Str.ofString "" = ⟨#[]⟩ := by decide +kernel
theorem bst_parts (x : Str) : ∀ (cuts : List Nat) (a f : Nat), ChainTo x parT x.length a cuts f → ∀ n, 0 ≤ n →
    bst (Str.join (Str.ofString "") (partsFrom x parT.length a cuts)).cps.toList n = bst (strSub x a x.length).cps.toList n
  | [], _, _, _, _, _ => rfl
  | c :: r, a, f, h, n, hn => by
    obtain ⟨p, q, e⟩ := partsFrom_ne x parT.length (c + parT.length) r
    have ih := bst_parts x r (c + parT.length) f h.2.2
    show bst (Str.join (Str.ofString "") (strSub x a c :: partsFrom x parT.length (c + parT.length) r)).cps.toList n = _
    rw [e] at ih ⊢
    show bst (strSub x a c ++ Str.ofString "" ++ Str.join (Str.ofString "") (p :: q)).cps.toList n = _
    rw [← sub_cat x parT h.1 h.2.1]
    simp only [Str.cps_append, Array.toList_append, bst_app]
    rw [show (Str.ofString "").cps.toList = [] from by decide +kernel, show parT.cps.toList = [40, 41] from by decide +kernel]
    cases e1 : bst (strSub x a c).cps.toList n with
    | none => rfl
    | some m =>
      have hm := bst_nonneg _ _ hn _ e1
      show bst _ m = (bst [40, 41] m).bind _
      rw [bst_pair hm]
      exact ih m hm
theorem len_parts (x : Str) : ∀ (cuts : List Nat) (a f : Nat), ChainTo x parT x.length a cuts f →
    (Str.join (Str.ofString "") (partsFrom x parT.length a cuts)).length + 2 * cuts.length = (strSub x a x.length).length
  | [], _, _, _ => rfl
  | c :: r, a, f, h => by
    obtain ⟨p, q, e⟩ := partsFrom_ne x parT.length (c + parT.length) r
    have ih := len_parts x r (c + parT.length) f h.2.2
    show (Str.join (Str.ofString "") (strSub x a c :: partsFrom x parT.length (c + parT.length) r)).length + _ = _
    rw [e] at ih ⊢
    show (strSub x a c ++ Str.ofString "" ++ Str.join (Str.ofString "") (p :: q)).length + _ = _
    rw [← sub_cat x parT h.1 h.2.1]
    have h1 : (Str.ofString "").length = 0 := by decide +kernel
    have h2 : parT.length = 2 := by decide +kernel
    simp only [Str.length_append, List.length_cons] at ih ⊢
    (first | lia | omega)
theorem mem_parts (x : Str) (k : Nat) : ∀ (cuts : List Nat) (a f : Nat), ChainTo x parT x.length a cuts f →
    k ∈ (Str.join (Str.ofString "") (partsFrom x parT.length a cuts)).cps.toList → k ∈ (strSub x a x.length).cps.toList
  | [], _, _, _, hk => hk
  | c :: r, a, f, h, hk => by
    obtain ⟨p, q, e⟩ := partsFrom_ne x parT.length (c + parT.length) r
    have ih := mem_parts x k r (c + parT.length) f h.2.2
    change k ∈ (Str.join (Str.ofString "") (strSub x a c :: partsFrom x parT.length (c + parT.length) r)).cps.toList at hk
    rw [e] at ih hk
    change k ∈ (strSub x a c ++ Str.ofString "" ++ Str.join (Str.ofString "") (p :: q)).cps.toList at hk
    rw [← sub_cat x parT h.1 h.2.1]
    simp only [Str.cps_append, Array.toList_append, List.mem_append] at hk ⊢
    rw [show (Str.ofString "").cps.toList = [] from by decide +kernel] at hk
    rcases hk with (hk | hk) | hk
    · exact .inl (.inl hk)
    · cases hk
    · exact .inr (ih hk)
noncomputable abbrev unpair (x : Str) : Str := Txt.replace x parT (Str.ofString "")
theorem unpair_eq {x : Str} (h : (!(occurrences x parT 0 x.length 1).isEmpty) = true) :
    ∃ i r f, occurrences x parT 0 x.length (x.length + 1) = i :: r ∧ ChainTo x parT x.length 0 (i :: r) f ∧ unpair x = Str.join (Str.ofString "") (partsFrom x parT.length 0 (i :: r)) := by
  obtain ⟨i, hi⟩ := (found_iff x parT).mp h
  obtain ⟨f, hf⟩ := occ_chain x parT (x.length + 1)
  rcases occ_head x parT (x.length + 1) (by (first | lia | omega)) with ⟨h0, hn⟩ | ⟨j, r, e, _⟩
  · exact absurd hi (hn i)
  · refine ⟨j, r, f, e, e ▸ hf, ?_⟩
    unfold unpair Txt.replace
    have h2 : (parT.length == 0) = false := by decide +kernel
    rw [e, h2]
    simp only [List.isEmpty_cons, Bool.false_and, Bool.or_self, Bool.false_eq_true, if_false]
    rw [glued_eq_join, partsBetween_eq]
theorem unpair_bst {x : Str} (h : (!(occurrences x parT 0 x.length 1).isEmpty) = true) : bst (unpair x).cps.toList 0 = bst x.cps.toList 0 := by
  obtain ⟨i, r, f, _, hc, e⟩ := unpair_eq h
  rw [e, bst_parts x _ 0 f hc 0 (Int.le_refl _), sub_whole]
theorem unpair_len {x : Str} (h : (!(occurrences x parT 0 x.length 1).isEmpty) = true) : (unpair x).length < x.length := by
  obtain ⟨i, r, f, _, hc, e⟩ := unpair_eq h
  have := len_parts x _ 0 f hc
  rw [sub_whole] at this
  rw [e]
  simp only [List.length_cons] at this
  (first | lia | omega)
theorem unpair_mem {x : Str} (h : (!(occurrences x parT 0 x.length 1).isEmpty) = true) {k : Nat} (hk : k ∈ (unpair x).cps.toList) : k ∈ x.cps.toList := by
  obtain ⟨i, r, f, _, hc, e⟩ := unpair_eq h
  rw [e] at hk
  have := mem_parts x k _ 0 f hc hk
  rwa [sub_whole] at this
noncomputable def Pars (l : List Nat) : Prop := ∀ c ∈ l, c = 40 ∨ c = 41
theorem all_open : ∀ (l : List Nat), Pars l → (∀ i, l.drop i ≠ 40 :: 41 :: l.drop (i + 2)) → ∀ c, (40 :: l).drop 0 = 40 :: c → (∀ i, (40 :: l).drop i ≠ 40 :: 41 :: (40 :: l).drop (i + 2)) → ∀ n, 0 ≤ n → ∃ m, bst l n = some m ∧ n ≤ m
  | [], _, _, _, _, _, n, _ => ⟨n, rfl, by (first | lia | omega)⟩
  | d :: r, hp, h1, _, _, h2, n, hn => by
    have hd : d = 40 := by
      rcases hp d (List.Mem.head _) with h | h
      · exact h
      · exact absurd (by subst h; rfl) (h2 0)
    subst hd
    obtain ⟨m, e, hm⟩ := all_open r (fun c hc => hp c (List.Mem.tail _ hc)) (fun i => by have := h1 (i + 1); simpa using this) r rfl h1 (n + 1) (by (first | lia | omega))
    exact ⟨m, by simp only [bst, if_true]; exact e, by (first | lia | omega)⟩
theorem no_pair {x : Str} (h : (!(occurrences x parT 0 x.length 1).isEmpty) = false) : ∀ i, x.cps.toList.drop i ≠ 40 :: 41 :: x.cps.toList.drop (i + 2) := by
  intro i e
  have : (!(occurrences x parT 0 x.length 1).isEmpty) = true := by
    refine (found_iff x parT).mpr ⟨i, ?_, ?_⟩
    · have hl := congrArg List.length e
      have h2 : parT.length = 2 := by decide +kernel
      simp only [List.length_drop, List.length_cons] at hl
      have : x.cps.toList.length = x.length := by simp [Str.length]
      (first | lia | omega)
    · rw [subAt_eq, e, show parT.length = 2 from by decide +kernel, show parT.cps.toList = [40, 41] from by decide +kernel]
      rfl
  rw [h] at this; cases this
theorem bst_left {x : Str} (hp : Pars x.cps.toList) (h : (!(occurrences x parT 0 x.length 1).isEmpty) = false) : bst x.cps.toList 0 = some 0 ↔ x = Str.ofString "" := by
  have hn := no_pair h
  constructor
  · intro e
    cases hl : x.cps.toList with
    | nil => apply Str.ext'; apply Array.toList_inj.mp; rw [hl]; decide +kernel
    | cons c r =>
      exfalso
      rw [hl] at e hn hp
      rcases hp c (List.Mem.head _) with hc | hc
      · subst hc
        obtain ⟨m, e2, hm⟩ := all_open r (fun d hd => hp d (List.Mem.tail _ hd)) (fun i => by have := hn (i + 1); simpa using this) r rfl hn 1 (by (first | lia | omega))
        simp only [bst, if_true] at e
        rw [show (0 : Int) + 1 = 1 from rfl, e2] at e
        have := Option.some.inj e
        (first | lia | omega)
      · subst hc
        simp [bst] at e
  · intro e
    subst e
    rfl
end Mine
end
section
open PySem PySem.W PyProof.Rows PySem.Calls
namespace Mine
open StrLaws Builtin.Str
theorem join_cps : ∀ ps : List Str, (Txt.join (Str.ofString "") ps).cps.toList = ps.flatMap (·.cps.toList) := by
  intro ps
  show (glued (Str.ofString "") ps).cps.toList = _
  rw [glued_eq_join]
  induction ps with
  | nil => rfl
  | cons p r ih =>
    cases r with
    | nil => simp [Str.join]
    | cons q r =>
      show (p ++ Str.ofString "" ++ Str.join (Str.ofString "") (q :: r)).cps.toList = _
      rw [Str.cps_append, Str.cps_append, Array.toList_append, Array.toList_append, ih, show (Str.ofString "").cps.toList = [] from by decide +kernel]
      simp
/-- _strip_quoted_realnames: the loop -/
noncomputable def spS (addr : Str) : List Nat → Int → Int → Option Int → List Str → Int × List Str
  | [], _, st, _, acc => (st, acc)
  | c :: r, i, st, op, acc =>
    if c = 34 then
      match op with
      | none => spS addr r (i + 1) st (some i) acc
      | some o => spS addr r (i + 1) (i + 1) none (if st ≠ o then acc ++ [Txt.slice addr (some st) (some o)] else acc)
    else spS addr r (i + 1) st op acc
noncomputable def spEnd (addr : Str) (q : Int × List Str) : Str := Txt.join (Str.ofString "") (if q.1 < addr.length then q.2 ++ [Txt.slice addr (some q.1) none] else q.2)
noncomputable def stripS (addr : Str) : Str := if 34 ∈ addr.cps.toList then spEnd addr (spS addr addr.cps.toList 0 0 none []) else addr
theorem spS_skip {addr : Str} {x r : List Nat} (hx : 34 ∉ x) : ∀ (i st : Int) (op : Option Int) (acc : List Str), spS addr (x ++ r) i st op acc = spS addr r (i + x.length) st op acc := by
  induction x with
  | nil => intro i st op acc; simp
  | cons c x ih =>
    intro i st op acc
    have hc : c ≠ 34 := fun e => hx (e ▸ List.Mem.head _)
    show spS addr (c :: (x ++ r)) i st op acc = _
    simp only [spS, hc, if_false]
    rw [ih fun h => hx (List.Mem.tail _ h)]
    congr 1
    simp only [List.length_cons]; (first | lia | omega)
noncomputable def It.plainQ : It → Prop
  | .ch c => c ≠ 39 ∧ c ≠ 34
  | .qu k x => (k = 39 ∨ k = 34) ∧ k ∉ x ∧ 34 ∉ x
noncomputable def It.shown : It → Bool
  | .ch _ => true
  | .qu k _ => k != 34
theorem slice_cps {x : Str} {i j : Nat} (h : i ≤ j ∧ j ≤ x.cps.toList.length) : (Txt.slice x (some (i : Int)) (some (j : Int))).cps.toList = (x.cps.toList.drop i).take (j - i) := by
  have e : Txt.slice x (some (i : Int)) (some (j : Int)) = sliceText x (some (i : Int)) (some (j : Int)) := rfl
  rw [e, sliceText_plain ⟨by (first | lia | omega), by (first | lia | omega), by (first | lia | omega)⟩]
  have e1 : ((j : Int) - (i : Int)).toNat = j - i := by (first | lia | omega)
  rw [e1]
  rfl
theorem slice_end_cps {x : Str} {i : Nat} (h : i ≤ x.cps.toList.length) : (Txt.slice x (some (i : Int)) none).cps.toList = x.cps.toList.drop i := by
  have e : Txt.slice x (some (i : Int)) none = sliceText x (some (i : Int)) none := rfl
  rw [e, sliceText_from ⟨by (first | lia | omega), by (first | lia | omega)⟩]
  have e1 : ((x.cps.toList.length : Int) - (i : Int)).toNat = x.cps.toList.length - i := by (first | lia | omega)
  rw [e1]
  show (x.cps.toList.drop i).take (x.cps.toList.length - i) = _
  exact List.take_of_length_le (by rw [List.length_drop]; exact Nat.le_refl _)
noncomputable def Tail (t : List Nat) : Prop := t = [] ∨ ∃ k x, t = k :: x ∧ (k = 39 ∨ k = 34) ∧ 34 ∉ x
theorem strip_items (addr : Str) (tail : List Nat) (ht : Tail tail) : ∀ (is : List It), (∀ i ∈ is, i.plainQ) → ∀ (pre : List Nat) (st : Nat) (acc : List Str), addr.cps.toList = pre ++ (flatI is ++ tail) → st ≤ pre.length →
    ∃ (st' : Nat) (acc' : List Str), spS addr (flatI is ++ tail) pre.length st none acc = ((st' : Int), acc') ∧ st' ≤ addr.cps.toList.length ∧
      acc'.flatMap (·.cps.toList) ++ addr.cps.toList.drop st' = acc.flatMap (·.cps.toList) ++ pre.drop st ++ (flatI (is.filter It.shown) ++ tail) := by
  intro is
  induction is with
  | nil =>
    intro _ pre st acc ha hst
    refine ⟨st, acc, ?_, by rw [ha]; simp; (first | lia | omega), ?_⟩
    · rcases ht with rfl | ⟨k, x, rfl, hk, hx⟩
      · simp [flatI, spS]
      · show spS addr (k :: x) _ _ _ _ = _
        rcases hk with rfl | rfl
        · have h39 : 34 ∉ (39 :: x) := by simp [hx]
          have := spS_skip (addr := addr) (r := []) h39 (pre.length : Int) (st : Int) none acc
          rw [List.append_nil] at this
          rw [this]; rfl
        · have := spS_skip (addr := addr) (r := []) hx (pre.length + 1 : Int) (st : Int) (some (pre.length : Int)) acc
          rw [List.append_nil] at this
          simp only [spS, if_true]
          rw [this]; rfl
    · rw [ha, List.drop_append_of_le_length hst]
      simp [flatI]
  | cons i r ih =>
    intro hok pre st acc ha hst
    have hi := hok i (List.Mem.head _)
    have ih' := ih fun j hj => hok j (List.Mem.tail _ hj)
    have skip : ∀ y : List Nat, i.flat = y → 34 ∉ y → i.shown = true → ∃ (st' : Nat) (acc' : List Str), spS addr (flatI (i :: r) ++ tail) pre.length st none acc = ((st' : Int), acc') ∧ st' ≤ addr.cps.toList.length ∧
      acc'.flatMap (·.cps.toList) ++ addr.cps.toList.drop st' = acc.flatMap (·.cps.toList) ++ pre.drop st ++ (flatI ((i :: r).filter It.shown) ++ tail) := by
      intro y ey hy hs
      obtain ⟨st', acc', h1, h2, h3⟩ := ih' (pre ++ y) st acc (by rw [ha]; simp [flatI, ey]) (by simp; (first | lia | omega))
      refine ⟨st', acc', ?_, h2, ?_⟩
      · have e : flatI (i :: r) ++ tail = y ++ (flatI r ++ tail) := by simp [flatI, ey]
        rw [e, spS_skip hy, ← h1]
        congr 1
        simp
      · rw [h3, List.drop_append_of_le_length hst, List.filter_cons_of_pos hs]
        simp [flatI, ey]
    cases i with
    | ch c => exact skip [c] rfl (by intro hm; exact hi.2 (List.mem_singleton.mp hm).symm) rfl
    | qu k x =>
      obtain ⟨hk, hkx, hx⟩ := hi
      rcases hk with rfl | rfl
      · exact skip _ rfl (by simp [It.flat, hx]) rfl
      · obtain ⟨st', acc', h1, h2, h3⟩ := ih' (pre ++ (34 :: (x ++ [34]))) (pre.length + x.length + 2) (if (st : Int) ≠ (pre.length : Int) then acc ++ [Txt.slice addr (some (st : Int)) (some (pre.length : Int))] else acc)
          (by rw [ha]; simp [flatI, It.flat]) (by simp; (first | lia | omega))
        refine ⟨st', acc', ?_, h2, ?_⟩
        · have e : flatI (.qu 34 x :: r) ++ tail = 34 :: (x ++ 34 :: (flatI r ++ tail)) := by simp [flatI, It.flat]
          rw [e]
          simp only [spS, if_true]
          rw [spS_skip hx]
          simp only [spS, if_true]
          rw [← h1]
          congr 1
          · simp; (first | lia | omega)
          · (first | lia | omega)
        · rw [h3]
          have hpre : (if (st : Int) ≠ (pre.length : Int) then acc ++ [Txt.slice addr (some (st : Int)) (some (pre.length : Int))] else acc).flatMap (·.cps.toList) = acc.flatMap (·.cps.toList) ++ pre.drop st := by
            split
            · rw [List.flatMap_append]
              simp only [List.flatMap_cons, List.flatMap_nil, List.append_nil]
              rw [slice_cps ⟨hst, by rw [ha]; simp⟩, ha, List.drop_append_of_le_length hst, List.take_append_of_le_length (by simp), List.take_of_length_le (by simp)]
            · rename_i hn
              have : st = pre.length := by (first | lia | omega)
              rw [this, List.drop_length, List.append_nil]
          have hd : (pre ++ 34 :: (x ++ [34])).drop (pre.length + x.length + 2) = [] := List.drop_of_length_le (by simp only [List.length_append, List.length_cons, List.length_nil]; (first | lia | omega))
          have hf : (It.qu 34 x :: r).filter It.shown = r.filter It.shown := rfl
          rw [hpre, hd, hf, List.append_nil]
theorem flat_34 : ∀ (is : List It), (∀ i ∈ is, i.plainQ) → 34 ∉ flatI is → is.filter It.shown = is
  | [], _, _ => rfl
  | i :: r, h, hn => by
    have h1 : 34 ∉ i.flat := fun hm => hn (List.mem_append_left _ hm)
    have h2 : 34 ∉ flatI r := fun hm => hn (List.mem_append_right _ hm)
    have e := flat_34 r (fun j hj => h j (List.Mem.tail _ hj)) h2
    have hs : i.shown = true := by
      cases i with
      | ch c => rfl
      | qu k x => show (k != 34) = true; simp only [It.flat, List.mem_cons, not_or] at h1; simp; exact fun e => h1.1 e.symm
    rw [List.filter_cons_of_pos hs, e]
theorem strip_law {addr : Str} {is : List It} {tail : List Nat} (ha : addr.cps.toList = flatI is ++ tail) (hok : ∀ i ∈ is, i.plainQ) (ht : Tail tail) : (stripS addr).cps.toList = flatI (is.filter It.shown) ++ tail := by
  unfold stripS
  split
  · obtain ⟨st', acc', h1, h2, h3⟩ := strip_items addr tail ht is hok [] 0 [] (by simpa using ha) (Nat.le_refl _)
    have h1' : spS addr addr.cps.toList 0 0 none [] = ((st' : Int), acc') := by rw [ha]; exact h1
    rw [h1']
    unfold spEnd
    rw [join_cps]
    have h3' : acc'.flatMap (·.cps.toList) ++ addr.cps.toList.drop st' = flatI (is.filter It.shown) ++ tail := by simpa using h3
    rw [← h3']
    have hl : addr.cps.toList.length = addr.length := by simp [Str.length]
    split
    · rw [List.flatMap_append]
      simp only [List.flatMap_cons, List.flatMap_nil, List.append_nil]
      rw [slice_end_cps h2]
    · rename_i hn
      have : addr.cps.toList.length ≤ st' := by dsimp only at hn; (first | lia | omega)
      rw [List.drop_of_length_le this, List.append_nil]
  · rename_i hn
    rw [ha] at hn
    rw [ha, flat_34 is hok fun h => hn (List.mem_append_left _ h)]
end Mine
end
section
open PySem PySem.W PyProof.Rows PySem.Calls
namespace Mine
open StrLaws Builtin.Str
noncomputable def wrL (p : Piece) : List Nat := p.1.cps.toList ++ p.2.cps.toList ++ p.1.cps.toList
theorem wrL_eq (p : Piece) : (writingOf p).cps.toList = wrL p := by simp [writingOf, wrL, Str.cps_append]
noncomputable def letters : List Nat := [97, 98, 32, 39, 40, 41]
theorem repr_letter {q c : Nat} (hq : q = 39 ∨ q = 34) (hc : c ∈ letters) (h : c ≠ q) : reprChar q c = [c] := by
  simp only [letters, List.mem_cons, List.not_mem_nil, or_false] at hc
  rcases hc with rfl | rfl | rfl | rfl | rfl | rfl <;> rcases hq with rfl | rfl <;> first | exact absurd rfl h | decide +kernel
theorem foldl_letters {q : Nat} (hq : q = 39 ∨ q = 34) : ∀ (l : List Nat) (acc : Array Nat), (∀ c ∈ l, c ∈ letters ∧ c ≠ q) → (l.foldl (fun out c => out ++ (reprChar q c).toArray) acc).toList = acc.toList ++ l
  | [], acc, _ => by simp
  | c :: r, acc, h => by
    obtain ⟨h1, h2⟩ := h c (List.Mem.head _)
    rw [List.foldl_cons, repr_letter hq h1 h2, foldl_letters hq r _ fun d hd => h d (List.Mem.tail _ hd)]
    simp
theorem repr_text {x : Str} (h : ∀ c ∈ x.cps.toList, c ∈ letters) : (reprText x).cps.toList = wrL (qmark x, x) := by
  have h34 : x.cps.contains 34 = false := by
    rw [← Array.contains_toList]
    cases e : x.cps.toList.contains 34 with
    | false => rfl
    | true =>
      have := h 34 (by simpa using e)
      exact absurd this (by decide)
  by_cases h39 : 39 ∈ x.cps.toList
  · have hq : reprQuote x = 34 := by
      unfold reprQuote
      have : x.cps.contains 39 = true := by rw [← Array.contains_toList]; simpa using h39
      rw [h34, this]; rfl
    have hm : (qmark x).cps.toList = [34] := by unfold qmark; rw [if_pos h39]; decide +kernel
    unfold reprText
    rw [hq]
    show ((x.cps.foldl (fun out c => out ++ (reprChar 34 c).toArray) #[34]).push 34).toList = _
    rw [Array.toList_push, ← Array.foldl_toList, foldl_letters (.inr rfl) _ _ fun c hc => ⟨h c hc, fun e => by subst e; exact absurd (h 34 hc) (by decide)⟩]
    simp [wrL, hm]
  · have hq : reprQuote x = 39 := by
      unfold reprQuote
      have : x.cps.contains 39 = false := by
        rw [← Array.contains_toList]
        cases e : x.cps.toList.contains 39 with
        | false => rfl
        | true => exact absurd (by simpa using e) h39
      rw [this]; rfl
    have hm : (qmark x).cps.toList = [39] := by unfold qmark; rw [if_neg h39]; decide +kernel
    unfold reprText
    rw [hq]
    show ((x.cps.foldl (fun out c => out ++ (reprChar 39 c).toArray) #[39]).push 39).toList = _
    rw [Array.toList_push, ← Array.foldl_toList, foldl_letters (.inl rfl) _ _ fun c hc => ⟨h c hc, fun e => h39 (e ▸ hc)⟩]
    simp [wrL, hm]
theorem join_comma (x : Str) (r : List Str) : (Str.join (", " : Str) (x :: r)).cps.toList = x.cps.toList ++ r.flatMap fun y => (44 : Nat) :: 32 :: y.cps.toList := by
  induction r generalizing x with
  | nil => simp [Str.join]
  | cons y r ih =>
    show (x ++ (", " : Str) ++ Str.join (", " : Str) (y :: r)).cps.toList = _
    rw [Str.cps_append, Str.cps_append, Array.toList_append, Array.toList_append, ih, show ((", " : Str)).cps.toList = [44, 32] from by decide +kernel]
    simp
theorem wrL_plain (s : String) : wrL (Str.ofString "", Str.ofString s) = (Str.ofString s).cps.toList := by
  unfold wrL
  rw [show (Str.ofString "").cps.toList = [] from by decide +kernel]
  simp
theorem datasOf_len : ∀ ts : List Tr, (datasOf ts).length = ts.length
  | [] => rfl
  | _ :: r => congrArg Nat.succ (datasOf_len r)
mutual
theorem shown_tree : ∀ (t : Tr), t.wide → (dataOf t).shown.cps.toList = (piecesOf t).flatMap wrL
  | .int i, _ => by
    rw [show dataOf (.int i) = .int i from rfl, PyData.shown_int]
    simp only [piecesOf, List.flatMap_cons, List.flatMap_nil, List.append_nil, wrL_plain]
  | .str x, h => by
    rw [show dataOf (.str x) = .str x from rfl, PyData.shown_str, repr_text h.2]
    simp [piecesOf]
  | .node k ts, h => by
    obtain ⟨hk, hl, hw⟩ := h
    have ih := shown_trees ts hw
    have inner : (Str.join (", " : Str) (PyData.shownAll (datasOf ts))).cps.toList = (piecesOfs ts 0).flatMap wrL := by
      cases ts with
      | nil => rfl
      | cons t r =>
        have h2 : Tr.wide t ∧ Tr.wides r := hw
        have it := shown_tree t h2.1
        have ir := shown_trees r h2.2 
        show (Str.join (", " : Str) (PyData.shownAll (dataOf t :: datasOf r))).cps.toList = _
        rw [PyData.shownAll_cons, join_comma, it, ir 0]
        simp [piecesOfs, commaP]
    have hkk : k = 0 ∨ k = 1 := by (first | lia | omega)
    rcases hkk with rfl | rfl
    · show (PyData.list (datasOf ts)).shown.cps.toList = _
      rw [PyData.shown_list]
      simp only [Str.cps_append, Array.toList_append, inner, piecesOf, List.flatMap_cons, List.flatMap_append, openP, shutP]
      rw [if_neg (by decide), if_neg (by simp), if_neg (by decide)]
      simp only [List.flatMap_cons, List.flatMap_nil, List.append_nil, List.nil_append, wrL_plain]
      rw [List.append_assoc]
    · show (PyData.tuple (datasOf ts)).shown.cps.toList = _
      rw [PyData.shown_tuple]
      simp only [Str.cps_append, Array.toList_append, inner, piecesOf, List.flatMap_cons, List.flatMap_append, openP, shutP, datasOf_len]
      simp only [if_true, true_and, wrL_plain]
      by_cases hone : ts.length = 1
      · rw [if_pos (by simpa using hone), if_pos hone]
        simp only [List.flatMap_cons, List.flatMap_nil, List.append_nil, wrL_plain, List.append_assoc]
        rw [show (Str.ofString ",)").cps.toList = [44, 41] from by decide +kernel, show (Str.ofString ",").cps.toList = [44] from by decide +kernel, show (Str.ofString ")").cps.toList = [41] from by decide +kernel]
        rfl
      · rw [if_neg (by simpa using hone), if_neg hone]
        simp only [List.flatMap_nil, List.append_nil, List.nil_append, List.append_assoc]
theorem shown_trees : ∀ (ts : List Tr), Tr.wides ts → ∀ i : Nat, (PyData.shownAll (datasOf ts)).flatMap (fun y => (44 : Nat) :: 32 :: y.cps.toList) = (piecesOfs ts (i + 1)).flatMap wrL
  | [], _, _ => rfl
  | t :: r, h, i => by
    have it := shown_tree t h.1
    have ir := shown_trees r h.2 (i + 1)
    show (PyData.shownAll (dataOf t :: datasOf r)).flatMap _ = _
    rw [PyData.shownAll_cons, List.flatMap_cons, ir]
    simp only [piecesOfs, commaP, List.flatMap_append, List.flatMap_cons, List.flatMap_nil, List.append_nil, Nat.add_one_ne_zero, if_false, wrL_plain, it]
    rw [show (Str.ofString ", ").cps.toList = [44, 32] from by decide +kernel]
    simp
end
end Mine
end
section
open PySem PySem.W PyProof.Rows PySem.Calls
namespace Mine
theorem allLt_memL {d : Nat} {l : List (Addr × Obj)} (h : AllLt d l) : ∀ p ∈ l, @LT.lt Nat _ p.1 d := by
  induction l with
  | nil => intro p hp; cases hp
  | cons a r ih =>
    intro p hp
    rcases List.mem_cons.mp hp with rfl | hp
    · exact h.1
    · exact ih h.2 p hp
theorem lowVals_cons (f : LF) (r : List LF) : (lowVals (f :: r)).toArray = (lowVals r).toArray.push (.ref f.a) := by
  simp [lowVals]
section
variable {h₀ h' : Heap} {L : Addr} {s : Shared} {tk : Nat} {m' m₀ : Str → Option Value} {stored : List Str} {Sl Wy root I a b : Addr} {oS oI : Obj} {k i na nb nw nw2 nb2 : Nat} {kt : Tok} {vs W9 : Array Value} {ts : List Tr} {low : List LF} {cl X9 : List (Addr × Obj)}
noncomputable abbrev NeKf (h₀ : Heap) (L : Addr) (s : Shared) (I : Addr) (oI : Obj) (Sl Wy root : Addr) (oS : Obj) (stored : List Str) (m₀ : Str → Option Value) (i : Nat) (s' : Shared) : Prop :=
  KfEnd h₀ L s [(I, oI)] [I] (fun c : NeS => (Sl, oS) :: NeLed Wy c) (fun _ => []) stored m₀ (fun c => NeP Wy root (i + 1) c ∧ ∀ p ∈ NeLed Wy c, p.1 ≠ Sl) s'
theorem nek_push {l1 l2 : Addr} {kd : Int} {t : Tok} (hX9 : lowLed low a ++ cl = X9) (hW9 : (lowVals low).toArray = W9) (F : Fr h₀ L h' m')
    (N : News h₀ L h' ((l2, listO #[.int kd t, .ref l1] 0) :: (l1, listO #[] 0) :: (I, oI) :: (Sl, oS) :: (b, listO (vs.push (.ref l2)) nb2) :: (Wy, listO ((W9.push (.ref a)).push (.ref l2)) nw2) :: (a, listO #[.int k kt, .ref b] na) :: X9))
    (hl1 : I < l1 ∧ Sl < l1 ∧ b < l1 ∧ Wy < l1 ∧ a < l1 ∧ AllLt l1 X9) (hl2 : l1 < l2 ∧ I < l2 ∧ Sl < l2 ∧ b < l2 ∧ Wy < l2 ∧ a < l2 ∧ AllLt l2 X9)
    (hP : NeP Wy root i ⟨a, b, k, kt, na, vs, nb, ts, low, nw, cl⟩) (h0 : 0 ≤ kd) (h2 : kd < 2) (hd : low.length < 4)
    (hSl : ∀ p ∈ (b, listO vs nb) :: (Wy, listO (W9.push (.ref a)) nw) :: (a, listO #[.int k kt, .ref b] na) :: X9, p.1 ≠ Sl)
    (hap : ∀ p ∈ (Sl, oS) :: (b, listO vs nb) :: (Wy, listO (W9.push (.ref a)) nw) :: (a, listO #[.int k kt, .ref b] na) :: X9, p.1 ≠ I)
    (hr : ∀ z, stored.contains z = false → m' z = m₀ z) : NeKf h₀ L s I oI Sl Wy root oS stored m₀ i { s with heap := h', toks := tk } := by
  obtain ⟨x1, x2, x3, x4, x5, x6⟩ := hl1
  obtain ⟨y0, y1, y2, y3, y4, y5, y6⟩ := hl2
  have z0 : @LT.lt Nat _ l1 l2 := y0
  obtain ⟨kn, rfl⟩ := Int.eq_ofNat_of_zero_le h0
  have hall : ∀ q : Addr, b < q → Wy < q → a < q → AllLt q X9 → ∀ p ∈ NeLed Wy ⟨a, b, k, kt, na, vs, nb, ts, low, nw, cl⟩, p.1 ≠ q := by
    intro q q1 q2 q3 q4 p hp
    simp only [NeLed, NeX, hX9] at hp
    rcases List.mem_cons.mp hp with rfl | hp
    · exact Nat.ne_of_lt q1
    rcases List.mem_cons.mp hp with rfl | hp
    · exact Nat.ne_of_lt q2
    rcases List.mem_cons.mp hp with rfl | hp
    · exact Nat.ne_of_lt q3
    · exact Nat.ne_of_lt (allLt_memL q4 p hp)
  have hP' := NeP.push (nb2 := nb2) (nw' := nw2) (kt' := t) (na' := 0) (nb' := 0) (k' := kn) (a' := l2) (b' := l1) hP (by (first | lia | omega)) hd (Nat.ne_of_lt z0) (hall l2 y3 y4 y5 y6) (hall l1 x3 x4 x5 x6)
  have eL : NeLed Wy ⟨l2, l1, kn, t, 0, #[], 0, [], ⟨a, b, k, kt, na, vs, nb2, ts⟩ :: low, nw2, cl⟩ = (l1, listO #[] 0) :: (Wy, listO ((W9.push (.ref a)).push (.ref l2)) nw2) :: (l2, listO #[.int kn t, .ref l1] 0) :: (b, listO (vs.push (.ref l2)) nb2) :: (a, listO #[.int k kt, .ref b] na) :: X9 := by
    simp only [NeLed, NeX, lowLed, lowVals_cons, hW9, List.cons_append, hX9]
  have hmem : ∀ p ∈ NeLed Wy ⟨l2, l1, kn, t, 0, #[], 0, [], ⟨a, b, k, kt, na, vs, nb2, ts⟩ :: low, nw2, cl⟩, (p ∈ (l2, listO #[.int kn t, .ref l1] 0) :: (l1, listO #[] 0) :: (I, oI) :: (Sl, oS) :: (b, listO (vs.push (.ref l2)) nb2) :: (Wy, listO ((W9.push (.ref a)).push (.ref l2)) nw2) :: (a, listO #[.int k kt, .ref b] na) :: X9) ∧ p.1 ≠ I ∧ p.1 ≠ Sl := by
    intro p hp
    rw [eL] at hp
    rcases List.mem_cons.mp hp with rfl | hp
    · exact ⟨List.Mem.tail _ (List.Mem.head _), Nat.ne_of_gt x1, Nat.ne_of_gt x2⟩
    rcases List.mem_cons.mp hp with rfl | hp
    · exact ⟨List.Mem.tail _ (List.Mem.tail _ (List.Mem.tail _ (List.Mem.tail _ (List.Mem.tail _ (List.Mem.head _))))), hap (Wy, listO (W9.push (.ref a)) nw) (List.Mem.tail _ (List.Mem.tail _ (List.Mem.head _))), hSl (Wy, listO (W9.push (.ref a)) nw) (List.Mem.tail _ (List.Mem.head _))⟩
    rcases List.mem_cons.mp hp with rfl | hp
    · exact ⟨List.Mem.head _, Nat.ne_of_gt y1, Nat.ne_of_gt y2⟩
    rcases List.mem_cons.mp hp with rfl | hp
    · exact ⟨List.Mem.tail _ (List.Mem.tail _ (List.Mem.tail _ (List.Mem.tail _ (List.Mem.head _)))), hap (b, listO vs nb) (List.Mem.tail _ (List.Mem.head _)), hSl (b, listO vs nb) (List.Mem.head _)⟩
    · exact ⟨List.Mem.tail _ (List.Mem.tail _ (List.Mem.tail _ (List.Mem.tail _ (List.Mem.tail _ (List.Mem.tail _ hp))))), hap p (List.Mem.tail _ (List.Mem.tail _ (List.Mem.tail _ hp))), hSl p (List.Mem.tail _ (List.Mem.tail _ hp))⟩
  refine kf_end _ F N (fun p hp => ?_) (fun p hp => ?_) (fun _ h => nomatch h) (fun z _ hz => hr z hz) ⟨hP', fun p hp => (hmem p hp).2.2⟩
  · rw [List.mem_singleton.mp hp]; exact List.Mem.tail _ (List.Mem.tail _ (List.Mem.head _))
  · rw [List.mem_singleton]
    rcases List.mem_cons.mp hp with rfl | hp
    · exact ⟨List.Mem.tail _ (List.Mem.tail _ (List.Mem.tail _ (List.Mem.head _))), hap (Sl, oS) (List.Mem.head _)⟩
    · exact ⟨(hmem p hp).1, (hmem p hp).2.1⟩
theorem nek_leaf {v : Value} {t : Tr} (hX9 : lowLed low a ++ cl = X9) (hW9 : (lowVals low).toArray = W9) (F : Fr h₀ L h' m')
    (N : News h₀ L h' ((I, oI) :: (Sl, oS) :: (b, listO (vs.push v) nb2) :: (Wy, listO (W9.push (.ref a)) nw) :: (a, listO #[.int k kt, .ref b] na) :: X9))
    (hP : NeP Wy root i ⟨a, b, k, kt, na, vs, nb, ts, low, nw, cl⟩) (hv : TrIn cl v t) (hw : t.wide) (hs : t.size = 1)
    (hSl : ∀ p ∈ (b, listO vs nb) :: (Wy, listO (W9.push (.ref a)) nw) :: (a, listO #[.int k kt, .ref b] na) :: X9, p.1 ≠ Sl)
    (hap : ∀ p ∈ (Sl, oS) :: (b, listO vs nb) :: (Wy, listO (W9.push (.ref a)) nw) :: (a, listO #[.int k kt, .ref b] na) :: X9, p.1 ≠ I)
    (hr : ∀ z, stored.contains z = false → m' z = m₀ z) : NeKf h₀ L s I oI Sl Wy root oS stored m₀ i { s with heap := h', toks := tk } := by
  have eL : NeLed Wy ⟨a, b, k, kt, na, vs.push v, nb2, ts ++ [t], low, nw, cl⟩ = (b, listO (vs.push v) nb2) :: (Wy, listO (W9.push (.ref a)) nw) :: (a, listO #[.int k kt, .ref b] na) :: X9 := by
    simp only [NeLed, NeX, hW9, hX9]
  refine kf_end ⟨a, b, k, kt, na, vs.push v, nb2, ts ++ [t], low, nw, cl⟩ F N (fun p hp => ?_) (fun p hp => ?_) (fun _ h => nomatch h) (fun z _ hz => hr z hz) ⟨NeP.leaf hP hv hw hs nb2, fun p hp => ?_⟩
  · rw [List.mem_singleton.mp hp]; exact List.Mem.head _
  · rw [List.mem_singleton]
    rcases List.mem_cons.mp hp with rfl | hp
    · exact ⟨List.Mem.tail _ (List.Mem.head _), hap (Sl, oS) (List.Mem.head _)⟩
    rw [eL] at hp
    refine ⟨List.Mem.tail _ (List.Mem.tail _ hp), ?_⟩
    rcases List.mem_cons.mp hp with rfl | hp
    · exact hap (b, listO vs nb) (List.Mem.tail _ (List.Mem.head _))
    · exact hap p (List.Mem.tail _ (List.Mem.tail _ hp))
  · rw [eL] at hp
    rcases List.mem_cons.mp hp with rfl | hp
    · exact hSl (b, listO vs nb) (List.Mem.head _)
    · exact hSl p (List.Mem.tail _ hp)
theorem nek_pop {f : LF} {r : List LF} (hX9 : lowLed (f :: r) a ++ cl = X9) (hW9 : (lowVals (f :: r)).toArray = W9) (F : Fr h₀ L h' m')
    (N : News h₀ L h' ((I, oI) :: (Sl, oS) :: (b, listO vs nb) :: (Wy, listO W9 nw2) :: (a, listO #[.int k kt, .ref b] na) :: X9))
    (hP : NeP Wy root i ⟨a, b, k, kt, na, vs, nb, ts, f :: r, nw, cl⟩) (hi : i ≤ 20)
    (hSl : ∀ p ∈ (b, listO vs nb) :: (Wy, listO (W9.push (.ref a)) nw) :: (a, listO #[.int k kt, .ref b] na) :: X9, p.1 ≠ Sl)
    (hap : ∀ p ∈ (Sl, oS) :: (b, listO vs nb) :: (Wy, listO (W9.push (.ref a)) nw) :: (a, listO #[.int k kt, .ref b] na) :: X9, p.1 ≠ I)
    (hr : ∀ z, stored.contains z = false → m' z = m₀ z) : NeKf h₀ L s I oI Sl Wy root oS stored m₀ i { s with heap := h', toks := tk } := by
  have hP' := NeP.pop (nw' := nw2) hP hi rfl
  have hmem : ∀ p ∈ NeLed Wy ⟨f.a, f.b, f.k, f.kt, f.na, f.vs.push (.ref a), f.nb, f.ts ++ [.node k ts], r, nw2, (b, listO vs nb) :: (a, listO #[.int k kt, .ref b] na) :: cl⟩, p ∈ (b, listO vs nb) :: (Wy, listO W9 nw2) :: (a, listO #[.int k kt, .ref b] na) :: X9 := by
    intro p hp
    rw [lowVals_cons] at hW9
    simp only [NeLed, NeX, hW9] at hp
    subst hX9
    simp only [lowLed, List.cons_append]
    rcases List.mem_cons.mp hp with rfl | hp
    · exact List.Mem.tail _ (List.Mem.tail _ (List.Mem.tail _ (List.Mem.head _)))
    rcases List.mem_cons.mp hp with rfl | hp
    · exact List.Mem.tail _ (List.Mem.head _)
    rcases List.mem_cons.mp hp with rfl | hp
    · exact List.Mem.tail _ (List.Mem.tail _ (List.Mem.tail _ (List.Mem.tail _ (List.Mem.head _))))
    rcases List.mem_append.mp hp with hp | hp
    · exact List.Mem.tail _ (List.Mem.tail _ (List.Mem.tail _ (List.Mem.tail _ (List.Mem.tail _ (List.mem_append_left _ hp)))))
    rcases List.mem_cons.mp hp with rfl | hp
    · exact List.Mem.head _
    rcases List.mem_cons.mp hp with rfl | hp
    · exact List.Mem.tail _ (List.Mem.tail _ (List.Mem.head _))
    · exact List.Mem.tail _ (List.Mem.tail _ (List.Mem.tail _ (List.Mem.tail _ (List.Mem.tail _ (List.mem_append_right _ hp)))))
  have hoff : ∀ (q : Addr), (∀ p ∈ (b, listO vs nb) :: (Wy, listO (W9.push (.ref a)) nw) :: (a, listO #[.int k kt, .ref b] na) :: X9, p.1 ≠ q) → ∀ p ∈ (b, listO vs nb) :: (Wy, listO W9 nw2) :: (a, listO #[.int k kt, .ref b] na) :: X9, p.1 ≠ q := by
    intro q hq p hp
    rcases List.mem_cons.mp hp with rfl | hp
    · exact hq (b, listO vs nb) (List.Mem.head _)
    rcases List.mem_cons.mp hp with rfl | hp
    · exact hq (Wy, listO (W9.push (.ref a)) nw) (List.Mem.tail _ (List.Mem.head _))
    · exact hq p (List.Mem.tail _ (List.Mem.tail _ hp))
  refine kf_end _ F N (fun p hp => ?_) (fun p hp => ?_) (fun _ h => nomatch h) (fun z _ hz => hr z hz) ⟨hP', fun p hp => hoff Sl hSl p (hmem p hp)⟩
  · rw [List.mem_singleton.mp hp]; exact List.Mem.head _
  · rw [List.mem_singleton]
    rcases List.mem_cons.mp hp with rfl | hp
    · exact ⟨List.Mem.tail _ (List.Mem.head _), hap (Sl, oS) (List.Mem.head _)⟩
    · exact ⟨List.Mem.tail _ (List.Mem.tail _ (hmem p hp)), hoff I (fun q hq => hap q (List.Mem.tail _ hq)) p (hmem p hp)⟩
end
/-- the word's bound -/
noncomputable def wbnd : Nat → Int
  | 0 => 0
  | j + 1 => 6 * (wbnd j + 1)
structure WoS where
  w : Str
  wt : Tok
  n : Int
  nt : Tok
structure WoP (c : WoS) : Prop where
  n0 : 0 ≤ c.n
  len : c.w.length ≤ 7
  bnd : c.n ≤ wbnd (7 - c.w.length)
  signs : ∀ x ∈ c.w.cps.toList, x ∈ [97, 98, 32, 39, 40, 41]
theorem wo_item {r : Int} (h0 : 0 ≤ r) (h6 : r < 6) : ∃ c, Txt.item (Str.ofString "ab '()") r = ⟨#[c]⟩ ∧ c ∈ [97, 98, 32, 39, 40, 41] := by
  have : r = 0 ∨ r = 1 ∨ r = 2 ∨ r = 3 ∨ r = 4 ∨ r = 5 := by (first | lia | omega)
  rcases this with rfl | rfl | rfl | rfl | rfl | rfl
  · exact ⟨97, by decide +kernel, by decide⟩
  · exact ⟨98, by decide +kernel, by decide⟩
  · exact ⟨32, by decide +kernel, by decide⟩
  · exact ⟨39, by decide +kernel, by decide⟩
  · exact ⟨40, by decide +kernel, by decide⟩
  · exact ⟨41, by decide +kernel, by decide⟩
theorem WoP.step {c : WoS} (h : WoP c) (hn : 0 < c.n) (wt' nt' : Tok) : WoP ⟨c.w ++ Txt.item (Str.ofString "ab '()") ((c.n - 1).fmod 6), wt', (c.n - 1).fdiv 6, nt'⟩ ∧ ((c.n - 1).fdiv 6).toNat < c.n.toNat := by
  obtain ⟨h0, h1, h2, h3⟩ := h
  have e1 : (c.n - 1).fmod 6 = (c.n - 1) % 6 := by rw [Int.fmod_eq_emod_of_nonneg _ (by decide)]
  have e2 : (c.n - 1).fdiv 6 = (c.n - 1) / 6 := by rw [Int.fdiv_eq_ediv_of_nonneg _ (by decide)]
  rw [e1, e2]
  obtain ⟨x, hx, hm⟩ := wo_item (r := (c.n - 1) % 6) (by (first | lia | omega)) (by (first | lia | omega))
  rw [hx]
  have hl : c.w.length < 7 := by
    rcases Nat.lt_or_ge c.w.length 7 with h | h
    · exact h
    · have : 7 - c.w.length = 0 := by (first | lia | omega)
      rw [this] at h2
      have : c.n ≤ 0 := h2
      (first | lia | omega)
  have hlen : (c.w ++ (⟨#[x]⟩ : Str)).length = c.w.length + 1 := by rw [Str.length_append]; rfl
  refine ⟨⟨?_, ?_, ?_, ?_⟩, by (first | lia | omega)⟩
  · show 0 ≤ (c.n - 1) / 6; (first | lia | omega)
  · show (c.w ++ (⟨#[x]⟩ : Str)).length ≤ 7; rw [hlen]; (first | lia | omega)
  · show (c.n - 1) / 6 ≤ wbnd (7 - (c.w ++ (⟨#[x]⟩ : Str)).length)
    rw [hlen]
    have e : 7 - c.w.length = (7 - (c.w.length + 1)) + 1 := by (first | lia | omega)
    rw [e] at h2
    have h2' : c.n ≤ 6 * (wbnd (7 - (c.w.length + 1)) + 1) := h2
    (first | lia | omega)
  · intro y hy
    change y ∈ (c.w ++ (⟨#[x]⟩ : Str)).cps.toList at hy
    rw [Str.cps_append, Array.toList_append] at hy
    rcases List.mem_append.mp hy with hy | hy
    · exact h3 y hy
    · have : y = x := by simpa using hy
      rw [this]; exact hm
end Mine
end
section
open PySem PySem.W PyProof.Rows
set_option maxHeartbeats 8000000
/- The names Mine.hd.tw.. are taken so that the walker's makeTwin lays no twins of the head's own constants: with the twins the compiled file is over 220 MB. -/
namespace Mine.hd
theorem tw4971549296188076032 : True := trivial
theorem tw8735263284916673568 : True := trivial
theorem tw4523669819894539328 : True := trivial
theorem tw546821695630378048 : True := trivial
theorem tw6276725880618359904 : True := trivial
theorem tw17470177872615007328 : True := trivial
theorem tw16412773359747925120 : True := trivial
theorem tw4706079058837389440 : True := trivial
theorem tw5292301768408028288 : True := trivial
theorem tw6830512106363814048 : True := trivial
theorem tw10458740792067480800 : True := trivial
theorem tw17956543221229664512 : True := trivial
theorem tw16759147789766475008 : True := trivial
theorem tw11109741339103130912 : True := trivial
theorem tw17387473266821786944 : True := trivial
theorem tw8381844023166312768 : True := trivial
theorem tw10259988299927297344 : True := trivial
theorem tw10763509664835889504 : True := trivial
theorem tw6352655612330318208 : True := trivial
theorem tw8912348807662434688 : True := trivial
theorem tw7023726343779634624 : True := trivial
theorem tw6646985988748340704 : True := trivial
theorem tw3341776385487635968 : True := trivial
theorem tw3911173418732280352 : True := trivial
theorem tw15344866539931968096 : True := trivial
theorem tw1359830224848277088 : True := trivial
theorem tw4494801613693538912 : True := trivial
theorem tw4946210868454251104 : True := trivial
theorem tw7541792107247259296 : True := trivial
theorem tw16154546982801380032 : True := trivial
theorem tw12070654863422294720 : True := trivial
theorem tw11649762642437741248 : True := trivial
theorem tw7080932558258925280 : True := trivial
theorem tw4730091804998409952 : True := trivial
theorem tw17183224562656869120 : True := trivial
theorem tw15643275761693703936 : True := trivial
theorem tw5715356086224469760 : True := trivial
theorem tw15278966056882409248 : True := trivial
theorem tw3887682987991473952 : True := trivial
theorem tw5983496337302601536 : True := trivial
theorem tw16635604280276938560 : True := trivial
theorem tw1632911306035174240 : True := trivial
theorem tw15152743547302097792 : True := trivial
theorem tw3350930974749635488 : True := trivial
theorem tw14598272352848978880 : True := trivial
theorem tw10752148897807903841 : True := trivial
theorem tw6636792957720756321 : True := trivial
theorem tw12127338746724423809 : True := trivial
theorem tw7610815399733428385 : True := trivial
theorem tw10403243965636340961 : True := trivial
theorem tw13129650132239662433 : True := trivial
theorem tw12629531694177875297 : True := trivial
theorem tw16858285156579221889 : True := trivial
theorem tw4111692666942324129 : True := trivial
theorem tw4086058157674990017 : True := trivial
theorem tw7512474625130614241 : True := trivial
theorem tw9429285754427346401 : True := trivial
theorem tw16037735763661986305 : True := trivial
theorem tw15220180469806662145 : True := trivial
theorem tw2315301623876862497 : True := trivial
theorem tw12886791399504256577 : True := trivial
theorem tw4367455430839740993 : True := trivial
theorem tw18343703819029505601 : True := trivial
theorem tw8773699223549846113 : True := trivial
theorem tw10678649693572172417 : True := trivial
theorem tw2371736936440567457 : True := trivial
theorem tw5343241284826551009 : True := trivial
theorem tw2799716289819351777 : True := trivial
theorem tw6046454685291232161 : True := trivial
theorem tw8887996145723391905 : True := trivial
theorem tw12602439190401603521 : True := trivial
theorem tw7914949630228597729 : True := trivial
theorem tw11210553801493137410 : True := trivial
theorem tw8609351116199087170 : True := trivial
theorem tw14745743045033390146 : True := trivial
theorem tw10905682514733158466 : True := trivial
theorem tw15630680890609703042 : True := trivial
theorem tw5592821105494180994 : True := trivial
theorem tw5480042469492414594 : True := trivial
theorem tw6308581086252854402 : True := trivial
theorem tw4210835263042620578 : True := trivial
theorem tw4272726840584523970 : True := trivial
theorem tw9731375825926819010 : True := trivial
theorem tw6856571771905070274 : True := trivial
theorem tw13171141561276507362 : True := trivial
theorem tw9430268157657104642 : True := trivial
theorem tw13919464512627920130 : True := trivial
theorem tw12936449754285732098 : True := trivial
theorem tw12337632362937886050 : True := trivial
theorem tw3478764184967624034 : True := trivial
theorem tw758273949599710562 : True := trivial
theorem tw17588044629489971554 : True := trivial
theorem tw11052946933831473538 : True := trivial
theorem tw11713075325732132258 : True := trivial
theorem tw11912922877643110818 : True := trivial
theorem tw4355604671862981090 : True := trivial
theorem tw5781342201191254626 : True := trivial
theorem tw7031273417212677730 : True := trivial
theorem tw5549315172176941698 : True := trivial
theorem tw15064902949301533346 : True := trivial
theorem tw4521580383011477154 : True := trivial
theorem tw5190246844813560578 : True := trivial
theorem tw13064122474441708322 : True := trivial
theorem tw3173010612589774626 : True := trivial
theorem tw9960721518486171458 : True := trivial
theorem tw16443024508289211202 : True := trivial
theorem tw14446474709323646786 : True := trivial
theorem tw10365702040365258594 : True := trivial
theorem tw4581847759332874082 : True := trivial
theorem tw5360435025570183010 : True := trivial
theorem tw8450674356893351874 : True := trivial
theorem tw18203504233945503714 : True := trivial
theorem tw18245042118932799458 : True := trivial
theorem tw17994825080979385314 : True := trivial
theorem tw8179070454071193570 : True := trivial
theorem tw2263123870574935043 : True := trivial
theorem tw8531993380330477603 : True := trivial
theorem tw15618049606547972131 : True := trivial
theorem tw5378308252288859171 : True := trivial
theorem tw12364972598781006883 : True := trivial
theorem tw8228950375871286339 : True := trivial
theorem tw1882180444382439491 : True := trivial
theorem tw6052482589124101219 : True := trivial
theorem tw17325209927041812611 : True := trivial
theorem tw9048539425550374019 : True := trivial
theorem tw5318216170032084099 : True := trivial
theorem tw17845618019537910915 : True := trivial
theorem tw2304311442786299043 : True := trivial
theorem tw13001811119718631651 : True := trivial
theorem tw12704988097186499811 : True := trivial
theorem tw16904818350239718627 : True := trivial
theorem tw3660579746685279459 : True := trivial
theorem tw18322514126500204803 : True := trivial
theorem tw17130151131035750659 : True := trivial
theorem tw15924899543223041283 : True := trivial
theorem tw1033889070964956483 : True := trivial
theorem tw3229955645248102723 : True := trivial
theorem tw5174551420813472067 : True := trivial
theorem tw867598499069673859 : True := trivial
theorem tw11754176132448286083 : True := trivial
theorem tw6411954120941647267 : True := trivial
theorem tw7489763959799892387 : True := trivial
theorem tw1760603350576429475 : True := trivial
theorem tw17087091549796120035 : True := trivial
theorem tw12453114486196615683 : True := trivial
theorem tw4878824753759274627 : True := trivial
theorem tw3504079246686126755 : True := trivial
theorem tw9153386212771759811 : True := trivial
theorem tw17002781174329755331 : True := trivial
theorem tw11513968764499736323 : True := trivial
theorem tw9908193460736022307 : True := trivial
theorem tw5138769234217329475 : True := trivial
theorem tw2480057099694739299 : True := trivial
theorem tw11631947586910100387 : True := trivial
theorem tw18293851220164018083 : True := trivial
theorem tw11629707937479629763 : True := trivial
theorem tw16477043939570097188 : True := trivial
theorem tw6060742912462422084 : True := trivial
theorem tw6320253292602491972 : True := trivial
theorem tw14896477498954680388 : True := trivial
theorem tw8269573656231971908 : True := trivial
theorem tw6213412439835118660 : True := trivial
theorem tw6407587892757256292 : True := trivial
theorem tw9228397985900620932 : True := trivial
theorem tw6785817131721698500 : True := trivial
theorem tw5278057926702712004 : True := trivial
theorem tw10841399608879689956 : True := trivial
theorem tw1299046323782801668 : True := trivial
theorem tw10507497572311344420 : True := trivial
theorem tw14706022693812145444 : True := trivial
theorem tw14892549342360969540 : True := trivial
theorem tw13855946660403688772 : True := trivial
theorem tw9330943631129107780 : True := trivial
theorem tw8068729725432388964 : True := trivial
theorem tw3132252637357597028 : True := trivial
theorem tw3722166409189360004 : True := trivial
theorem tw18358800413957953924 : True := trivial
theorem tw7676003278276379012 : True := trivial
theorem tw3219085151875037572 : True := trivial
theorem tw1445366717492459972 : True := trivial
theorem tw11465210709893060100 : True := trivial
theorem tw8493152586797012548 : True := trivial
theorem tw12861998865439983172 : True := trivial
theorem tw469108185253701220 : True := trivial
theorem tw7175568609137494628 : True := trivial
theorem tw7379015992945566340 : True := trivial
theorem tw2323474266016966308 : True := trivial
theorem tw17001982702790524580 : True := trivial
theorem tw9013056391748086436 : True := trivial
theorem tw5732804406350252772 : True := trivial
theorem tw1241404454085649124 : True := trivial
theorem tw9990345226319884068 : True := trivial
theorem tw17583924267553061668 : True := trivial
theorem tw7076163891533521732 : True := trivial
theorem tw18241275227582772068 : True := trivial
theorem tw6800881396052196260 : True := trivial
theorem tw3810627165162067908 : True := trivial
theorem tw14991384322417631237 : True := trivial
theorem tw11705485924828162053 : True := trivial
theorem tw9827871491327765605 : True := trivial
theorem tw13122850982685727845 : True := trivial
theorem tw3333689412089963621 : True := trivial
theorem tw8356816923877370021 : True := trivial
theorem tw2729298822523640997 : True := trivial
theorem tw7355570028127101125 : True := trivial
theorem tw12414669353804360901 : True := trivial
theorem tw8881176148764397765 : True := trivial
theorem tw4074112789689628901 : True := trivial
theorem tw11375277706881905925 : True := trivial
theorem tw6305734824756694309 : True := trivial
theorem tw4292457097857839397 : True := trivial
theorem tw9702936160620672325 : True := trivial
theorem tw3405361230339686725 : True := trivial
theorem tw10258999931320997221 : True := trivial
theorem tw15910714762333108613 : True := trivial
theorem tw18159583340796038533 : True := trivial
theorem tw12399718760709695909 : True := trivial
theorem tw4021928978595405253 : True := trivial
theorem tw1847840615245081061 : True := trivial
theorem tw9942979801534940709 : True := trivial
theorem tw15790720579355451973 : True := trivial
theorem tw5167245352685981253 : True := trivial
theorem tw10864181315108502085 : True := trivial
theorem tw18160293313031310949 : True := trivial
theorem tw12642813592246648485 : True := trivial
theorem tw11251137523995926341 : True := trivial
theorem tw6438293893037913957 : True := trivial
theorem tw10031445930688152421 : True := trivial
theorem tw1010046679102907301 : True := trivial
theorem tw5505005885091257285 : True := trivial
theorem tw3372473842723580901 : True := trivial
theorem tw13475242022060392486 : True := trivial
theorem tw2562236817408797766 : True := trivial
theorem tw6555240042291301478 : True := trivial
theorem tw13181700845877081190 : True := trivial
theorem tw6181573660694698118 : True := trivial
theorem tw16692772259055178886 : True := trivial
theorem tw10583446816852156582 : True := trivial
theorem tw13466754112058979494 : True := trivial
theorem tw5899666649113621702 : True := trivial
theorem tw2871226400543044806 : True := trivial
theorem tw3484992998616243462 : True := trivial
theorem tw7628703163842673926 : True := trivial
theorem tw8472141830624432390 : True := trivial
theorem tw3088336149111003398 : True := trivial
theorem tw8268277133935991078 : True := trivial
theorem tw16211521421427940678 : True := trivial
theorem tw212345690472687942 : True := trivial
theorem tw7523672394736509286 : True := trivial
theorem tw3673020696563887462 : True := trivial
theorem tw13092906067662860646 : True := trivial
theorem tw11778180911958503814 : True := trivial
theorem tw4236939551973088646 : True := trivial
theorem tw102014493982917126 : True := trivial
theorem tw13066319289922817542 : True := trivial
theorem tw2386827423013361158 : True := trivial
theorem tw3795277891434052102 : True := trivial
theorem tw10424393626065333798 : True := trivial
theorem tw5927567313105069670 : True := trivial
theorem tw17258206423299326598 : True := trivial
theorem tw11180023125335031430 : True := trivial
theorem tw17562767543260142214 : True := trivial
theorem tw13903934854276604550 : True := trivial
theorem tw1865391376527767206 : True := trivial
theorem tw4993660671451451078 : True := trivial
theorem tw13437812931772313286 : True := trivial
theorem tw1506431575118746342 : True := trivial
theorem tw8990313861142287110 : True := trivial
theorem tw11587034568685482758 : True := trivial
theorem tw13893168526513508166 : True := trivial
theorem tw7153062008950511462 : True := trivial
theorem tw9386895884608548742 : True := trivial
theorem tw6014424301940151174 : True := trivial
theorem tw8934143017859847078 : True := trivial
theorem tw18152756486534528934 : True := trivial
theorem tw1589133516308662214 : True := trivial
theorem tw10117440562283002822 : True := trivial
theorem tw2450686747263038406 : True := trivial
theorem tw5978321128707920903 : True := trivial
theorem tw5574845727924001799 : True := trivial
theorem tw3589011483332685831 : True := trivial
theorem tw1256466517863071783 : True := trivial
theorem tw17101829828953933863 : True := trivial
theorem tw15043168886218598503 : True := trivial
theorem tw10844753989422098599 : True := trivial
theorem tw15683763237869141255 : True := trivial
theorem tw17062030032774818151 : True := trivial
theorem tw17919194246423945575 : True := trivial
theorem tw10819331528351526247 : True := trivial
theorem tw18362790893298522503 : True := trivial
theorem tw11845739042510646663 : True := trivial
theorem tw14612060388864693735 : True := trivial
theorem tw5635641802508607975 : True := trivial
theorem tw12659318050587179527 : True := trivial
theorem tw14143440724895482407 : True := trivial
theorem tw2394040479862359591 : True := trivial
theorem tw3109861748172591687 : True := trivial
theorem tw18235018827726667335 : True := trivial
theorem tw9557236495431379559 : True := trivial
theorem tw13280443560766958183 : True := trivial
theorem tw12058812876911547015 : True := trivial
theorem tw10849272910044215975 : True := trivial
theorem tw4449123307109862055 : True := trivial
theorem tw7068711184596962023 : True := trivial
theorem tw16246848685605474055 : True := trivial
theorem tw5054737718236178183 : True := trivial
theorem tw8960069828448710407 : True := trivial
theorem tw17672654358674132775 : True := trivial
theorem tw701787995468756871 : True := trivial
theorem tw6469175993241445255 : True := trivial
theorem tw16138627921320673191 : True := trivial
theorem tw5405509625223553959 : True := trivial
theorem tw8545014587354053640 : True := trivial
theorem tw190519026028168232 : True := trivial
theorem tw15001097145646765096 : True := trivial
theorem tw7372000682148998216 : True := trivial
theorem tw5814283452226095208 : True := trivial
theorem tw8671608845466749128 : True := trivial
theorem tw4091639524402994376 : True := trivial
theorem tw10286656452748174568 : True := trivial
theorem tw13642289790063256904 : True := trivial
theorem tw8197050154876552520 : True := trivial
theorem tw10246146449241189800 : True := trivial
theorem tw16920754564084929960 : True := trivial
theorem tw6824622198901579176 : True := trivial
theorem tw12949589719889679912 : True := trivial
theorem tw6038821095411175016 : True := trivial
theorem tw5464967688985200232 : True := trivial
theorem tw18268791191939849864 : True := trivial
theorem tw17159668400989385352 : True := trivial
theorem tw2708950531961675432 : True := trivial
theorem tw4297731678662094536 : True := trivial
theorem tw4642405928176397000 : True := trivial
theorem tw960944832710211464 : True := trivial
theorem tw14205177575709318024 : True := trivial
theorem tw17975533764899295144 : True := trivial
theorem tw6627881031435992008 : True := trivial
theorem tw7792395482447073224 : True := trivial
theorem tw16376525773666504680 : True := trivial
theorem tw3259873300814134281 : True := trivial
theorem tw4310969922304039945 : True := trivial
theorem tw7174315439194531881 : True := trivial
theorem tw9850052858527491113 : True := trivial
theorem tw2040990291671593033 : True := trivial
theorem tw17066044127408595049 : True := trivial
theorem tw8959176491354863721 : True := trivial
theorem tw12565835363266740329 : True := trivial
theorem tw14567429538950270057 : True := trivial
theorem tw4527685146903026889 : True := trivial
theorem tw11841407262063887625 : True := trivial
theorem tw844454113641010441 : True := trivial
theorem tw10788059911547816233 : True := trivial
theorem tw16826083622388986153 : True := trivial
theorem tw3890083515106143593 : True := trivial
theorem tw11729958736954745289 : True := trivial
theorem tw1129884963351977449 : True := trivial
theorem tw8184699220007379433 : True := trivial
theorem tw15054049728407801353 : True := trivial
theorem tw137786328141462057 : True := trivial
theorem tw1362751533348561449 : True := trivial
theorem tw5009564483982726761 : True := trivial
theorem tw17925215291927510665 : True := trivial
theorem tw567884609423149705 : True := trivial
theorem tw663384727985864361 : True := trivial
theorem tw14314603270127236809 : True := trivial
theorem tw9627899436633539337 : True := trivial
theorem tw10258225898301398825 : True := trivial
theorem tw243823211424636713 : True := trivial
theorem tw15342534925296498473 : True := trivial
theorem tw2580477087445282633 : True := trivial
theorem tw14817486215969520457 : True := trivial
theorem tw9566141503761928105 : True := trivial
theorem tw14189342980343032745 : True := trivial
theorem tw5148922909946612681 : True := trivial
theorem tw11407884054146074569 : True := trivial
theorem tw714852897916480489 : True := trivial
theorem tw3915529967508079626 : True := trivial
theorem tw18264374347568628810 : True := trivial
theorem tw15042006015671813226 : True := trivial
theorem tw6906073325868019850 : True := trivial
theorem tw13217225542625558698 : True := trivial
theorem tw7120233287515763914 : True := trivial
theorem tw16009884308244765898 : True := trivial
theorem tw2960447077969926378 : True := trivial
theorem tw6898005170327248138 : True := trivial
theorem tw10778257442750969130 : True := trivial
theorem tw9406673726873002282 : True := trivial
theorem tw7626941382939369770 : True := trivial
theorem tw6804821044290156842 : True := trivial
theorem tw10314088207596747050 : True := trivial
theorem tw5416991563250132298 : True := trivial
theorem tw16794629799341752650 : True := trivial
theorem tw7654286748164834634 : True := trivial
theorem tw4383666589626881386 : True := trivial
theorem tw9983995961361265002 : True := trivial
theorem tw17447410573909459338 : True := trivial
theorem tw9864973744126774698 : True := trivial
theorem tw15337868472472888810 : True := trivial
theorem tw14492701947808656938 : True := trivial
theorem tw242841246431481386 : True := trivial
theorem tw17143205804819765802 : True := trivial
theorem tw6528754448969337418 : True := trivial
theorem tw15591429051563716170 : True := trivial
theorem tw10603584201595350602 : True := trivial
theorem tw4360684699965382250 : True := trivial
theorem tw9132557439983319658 : True := trivial
theorem tw1563692795949630186 : True := trivial
theorem tw500953250457666378 : True := trivial
theorem tw1809687716253123402 : True := trivial
theorem tw4975429006339234634 : True := trivial
theorem tw12112201142124510154 : True := trivial
theorem tw4478964076566166474 : True := trivial
theorem tw17737187407176874954 : True := trivial
theorem tw9271970288684553227 : True := trivial
theorem tw5513025101015932971 : True := trivial
theorem tw16823583209533085739 : True := trivial
theorem tw6769732088879122475 : True := trivial
theorem tw12239354291974867115 : True := trivial
theorem tw11128854368766332075 : True := trivial
theorem tw13277076834127875243 : True := trivial
theorem tw3443669649825651883 : True := trivial
theorem tw9449672872311958731 : True := trivial
theorem tw12832683148521936107 : True := trivial
theorem tw18176940659606848779 : True := trivial
theorem tw17628472586750557451 : True := trivial
theorem tw11917015161858427179 : True := trivial
theorem tw6449127861642672459 : True := trivial
theorem tw9170477692918782315 : True := trivial
theorem tw17070941380808615275 : True := trivial
theorem tw10030107230732127627 : True := trivial
theorem tw15463257786427224491 : True := trivial
theorem tw313027258313007627 : True := trivial
theorem tw6683769817339685419 : True := trivial
theorem tw16742648372681657963 : True := trivial
theorem tw7534799579077118603 : True := trivial
theorem tw37099724090138251 : True := trivial
theorem tw9741134391959003819 : True := trivial
theorem tw15089522573102190283 : True := trivial
theorem tw14333710738500927179 : True := trivial
theorem tw10743916045514856203 : True := trivial
theorem tw9748044761591592747 : True := trivial
theorem tw8727321023445011275 : True := trivial
theorem tw2999033326186475339 : True := trivial
theorem tw8242931771332617035 : True := trivial
theorem tw8716120427605611371 : True := trivial
theorem tw6196171512934965099 : True := trivial
theorem tw978945382295711627 : True := trivial
theorem tw16896567674234606475 : True := trivial
theorem tw7640094616464845771 : True := trivial
theorem tw6264232113106981867 : True := trivial
theorem tw15033227074091944939 : True := trivial
theorem tw12353913968525425643 : True := trivial
theorem tw4315991029959535628 : True := trivial
theorem tw8151903124980380684 : True := trivial
theorem tw6394381022753523788 : True := trivial
theorem tw13217827037086042188 : True := trivial
theorem tw12647368939536790636 : True := trivial
theorem tw6186238094035137676 : True := trivial
theorem tw1043307727769730188 : True := trivial
theorem tw3922637787740509324 : True := trivial
theorem tw1535757262459896012 : True := trivial
theorem tw14060154772996877548 : True := trivial
theorem tw5667655126489319660 : True := trivial
theorem tw7867956165831070988 : True := trivial
theorem tw16299908979028503884 : True := trivial
theorem tw12092154237167983948 : True := trivial
theorem tw8977460988437922124 : True := trivial
theorem tw2930668341846507884 : True := trivial
theorem tw5535567543195554156 : True := trivial
theorem tw17711083657039698284 : True := trivial
theorem tw14454528878903484812 : True := trivial
theorem tw6957150274394394060 : True := trivial
theorem tw12575139184659369484 : True := trivial
theorem tw5873113503399164460 : True := trivial
theorem tw5130813555471234732 : True := trivial
theorem tw17948085552500728524 : True := trivial
theorem tw18185175575083235020 : True := trivial
theorem tw12588582704262371052 : True := trivial
theorem tw7270182246851987180 : True := trivial
theorem tw10292235466723388172 : True := trivial
theorem tw9459050058782445324 : True := trivial
theorem tw14683707025165767436 : True := trivial
theorem tw15368132723985388332 : True := trivial
theorem tw6819123309680001836 : True := trivial
theorem tw12023040214023829324 : True := trivial
theorem tw16171809288044610508 : True := trivial
theorem tw10781468475247234061 : True := trivial
theorem tw15837987909243819085 : True := trivial
theorem tw1409312971732116557 : True := trivial
theorem tw257007361410690125 : True := trivial
theorem tw5010264101278932077 : True := trivial
theorem tw12254263087357419629 : True := trivial
theorem tw13011413612017729677 : True := trivial
theorem tw4833718069199227053 : True := trivial
theorem tw15074197538484233485 : True := trivial
theorem tw14060237666301923597 : True := trivial
theorem tw11942693397608355085 : True := trivial
theorem tw14743440263598761229 : True := trivial
theorem tw13321331477185743149 : True := trivial
theorem tw1820180628909398317 : True := trivial
theorem tw11415386828835887437 : True := trivial
theorem tw16919406825032445293 : True := trivial
theorem tw9325612240067072397 : True := trivial
theorem tw6079173187612997037 : True := trivial
theorem tw8457440626546761165 : True := trivial
theorem tw17386561741084979693 : True := trivial
theorem tw4377701919642642989 : True := trivial
theorem tw3404104791013757517 : True := trivial
theorem tw16828841361933241965 : True := trivial
theorem tw6184208073178115725 : True := trivial
theorem tw13172843250190940813 : True := trivial
theorem tw5036846961687405229 : True := trivial
theorem tw15931116738044738221 : True := trivial
theorem tw4734902545126651661 : True := trivial
theorem tw17606422857730326317 : True := trivial
theorem tw4068527845204499245 : True := trivial
theorem tw10404513684093684653 : True := trivial
theorem tw11249132867342737325 : True := trivial
theorem tw13929354066492186541 : True := trivial
theorem tw1088296927520436173 : True := trivial
theorem tw10614716105012338702 : True := trivial
theorem tw16156708551869547534 : True := trivial
theorem tw12175748835895409678 : True := trivial
theorem tw9398405308114057262 : True := trivial
theorem tw11801993109049149486 : True := trivial
theorem tw9012836324853574702 : True := trivial
theorem tw14980023328507725902 : True := trivial
theorem tw11968265576560266318 : True := trivial
theorem tw14078009766183191694 : True := trivial
theorem tw12232750017996463310 : True := trivial
theorem tw17076082267592564974 : True := trivial
theorem tw14294001040229213422 : True := trivial
theorem tw14914937398881237230 : True := trivial
theorem tw5715734110848049390 : True := trivial
theorem tw17311223219408574766 : True := trivial
theorem tw17989097746536338734 : True := trivial
theorem tw17649441919526076750 : True := trivial
theorem tw10203026625882799534 : True := trivial
theorem tw5850991567925798318 : True := trivial
theorem tw1527624580187611598 : True := trivial
theorem tw5490696432328200686 : True := trivial
theorem tw185848376630758926 : True := trivial
theorem tw12900700647772717614 : True := trivial
theorem tw9330823016148744750 : True := trivial
theorem tw3429492842335990350 : True := trivial
theorem tw12727495553239364174 : True := trivial
theorem tw12952509933414984302 : True := trivial
theorem tw10531373872144210542 : True := trivial
theorem tw12940713784782232206 : True := trivial
theorem tw3608708970678896270 : True := trivial
theorem tw6372862494175223470 : True := trivial
theorem tw1870067075039425230 : True := trivial
theorem tw1781861727890032366 : True := trivial
theorem tw9555612238305686254 : True := trivial
theorem tw15378359858306647822 : True := trivial
theorem tw4159134105002834734 : True := trivial
theorem tw16722109127936396110 : True := trivial
theorem tw2004659784336800654 : True := trivial
theorem tw14553816603554493358 : True := trivial
theorem tw6780557218761844654 : True := trivial
theorem tw9345929723534960622 : True := trivial
theorem tw12268275109542032366 : True := trivial
theorem tw6818987989461384207 : True := trivial
theorem tw13363553139645760527 : True := trivial
theorem tw11507959949525687343 : True := trivial
theorem tw15424705756172794927 : True := trivial
theorem tw1452849714261714991 : True := trivial
theorem tw5289708365253275695 : True := trivial
theorem tw1736311965527578767 : True := trivial
theorem tw10376703724636587151 : True := trivial
theorem tw15616948245753086127 : True := trivial
theorem tw9251471199085437103 : True := trivial
theorem tw17172931820748874959 : True := trivial
theorem tw12676414471582705871 : True := trivial
theorem tw3969467460574380271 : True := trivial
theorem tw2442259710966052079 : True := trivial
theorem tw12521463284412890351 : True := trivial
theorem tw17330132731328240911 : True := trivial
theorem tw858883931015391567 : True := trivial
theorem tw2845207389951388047 : True := trivial
theorem tw12579596248316191183 : True := trivial
theorem tw6082411064634330575 : True := trivial
theorem tw3493717111155160527 : True := trivial
theorem tw16158619036321959407 : True := trivial
theorem tw3759623122121258479 : True := trivial
theorem tw3708379670096615023 : True := trivial
theorem tw9476321141362543215 : True := trivial
theorem tw11024222330075796079 : True := trivial
theorem tw12631932088317031055 : True := trivial
theorem tw11709330566771433103 : True := trivial
theorem tw17471934795394947791 : True := trivial
theorem tw6990203504111849199 : True := trivial
theorem tw17273587926920868623 : True := trivial
theorem tw18095200977026478895 : True := trivial
theorem tw2101469004524951375 : True := trivial
theorem tw2448992281723591503 : True := trivial
theorem tw11319892378374348655 : True := trivial
theorem tw9657781627882305391 : True := trivial
theorem tw12331051067403766639 : True := trivial
theorem tw13315533130655954831 : True := trivial
theorem tw8879563391730754479 : True := trivial
theorem tw16649331688326792143 : True := trivial
theorem tw8811097733284410319 : True := trivial
theorem tw1197925565968671727 : True := trivial
theorem tw15207398651663016943 : True := trivial
theorem tw7839823952615728111 : True := trivial
theorem tw18421049791903953903 : True := trivial
theorem tw10111801491309104144 : True := trivial
theorem tw402640490398009360 : True := trivial
theorem tw6412770499399676944 : True := trivial
theorem tw8801323125487838256 : True := trivial
theorem tw15427206886491885616 : True := trivial
theorem tw8898355551111435312 : True := trivial
theorem tw16011055738799735888 : True := trivial
theorem tw10947331860392259696 : True := trivial
theorem tw1386097877827089520 : True := trivial
theorem tw10216474801634566288 : True := trivial
theorem tw6669269137521125552 : True := trivial
theorem tw5206456813468324048 : True := trivial
theorem tw13944508082162953488 : True := trivial
theorem tw7182994202766372144 : True := trivial
theorem tw10643592516055977328 : True := trivial
theorem tw10491609206876299696 : True := trivial
theorem tw11115866451450875312 : True := trivial
theorem tw7891253978561527248 : True := trivial
theorem tw5135410709514514960 : True := trivial
theorem tw16853341256802265648 : True := trivial
theorem tw13285133528070534704 : True := trivial
theorem tw8931692679765644880 : True := trivial
theorem tw7152984921513172624 : True := trivial
theorem tw3364418463632694928 : True := trivial
theorem tw1712922718373300912 : True := trivial
theorem tw7382370116671421104 : True := trivial
theorem tw4856431653887292112 : True := trivial
theorem tw14667805832236412624 : True := trivial
theorem tw11224897151958998736 : True := trivial
theorem tw13518370688599389936 : True := trivial
theorem tw11551083187376567056 : True := trivial
theorem tw651126834518081296 : True := trivial
theorem tw1421266605352829712 : True := trivial
theorem tw15595854959937240912 : True := trivial
theorem tw12614811148066621264 : True := trivial
theorem tw7752569895197466512 : True := trivial
theorem tw15279998641719260112 : True := trivial
theorem tw16178712458983371728 : True := trivial
theorem tw3434918251397683217 : True := trivial
theorem tw155142512498542641 : True := trivial
theorem tw13790719812936386609 : True := trivial
theorem tw2422473601153944625 : True := trivial
theorem tw12035623454917710897 : True := trivial
theorem tw876933089483189297 : True := trivial
theorem tw15527848837575444561 : True := trivial
theorem tw17213754286329925777 : True := trivial
theorem tw4768578896829404305 : True := trivial
theorem tw2000490053193787569 : True := trivial
theorem tw12447509897640257713 : True := trivial
theorem tw432457690288141553 : True := trivial
theorem tw14705683404202351889 : True := trivial
theorem tw100483095206116625 : True := trivial
theorem tw15946356160694317329 : True := trivial
theorem tw6882427118574961969 : True := trivial
theorem tw1005483496087919985 : True := trivial
theorem tw6615107907471364465 : True := trivial
theorem tw3020821785867171217 : True := trivial
theorem tw16634568088961857937 : True := trivial
theorem tw15852365999677673905 : True := trivial
theorem tw16056359734778111409 : True := trivial
theorem tw2598446214317162929 : True := trivial
theorem tw7082855905992002993 : True := trivial
theorem tw14246236162039180721 : True := trivial
theorem tw11034497122203965937 : True := trivial
theorem tw1557243174674812401 : True := trivial
theorem tw8015326511298524721 : True := trivial
theorem tw13220430256171166289 : True := trivial
theorem tw3828038474966422129 : True := trivial
theorem tw12113243949977362033 : True := trivial
theorem tw908340440784498289 : True := trivial
theorem tw5961118342813265553 : True := trivial
theorem tw1603739661141634737 : True := trivial
theorem tw10933677585905718993 : True := trivial
theorem tw3452591251010201329 : True := trivial
theorem tw6278647508926252785 : True := trivial
theorem tw1208734638264122097 : True := trivial
theorem tw956962677268122417 : True := trivial
theorem tw6545403380812914513 : True := trivial
theorem tw7317836474542784337 : True := trivial
theorem tw8191903926673212241 : True := trivial
theorem tw6578402527460240241 : True := trivial
theorem tw16053994301053490033 : True := trivial
theorem tw9341642984632610673 : True := trivial
theorem tw5716766192118558609 : True := trivial
theorem tw16029623286316568529 : True := trivial
theorem tw7399621439246259153 : True := trivial
theorem tw14586822029978311858 : True := trivial
theorem tw4948343613671549106 : True := trivial
theorem tw16661405048812198066 : True := trivial
theorem tw2391449824757734642 : True := trivial
theorem tw8025032847418708242 : True := trivial
theorem tw11749099774412794130 : True := trivial
theorem tw4432475053497693458 : True := trivial
theorem tw1744074299117110578 : True := trivial
theorem tw9641152695372364146 : True := trivial
theorem tw9499510787657705874 : True := trivial
theorem tw14772383043592177042 : True := trivial
theorem tw15813434630575017362 : True := trivial
theorem tw7754304195085646258 : True := trivial
theorem tw12778418089203562962 : True := trivial
theorem tw5366084841770067474 : True := trivial
theorem tw14031261019411111474 : True := trivial
theorem tw2167537188350426706 : True := trivial
theorem tw5282504435634884242 : True := trivial
theorem tw17377529257436501650 : True := trivial
theorem tw250903467453971090 : True := trivial
theorem tw16257038226119295666 : True := trivial
theorem tw7657299143145469618 : True := trivial
theorem tw5482205457738058418 : True := trivial
theorem tw1580110805410547442 : True := trivial
theorem tw8053944837975664402 : True := trivial
theorem tw10465514089279642386 : True := trivial
theorem tw14560493823538711346 : True := trivial
theorem tw10525666975642140466 : True := trivial
theorem tw9298403506768410418 : True := trivial
theorem tw6293948785866598258 : True := trivial
theorem tw12629568148972539762 : True := trivial
theorem tw2139204274930982770 : True := trivial
theorem tw7296583596125217682 : True := trivial
theorem tw1097998534492414930 : True := trivial
theorem tw8112040973832200146 : True := trivial
theorem tw439843181053141970 : True := trivial
theorem tw15083628210047938546 : True := trivial
theorem tw10601615944963115059 : True := trivial
theorem tw9513423893830186035 : True := trivial
theorem tw17429513623812275283 : True := trivial
theorem tw4724112764586752083 : True := trivial
theorem tw8538877666451538035 : True := trivial
theorem tw1953177486944487603 : True := trivial
theorem tw3694398316872202419 : True := trivial
theorem tw9184186324627900627 : True := trivial
theorem tw10806950440038215891 : True := trivial
theorem tw17454471701868102899 : True := trivial
theorem tw5567388512258382067 : True := trivial
theorem tw5238241317806426387 : True := trivial
theorem tw12590977762386282803 : True := trivial
theorem tw14168552714766633299 : True := trivial
theorem tw16945582573551092051 : True := trivial
theorem tw16006246977917349235 : True := trivial
theorem tw17495340751864218003 : True := trivial
theorem tw16432713993328977331 : True := trivial
theorem tw7793673504863384051 : True := trivial
theorem tw1379335367625716243 : True := trivial
theorem tw17772917993097084435 : True := trivial
theorem tw5363564295841288755 : True := trivial
theorem tw18103342009636024947 : True := trivial
theorem tw3120003603299454579 : True := trivial
theorem tw4115565904173853331 : True := trivial
theorem tw14984183105004643987 : True := trivial
theorem tw3008623586974134963 : True := trivial
theorem tw9813410681712176819 : True := trivial
theorem tw7022753741928958675 : True := trivial
theorem tw7815354588672045779 : True := trivial
theorem tw920214292312260371 : True := trivial
theorem tw16640546478005224243 : True := trivial
theorem tw15948780112781908787 : True := trivial
theorem tw11852641145169952659 : True := trivial
theorem tw4015398097383911347 : True := trivial
theorem tw15889433306838628275 : True := trivial
theorem tw13409441903868389331 : True := trivial
theorem tw4851647983119433812 : True := trivial
theorem tw3913528116038191188 : True := trivial
theorem tw2616952524820836436 : True := trivial
theorem tw4867443594122359892 : True := trivial
theorem tw12487542160262675636 : True := trivial
theorem tw13463106324228987060 : True := trivial
theorem tw4367231431732253908 : True := trivial
theorem tw14151535006965253332 : True := trivial
theorem tw15529170255622000948 : True := trivial
theorem tw6164396464334811476 : True := trivial
theorem tw16795040122137113940 : True := trivial
theorem tw6547078798241139092 : True := trivial
theorem tw10905181550472923540 : True := trivial
theorem tw7339039647409124788 : True := trivial
theorem tw9976723597467198900 : True := trivial
theorem tw15422856539912107476 : True := trivial
theorem tw6998783941825042932 : True := trivial
theorem tw7366208706002141716 : True := trivial
theorem tw10273187271170590260 : True := trivial
theorem tw18293732401869909652 : True := trivial
theorem tw11256106856564762260 : True := trivial
theorem tw17143746779515762356 : True := trivial
theorem tw10738003575532504788 : True := trivial
theorem tw13994979335412520660 : True := trivial
theorem tw10834780440838970164 : True := trivial
theorem tw4571360026077952820 : True := trivial
theorem tw697623264460660564 : True := trivial
theorem tw1997569388931296116 : True := trivial
theorem tw6136932545381038964 : True := trivial
theorem tw226724450230711188 : True := trivial
theorem tw17542962492245011380 : True := trivial
theorem tw9258712216579463092 : True := trivial
theorem tw1439246655266547700 : True := trivial
theorem tw6598312636042714100 : True := trivial
theorem tw15625209780758371316 : True := trivial
theorem tw11915594877312485397 : True := trivial
theorem tw3649758429140192277 : True := trivial
theorem tw13566260322249332789 : True := trivial
theorem tw17234923516513369237 : True := trivial
theorem tw15084132493965779093 : True := trivial
theorem tw11162318198679636149 : True := trivial
theorem tw9496365245306024149 : True := trivial
theorem tw12870888531099404533 : True := trivial
theorem tw2063697594609225973 : True := trivial
theorem tw9753359207989701909 : True := trivial
theorem tw16227762859984022837 : True := trivial
theorem tw13225837485096350037 : True := trivial
theorem tw11663481321943121269 : True := trivial
theorem tw14440960662653809013 : True := trivial
theorem tw5605480435847508373 : True := trivial
theorem tw14103535550066685397 : True := trivial
theorem tw10264135568141901301 : True := trivial
theorem tw2608437505485318709 : True := trivial
theorem tw17673860158736603733 : True := trivial
theorem tw3571134770919094901 : True := trivial
theorem tw13474097485772985973 : True := trivial
theorem tw16357263729072622229 : True := trivial
theorem tw12173100003817136821 : True := trivial
theorem tw7494724483528729301 : True := trivial
theorem tw2042292140826266357 : True := trivial
theorem tw15508949281206285077 : True := trivial
theorem tw17795420018806894357 : True := trivial
theorem tw12459740579856956213 : True := trivial
theorem tw13609717118414637909 : True := trivial
theorem tw16302227732802510677 : True := trivial
theorem tw5486487638281291605 : True := trivial
theorem tw13483081372092288885 : True := trivial
theorem tw5293500477943481205 : True := trivial
theorem tw1666387254794493845 : True := trivial
theorem tw9427301549700849589 : True := trivial
theorem tw3941438180925939637 : True := trivial
theorem tw1425423193147277237 : True := trivial
theorem tw6820862383352777685 : True := trivial
theorem tw10919297434634762262 : True := trivial
theorem tw7240586211207864342 : True := trivial
theorem tw18439511094173506614 : True := trivial
theorem tw5643178794243155062 : True := trivial
theorem tw1811199898794616982 : True := trivial
theorem tw18321552122766947510 : True := trivial
theorem tw7100430431845274806 : True := trivial
theorem tw6291416237084387574 : True := trivial
theorem tw1848646778235469078 : True := trivial
theorem tw7941745277869089046 : True := trivial
theorem tw3513125359445811510 : True := trivial
theorem tw16473244170626142550 : True := trivial
theorem tw16713699803418581334 : True := trivial
theorem tw17930870258028551510 : True := trivial
theorem tw9155422001095189878 : True := trivial
theorem tw1331487369976884630 : True := trivial
theorem tw11814627755841444246 : True := trivial
theorem tw15610959940260225430 : True := trivial
theorem tw17640862679970642326 : True := trivial
theorem tw11213053971927718326 : True := trivial
theorem tw7261450039545342454 : True := trivial
theorem tw7752767780024739350 : True := trivial
theorem tw17577478241444706838 : True := trivial
theorem tw12131494931117144662 : True := trivial
theorem tw7369741819223213686 : True := trivial
theorem tw3816877163431070358 : True := trivial
theorem tw617508947420966582 : True := trivial
theorem tw6819212343860736726 : True := trivial
theorem tw1011335219593555734 : True := trivial
theorem tw15179676742415161110 : True := trivial
theorem tw4138081844389336918 : True := trivial
theorem tw7872162285098387286 : True := trivial
theorem tw2483153086792340342 : True := trivial
theorem tw7829580234814923638 : True := trivial
theorem tw8770659054964912022 : True := trivial
theorem tw8721321648031231958 : True := trivial
theorem tw6184460063843016694 : True := trivial
theorem tw15367242080415987702 : True := trivial
theorem tw15615537253650120727 : True := trivial
theorem tw10098268173465320503 : True := trivial
theorem tw18406568778348887127 : True := trivial
theorem tw14029546391885035639 : True := trivial
theorem tw2216850387143573719 : True := trivial
theorem tw6506366617586733335 : True := trivial
theorem tw16957190012819468567 : True := trivial
theorem tw6709418730364537143 : True := trivial
theorem tw2448417245163862455 : True := trivial
theorem tw3644008723964970423 : True := trivial
theorem tw5283464899586487735 : True := trivial
theorem tw10955317050725887447 : True := trivial
theorem tw3442329435671937591 : True := trivial
theorem tw16064382804478563927 : True := trivial
theorem tw15416985209724490359 : True := trivial
theorem tw14438451200097066615 : True := trivial
theorem tw8044012406986999415 : True := trivial
theorem tw7292484366425897655 : True := trivial
theorem tw12393119488966705847 : True := trivial
theorem tw13574768056931433239 : True := trivial
theorem tw3381375190539634487 : True := trivial
theorem tw13468300074154594103 : True := trivial
theorem tw11402939732021071671 : True := trivial
theorem tw307737655149646647 : True := trivial
theorem tw9073681462420916055 : True := trivial
theorem tw11434409384045074295 : True := trivial
theorem tw12598724348716800887 : True := trivial
theorem tw2134215046882385847 : True := trivial
theorem tw6879831473291441079 : True := trivial
theorem tw11136197038861592535 : True := trivial
theorem tw2788664435532181463 : True := trivial
theorem tw8377043916266704855 : True := trivial
theorem tw7712819752767893495 : True := trivial
theorem tw6140570298594658328 : True := trivial
theorem tw2951005344575393816 : True := trivial
theorem tw7354087734392854552 : True := trivial
theorem tw10654345511274693656 : True := trivial
theorem tw9345676750909349944 : True := trivial
theorem tw1643121930917553208 : True := trivial
theorem tw8803977449572941912 : True := trivial
theorem tw16456969618363192440 : True := trivial
theorem tw5562173858411828344 : True := trivial
theorem tw1330954286162103480 : True := trivial
theorem tw262745018181394680 : True := trivial
theorem tw17650839729002327288 : True := trivial
theorem tw2799067240506288376 : True := trivial
theorem tw12976186185376257304 : True := trivial
theorem tw2274498078352570744 : True := trivial
theorem tw14768889098011018680 : True := trivial
theorem tw9983964734214183352 : True := trivial
theorem tw661448573946734008 : True := trivial
theorem tw15759970867653108152 : True := trivial
theorem tw5420774739373220312 : True := trivial
theorem tw13866372431405929976 : True := trivial
theorem tw15936865845802707448 : True := trivial
theorem tw26425463804135960 : True := trivial
theorem tw13267510147771200024 : True := trivial
theorem tw7191455744419660376 : True := trivial
theorem tw12769127236821124696 : True := trivial
theorem tw15048261121198461528 : True := trivial
theorem tw14176624398918483544 : True := trivial
theorem tw1584506945513601688 : True := trivial
theorem tw11984409736253958808 : True := trivial
theorem tw10727248033764811480 : True := trivial
theorem tw8516288146210602744 : True := trivial
theorem tw8770205317985620760 : True := trivial
theorem tw3920623390966001496 : True := trivial
theorem tw701333769924781912 : True := trivial
theorem tw12418435599462062936 : True := trivial
theorem tw10778013660560245624 : True := trivial
theorem tw3069179008743571320 : True := trivial
theorem tw13096558090100123544 : True := trivial
theorem tw10860895700388868024 : True := trivial
theorem tw15987713032478767096 : True := trivial
theorem tw12994019391074448376 : True := trivial
theorem tw11158734012529747993 : True := trivial
theorem tw13342606739435360313 : True := trivial
theorem tw17088047866570459193 : True := trivial
theorem tw4065347644161347641 : True := trivial
theorem tw4788038989552484473 : True := trivial
theorem tw18194447625416937593 : True := trivial
theorem tw728884934406724761 : True := trivial
theorem tw15213948185873263833 : True := trivial
theorem tw2603259988358896889 : True := trivial
theorem tw5859118754885311737 : True := trivial
theorem tw4181196891559700729 : True := trivial
theorem tw9467313397243273497 : True := trivial
theorem tw18291419657060728153 : True := trivial
theorem tw2845679848157327705 : True := trivial
theorem tw3536873572635521401 : True := trivial
theorem tw15411387601460861337 : True := trivial
theorem tw1222794163293265305 : True := trivial
theorem tw11364443708160879001 : True := trivial
theorem tw10784824025267889561 : True := trivial
theorem tw11054480109507316185 : True := trivial
theorem tw7898215921889874393 : True := trivial
theorem tw4916360252006170105 : True := trivial
theorem tw11119798521548139033 : True := trivial
theorem tw3953601041324332601 : True := trivial
theorem tw8317466277049474617 : True := trivial
theorem tw12350410155528471161 : True := trivial
theorem tw881544763273948857 : True := trivial
theorem tw16684818696116721337 : True := trivial
theorem tw2658526732547218105 : True := trivial
theorem tw16772102934027710169 : True := trivial
theorem tw3940546777539579641 : True := trivial
theorem tw17330945745186091897 : True := trivial
theorem tw4424954536736003961 : True := trivial
theorem tw10200926772931222457 : True := trivial
theorem tw10737458330869947321 : True := trivial
theorem tw4780371949962762201 : True := trivial
theorem tw6982297934935202809 : True := trivial
theorem tw17047115858639842297 : True := trivial
theorem tw4585743438046781466 : True := trivial
theorem tw13047593935725612058 : True := trivial
theorem tw13132618709999183898 : True := trivial
theorem tw16415028865518655546 : True := trivial
theorem tw7854228177987924090 : True := trivial
theorem tw5902613922787404954 : True := trivial
theorem tw11953376511379268794 : True := trivial
theorem tw15673258824015622330 : True := trivial
theorem tw3496965988886986938 : True := trivial
theorem tw10604169790165778682 : True := trivial
theorem tw578887228443019578 : True := trivial
theorem tw13753220567063992666 : True := trivial
theorem tw12050417470231563642 : True := trivial
theorem tw10947534242169238906 : True := trivial
theorem tw2114630138375439770 : True := trivial
theorem tw5592360268479517082 : True := trivial
theorem tw17992873397187703194 : True := trivial
theorem tw1147470481896660410 : True := trivial
theorem tw6868836192036940282 : True := trivial
theorem tw17784710179527947834 : True := trivial
theorem tw1600037746751723098 : True := trivial
theorem tw957563972369182330 : True := trivial
theorem tw7526368328331116154 : True := trivial
theorem tw5373601922739893978 : True := trivial
theorem tw16157073509204512506 : True := trivial
theorem tw7598622570094877466 : True := trivial
theorem tw11232374478483605306 : True := trivial
theorem tw2578790182627478330 : True := trivial
theorem tw12394076208661396346 : True := trivial
theorem tw11652457597714270106 : True := trivial
theorem tw8273930003744585626 : True := trivial
theorem tw16414904818172857274 : True := trivial
theorem tw10283529075043463162 : True := trivial
theorem tw2001351230973187099 : True := trivial
theorem tw1936894748134917147 : True := trivial
theorem tw7927469264209771579 : True := trivial
theorem tw13534587687697041467 : True := trivial
theorem tw11032806212648032379 : True := trivial
theorem tw14137390275340422267 : True := trivial
theorem tw12685813987229840507 : True := trivial
theorem tw5362516397382645915 : True := trivial
theorem tw16409295683739894939 : True := trivial
theorem tw14353793391729792155 : True := trivial
theorem tw11079593142295127227 : True := trivial
theorem tw11672842613191775419 : True := trivial
theorem tw128412058910260475 : True := trivial
theorem tw14478148883734587675 : True := trivial
theorem tw15675198926951892251 : True := trivial
theorem tw11472165163037031739 : True := trivial
theorem tw4819202231147424091 : True := trivial
theorem tw10450363280022070651 : True := trivial
theorem tw2051048951616859547 : True := trivial
theorem tw10024716035694756283 : True := trivial
theorem tw5220083430330967483 : True := trivial
theorem tw13828106393651249627 : True := trivial
theorem tw17491317419825422843 : True := trivial
theorem tw2808349399557158395 : True := trivial
theorem tw7973550119107128859 : True := trivial
theorem tw16007149819294483003 : True := trivial
theorem tw6228267209343822427 : True := trivial
theorem tw3085183777334472315 : True := trivial
theorem tw14120982254508448379 : True := trivial
theorem tw14969688514271112891 : True := trivial
theorem tw9719896912496429819 : True := trivial
theorem tw17177331786930743035 : True := trivial
theorem tw8945485805214734075 : True := trivial
theorem tw10737712728331077403 : True := trivial
theorem tw4299596416071116603 : True := trivial
theorem tw3878383114103592795 : True := trivial
theorem tw3215350286424857435 : True := trivial
theorem tw461538923250603899 : True := trivial
theorem tw7492773218913965947 : True := trivial
theorem tw11898664097942606779 : True := trivial
theorem tw15642763164714097627 : True := trivial
theorem tw1582976572388173787 : True := trivial
theorem tw13770079208771991547 : True := trivial
theorem tw16487816990975572028 : True := trivial
theorem tw15766875824913328220 : True := trivial
theorem tw17655025648336401564 : True := trivial
theorem tw1118553966540926140 : True := trivial
theorem tw15634565183472343292 : True := trivial
theorem tw13458954166980676860 : True := trivial
theorem tw11319097763535126812 : True := trivial
theorem tw4735155535324382492 : True := trivial
theorem tw13365295217650922812 : True := trivial
theorem tw395138700845864316 : True := trivial
theorem tw2336748640663733628 : True := trivial
theorem tw4817003022231809500 : True := trivial
theorem tw2468469042602058204 : True := trivial
theorem tw12591134339009171964 : True := trivial
theorem tw16091413853298234908 : True := trivial
theorem tw7085514621470718492 : True := trivial
theorem tw7578210074245671484 : True := trivial
theorem tw1699103778626983548 : True := trivial
theorem tw10210669037155785340 : True := trivial
theorem tw7850187754069100156 : True := trivial
theorem tw17599816209265215132 : True := trivial
theorem tw2327210489368252092 : True := trivial
theorem tw13262116225945230012 : True := trivial
theorem tw2252305205657439004 : True := trivial
theorem tw689954013368505116 : True := trivial
theorem tw10787125048147943196 : True := trivial
theorem tw4182648748547736412 : True := trivial
theorem tw5118731587858937692 : True := trivial
theorem tw13160604113216922460 : True := trivial
theorem tw10904933031377857372 : True := trivial
theorem tw1194904439430580092 : True := trivial
theorem tw4402725079659364252 : True := trivial
theorem tw11117797201346649052 : True := trivial
theorem tw14852329139284432860 : True := trivial
theorem tw1331086792558400476 : True := trivial
theorem tw17986969038992634876 : True := trivial
theorem tw18219297243305740317 : True := trivial
theorem tw13289513938125300765 : True := trivial
theorem tw922143313871775805 : True := trivial
theorem tw15199589371867527261 : True := trivial
theorem tw15697423400787487869 : True := trivial
theorem tw4363365295628954845 : True := trivial
theorem tw15992342658441690333 : True := trivial
theorem tw6199765714743212253 : True := trivial
theorem tw3876449026389394717 : True := trivial
theorem tw833173182276230429 : True := trivial
theorem tw5433107678231618845 : True := trivial
theorem tw17714235663813219645 : True := trivial
theorem tw2457190517430149469 : True := trivial
theorem tw10102539355485613405 : True := trivial
theorem tw2855845756224970109 : True := trivial
theorem tw16868993833207775613 : True := trivial
theorem tw4478177076189095293 : True := trivial
theorem tw6924109203229866365 : True := trivial
theorem tw17347436560843906493 : True := trivial
theorem tw11636924220087485885 : True := trivial
theorem tw9390866547671247325 : True := trivial
theorem tw10792051664901133789 : True := trivial
theorem tw14462709497994964445 : True := trivial
theorem tw503842035214351869 : True := trivial
theorem tw10506430641307776541 : True := trivial
theorem tw13532847315355080253 : True := trivial
theorem tw18330183385023645277 : True := trivial
theorem tw3704167492566942397 : True := trivial
theorem tw13531707123254989501 : True := trivial
theorem tw526207354791536317 : True := trivial
theorem tw15967140613478806237 : True := trivial
theorem tw15578025631644234493 : True := trivial
theorem tw845060206244984605 : True := trivial
theorem tw13051953538815563581 : True := trivial
theorem tw15833661619300960221 : True := trivial
theorem tw12509009523430927325 : True := trivial
theorem tw9277588360372424766 : True := trivial
theorem tw3182187488490625086 : True := trivial
theorem tw16194383521188589630 : True := trivial
theorem tw7746578258024575070 : True := trivial
theorem tw3386092968808520798 : True := trivial
theorem tw13840357560478945406 : True := trivial
theorem tw9673543361469618366 : True := trivial
theorem tw6123773746684550334 : True := trivial
theorem tw4778742480866408670 : True := trivial
theorem tw511748877826530558 : True := trivial
theorem tw18087722134493236510 : True := trivial
theorem tw10835030195340973342 : True := trivial
theorem tw4643362625855044894 : True := trivial
theorem tw4172343393113369950 : True := trivial
theorem tw13638418597567726942 : True := trivial
theorem tw17681399029576232318 : True := trivial
theorem tw3419581819265744254 : True := trivial
theorem tw13431754692932380062 : True := trivial
theorem tw8664936974563722654 : True := trivial
theorem tw17901334829092211166 : True := trivial
theorem tw8210421348078903774 : True := trivial
theorem tw17739348878880393726 : True := trivial
theorem tw13293453174229064190 : True := trivial
theorem tw2329189449893159454 : True := trivial
theorem tw9533747618267967006 : True := trivial
theorem tw3763122126050802206 : True := trivial
theorem tw18233516762306594366 : True := trivial
theorem tw3480954088277226078 : True := trivial
theorem tw9763420282994701918 : True := trivial
theorem tw16301592386811335294 : True := trivial
theorem tw12744807935193187038 : True := trivial
theorem tw11555591917103754974 : True := trivial
theorem tw10145344219372386046 : True := trivial
theorem tw17668637344460488510 : True := trivial
theorem tw16711616764599604094 : True := trivial
theorem tw8047900516022102942 : True := trivial
theorem tw14620637471214046174 : True := trivial
theorem tw6423634429210846174 : True := trivial
theorem tw574300837803046910 : True := trivial
theorem tw14955159897011116063 : True := trivial
theorem tw12070051907170230399 : True := trivial
theorem tw3530705653197291679 : True := trivial
theorem tw6761669909254768831 : True := trivial
theorem tw4478166936697009375 : True := trivial
theorem tw6902198413751149823 : True := trivial
theorem tw1954109241102656831 : True := trivial
theorem tw5505332120971382143 : True := trivial
theorem tw573411949849455007 : True := trivial
theorem tw10988662585949334943 : True := trivial
theorem tw825126770350376351 : True := trivial
theorem tw2284436838669742495 : True := trivial
theorem tw9420132969298855359 : True := trivial
theorem tw15277330632498426303 : True := trivial
theorem tw13671756088133313087 : True := trivial
theorem tw14328484209623677503 : True := trivial
theorem tw12611767792052310623 : True := trivial
theorem tw2781682124601125471 : True := trivial
theorem tw10543509907540572799 : True := trivial
theorem tw11283319371284918911 : True := trivial
theorem tw16853252838358632063 : True := trivial
theorem tw14400467628812073631 : True := trivial
theorem tw5245234834050458271 : True := trivial
theorem tw442638132926106271 : True := trivial
theorem tw8589211134812392127 : True := trivial
theorem tw3309697970292668127 : True := trivial
theorem tw7006195865600381663 : True := trivial
theorem tw7519716089354478335 : True := trivial
theorem tw9077708301081682751 : True := trivial
theorem tw2595994805191909183 : True := trivial
theorem tw1247026723315081023 : True := trivial
theorem tw14685462170515437407 : True := trivial
theorem tw9751203150650967903 : True := trivial
theorem tw1051681510052472703 : True := trivial
theorem tw6109525258741381055 : True := trivial
theorem tw1728934660973012959 : True := trivial
theorem tw10558106933452604415 : True := trivial
theorem tw10420189103519777797 : True := trivial
end Mine.hd
namespace Mine
theorem start {A X : Prop} (zf : A → X) (rest : True) : True := (fun _ => rest) zf
theorem keep {A B : Prop} (a : A) (b : B) : B := (fun _ => b) a
/- The head, as open_top lays it, within a theorem: «main» is the step from the walk's goal to the claim. -/
set_option Elab.async true in
theorem hd : True := by
  apply start (X := PySem.Challenge.rw_ny0347_01.Holds) ?zf ?rest
  rotate_left
  refine (fun h => ?inner)
  w_on
  o_law
  apply keep ?hc ?go
  case' go => (k_head; (case hw => w_witness2))
  case hc => exact h
  case rest =>
    let rec main : type_of% (?zf) := ?zf
    trivial
end Mine
end
section
open PySem PySem.W PyProof.Rows PySem.Calls
namespace Mine
noncomputable abbrev LO : List Str := looseW Mine.hd.view_1_40
      [Str.ofString "UnsupportedOperation", Str.ofString "IOBase", Str.ofString "BufferedIOBase",
        Str.ofString "TextIOBase", Str.ofString "BytesIO", Str.ofString "StringIO", Str.ofString "shlex",
        Str.ofString "split", Str.ofString "safe_repr"]
noncomputable abbrev PG : Program := PySem.Challenge.rw_ny0347_01.row.prog
noncomputable abbrev AT (dp un : Nat) (gd : Option (List Code)) (outer : List Env) : Around := { handled := none, depth := dp, frames := some outer, guards := gd, units := un }

theorem enter0 {prog : Program} {w : World} {A : Around} {base : Heap} {outer : List Env} {s : Shared} {K : Frag} {p : Program} {loose : List Str} {mean : ExcName → Option Value} {mg mb : Str → Option Value}
    {R : Result → Shared → Prop} {name qual : Str} {params : Arguments} {body : List Stmt} {scope : Scope} {dV kV doc pm cdv ct oc : Value} {an od : Option Addr} {osl : Array (Option Value)} {f : Addr} {args : Args} {binds : List (Str × Value)}
    (_B : Below A base outer s.heap) (X : K.In s.heap) (T : Top p loose mean mg mb s.heap)
    (ho : K.lookup f = some ⟨oc, od, .func (fnOf name qual params body scope dV kV doc pm an cdv ct), osl⟩) (hcd : codeIn K cdv qual = true) (hroom : A.depth < recursionLimit)
    (hbind : BindsTo s (fnOf name qual params body scope dV kV doc pm an cdv ct) args binds) (hloc : ∀ y ∈ binds, scope.names.lookup y.1 = some .local)
    (h : ∀ L' h₁, Fr s.heap L' h₁ (fun y => binds.reverse.lookup y) → News s.heap L' h₁ [] →
      wpAny (model prog w) (A.deeper (envOf qual scope L' f cdv)) (execs body (envOf qual scope L' f cdv))
        (fun fl s' => R (.ok (.ret (match fl with | .ret v => v | _ => .none))) s')
        (fun e s' => wpAny (model prog w) (A.deeper (envOf qual scope L' f cdv)) (leaving (envOf qual scope L' f cdv) e) (fun _ s'' => R (.error e) s'') (fun e' s'' => R (.error e') s'') s')
        { s with heap := h₁, toks := s.toks + binds.length })
    (hco : scope.isCoroutine = false) (hgen : scope.isGenerator = false) (hk : scope.kind = .function)
    (hcell : ∀ x ∈ scope.names, x.2 ≠ .cell) : codeAny (model prog w) A (.call (.ref f) args) R s := by
  refine codeAny_call_def (fd := fnOf name qual params body scope dV kV doc pm an cdv ct) (body := body) (binds := binds) hroom (X _ _ ho) rfl T.nolimit (codeRec_of X hcd) rfl hbind hcell hloc (fun h₁ hns hk₁ => ?_) hco hgen hk
  exact h _ h₁ ⟨hns, hk₁, Nat.le_refl _⟩ News.nil

noncomputable abbrev tupObj (vs : List Value) : Obj := { cls := .type "tuple", data := .seq vs.toArray }

theorem enterV {prog : Program} {w : World} {A : Around} {s : Shared} {K : Frag} {p : Program} {loose : List Str} {mean : ExcName → Option Value} {mg mb : Str → Option Value}
    {R : Result → Shared → Prop} {name qual : Str} {params : Arguments} {body : List Stmt} {scope : Scope} {dV kV doc pm cdv ct oc : Value} {an od : Option Addr} {osl : Array (Option Value)} {f : Addr} {args : Args} {vs : List Value} {bf : Value → Value → List (Str × Value)}
    (X : K.In s.heap) (T : Top p loose mean mg mb s.heap)
    (ho : K.lookup f = some ⟨oc, od, .func (fnOf name qual params body scope dV kV doc pm an cdv ct), osl⟩) (hcd : codeIn K cdv qual = true) (hroom : A.depth < recursionLimit)
    (hb : bindArgs (fnOf name qual params body scope dV kV doc pm an cdv ct) args = newTuple vs >>= fun t => alloc emptyDict >>= fun d => pure (bf t (.ref d)))
    (hloc : ∀ t d, ∀ y ∈ bf t d, scope.names.lookup y.1 = some .local) (hz : sizeOk (Data.seq vs.toArray))
    (h : ∀ ta da L' h₁ tk, Fr s.heap L' h₁ (fun y => (bf (.ref ta) (.ref da)).reverse.lookup y) → News s.heap L' h₁ [(da, emptyDict), (ta, tupObj vs)] → ta < da →
      wpAny (model prog w) (A.deeper (envOf qual scope L' f cdv)) (execs body (envOf qual scope L' f cdv))
        (fun fl s' => R (.ok (.ret (match fl with | .ret v => v | _ => .none))) s')
        (fun e s' => wpAny (model prog w) (A.deeper (envOf qual scope L' f cdv)) (leaving (envOf qual scope L' f cdv) e) (fun _ s'' => R (.error e) s'') (fun e' s'' => R (.error e') s'') s')
        { s with heap := h₁, toks := tk })
    (hco : scope.isCoroutine = false) (hgen : scope.isGenerator = false) (hk : scope.kind = .function)
    (hcell : ∀ x ∈ scope.names, x.2 ≠ .cell) : codeAny (model prog w) A (.call (.ref f) args) R s := by
  refine codeAny_call_function (fd := fnOf name qual params body scope dV kV doc pm an cdv ct) hroom (X _ _ ho) rfl hco hgen rfl (codeRec_of X hcd) ?_
  rw [hb]
  refine wpAny_bind (wpAny_newObj_type (hd := hz) (wpAny_bind (wpAny_alloc (wpAny_pure ?_))))
  refine wpAny_newFunctionEnv hcell (hloc _ _) (fun h₁ hns hsb => ⟨?_, codeAny_func ?_⟩) hk
  · exact (T.nolimit.keeps fun b o e => Heap.get?_push_of_some _ (Heap.get?_push_of_some _ e)).fresh _ hsb
  · have up : ∀ b o, ((s.heap.push (tupObj vs)).push emptyDict).get? b = some o → h₁.get? b = some o := fun b o e => hsb.extBut b o (Nat.ne_of_lt (Heap.lt_size e)) (Heap.get?_push_of_some _ e)
    have hsz : ((s.heap.push (tupObj vs)).push emptyDict).objs.size = s.heap.objs.size + 2 := by rw [Heap.size_push, Heap.size_push]
    have fresh : ∀ a, s.heap.objs.size ≤ a → s.heap.get? a = none := fun a ha => by
      cases e : s.heap.get? a with
      | none => rfl
      | some o' => exact absurd (Heap.lt_size e) (Nat.not_lt.mpr ha)
    refine h s.heap.objs.size (s.heap.push (tupObj vs)).objs.size _ h₁ _ ⟨hns, fun b o e => up b o (Heap.get?_push_of_some _ (Heap.get?_push_of_some _ e)), ?_⟩ ?_ ?_
    · show _ ≤ ((s.heap.push (tupObj vs)).push emptyDict).objs.size
      rw [hsz]; (first | lia | omega)
    · intro q hq
      rcases List.mem_cons.mp hq with rfl | hq
      · exact ⟨up _ _ (Heap.get?_push_size _ rfl), by show (s.heap.push (tupObj vs)).objs.size ≠ ((s.heap.push (tupObj vs)).push emptyDict).objs.size; rw [hsz, Heap.size_push]; (first | lia | omega), fresh _ (by show _ ≤ (s.heap.push (tupObj vs)).objs.size; rw [Heap.size_push]; (first | lia | omega))⟩
      · have e := List.mem_singleton.mp hq
        subst e
        exact ⟨up _ _ (Heap.get?_push_of_some _ (Heap.get?_push_size _ rfl)), by show s.heap.objs.size ≠ ((s.heap.push (tupObj vs)).push emptyDict).objs.size; rw [hsz]; (first | lia | omega), fresh _ (Nat.le_refl _)⟩
    · rw [Heap.size_push]; exact Nat.lt_succ_self _

theorem below_push {A₀ : Around} {base h₀ h : Heap} {outer : List Env} {L a : Addr} {m : Str → Option Value} {name : Str} {scope : Scope} {cd : Value} {dp un : Nat} {gd : Option (List Code)}
    (B : Below A₀ base outer h₀) (F : Fr h₀ L h m) (hk : scope.kind = .function) : Below (AT dp un gd (envOf name scope L a cd :: outer)) base (envOf name scope L a cd :: outer) h :=
  ⟨rfl, (B.push (name := name) (scope := scope) (a := a) (cd := cd) F hk).stays, (B.push (name := name) (scope := scope) (a := a) (cd := cd) F hk).frames⟩
theorem news_more {h₀ h h' : Heap} {L x : Addr} {o : Obj} {m : Str → Option Value} {news : List (Addr × Obj)} (F : Fr h₀ L h m) (N : News h₀ L h' news) (hx : h'.get? x = some o) (hn : h.objs.size ≤ x) : News h₀ L h' ((x, o) :: news) := by
  have none : h.get? x = none := by
    cases e : h.get? x with
    | none => rfl
    | some o' => exact absurd (Heap.lt_size e) (Nat.not_lt.mpr hn)
  intro p hp
  rcases List.mem_cons.mp hp with rfl | hp
  · refine ⟨hx, Nat.ne_of_gt (Nat.lt_of_lt_of_le F.ns.lt hn), ?_⟩
    cases e : h₀.get? x with
    | none => rfl
    | some o' => have := F.keep _ _ e; rw [none] at this; cases this
  · exact N p hp
theorem news_lt {h₀ h : Heap} {L x : Addr} {news : List (Addr × Obj)} (N : News h₀ L h news) (hn : h.objs.size ≤ x) : ∀ p ∈ news, p.1 < x := fun p hp => Nat.lt_of_lt_of_le (Heap.lt_size (N p hp).1) hn

theorem units_make (A : Around) (C : Addr) (rest : List Value) (kw : List (Str × Value)) : (A.under (.builtin "type.__call__" ⟨.ref C :: rest, kw⟩)).units = A.units + 1 := rfl
theorem AT_units {dp un : Nat} {gd : Option (List Code)} {outer : List Env} : (AT dp un gd outer).units = un := rfl
theorem AT_depth {dp un : Nat} {gd : Option (List Code)} {outer : List Env} : (AT dp un gd outer).depth = dp := rfl

noncomputable def HoldN (n : Nat) (P : Prop) : Prop := P
theorem HoldN.mk (n : Nat) {P : Prop} (h : HoldN n P) : P := h
theorem HoldN.of {n : Nat} {P : Prop} (h : P) : HoldN n P := h
end Mine
end
section
open PySem PySem.W PyProof.Rows PySem.Calls
namespace Mine
/-- an iterator that is a generator: fp, its objects, change from item to item -/
structure GWalk (prog : Program) (w : World) (A : Around) (h₀ : Heap) (a : Addr) (n : Nat) (Pv : Nat → Array Value → Prop) (St : Nat → List Addr → Shared → Prop) : Prop where
  live : ∀ i fp s, St i fp s → ∀ b ∈ fp, (∃ o, s.heap.get? b = some o) ∧ h₀.get? b = none
  bare : ∀ i fp s, St i fp s → AllBare s.gens
  frame : ∀ i fp (s : Shared) h' tk, St i fp s → (∀ b ∈ fp, ∀ o, s.heap.get? b = some o → h'.get? b = some o) → (∀ b o, h₀.get? b = some o → h'.get? b = some o) → St i fp { s with heap := h', toks := tk }
  item : ∀ i fp (s : Shared) (Q : Option Value → Shared → Prop) (E : Value → Shared → Prop), i < n → St i fp s → (∀ b o, h₀.get? b = some o → s.heap.get? b = some o) →
    (∀ T vals fp' h' tk gs, Pv i vals → h'.get? T = some (tupO vals) → s.heap.get? T = none → T ∉ fp' → St (i + 1) fp' { s with heap := h', toks := tk, gens := gs } → (∀ b ∈ fp', b ∈ fp ∨ s.heap.objs.size ≤ b) → (∀ b o, b ∉ fp → s.heap.get? b = some o → h'.get? b = some o) → Q (some (.ref T)) { s with heap := h', toks := tk, gens := gs }) → wpAny (model prog w) A (pyNext (.ref a)) Q E s
  go : ∀ i fp (s : Shared) (target : Expr) (T : Addr) (Q : Unit → Shared → Prop) (E : Value → Shared → Prop), St i fp s → Q () s → wpAny (model prog w) A (letOwnedTupleGo target (.ref a) (.ref T)) Q E s
  done : ∀ fp (s : Shared) (Q : Option Value → Shared → Prop) (E : Value → Shared → Prop), St n fp s → (∀ b o, h₀.get? b = some o → s.heap.get? b = some o) →
    (∀ h' tk gs, AllBare gs → (∀ b o, b ∉ fp → s.heap.get? b = some o → h'.get? b = some o) → Q none { s with heap := h', toks := tk, gens := gs }) → wpAny (model prog w) A (pyNext (.ref a)) Q E s
section
variable {prog : Program} {w : World} {A : Around} {E : Value → Shared → Prop} {s : Shared} {env : Env} {h₀ : Heap} {target : Expr} {body : List Stmt} {Q : Flow → Shared → Prop}
theorem gen_loop {σ : Type} {a : Addr} {n : Nat} {Pv : Nat → Array Value → Prop} {St : Nat → List Addr → Shared → Prop} {fp₀ : List Addr} {m₀ : Str → Option Value} (Led : σ → List (Addr × Obj)) (ps : σ → List (Str × Value)) (stored : List Str) (P : Nat → σ → Prop) (c₀ : σ)
    (W : GWalk prog w A h₀ a n Pv St) (hst : St 0 fp₀ s) (hLf : env.locals ∉ fp₀) (hoff : ∀ p ∈ Led c₀, p.1 ∉ fp₀)
    (F : Fr h₀ env.locals s.heap m₀) (N : News h₀ env.locals s.heap (Led c₀)) (hk : ∀ p ∈ ps c₀, m₀ p.1 = some p.2) (hp : P 0 c₀)
    (turn : ∀ i T vals c (u : Str → Option Value) own h tk gs, i < n → Pv i vals → P i c → AllBare gs → (∀ p ∈ own, ∀ q ∈ Led c, p.1 ≠ q.1) → (∀ p ∈ Led c ++ own, p.1 ≠ T) → Fr h₀ env.locals h (kstB (fun z => if stored.contains z then u z else m₀ z) (ps c)) → News h₀ env.locals h ((T, tupO vals) :: (Led c ++ own)) →
      wpAny (model prog w) A (assign target env (.ref T)) (fun _ s₃ => wpAny (model prog w) A (execs body env)
        (KfPost h₀ env.locals { s with heap := h, toks := tk, gens := gs } own (own.map (·.1)) Led ps stored m₀ (P (i + 1)) Q) E s₃) E { s with heap := h, toks := tk, gens := gs })
    (done : ∀ c (u : Str → Option Value) h tk gs, AllBare gs → P n c → Fr h₀ env.locals h (kstB (fun z => if stored.contains z then u z else m₀ z) (ps c)) → News h₀ env.locals h (Led c) → Q .next { s with heap := h, toks := tk, gens := gs })
    (hE : PassesOwn (model prog w) A env E := by passes_own) :
    codeAny (model prog w) A (.forLoop target (.ref a) body [] env) (fun r s' => match r with | .ok f => Q f s' | .error e => cameBackBy (model prog w) A env E e s') s := by
  refine codeAny_forLoop_any (fun k s' => ∃ h' tk gs i fp c m', s' = { s with heap := h', toks := tk, gens := gs } ∧ St i fp s' ∧ env.locals ∉ fp ∧ (∀ p ∈ Led c, p.1 ∉ fp) ∧ Fr h₀ env.locals h' m' ∧ News h₀ env.locals h' (Led c) ∧
      (∀ p ∈ ps c, m' p.1 = some p.2) ∧ (∀ z, (∀ p ∈ ps c, z ≠ p.1) → stored.contains z = false → m' z = m₀ z) ∧ P i c ∧ i ≤ n ∧ k = n + 1 - i) ?_ (n + 1)
    ⟨s.heap, s.toks, s.gens, 0, fp₀, c₀, m₀, rfl, hst, hLf, hoff, F, N, hk, fun _ _ _ => rfl, hp, Nat.zero_le _, rfl⟩
  rintro k s' ⟨h', tk, gs, i, fp, c, m', rfl, hst', hLf', hoff', F', N', hk', hr', hP', hi, rfl⟩
  have old : ∀ b o, h₀.get? b = some o → h'.get? b = some o := F'.keep
  have offb : ∀ b o, h₀.get? b = some o → b ∉ fp := fun b o e hb => by rw [(W.live _ _ _ hst' b hb).2] at e; cases e
  by_cases hlt : i < n
  · refine W.item i fp _ _ _ hlt hst' old fun T vals fp' h₁ tk₁ gs₁ hPv hT hTs hTf hst₁ hfp hk₁ => ?_
    refine W.go (i + 1) fp' _ target T _ _ hst₁ ?_
    have F₁ : Fr h₀ env.locals h₁ m' := ⟨F'.ns.at' fun o e => hk₁ _ o hLf' e, fun b o e => hk₁ b o (offb b o e) (old b o e), F'.above⟩
    have hLf₁ : env.locals ∉ fp' := fun hm => by
      rcases hfp _ hm with h | h
      · exact hLf' h
      · exact absurd F'.ns.lt (Nat.not_lt.mpr h)
    have Nown : News h₀ env.locals h₁ (PyProof.Rows.ownOf h₀ fp' h₁) := news_ownOf hLf₁
    have NL : News h₀ env.locals h₁ (Led c) := fun p hp => ⟨hk₁ _ _ (hoff' p hp) (N' p hp).1, (N' p hp).2⟩
    have hLs : ∀ p ∈ Led c, p.1 < h'.objs.size := fun p hp => Heap.lt_size (N' p hp).1
    have hap : ∀ p ∈ PyProof.Rows.ownOf h₀ fp' h₁, ∀ q ∈ Led c, p.1 ≠ q.1 := fun p hp q hq e => by
      rcases hfp _ (ownOf_sub p hp) with h | h
      · exact hoff' q hq (e ▸ h)
      · exact absurd (hLs q hq) (Nat.not_lt.mpr (e ▸ h))
    have NT : News h₀ env.locals h₁ ((T, tupO vals) :: (Led c ++ PyProof.Rows.ownOf h₀ fp' h₁)) := fun p hp => by
      rcases List.mem_cons.mp hp with rfl | hp
      · have hTs' : h'.get? T = none := hTs
        refine ⟨hT, fun q => ?_, ?_⟩
        · obtain ⟨o, _, _, ho, _⟩ := F'.ns
          rw [show env.locals = T from q.symm] at ho
          rw [hTs'] at ho; cases ho
        · cases e : h₀.get? T with
          | none => rfl
          | some o' => have := old T o' e; rw [hTs'] at this; cases this
      rcases List.mem_append.mp hp with hp | hp
      · exact NL p hp
      · exact Nown p hp
    refine wpAny_mono (turn i T vals c m' (PyProof.Rows.ownOf h₀ fp' h₁) h₁ tk₁ gs₁ hlt hPv hP' (W.bare _ _ _ hst₁) hap ?_ (ksw_fr hk' hr' F₁) NT) (fun _ s₃ h₃ => wpAny_passesOwn hE (wpAny_mono h₃ (fun f s₄ h₄ => ?_) fun _ _ e => e)) hE
    · intro p hp e
      rcases List.mem_append.mp hp with hp | hp
      · have := (N' p hp).1
        rw [e, show h'.get? T = none from hTs] at this; cases this
      · exact hTf (e ▸ ownOf_sub p hp)
    have fin : KfEnd h₀ env.locals { s with heap := h₁, toks := tk₁, gens := gs₁ } (PyProof.Rows.ownOf h₀ fp' h₁) ((PyProof.Rows.ownOf h₀ fp' h₁).map (·.1)) Led ps stored m₀ (P (i + 1)) s₄ → ∃ j, j < n + 1 - i ∧ ∃ h' tk gs i fp c m', s₄ = { s with heap := h', toks := tk, gens := gs } ∧ St i fp s₄ ∧ env.locals ∉ fp ∧ (∀ p ∈ Led c, p.1 ∉ fp) ∧ Fr h₀ env.locals h' m' ∧ News h₀ env.locals h' (Led c) ∧
      (∀ p ∈ ps c, m' p.1 = some p.2) ∧ (∀ z, (∀ p ∈ ps c, z ≠ p.1) → stored.contains z = false → m' z = m₀ z) ∧ P i c ∧ i ≤ n ∧ j = n + 1 - i := by
      rintro ⟨c', h'', tk', m'', news', rfl, F'', N'', ho, hn, hk'', hr'', hP''⟩
      refine ⟨n + 1 - (i + 1), by (first | lia | omega), h'', tk', gs₁, i + 1, fp', c', m'', rfl, ?_, hLf₁, ?_, F'', fun p hp => N'' p (hn p hp).1, hk'', hr'', hP'', hlt, rfl⟩
      · exact W.frame (i + 1) fp' _ h'' tk' hst₁ (fun b hb o e => (N'' _ (ho _ (mem_ownOf hb (W.live _ _ _ hst₁ b hb).2 e))).1) F''.keep
      · intro p hp hm
        obtain ⟨⟨o, e⟩, hnone⟩ := W.live _ _ _ hst₁ _ hm
        exact (hn p hp).2 (List.mem_map.mpr ⟨(p.1, o), mem_ownOf hm hnone e, rfl⟩)
    cases f with
    | ret v => exact h₄
    | brk => exact h₄
    | next => exact fin h₄
    | cont => exact fin h₄
  · have hin : i = n := by (first | lia | omega)
    subst hin
    refine W.done fp _ _ _ hst' old fun h₁ tk₁ gs₁ hb hk₁ => wpAny_execs_nil ?_
    have F₁ : Fr h₀ env.locals h₁ m' := ⟨F'.ns.at' fun o e => hk₁ _ o hLf' e, fun b o e => hk₁ b o (offb b o e) (old b o e), F'.above⟩
    exact done c m' h₁ tk₁ gs₁ hb hP' (ksw_fr hk' hr' F₁) fun p hp => ⟨hk₁ _ _ (hoff' p hp) (N' p hp).1, (N' p hp).2⟩
end
end Mine
end
section
open PySem PySem.W PyProof.Rows PySem.Calls
namespace Mine
section
variable {prog : Program} {w : World} {A : Around} {R : GenEnd} {Y : Protocol} {n : Nat} {s₀ : Shared} {c : Code} {fs : List Frame} {s : Shared} {env : Env} {K : Flow → Sem Fin} {H : Value → Sem Fin} {gd : Bool → Bool} {lv : List Value → List Value}
noncomputable abbrev ForK (env : Env) (K : Flow → Sem Fin) (H : Value → Sem Fin) (gd : Bool → Bool) (lv : List Value → List Value) (r : Result) : Sem Fin :=
  ((match r with | .ok f => (.pure f : Sem Flow) | .error e => .raise e).onRaise fun (x : Value) => do
        if (← field x 1) == Value.none then unsupported "frame.own-activation:exception-without-traceback"
        setFlight x env.frame).wrap K H gd lv
theorem seg_For {target iter : Expr} {body : List Stmt} {pos : Pos}
    (h : wpAny (model prog w) (A.over c fs) (eval iter env) (fun x s₁ => wpAny (model prog w) (A.over c fs) (pyIter x) (fun it s₂ => ∀ p, Seg (model prog w) A R Y n s₀ (.forLoop target it body [] env) ((model prog w).den (.forLoop target it body [] env))
      (.ret (ForK env K H gd lv) none (gd false) (lv []) c p [] :: fs) s₂) (fun x s' => Seg (model prog w) A R Y n s₀ c (H x) fs s') s₁) (fun x s' => Seg (model prog w) A R Y n s₀ c (H x) fs s') s)
    (hs : ∀ x, foldedSetIterable iter env x = pure x := by intro _; rfl) :
    Seg (model prog w) A R Y n s₀ c ((exec (.For target iter body [] pos) env).wrap K H gd lv) fs s := by
  rw [exec_For]
  refine seg_bind_wrap (wpAny_standAt ?_)
  refine seg_bind_wrap (wpAny_mono h (fun x s₁ h₁ => ?_) fun _ _ e => e)
  refine seg_bind_wrap (wpAny_of_eq (hs x) ?_)
  refine seg_bind_wrap (wpAny_standAt ?_)
  refine seg_bind_wrap (wpAny_holding (wpAny_mono h₁ (fun it s₂ h₂ => ?_) fun _ _ e => e))
  exact seg_call h₂
theorem seg_forLoop {target : Expr} {it : Value} {body : List Stmt} {H' : Value → Sem Fin} (hH : H' = fun e => (do noteFrame e env; theTreesLotGoes e : Sem Unit).bind fun _ => .raise e)
    (h : wpAny (model prog w) (A.over (.forLoop target it body [] env) fs) (pyNext it) (fun r s' => match r with
      | none => Seg (model prog w) A R Y n s₀ (.forLoop target it body [] env) (.pure (.again (.block [] env))) fs s'
      | some v => wpAny (model prog w) (A.over (.forLoop target it body [] env) fs) (letOwnedTupleGo target it v) (fun _ s₁ => wpAny (model prog w) (A.over (.forLoop target it body [] env) fs) (assign target env v) (fun _ s₂ =>
          Seg (model prog w) A R Y n s₀ (.forLoop target it body [] env) ((execs body env).wrap (fun f => match f with
            | .next | .cont => .pure (.again (.forLoop target it body [] env))
            | .brk => .pure (.done .next)
            | .ret v => .pure (.done (.ret v))) H' id id) fs s₂)
          (fun x s' => Seg (model prog w) A R Y n s₀ (.forLoop target it body [] env) (H' x) fs s') s₁) (fun x s' => Seg (model prog w) A R Y n s₀ (.forLoop target it body [] env) (H' x) fs s') s')
      (fun x s' => Seg (model prog w) A R Y n s₀ (.forLoop target it body [] env) (H' x) fs s') s) :
    Seg (model prog w) A R Y n s₀ (.forLoop target it body [] env) ((model prog w).den (.forLoop target it body [] env)) fs s := by
  show Seg _ A R Y n s₀ _ ((forTurn target it body [] env).onRaise (fun x => do noteFrame x env; theTreesLotGoes x)) fs s
  unfold forTurn
  rw [Sem.onRaise_eq_wrap, ← hH]
  refine seg_bind_wrap (wpAny_standAt ?_)
  refine seg_bind_wrap (wpAny_onRaise (wpAny_mono h (fun r s' h' => ?_) fun _ _ h' => wpAny_standAt h'))
  cases r with
  | none => exact h'
  | some v =>
    refine seg_bind_wrap (wpAny_mono h' (fun _ s₁ h₁ => ?_) fun _ _ e => e)
    refine seg_bind_wrap (wpAny_mono h₁ (fun _ s₂ h₂ => ?_) fun _ _ e => e)
    show Seg _ A R Y n s₀ _ (Sem.wrap _ _ _ _ (execs body env >>= _)) fs s₂
    rw [Sem.bind_eq_wrap', Sem.wrap_wrap]
    have e := Sem.wrap_congr (execs body env) (gd := fun g => id (id g)) (lv := fun l => id (id l)) (K := fun a => Sem.wrap Sem.pure H' id id (match a with
          | Flow.next => again (Code.forLoop target it body [] env)
          | Flow.cont => again (Code.forLoop target it body [] env)
          | Flow.brk => pure (Fin.done Flow.next)
          | Flow.ret v => pure (Fin.done (Flow.ret v)))) (K' := fun f => match f with
            | .next | .cont => .pure (.again (.forLoop target it body [] env))
            | .brk => .pure (.done .next)
            | .ret v => .pure (.done (.ret v))) (H := fun e => Sem.wrap Sem.pure H' id id (Sem.raise e)) (H' := H') (fun f => by cases f <;> rfl) (fun e => rfl)
    exact e ▸ h₂
theorem seg_If {test : Expr} {body orelse : List Stmt} {pos : Pos}
    (h : wpAny (model prog w) (A.over c fs) (isTrue test env (eval test env)) (fun b s' => if b = true then Seg (model prog w) A R Y n s₀ c ((execs body env).wrap K H gd lv) fs s' else Seg (model prog w) A R Y n s₀ c ((execs orelse env).wrap K H gd lv) fs s')
      (fun x s' => Seg (model prog w) A R Y n s₀ c (H x) fs s') s) : Seg (model prog w) A R Y n s₀ c ((exec (.If test body orelse pos) env).wrap K H gd lv) fs s := by
  rw [exec_If]
  refine seg_bind_wrap (wpAny_standAt ?_)
  refine seg_bind_wrap (wpAny_mono h (fun b s' h' => ?_) fun _ _ e => e)
  cases b with
  | true => rw [if_pos rfl] at h' ⊢; exact h'
  | false => rw [if_neg (by decide)] at h' ⊢; exact h'
theorem seg_stmt {st : Stmt} (h : wpAny (model prog w) (A.over c fs) (exec st env) (fun f s' => Seg (model prog w) A R Y n s₀ c (K f) fs s') (fun x s' => Seg (model prog w) A R Y n s₀ c (H x) fs s') s) : Seg (model prog w) A R Y n s₀ c ((exec st env).wrap K H gd lv) fs s := seg_wrap h
/-- the loop is at its end -/
theorem seg_loopEnd {c' : Code} {k : Result → Sem Fin} {h : Option Value} {g : Bool} {l : List Value} {c₁ : Code} {p₁ : Pos} {kp : List Value} (hk : Seg (model prog w) A R Y n s₀ c₁ (k (.ok .next)) fs s) :
    Seg (model prog w) A R Y n s₀ c' (.pure (.again (.block [] env))) (.ret k h g l c₁ p₁ kp :: fs) s := by
  refine seg_again rfl ?_
  show Seg _ A R Y n s₀ _ (leafOf (.ok .next)) _ s
  exact seg_leaf _ hk
end
end Mine
end
section
open PySem PySem.W PyProof.Rows PySem.Calls
namespace Mine
section
variable {prog : Program} {w : World} {A : Around} {E : Value → Shared → Prop} {s : Shared}
/-- the next item of a generator that a def made; what is left of it is bare -/
theorem pyNext_genQ {a : Addr} {g n : Nat} {gs : GenState} {P : Nat → Shared → Shared → Prop} {Y : Protocol} {Q : Option Value → Shared → Prop} (hh : A.handled = none)
    (hl : s.heap.NoLimit) (hroom : A.depth < recursionLimit)
    (hg : s.heap.IsGen a g) (hgs : s.gens[g]? = some gs)
    (hgo : gs.Goes (model prog w) A.in1 (fun n s₀ r s₁ => r = .ok (.ret .none) ∧ P n s₀ s₁) Y n (.send .none) (s.setGen g .running))
    (hY : ∀ v s₁ gs', gs'.bare = true → Y (n - 1) (s.setGen g .running) v s₁ (fun r' s'' => match n with
        | 0 => False
        | m + 1 => gs'.Goes (model prog w) A.in1 (fun n s₀ r s₁ => r = .ok (.ret .none) ∧ P n s₀ s₁) Y m r' s'') → Q (some v) (s₁.setGen g gs'))
    (hP : ∀ s₁, P n (s.setGen g .running) s₁ → ∀ h', (∀ b o, s₁.heap.get? b = some o → h'.get? b = some o) → Q none { s₁.setGen g .finished with heap := h' }) :
    wpAny (model prog w) A (pyNext (.ref a)) Q E s := by
  unfold pyNext
  refine wpAny_bind (wpAny_attempt (wpAny_callSpecial?_slot (name := Str.ofString "__next__") hg.typeIs slot_gen_next
    (wpAny_call_entry slot_gen_next hg.typeIs entry_gen_next ?_ (args_gen_next _))))
  show wpAny _ A.in1 (Builtin.Generator.genWake (.ref a) (.send .none)) _ _ s
  unfold Builtin.Generator.genWake
  refine wpAny_bind (wpAny_holding (wpAny_genNumber hg (wpAny_bind (wpAny_genState hgs ?_))))
  cases gs with
  | running => exact hgo.elim
  | finished => exact hgo.elim
  | _ =>
    refine wpAny_bind (wpAny_roomToWake hl hroom ?_)
    show wpAny _ A.in1 (.resume g (.send .none) [] _) _ _ s
    refine wpAny_resumeQ hgs hgo (fun x s₁ hx => ?_) (fun v s₁ gs' hb hv => ?_)
    · obtain ⟨rfl, hp⟩ := hx
      show wpAny _ A.in1 (newExc (.type "StopIteration") [] >>= _) _ _ _
      refine wpAny_bind ?_
      simp only [newExc, newTuple]
      refine wpAny_bind (wpAny_newObj_type ?_ (by size_fits))
      refine wpAny_bind (m := firstArgMember _ _) (wpAny_of_eq (a := Value.none) (by first | rfl | (simp only [firstArgMember]; rfl)) ?_)
      refine wpAny_newObj_type ?_ (by size_fits)
      simp only [raiseNew]
      refine wpAny_bind (wpAny_bind (wpAny_handled ?_))
      first | rw [show A.in1.handled = none from hh] | rw [hh]
      refine wpAny_throw ?_
      refine wpAny_bind (wpAny_isInstance (T := "StopIteration") (b := true) ⟨_, Heap.get?_push_size _ rfl, rfl⟩ isSubtype_stop ?_)
      exact wpAny_pure (hP s₁ hp _ fun b o hb => Heap.get?_push_of_some _ (Heap.get?_push_of_some _ hb))
    · exact wpAny_pure ⟨v, rfl, wpAny_pure (hY v s₁ gs' hb hv)⟩
end
end Mine
end
section
open PySem PySem.W PyProof.Rows PySem.Calls
namespace Mine
structure Since (fp : List Addr) (s₀ s : Shared) : Prop where
  ex : ∃ h' tk, s = { s₀ with heap := h', toks := tk }
  keep : ∀ b o, b ∉ fp → s₀.heap.get? b = some o → s.heap.get? b = some o
structure GItem (h₀ : Heap) (x : Str) (fp : List Addr) (m : Nat) (s₀ : Shared) (v : Value) (s : Shared) : Prop where
  ex : ∃ T i c t u, m + 1 + i = x.cps.size ∧ x.cps[i]? = some c ∧ v = .ref T ∧ s.heap.get? T = some (tupO #[.int ((i : Nat) : Int) t, .str ⟨#[c]⟩ u]) ∧ s₀.heap.get? T = none ∧ T ∉ fp
  since : Since fp s₀ s
  live : ∀ b ∈ fp, (∃ o, s.heap.get? b = some o) ∧ h₀.get? b = none
noncomputable def gY (h₀ : Heap) (x : Str) (fp : List Addr) : Protocol := fun m s₀ v s kap => GItem h₀ x fp m s₀ v s ∧
  ∀ s'' : Shared, (∀ b ∈ fp, ∀ o, s.heap.get? b = some o → s''.heap.get? b = some o) → (∀ b o, h₀.get? b = some o → s''.heap.get? b = some o) → kap (.send .none) s''
noncomputable def gP (fp : List Addr) : Nat → Shared → Shared → Prop := fun n s₀ s₁ => n = 0 ∧ Since fp s₀ s₁
noncomputable abbrev gR (fp : List Addr) : GenEnd := fun n s₀ r s₁ => r = .ok (.ret .none) ∧ gP fp n s₀ s₁
/-- what the body of the generator does, from its first line on -/
noncomputable def GenBody (prog : Program) (w : World) (h₀ : Heap) (x : Str) (m : Str → Option Value) (body : List Stmt) (env : Env) : Prop :=
  ∀ (A : Around) (s : Shared), A.handled = none → Fr h₀ env.locals s.heap m → ∃ fp, (∀ b ∈ fp, b = env.locals ∨ s.heap.objs.size ≤ b) ∧ (∀ b ∈ fp, h₀.get? b = none) ∧
    Seg (model prog w) A (gR fp) (gY h₀ x fp) x.cps.size s (.func body env) ((model prog w).den (.func body env)) [] s
structure GSt (prog : Program) (w : World) (A : Around) (h₀ : Heap) (x : Str) (a : Addr) (g : Nat) (i : Nat) (fp : List Addr) (s : Shared) : Prop where
  gen : s.heap.IsGen a g
  bare : AllBare s.gens
  live : ∀ b ∈ fp, (∃ o, s.heap.get? b = some o) ∧ h₀.get? b = none
  ex : ∃ rest gs, fp = a :: rest ∧ a ∉ rest ∧ s.gens[g]? = some gs ∧ ∀ s'' : Shared, (∀ b ∈ rest, ∀ o, s.heap.get? b = some o → s''.heap.get? b = some o) → (∀ b o, h₀.get? b = some o → s''.heap.get? b = some o) →
    ∃ fp', (∀ b ∈ fp', b ∈ rest ∨ s''.heap.objs.size ≤ b) ∧ (∀ b ∈ fp', h₀.get? b = none) ∧ gs.Goes (model prog w) A.in1 (gR fp') (gY h₀ x fp') (x.cps.size - i) (.send .none) s''
theorem bare_set {s : Shared} {g : Nat} {gs : GenState} (h : AllBare s.gens) (hb : gs.bare = true) : AllBare (s.setGen g gs).gens := by
  intro y hy
  simp only [Shared.setGen] at hy
  obtain ⟨i, hi, rfl⟩ := Array.mem_iff_getElem.mp hy
  by_cases e : g = i
  · subst e; simpa using hb
  · have : (s.gens.setIfInBounds g gs)[i] = s.gens[i]'(by simpa using hi) := by
      rw [Array.getElem_setIfInBounds (by simpa using hi), if_neg e]
    simp only [this]
    exact h _ (Array.getElem_mem _)
theorem gen_gwalk {prog : Program} {w : World} {A : Around} {h₀ : Heap} {x : Str} {a : Addr} {g : Nat} (hh : A.handled = none) (hnl : h₀.NoLimit) (hroom : A.depth < recursionLimit) :
    GWalk prog w A h₀ a x.cps.size (fun i vals => ∃ c t u, x.cps[i]? = some c ∧ vals = #[.int ((i : Nat) : Int) t, .str ⟨#[c]⟩ u]) (GSt prog w A h₀ x a g) where
  live := fun _ _ _ st => st.live
  bare := fun _ _ _ st => st.bare
  frame := fun i fp s h' tk st hk hb => by
    obtain ⟨hg, hbr, hl, rest, gs, rfl, har, hgs, sp⟩ := st
    refine ⟨?_, hbr, fun b hb' => ?_, rest, gs, rfl, har, hgs, fun s'' hag hb'' => sp s'' (fun b hbr o e => hag b hbr o (hk b (List.mem_cons_of_mem _ hbr) o e)) hb''⟩
    · obtain ⟨o, nm, qn, ho, r⟩ := hg
      exact ⟨o, nm, qn, hk a (List.mem_cons_self ..) o ho, r⟩
    · obtain ⟨⟨o, e⟩, hn⟩ := hl b hb'
      exact ⟨⟨o, hk b hb' o e⟩, hn⟩
  item := fun i fp s Q E hi st hbase hQ => by
    obtain ⟨hg, hbr, hl, rest, gs, rfl, har, hgs, sp⟩ := st
    obtain ⟨fp', hfp', hn', hgo⟩ := sp (s.setGen g .running) (fun _ _ _ e => e) hbase
    obtain ⟨m, hm⟩ : ∃ m, x.cps.size - i = m + 1 := ⟨x.cps.size - i - 1, by (first | lia | omega)⟩
    rw [hm] at hgo
    have ha : a < s.heap.objs.size := by obtain ⟨o, _, _, ho, _⟩ := hg; exact Heap.lt_size ho
    have ha' : a ∉ fp' := fun h => by
      rcases hfp' a h with h | h
      · exact har h
      · exact absurd ha (Nat.not_lt.mpr h)
    refine pyNext_genQ (P := gP fp') hh (hnl.keeps hbase) hroom hg hgs hgo (fun v s₁ gs' hb hv => ?_) (fun s₁ hp h' hk => ?_)
    · obtain ⟨⟨⟨T, j, c, t, u, hj, hc, rfl, hT, hTs, hTf⟩, ⟨⟨h₁, tk₁, rfl⟩, hk₁⟩, hlive⟩, hkap⟩ := hv
      obtain rfl : j = i := by (first | lia | omega)
      have hk₁' : ∀ b o, b ∉ fp' → s.heap.get? b = some o → h₁.get? b = some o := hk₁
      refine hQ T _ (a :: fp') h₁ tk₁ _ ⟨c, t, u, hc, rfl⟩ hT hTs ?_ ⟨?_, bare_set (bare_set hbr rfl) hb, ?_, fp', gs', rfl, ha', setGen_self (gs := .running) (setGen_self hgs), ?_⟩ ?_ ?_
      · intro hm'
        rcases List.mem_cons.mp hm' with e | h
        · obtain ⟨o, _, _, ho, _⟩ := hg
          rw [← e, show s.heap.get? T = none from hTs] at ho; cases ho
        · exact hTf h
      · obtain ⟨o, nm, qn, ho, r⟩ := hg
        exact ⟨o, nm, qn, hk₁' a o ha' ho, r⟩
      · intro b hb'
        rcases List.mem_cons.mp hb' with rfl | hb'
        · obtain ⟨o, nm, qn, ho, r⟩ := hg
          exact ⟨⟨o, hk₁' b o ha' ho⟩, (hl b (List.mem_cons_self ..)).2⟩
        · exact hlive b hb'
      · intro s'' hag hb''
        refine ⟨fp', fun b hb' => .inl hb', hn', ?_⟩
        have e : x.cps.size - (j + 1) = m := by (first | lia | omega)
        rw [e]
        exact hkap s'' hag hb''
      · intro b hb'
        rcases List.mem_cons.mp hb' with rfl | hb'
        · exact .inl (List.mem_cons_self ..)
        · rcases hfp' b hb' with h | h
          · exact .inl (List.mem_cons_of_mem _ h)
          · exact .inr h
      · intro b o hb' e
        refine hk₁' b o (fun h => ?_) e
        rcases hfp' b h with h | h
        · exact hb' (List.mem_cons_of_mem _ h)
        · exact absurd (Heap.lt_size e) (Nat.not_lt.mpr h)
    · exact absurd hp.1 (Nat.succ_ne_zero m)
  go := fun i fp s target T Q E st hQ => by
    obtain ⟨o, nm, qn, ho, hc, hd, _⟩ := st.gen
    unfold letOwnedTupleGo
    split
    · refine wpAny_bind (wpAny_load ho ?_)
      rw [hc, hd]
      show wpAny _ A (if (["enumerate", "zip", "dict_itemiterator", "dict_reverseitemiterator", "odict_iterator", "itertools.zip_longest", "itertools.pairwise"].contains "generator" && _) = true then _ else _) Q E s
      rw [if_neg (by
        intro h
        rw [show (["enumerate", "zip", "dict_itemiterator", "dict_reverseitemiterator", "odict_iterator", "itertools.zip_longest", "itertools.pairwise"].contains "generator") = false from by decide, Bool.false_and] at h
        cases h)]
      exact wpAny_pure hQ
    · refine wpAny_bind (wpAny_load ho ?_)
      rw [hc, hd]
      show wpAny _ A (if (["enumerate", "zip", "dict_itemiterator", "dict_reverseitemiterator", "odict_iterator", "itertools.zip_longest", "itertools.pairwise"].contains "generator" && _) = true then _ else _) Q E s
      rw [if_neg (by
        intro h
        rw [show (["enumerate", "zip", "dict_itemiterator", "dict_reverseitemiterator", "odict_iterator", "itertools.zip_longest", "itertools.pairwise"].contains "generator") = false from by decide, Bool.false_and] at h
        cases h)]
      exact wpAny_pure hQ
    · exact wpAny_pure hQ
  done := fun fp s Q E st hbase hQ => by
    obtain ⟨hg, hbr, hl, rest, gs, rfl, har, hgs, sp⟩ := st
    obtain ⟨fp', hfp', hn', hgo⟩ := sp (s.setGen g .running) (fun _ _ _ e => e) hbase
    rw [Nat.sub_self] at hgo
    have off : ∀ b o, h₀.get? b = some o → b ∉ fp' := fun b o e hb => by rw [hn' b hb] at e; cases e
    refine pyNext_genQ (P := gP fp') hh (hnl.keeps hbase) hroom hg hgs hgo (fun v s₁ gs' hb hv => ?_) (fun s₁ hp h' hk => ?_)
    · obtain ⟨⟨_, hsince, _⟩, hkap⟩ := hv
      exact False.elim (hkap s₁ (fun _ _ _ e => e) fun b o e => hsince.keep b o (off b o e) (hbase b o e))
    · obtain ⟨_, ⟨h₁, tk₁, rfl⟩, hk₁⟩ := hp
      have hk₁' : ∀ b o, b ∉ fp' → s.heap.get? b = some o → h₁.get? b = some o := hk₁
      refine hQ h' tk₁ _ (bare_set (bare_set hbr rfl) rfl) fun b o hb' e => hk b o (hk₁' b o (fun h => ?_) e)
      rcases hfp' b h with h | h
      · exact hb' (List.mem_cons_of_mem _ h)
      · exact absurd (Heap.lt_size e) (Nat.not_lt.mpr h)
/-- a generator just made -/
theorem gen_start {prog : Program} {w : World} {A : Around} {h₀ h₁ : Heap} {x : Str} {m : Str → Option Value} {body : List Stmt} {env : Env} {s : Shared} {nm qn : Value} {tk : Nat} {C : Addr} (hh : A.handled = none) (hCe : env.locals = C)
    (hb : GenBody prog w h₀ x m body env) (F : Fr h₀ C h₁ m) (hC : h₀.get? C = none) (hbr : AllBare s.gens) :
    GSt prog w A h₀ x h₁.objs.size s.gens.size 0 [h₁.objs.size, C] { s with gens := s.gens.push (.fresh (.func body env)), toks := tk, heap := h₁.push { cls := .type "generator", data := .fields #[.int s.gens.size 0, nm, qn] } } := by
  subst hCe
  have hCl : env.locals < h₁.objs.size := F.ns.lt
  refine ⟨⟨_, nm, qn, Heap.get?_push_size _ rfl, rfl, rfl, rfl⟩, ?_, ?_, [env.locals], _, rfl, ?_, Array.getElem?_push_size .., ?_⟩
  · intro y hy
    rcases Array.mem_push.mp hy with hy | rfl
    · exact hbr y hy
    · rfl
  · intro b hb'
    rcases List.mem_cons.mp hb' with rfl | hb'
    · refine ⟨⟨_, Heap.get?_push_size _ rfl⟩, ?_⟩
      cases e : h₀.get? h₁.objs.size with
      | none => rfl
      | some o => exact absurd (Heap.lt_size (F.keep _ _ e)) (Nat.lt_irrefl _)
    · rw [List.mem_singleton.mp hb']
      obtain ⟨o, _, _, ho, _⟩ := F.ns
      exact ⟨⟨o, Heap.get?_push_of_some _ ho⟩, hC⟩
  · intro hm
    exact absurd hCl (List.mem_singleton.mp hm ▸ Nat.lt_irrefl _)
  · intro s'' hag hb''
    have F'' : Fr h₀ env.locals s''.heap m := ⟨F.ns.at' fun o e => hag _ (List.mem_singleton.mpr rfl) o (Heap.get?_push_of_some _ e), hb'', F.above⟩
    obtain ⟨fp, h1, h2, h3⟩ := hb A.in1 s'' hh F''
    exact ⟨fp, fun b hb' => (h1 b hb').imp (fun e => List.mem_singleton.mpr e) id, h2, rfl, h3⟩
end Mine
end
section
open PySem PySem.W PyProof.Rows PySem.Calls
namespace Mine
theorem wpAny_assign2 {prog : Program} {w : World} {A : Around} {E : Value → Shared → Prop} {s : Shared} {env : Env} {n1 n2 : Str} {p1 p2 pos : Pos} {k : Nat} {T : Addr} {v1 v2 : Value} {m : Str → Option Value} {Q : Unit → Shared → Prop} (hh : A.handled = none)
    (hT : s.heap.IsTuple T #[v1, v2]) (h1 : env.kindOf n1 = some .local) (h2 : env.kindOf n2 = some .local) (hn : s.heap.Ns env.locals m) (hp : (env.scope.kind == .class || (env.scope.kind == .module && env.locals != env.globals)) = false)
    (h : ∀ h' tk, h'.Ns env.locals (fun y => if y = n2 then some v2 else if y = n1 then some v1 else m y) → (∀ b o, b ≠ env.locals → s.heap.get? b = some o → h'.get? b = some o) → Q () { s with heap := h', toks := tk }) :
    wpAny (model prog w) A (assign (.Tuple [.Name n1 p1, .Name n2 p2] k pos) env (.ref T)) Q E s := by
  refine wpAny_assign_Tuple hh (items := #[v1, v2]) hT rfl rfl fun h1' hx1 => ?_
  have hLlt : env.locals < s.heap.objs.size := hn.lt
  have hn1 : h1'.Ns env.locals m := hn.at' fun o e => hx1 _ o (Nat.ne_of_lt hLlt) e
  refine assignInOrder_cons (wpAny_assign_Name (wpAny_storeName_local h1 hn1 (fun h2' hn2 hs2 => ?_) hp))
  refine assignInOrder_cons (wpAny_assign_Name (wpAny_storeName_local h2 hn2 (fun h3' hn3 hs3 => ?_) hp))
  refine assignInOrder_nil ?_
  exact h _ _ hn3 fun b o hb e => hs3.extBut b o hb (hs2.extBut b o hb (hx1 b o (Nat.ne_of_lt (Heap.lt_size e)) e))
/-- what the body of the generator's loop does where no sign is a backslash -/
noncomputable def GTurn (prog : Program) (w : World) (A : Around) (h₀ : Heap) (x : Str) (fp : List Addr) (c : Code) (fs : List Frame) (env : Env) (body : List Stmt) : Prop :=
  ∀ (K : Flow → Sem Fin) (H : Value → Sem Fin) (n : Nat) (s₀ s : Shared) (m : Str → Option Value) (v1 : Value) (c' : Nat) (u : Tok), s.heap.Ns env.locals m → m (Str.ofString "escape") = some (.bool false) → m (Str.ofString "pos") = some v1 → m (Str.ofString "ch") = some (.str ⟨#[c']⟩ u) → c' ≠ 92 →
    (∀ tk kap, (∀ s'', Seg (model prog w) A (gR fp) (gY h₀ x fp) n s'' c (K .next) fs s'' → kap (.send .none) s'') → gY h₀ x fp n s₀ (.ref s.heap.objs.size) { s with heap := s.heap.push (tupO #[v1, .str ⟨#[c']⟩ u]), toks := tk } kap) →
    Seg (model prog w) A (gR fp) (gY h₀ x fp) (n + 1) s₀ c ((execs body env).wrap K H id id) fs s
theorem gen_loopSeg {prog : Program} {w : World} {A : Around} {h₀ : Heap} {x : Str} {C z : Addr} {body : List Stmt} {env : Env} {p1 p2 pt : Pos} {kk : Nat} {F : Frame} {St₀ : Nat → Heap → Prop}
    (hC : env.locals = C) (hkp : env.kindOf (Str.ofString "pos") = some .local) (hkc : env.kindOf (Str.ofString "ch") = some .local) (hp : (env.scope.kind == .class || (env.scope.kind == .module && env.locals != env.globals)) = false) (hCz : C < z) (hC0 : h₀.get? C = none) (hz0 : ∀ b, z ≤ b → h₀.get? b = none)
    (hF : (A.over (.forLoop (.Tuple [.Name (Str.ofString "pos") p1, .Name (Str.ofString "ch") p2] kk pt) (.ref (z + 1)) body [] env) [F]).handled = none)
    (D : ∀ A' : Around, A'.handled = none → Draws prog w A' z [z] x.cps.size (SignAt x) St₀) (h92 : 92 ∉ x.cps.toList)
    (hbody : GTurn prog w A h₀ x [C, z + 1, z] (.forLoop (.Tuple [.Name (Str.ofString "pos") p1, .Name (Str.ofString "ch") p2] kk pt) (.ref (z + 1)) body [] env) [F] env body)
    (hend : ∀ (s₀ s : Shared) (m : Str → Option Value), s.heap.Ns C m → m (Str.ofString "escape") = some (.bool false) → Since [C, z + 1, z] s₀ s → Seg (model prog w) A (gR [C, z + 1, z]) (gY h₀ x [C, z + 1, z]) 0 s₀ (.forLoop (.Tuple [.Name (Str.ofString "pos") p1, .Name (Str.ofString "ch") p2] kk pt) (.ref (z + 1)) body [] env) (.pure (.again (.block [] env))) [F] s) :
    ∀ (k i : Nat) (s₀ s : Shared) (m : Str → Option Value), x.cps.size - i = k → i ≤ x.cps.size → (∃ old, IsEnum s.heap (z + 1) z i old) → St₀ i s.heap → s.heap.Ns C m → m (Str.ofString "escape") = some (.bool false) → Since [C, z + 1, z] s₀ s →
      Seg (model prog w) A (gR [C, z + 1, z]) (gY h₀ x [C, z + 1, z]) k s₀ (.forLoop (.Tuple [.Name (Str.ofString "pos") p1, .Name (Str.ofString "ch") p2] kk pt) (.ref (z + 1)) body [] env) ((model prog w).den (.forLoop (.Tuple [.Name (Str.ofString "pos") p1, .Name (Str.ofString "ch") p2] kk pt) (.ref (z + 1)) body [] env)) [F] s := by
  subst hC
  have hze : z + 1 ≠ z := Nat.succ_ne_self _
  have W := fun (A' : Around) (hA : A'.handled = none) => WalksT.enumerateD (D A'.in1 hA) (z + 1) hze (fun h => hze (List.mem_singleton.mp h)) (List.mem_singleton.mpr rfl)
  have hCw : env.locals ∉ [z + 1, z] := fun h => by
    rcases List.mem_cons.mp h with e | h
    · exact absurd hCz (e ▸ Nat.not_lt.mpr (Nat.le_succ _))
    · exact absurd hCz (List.mem_singleton.mp h ▸ Nat.lt_irrefl _)
  have wsub : ∀ b, b ∉ [env.locals, z + 1, z] → b ∉ [z + 1, z] := fun b hb h => hb (List.mem_cons_of_mem _ h)
  intro k
  induction k with
  | zero =>
    intro i s₀ s m hk hi hen hst hn hesc hsince
    have hin : i = x.cps.size := by omega
    subst hin
    refine seg_forLoop rfl ((W _ hF).done s _ _ ⟨hen, hst⟩ fun h' tk hk' => ?_)
    obtain ⟨⟨h1, t1, rfl⟩, hkp⟩ := hsince
    exact hend s₀ _ m (hn.at' fun o e => hk' _ o hCw e) hesc ⟨⟨h', tk, rfl⟩, fun b o hb e => hk' b o (wsub b hb) (hkp b o hb e)⟩
  | succ k ih =>
    intro i s₀ s m hk hi hen hst hn hesc hsince
    have hlt : i < x.cps.size := by omega
    refine seg_forLoop rfl ((W _ hF).item i s _ _ hlt ⟨hen, hst⟩ fun T vals h1 tk1 hPt hTs hT hMid hk1 => ?_)
    refine (W _ hF).go _ _ _ i T _ _ _ hMid fun h2 hst2 hk2 => ?_
    obtain ⟨t, v, ⟨c', u, hc', rfl⟩, rfl⟩ : ∃ t v, SignAt x i v ∧ vals = #[.int ((i : Nat) : Int) t, v] := by
      obtain ⟨t, v, hv, rfl⟩ := hPt
      exact ⟨t, v, hv, rfl⟩
    have hT2 : h2.IsTuple T #[.int ((i : Nat) : Int) t, .str ⟨#[c']⟩ u] := hT.at fun o e => hk2 T o ((W _ hF).apart i T _ hMid) e
    have hn2 : h2.Ns env.locals m := hn.at' fun o e => hk2 _ o hCw (hk1 _ o hCw e)
    refine wpAny_assign2 hF hT2 hkp hkc hn2 hp fun h3 tk3 hn3 hk3 => ?_
    have hc92 : c' ≠ 92 := fun e => h92 (by subst e; exact List.mem_of_getElem? (by simpa using hc'))
    have up3 : ∀ b o, b ∉ [env.locals, z + 1, z] → s.heap.get? b = some o → h3.get? b = some o := fun b o hb e => hk3 b o (fun q => hb (q ▸ List.mem_cons_self ..)) (hk2 b o (wsub b hb) (hk1 b o (wsub b hb) e))
    have hst3 : (∃ old, IsEnum h3 (z + 1) z ((i + 1 : Nat) : Int) old) ∧ St₀ (i + 1) h3 := (W _ hF).frame (i + 1) h2 h3 hst2 fun b hb o e => hk3 b o (fun q => by
      subst q
      rcases List.mem_cons.mp hb with e' | hb
      · exact absurd hCz (e' ▸ Nat.not_lt.mpr (Nat.le_succ _))
      · exact absurd hCz (List.mem_singleton.mp hb ▸ Nat.lt_irrefl _)) e
    have d1 : ¬ Str.ofString "escape" = Str.ofString "ch" := by decide +kernel
    have d2 : ¬ Str.ofString "escape" = Str.ofString "pos" := by decide +kernel
    have d3 : ¬ Str.ofString "pos" = Str.ofString "ch" := by decide +kernel
    have hes3 : (fun y => if y = Str.ofString "ch" then some (Value.str ⟨#[c']⟩ u) else if y = Str.ofString "pos" then some (Value.int ((i : Nat) : Int) t) else m y) (Str.ofString "escape") = some (.bool false) := by
      show (if Str.ofString "escape" = Str.ofString "ch" then _ else _) = _
      rw [if_neg d1, if_neg d2]; exact hesc
    have hps3 : (fun y => if y = Str.ofString "ch" then some (Value.str ⟨#[c']⟩ u) else if y = Str.ofString "pos" then some (Value.int ((i : Nat) : Int) t) else m y) (Str.ofString "pos") = some (Value.int ((i : Nat) : Int) t) := by
      show (if Str.ofString "pos" = Str.ofString "ch" then _ else _) = _
      rw [if_neg d3, if_pos rfl]
    have hch3 : (fun y => if y = Str.ofString "ch" then some (Value.str ⟨#[c']⟩ u) else if y = Str.ofString "pos" then some (Value.int ((i : Nat) : Int) t) else m y) (Str.ofString "ch") = some (Value.str ⟨#[c']⟩ u) := if_pos rfl
    refine hbody _ _ k s₀ _ _ (.int ((i : Nat) : Int) t) c' u hn3 hes3 hps3 hch3 hc92 ?_
    intro tk kap hkap
    obtain ⟨⟨h0, t0, rfl⟩, hkp⟩ := hsince
    have hlive : ∀ b ∈ [env.locals, z + 1, z], (∃ o, h3.get? b = some o) ∧ h₀.get? b = none := by
      intro b hb
      rcases List.mem_cons.mp hb with rfl | hb
      · obtain ⟨o, _, _, ho, _⟩ := hn3
        exact ⟨⟨o, ho⟩, hC0⟩
      rcases List.mem_cons.mp hb with rfl | hb
      · obtain ⟨⟨old, he⟩, _⟩ := hst3
        exact ⟨⟨_, he⟩, hz0 _ (Nat.le_succ _)⟩
      · rw [List.mem_singleton.mp hb]
        exact ⟨(D _ hF).live _ _ hst3.2, hz0 _ (Nat.le_refl _)⟩
    have hall : ∀ b o, b ∉ [env.locals, z + 1, z] → s₀.heap.get? b = some o → (h3.push (tupO #[.int ((i : Nat) : Int) t, .str ⟨#[c']⟩ u])).get? b = some o := fun b o hb e => Heap.get?_push_of_some _ (up3 b o hb (hkp b o hb e))
    refine ⟨⟨⟨h3.objs.size, i, c', t, u, by omega, hc', rfl, Heap.get?_push_size _ rfl, ?_, ?_⟩, ⟨⟨_, tk, rfl⟩, hall⟩, fun b hb => ?_⟩, fun s'' hag hb'' => hkap s'' (seg_again rfl (ih (i + 1) s'' s'' _ (by omega) hlt ?_ ?_ (hn3.at' fun o e => hag _ (List.mem_cons_self ..) o (Heap.get?_push_of_some _ e)) hes3 ⟨⟨s''.heap, s''.toks, rfl⟩, fun _ _ _ e => e⟩))⟩
    · cases e : s₀.heap.get? h3.objs.size with
      | none => rfl
      | some o =>
        have hnf : h3.objs.size ∉ [env.locals, z + 1, z] := fun hm => by
          obtain ⟨⟨o', e'⟩, _⟩ := hlive _ hm
          exact absurd (Heap.lt_size e') (Nat.lt_irrefl _)
        exact absurd (Heap.lt_size (up3 _ _ hnf (hkp _ _ hnf e))) (Nat.lt_irrefl _)
    · intro hm
      obtain ⟨⟨o', e'⟩, _⟩ := hlive _ hm
      exact absurd (Heap.lt_size e') (Nat.lt_irrefl _)
    · obtain ⟨⟨o, e⟩, hn0⟩ := hlive b hb
      exact ⟨⟨o, Heap.get?_push_of_some _ e⟩, hn0⟩
    · obtain ⟨⟨old, he⟩, _⟩ := hst3
      exact ⟨old, hag _ (List.mem_cons_of_mem _ (List.mem_cons_self ..)) _ (Heap.get?_push_of_some _ he)⟩
    · exact (D _ hF).frame _ _ _ hst3.2 fun b hb o e => hag b (by rw [List.mem_singleton.mp hb]; simp) o (Heap.get?_push_of_some _ e)
end Mine
end
section
open PySem PySem.W PyProof.Rows PySem.Calls
local macro_rules | `(tactic| k_room) => `(tactic| ktr_room)
local macro_rules | `(tactic| k_all) => `(tactic| assumption)
local macro_rules | `(tactic| ktr_units) => `(tactic| (have hcL9 := cLine_is; (simp only [units_in1, units_deeper, Around.mark_units, units_caller, Mine.units_make, Mine.AT_units]); lia))
local macro_rules | `(tactic| ktr_room) => `(tactic| ((simp only [depth_under_make, depth_under_kw, depth_in1, depth_deeper, depth_caller, Mine.AT_depth]); lia))
section
open PySem PySem.W PyProof.Rows PySem.Calls
set_option maxHeartbeats 1000000
namespace Mine
structure CutS where
  kvs : Array Value
  n : Nat
  room : Int
  rt : Tok
  tl : List (Addr × Obj)
structure CutP (ps : List Piece) (room₀ : Int) (rest : List (Addr × Obj)) (k : Addr) (i : Nat) (c : CutS) : Prop where
  sub : ∀ p ∈ rest, p ∈ c.tl
  ne : ∀ p ∈ c.tl, p.1 ≠ k
  kept : ∃ done, PcsIn c.tl c.kvs.toList done ∧ cutP (ps.drop i) c.room done = cutP ps room₀ []
  room : 0 ≤ c.room ∧ c.room ≤ 1000
  size : c.kvs.size ≤ i
theorem CutP.step {ps : List Piece} {room₀ : Int} {rest : List (Addr × Obj)} {k D : Addr} {i n' : Nat} {kvs : Array Value} {rm : Int} {rt' t1 t2 : Tok} {tl : List (Addr × Obj)} {mk pt : Str} {done : List Piece}
    (hsub : ∀ p ∈ rest, p ∈ tl) (hne : ∀ p ∈ tl, p.1 ≠ k) (hpc : PcsIn tl kvs.toList done) (hcut : cutP (ps.drop i) rm done = cutP ps room₀ []) (hrm : 0 ≤ rm ∧ rm ≤ 1000) (hkz : kvs.size ≤ i)
    (hdr : ps.drop i = (mk, pt) :: ps.drop (i + 1)) (hle : ((mk ++ pt ++ mk).length : Int) ≤ rm) (hD : D ≠ k) :
    CutP ps room₀ rest k (i + 1) ⟨kvs.push (.ref D), n', rm - (mk ++ pt ++ mk).length, rt', (D, tupO #[.str mk t1, .str pt t2]) :: tl⟩ := by
  refine ⟨fun p hp => List.Mem.tail _ (hsub p hp), ?_, ⟨done ++ [(mk, pt)], ?_, ?_⟩, ?_, ?_⟩
  · intro p hp
    rcases List.mem_cons.mp hp with rfl | hp
    · exact hD
    · exact hne p hp
  · rw [Array.toList_push]
    exact PcsIn.snoc (hpc.mono fun p hp => List.Mem.tail _ hp) (List.Mem.head _)
  · rw [← hcut, hdr, cutP, if_pos (by exact hle)]; rfl
  · show 0 ≤ rm - _ ∧ rm - _ ≤ 1000; (first | lia | omega)
  · show (kvs.push _).size ≤ i + 1; rw [Array.size_push]; (first | lia | omega)
theorem cut_no1 {ps : List Piece} {room₀ rm : Int} {i : Nat} {mk pt : Str} {done : List Piece} (hcut : cutP (ps.drop i) rm done = cutP ps room₀ []) (hdr : ps.drop i = (mk, pt) :: ps.drop (i + 1)) (hle : ¬ ((mk ++ pt ++ mk).length : Int) ≤ rm) (h : mk = Str.ofString "" ∨ rm = 0) :
    cutP ps room₀ [] = (done ++ [(Str.ofString "", Txt.slice pt none (some rm) ++ truncT)], Str.ofString "") := by
  rw [← hcut, hdr, cutP, if_neg (by exact hle), if_pos h]
theorem cut_no2 {ps : List Piece} {room₀ rm : Int} {i : Nat} {mk pt : Str} {done : List Piece} (hcut : cutP (ps.drop i) rm done = cutP ps room₀ []) (hdr : ps.drop i = (mk, pt) :: ps.drop (i + 1)) (hle : ¬ ((mk ++ pt ++ mk).length : Int) ≤ rm) (h1 : (mk == Str.ofString "") = false) (h2 : rm ≠ 0) :
    cutP ps room₀ [] = (done, Txt.slice (mk ++ pt ++ mk) none (some rm) ++ truncT) := by
  rw [← hcut, hdr, cutP, if_neg (by exact hle), if_neg (by rintro (h | h); (simp at h1; exact h1 h); exact h2 h)]; rfl
structure CutOut (ps : List Piece) (room : Int) (rest : List (Addr × Obj)) (v : Value) (tl : List (Addr × Obj)) : Prop where
  ex : ∃ D K kvs n bt, v = .ref D ∧ (D, tupO #[.ref K, .str (cutP ps room []).2 bt]) ∈ tl ∧ (K, listO kvs n) ∈ tl ∧ PcsIn tl kvs.toList (cutP ps room []).1
  sub : ∀ p ∈ rest, p ∈ tl
theorem led_mem {l k : Addr} {o o' : Obj} {tl rest : List (Addr × Obj)} (h : (l, o) ∈ rest) (hs : ∀ p ∈ rest, p ∈ tl) : (l, o) ∈ (k, o') :: tl := List.Mem.tail _ (hs _ h)
set_option maxHeartbeats 4000000 in
theorem c_cut {w : World} {mean : ExcName → Option Value} {mg mb : Str → Option Value}
  {dp un : Nat} {gd : Option (List Code)} {cn : Str} {cs : Scope} {a : Addr} {ccd : Value} {cl : List (Str × Addr)} {outer : List Env} {A₀ : Around} {base h₀ : Heap} {L : Addr} {m : Str → Option Value} {rest : List (Addr × Obj)} {s : Shared}
    {Q E : Value → Shared → Prop} {l : Addr} {vs : Array Value} {ln : Nat} {ps : List Piece} {room : Int} {rt : Tok}
    (B : Below A₀ base outer h₀) (F : Fr h₀ L s.heap m) (X : (Mine.hd.heap_1_39 w.params).In h₀)
    (N : News h₀ L s.heap rest)
    (T : Top Mine.hd.view_1_40 LO mean mg mb h₀) (hk : cs.kind = .function) (hdp : dp + 10 < recursionLimit) (hun : un + 100 < cLine)
    (hl : (l, listO vs ln) ∈ rest) (hps : PcsIn rest vs.toList ps) (hroom : 0 ≤ room ∧ room ≤ 1000) (hsz : ∀ q ∈ ps, q.1.length ≤ 1 ∧ q.2.length ≤ 1000) (hvs : vs.size ≤ 10000)
    (ret : ∀ v tl h' tk', CutOut ps room rest v tl → Fr h₀ L h' m → News h₀ L h' tl → Q v { s with heap := h', toks := tk' })
    : wpAny (model PySem.Challenge.rw_ny0347_01.row.prog w) (ktrTop dp un gd cn cs L a ccd cl outer) (call (.ref 794) [.ref l, .int room rt]) Q E s := by
  w_top off
  revert N X; k_fill; intro X N
  refine wpAny_call ?_
  k_dflt ((refine' code_def ?k1 ?k2 ?k3 ?k4 ?k5 ?kA ?kF ?kK ?k6 ?k7 ?k8 ?k9 ?kB ?_ ?c2 ?c3 ?c4 ?c5; (case kA => exact rfl); (case kF => exact rfl); (case kK => assumption); (case k1 => k_asm); (case k2 => k_asm); (case k3 => k_asm); (case k4 => k_asm); (case k5 => k_asm); (case k6 => k_is); (case k7 => k_is); (case k8 => ktr_room); (case k9 => first | exact BindsTo.of_eq rfl | exact binds_K (by k_in) rfl (by k_is) rfl rfl rfl); (case c5 => decide); (case kB => exact locs rfl); (case c2 => exact rfl); (case c3 => exact rfl); (case c4 => exact rfl); k_whole; intro g' L' h' FG' F' N' B' X' T'; (try dsimp only); (try k_fold)))
  (repeat' (first | ((with_reducible show HoldN 1 _); refine HoldN.of ?_; (rename Fr _ _ _ _ => lF); (rename News _ _ _ _ => lN); (refine add_led lF lN (by repeat (first | exact List.Mem.head _ | apply List.Mem.tail)) (by repeat (first | exact List.Mem.head _ | apply List.Mem.tail)) (by simp only [List.size_toArray, List.length_cons, List.length_nil]; (first | lia | omega)) ?_); intro x' h' F' N' l1; (try k_lt l1); clear lF lN) | (k_unfold; (try dsimp only)) | (k_end; wrow_close) | ((with_reducible show Mine.KfPost ..); (dsimp only [KfPost])) | ((with_reducible show wpAny _ _ (binaryOp Operator.Add (Value.ref _) (Value.ref _)) _ _ _); refine HoldN.mk 1 ?_) | ((with_reducible show wpAny _ _ (exec (Stmt.For ..) _) _ _ _); k_dflt (refine' For_turns ?F ?_; (case F => k_asm); k_whole)) | walk1 | (dsimp only; first | ((with_reducible show Mine.KfPost ..); (dsimp only [KfPost])) | ((with_reducible show wpAny _ _ (binaryOp Operator.Add (Value.ref _) (Value.ref _)) _ _ _); refine HoldN.mk 1 ?_) | ((with_reducible show wpAny _ _ (exec (Stmt.For ..) _) _ _ _); k_dflt (refine' For_turns ?F ?_; (case F => k_asm); k_whole))) | (dsimp only; walk1) | (leave1; walk_say "STEP leave1"; try dsimp only) | fail "no step"))
  rename Fr _ _ _ _ => F1
  rename News _ _ _ _ => N1
  rename (∀ p ∈ rest, p.1 < _) => hlt1
  refine name_head N1 fun k hk9 => ?_
  subst hk9
  refine' turns_list (σ := CutS) (fun c => (k, listO c.kvs c.n) :: c.tl) (fun c => [(Str.ofString "room", Value.int c.room c.rt)]) [Str.ofString "mark", Str.ofString "part", Str.ofString "writing"] (CutP ps room rest k) ⟨#[], 0, room, rt, rest⟩ ?hh F1 N1 (List.Mem.tail _ hl) ?hk ?hp ?turn ?hlc ?done
  case hh => rfl
  case hk => intro q hq; simp only [List.mem_cons, List.not_mem_nil, or_false] at hq; subst hq; rfl
  case hp => exact ⟨fun _ h => h, fun p hp => Nat.ne_of_lt (hlt1 p hp), ⟨[], .nil, by simp⟩, hroom, Nat.zero_le _⟩
  case hlc => exact fun i c hP => List.Mem.tail _ (hP.sub _ hl)
  case turn =>
    clear F1 N1
    rintro i v ⟨kvs, n, rm, rmt, tl⟩ u I oI h9 tk9 hv ⟨hsub, hne, ⟨done, hpc, hcut⟩, hrm, hkz⟩ hap hlI F' N'
    dsimp only at hsub hne hpc hcut hrm hkz hap
    obtain ⟨av, mk, pt, tk1, tk2, rfl, hav, hdr⟩ := PcsIn.at hps (by simpa using hv)
    have hav2 := hsub _ hav
    have hkI := hap _ (List.Mem.head _)
    have hIk := Ne.symm hkI
    dsimp only at hkI hIk
    obtain ⟨hm1, hp1⟩ := hsz (mk, pt) (List.mem_of_mem_drop (i := i) (by rw [hdr]; exact List.Mem.head _))
    dsimp only at hm1 hp1
    have hiv : i < vs.size := by rcases Nat.lt_or_ge i vs.size with h | h; exact h; rw [Array.getElem?_eq_none h] at hv; cases hv
    have hkz' : kvs.size ≤ 10000 := by (first | lia | omega)
    dsimp only at F' N' ⊢
    have hTup := News.isTup N' (List.Mem.tail _ (List.Mem.tail _ hav2))
    (repeat' (first | ((with_reducible show HoldN 1 _); refine HoldN.of ?_; (rename Fr _ _ _ _ => lF); (rename News _ _ _ _ => lN); (refine add_led lF lN (by repeat (first | exact List.Mem.head _ | apply List.Mem.tail)) (by repeat (first | exact List.Mem.head _ | apply List.Mem.tail)) (by simp only [List.size_toArray, List.length_cons, List.length_nil]; (first | lia | omega)) ?_); intro x' h' F' N' l1; (try k_lt l1); clear lF lN) | (k_unfold; (try dsimp only)) | (k_end; wrow_close) | ((with_reducible show Mine.KfPost ..); (dsimp only [KfPost])) | ((with_reducible show wpAny _ _ (binaryOp Operator.Add (Value.ref _) (Value.ref _)) _ _ _); refine HoldN.mk 1 ?_) | ((with_reducible show wpAny _ _ (exec (Stmt.For ..) _) _ _ _); k_dflt (refine' For_turns ?F ?_; (case F => k_asm); k_whole)) | walk1 | (dsimp only; first | ((with_reducible show Mine.KfPost ..); (dsimp only [KfPost])) | ((with_reducible show wpAny _ _ (binaryOp Operator.Add (Value.ref _) (Value.ref _)) _ _ _); refine HoldN.mk 1 ?_) | ((with_reducible show wpAny _ _ (exec (Stmt.For ..) _) _ _ _); k_dflt (refine' For_turns ?F ?_; (case F => k_asm); k_whole))) | (dsimp only; walk1) | (leave1; walk_say "STEP leave1"; try dsimp only) | fail "no step"))
    all_goals (first
      | ((rename (_ ≤ rm) => hc9); (rename (I < _ ∧ _) => hlt9); (have hDk := neN (Nat.ne_of_gt hlt9.2.1)); (have hDI := neN (Nat.ne_of_gt hlt9.1)); exact kf_end ⟨kvs.push (.ref _), n + 1, rm - _, _, (_, tupO #[.str mk tk1, .str pt tk2]) :: tl⟩ (by assumption) (by assumption) (by intro q hq; rw [List.mem_singleton.mp hq]; exact List.Mem.tail _ (List.Mem.head _)) (by
            intro q hq
            rcases List.mem_cons.mp hq with rfl | hq
            · exact ⟨List.Mem.tail _ (List.Mem.tail _ (List.Mem.head _)), by simpa using hkI⟩
            rcases List.mem_cons.mp hq with rfl | hq
            · exact ⟨List.Mem.head _, by simpa using hDI⟩
            · exact ⟨List.Mem.tail _ (List.Mem.tail _ (List.Mem.tail _ hq)), by simpa using hap _ (List.Mem.tail _ hq)⟩) (by (intro q9 hq9; simp only [List.mem_cons, List.not_mem_nil, or_false] at hq9; subst hq9; rfl)) (by (intro z h2 h3; simp only [List.forall_mem_cons, List.not_mem_nil, false_implies, implies_true, and_true, ne_eq] at h2; simp only [List.contains_cons, List.contains_nil, Bool.or_false, Bool.or_eq_false_iff, beq_eq_false_iff_ne, ne_eq] at h3; simp [h2, h3, kstB])) (CutP.step hsub hne hpc hcut hrm hkz hdr hc9 hDk))
      | ((rename (¬ _ ≤ rm) => hc9); (show Q _ _); first
        | ((rename ((mk == Str.ofString "") = true) => hm9); (have e9 := cut_no1 hcut hdr hc9 (.inl (by simpa using hm9))); (rename News h₀ L _ _ => kN9); (rename Fr h₀ L _ m => kF9); refine ret _ _ _ _ (CutOut.mk ⟨_, _, _, _, _, rfl, (by rw [e9]; exact List.Mem.head _), List.Mem.tail _ (List.Mem.head _), ?_⟩ (fun q hq => (by repeat (first | exact hsub q hq | apply List.Mem.tail)))) kF9 kN9; rw [e9]; simp only [Array.toList_append]; exact PcsIn.append (hpc.mono fun q hq => (by repeat (first | exact hq | apply List.Mem.tail))) (.cons (by repeat (first | exact List.Mem.head _ | apply List.Mem.tail)) .nil))
        | ((rename (rm = 0) => hm9); (have e9 := cut_no1 hcut hdr hc9 (.inr hm9)); (rename News h₀ L _ _ => kN9); (rename Fr h₀ L _ m => kF9); refine ret _ _ _ _ (CutOut.mk ⟨_, _, _, _, _, rfl, (by rw [e9]; exact List.Mem.head _), List.Mem.tail _ (List.Mem.head _), ?_⟩ (fun q hq => (by repeat (first | exact hsub q hq | apply List.Mem.tail)))) kF9 kN9; rw [e9]; simp only [Array.toList_append]; exact PcsIn.append (hpc.mono fun q hq => (by repeat (first | exact hq | apply List.Mem.tail))) (.cons (by repeat (first | exact List.Mem.head _ | apply List.Mem.tail)) .nil))
        | ((rename ((mk == Str.ofString "") = false) => hm9); (rename (rm ≠ 0) => hm8); (have e9 := cut_no2 hcut hdr hc9 hm9 hm8); (rename News h₀ L _ _ => kN9); (rename Fr h₀ L _ m => kF9); refine ret _ _ _ _ (CutOut.mk ⟨_, _, _, _, _, rfl, (by rw [e9]; exact List.Mem.head _), List.Mem.tail _ (List.Mem.tail _ (List.Mem.head _)), ?_⟩ (fun q hq => (by repeat (first | exact hsub q hq | apply List.Mem.tail)))) kF9 kN9; rw [e9]; exact hpc.mono fun q hq => (by repeat (first | exact hq | apply List.Mem.tail)))))
  case done =>
    clear F1 N1
    rintro ⟨kvs, n, rm, rmt, tl⟩ u h9 tk9 ⟨hsub, hne, ⟨done, hpc, hcut⟩, hrm, hkz⟩ F' N'
    dsimp only at hsub hne hpc hcut hrm hkz F' N' ⊢
    have hkz' : kvs.size ≤ 10000 := by (first | lia | omega)
    (repeat' (first | ((with_reducible show HoldN 1 _); refine HoldN.of ?_; (rename Fr _ _ _ _ => lF); (rename News _ _ _ _ => lN); (refine add_led lF lN (by repeat (first | exact List.Mem.head _ | apply List.Mem.tail)) (by repeat (first | exact List.Mem.head _ | apply List.Mem.tail)) (by simp only [List.size_toArray, List.length_cons, List.length_nil]; (first | lia | omega)) ?_); intro x' h' F' N' l1; (try k_lt l1); clear lF lN) | (k_unfold; (try dsimp only)) | (k_end; wrow_close) | ((with_reducible show Mine.KfPost ..); (dsimp only [KfPost])) | ((with_reducible show wpAny _ _ (binaryOp Operator.Add (Value.ref _) (Value.ref _)) _ _ _); refine HoldN.mk 1 ?_) | ((with_reducible show wpAny _ _ (exec (Stmt.For ..) _) _ _ _); k_dflt (refine' For_turns ?F ?_; (case F => k_asm); k_whole)) | walk1 | (dsimp only; first | ((with_reducible show Mine.KfPost ..); (dsimp only [KfPost])) | ((with_reducible show wpAny _ _ (binaryOp Operator.Add (Value.ref _) (Value.ref _)) _ _ _); refine HoldN.mk 1 ?_) | ((with_reducible show wpAny _ _ (exec (Stmt.For ..) _) _ _ _); k_dflt (refine' For_turns ?F ?_; (case F => k_asm); k_whole))) | (dsimp only; walk1) | (leave1; walk_say "STEP leave1"; try dsimp only) | fail "no step"))
    (show Q _ _)
    have e9 : cutP ps room [] = (done ++ [(Str.ofString "", truncT)], Str.ofString "") := by
      rw [← hcut, List.drop_eq_nil_of_le (by rw [← hps.len]; simp)]; rfl
    (rename News h₀ L _ _ => kN9); (rename Fr h₀ L _ m => kF9); refine ret _ _ _ _ (CutOut.mk ⟨_, _, _, _, _, rfl, (by rw [e9]; exact List.Mem.head _), List.Mem.tail _ (List.Mem.head _), ?_⟩ (fun q hq => (by repeat (first | exact hsub q hq | apply List.Mem.tail)))) kF9 kN9
    rw [e9]; simp only [Array.toList_append]
    exact PcsIn.append (hpc.mono fun q hq => (by repeat (first | exact hq | apply List.Mem.tail))) (.cons (by repeat (first | exact List.Mem.head _ | apply List.Mem.tail)) .nil)
end Mine
end
section
open PySem PySem.W PyProof.Rows PySem.Calls
section
open PySem PySem.W PyProof.Rows PySem.Calls
set_option maxHeartbeats 1000000
namespace Mine
noncomputable def shortOf (b : Bool) (x : Str) : Str := if b = true ∧ 80 ≤ x.length then Txt.slice x none (some 80) ++ Str.ofString " [truncated]..." else x
theorem shortOf_no {b : Bool} {x : Str} (h : b = false) : shortOf b x = x := by simp [shortOf, h]
theorem shortOf_lt {b : Bool} {x : Str} (h : (x.length : Int) < 80) : shortOf b x = x := by simp [shortOf]; (first | lia | omega)
theorem shortOf_cut {b : Bool} {x : Str} (h : b = true) (h2 : ¬ (x.length : Int) < 80) : shortOf b x = Txt.slice x none (some 80) ++ Str.ofString " [truncated]..." := by
  unfold shortOf; rw [if_pos ⟨h, by (first | lia | omega)⟩]
theorem use_str {Q : Value → Shared → Prop} {s : Shared} {h h' : Heap} {L : Addr} {m : Str → Option Value} {x y : Str} {tk t : Nat} (ret : ∀ h' tk' t, (∀ b o, h.get? b = some o → h'.get? b = some o) → Q (.str x t) { s with heap := h', toks := tk' }) (F : Fr h L h' m) (e : x = y) :
    Q (.str y t) { s with heap := h', toks := tk } := e ▸ ret h' tk t F.keep
theorem c_safe_repr {w : World} {mean : ExcName → Option Value} {mg mb : Str → Option Value}
  {dp un : Nat} {outer : List Env} {base : Heap} {s : Shared} {a : Addr} {d : PyData} {as : List Addr} {b : Bool}
    {Q E : Value → Shared → Prop} 
    (B : Below (AT dp un (some []) outer) base outer s.heap) (X : (Mine.hd.heap_1_39 w.params).In s.heap) 
    (T : Top Mine.hd.view_1_40 LO mean mg mb s.heap) (hdp : dp + 300 < recursionLimit) (hun : un + 1000 < cLine)
    (r : Reads s.heap (.ref a) d as) (hs : d.showable = true) (hnd : d.hasDict = false) (hdep : d.depth ≤ 100) (hlen : d.shown.length ≤ 10000)
    (ret : ∀ h' tk' t, (∀ b o, s.heap.get? b = some o → h'.get? b = some o) → Q (.str (shortOf b d.shown) t) { s with heap := h', toks := tk' })
    : wpAny (model PySem.Challenge.rw_ny0347_01.row.prog w) (AT dp un (some []) outer) (call (.ref 763) [.ref a, .bool b]) Q E s := by
  w_top off
  revert X; k_fill; intro X
  refine wpAny_call ?_
  k_dflt ((refine' enter0 ?k1 ?k3 ?k5 ?k6 ?k7 ?k8 ?k9 ?kB ?_ ?c2 ?c3 ?c4 ?c5; (case k1 => k_asm); (case k3 => k_asm); (case k5 => k_asm); (case k6 => k_is); (case k7 => k_is); (case k8 => ktr_room); (case k9 => first | exact BindsTo.of_eq rfl | exact binds_K (by k_in) rfl (by k_is) rfl rfl rfl); (case c5 => decide); (case kB => exact locs rfl); (case c2 => exact rfl); (case c3 => exact rfl); (case c4 => exact rfl); k_whole; intro L' h' F' N'; (try dsimp only); (try k_fold)))
  (repeat' (first | ((with_reducible show HoldN 1 _); refine HoldN.of ?_; (rename Fr _ _ _ _ => lF); (rename News _ _ _ _ => lN); (rename Reads _ _ _ _ => lR); (rename PyData.hasDict _ = false => lD); (rename PyData.showable _ = true => lS); (rename PyData.depth _ ≤ 100 => lP); (refine repr_HN lF lN (Reads.keeps lF.keep lR) lD lS rfl (by (try simp only [units_in1, units_deeper, Around.mark_units, units_caller]); (have hcL9 := cLine_is); simp only [cLine] at *; (first | lia | omega)) ?_ (by rw [sizeLine_eq]; (first | lia | omega))); intro h' u' tk' F' N') | (k_unfold; (try dsimp only)) | (k_end; wrow_close) | ((with_reducible show wpAny _ _ (call (Value.builtin "repr") _) _ _ _); refine HoldN.mk 1 ?_) | ((with_reducible show wpAny _ _ (PySem.isTrue _ _ _) _ _ _); (k_fold)) | ((with_reducible show wpAny _ _ (execs (_ :: _) _) _ _ _); (k_fold)) | walk1 | (dsimp only; first | ((with_reducible show wpAny _ _ (call (Value.builtin "repr") _) _ _ _); refine HoldN.mk 1 ?_) | ((with_reducible show wpAny _ _ (PySem.isTrue _ _ _) _ _ _); (k_fold)) | ((with_reducible show wpAny _ _ (execs (_ :: _) _) _ _ _); (k_fold))) | (dsimp only; walk1) | (leave1; walk_say "STEP leave1"; try dsimp only) | fail "no step"))
  all_goals (show Q _ _)
  all_goals (first
    | ((have hb : b = false := by assumption); exact use_str (Q := Q) (s := s) (h := s.heap) ret (by assumption) (shortOf_no hb))
    | ((have hb : (d.shown.length : Int) < 80 := by assumption); exact use_str (Q := Q) (s := s) (h := s.heap) ret (by assumption) (shortOf_lt hb))
    | ((have hb : b = true := by assumption); (have hc : ¬ (d.shown.length : Int) < 80 := by assumption); exact use_str (Q := Q) (s := s) (h := s.heap) ret (by assumption) (shortOf_cut hb hc)))
theorem c_safe_repr0 {w : World} {mean : ExcName → Option Value} {mg mb : Str → Option Value}
  {dp un : Nat} {outer : List Env} {base : Heap} {s : Shared} {a : Addr} {d : PyData} {as : List Addr}
    {Q E : Value → Shared → Prop} 
    (B : Below (AT dp un (some []) outer) base outer s.heap) (X : (Mine.hd.heap_1_39 w.params).In s.heap) 
    (T : Top Mine.hd.view_1_40 LO mean mg mb s.heap) (hdp : dp + 300 < recursionLimit) (hun : un + 1000 < cLine)
    (r : Reads s.heap (.ref a) d as) (hs : d.showable = true) (hnd : d.hasDict = false) (hdep : d.depth ≤ 100) (hlen : d.shown.length ≤ 10000)
    (ret : ∀ h' tk' t, (∀ b o, s.heap.get? b = some o → h'.get? b = some o) → Q (.str d.shown t) { s with heap := h', toks := tk' })
    : wpAny (model PySem.Challenge.rw_ny0347_01.row.prog w) (AT dp un (some []) outer) (call (.ref 763) [.ref a]) Q E s := by
  revert X; k_fill; intro X
  refine wpAny_call ?_
  k_dflt ((refine' enter0 ?k1 ?k3 ?k5 ?k6 ?k7 ?k8 ?k9 ?kB ?_ ?c2 ?c3 ?c4 ?c5; (case k1 => k_asm); (case k3 => k_asm); (case k5 => k_asm); (case k6 => k_is); (case k7 => k_is); (case k8 => ktr_room); (case k9 => first | exact BindsTo.of_eq rfl | exact binds_K (by k_in) rfl (by k_is) rfl rfl rfl); (case c5 => decide); (case kB => exact locs rfl); (case c2 => exact rfl); (case c3 => exact rfl); (case c4 => exact rfl); k_whole; intro L' h' F' N'; (try dsimp only); (try k_fold)))
  (repeat' (first | ((with_reducible show HoldN 1 _); refine HoldN.of ?_; (rename Fr _ _ _ _ => lF); (rename News _ _ _ _ => lN); (rename Reads _ _ _ _ => lR); (rename PyData.hasDict _ = false => lD); (rename PyData.showable _ = true => lS); (rename PyData.depth _ ≤ 100 => lP); (refine repr_HN lF lN (Reads.keeps lF.keep lR) lD lS rfl (by (try simp only [units_in1, units_deeper, Around.mark_units, units_caller]); (have hcL9 := cLine_is); simp only [cLine] at *; (first | lia | omega)) ?_ (by rw [sizeLine_eq]; (first | lia | omega))); intro h' u' tk' F' N') | (k_unfold; (try dsimp only)) | (k_end; wrow_close) | ((with_reducible show wpAny _ _ (call (Value.builtin "repr") _) _ _ _); refine HoldN.mk 1 ?_) | ((with_reducible show wpAny _ _ (PySem.isTrue _ _ _) _ _ _); (k_fold)) | ((with_reducible show wpAny _ _ (execs (_ :: _) _) _ _ _); (k_fold)) | walk1 | (dsimp only; first | ((with_reducible show wpAny _ _ (call (Value.builtin "repr") _) _ _ _); refine HoldN.mk 1 ?_) | ((with_reducible show wpAny _ _ (PySem.isTrue _ _ _) _ _ _); (k_fold)) | ((with_reducible show wpAny _ _ (execs (_ :: _) _) _ _ _); (k_fold))) | (dsimp only; walk1) | (leave1; walk_say "STEP leave1"; try dsimp only) | fail "no step"))
  all_goals (show Q _ _)
  all_goals exact use_str (Q := Q) (s := s) (h := s.heap) ret (by assumption) rfl
end Mine
end
section
open PySem PySem.W PyProof.Rows PySem.Calls Builtin Builtin.ObjectAttr Builtin.Getset_descriptor
set_option maxHeartbeats 1000000
namespace Mine
section
variable {w : World} {A : Around} {R : Result → Shared → Prop} {h : Heap} {g : Array GenState} {d : Drawn} {t : Nat} {os : OsState}
theorem s_made (X : (Mine.hd.heap_1_39 w.params).In h) : Looks (model PySem.Challenge.rw_ny0347_01.row.prog w) h (Bind.madeHere "object.__new__" (.ref 608)) () := Looks.of_peek X (by kernel_rfl)
theorem s_ist (X : (Mine.hd.heap_1_39 w.params).In h) : Looks (model PySem.Challenge.rw_ny0347_01.row.prog w) h (isType (.ref 608)) true := Looks.of_peek X (by kernel_rfl)
theorem s_by (X : (Mine.hd.heap_1_39 w.params).In h) : Looks (model PySem.Challenge.rw_ny0347_01.row.prog w) h (Bind.madeBy (.ref 608)) none := Looks.of_peek X (by kernel_rfl)
theorem s_mro (X : (Mine.hd.heap_1_39 w.params).In h) : Looks (model PySem.Challenge.rw_ny0347_01.row.prog w) h (mroOf (.ref 608)) [.ref 608, .ref 131, .ref 104, .type "object"] := Looks.of_peek X (by kernel_rfl)
theorem s_self (X : (Mine.hd.heap_1_39 w.params).In h) : Looks (model PySem.Challenge.rw_ny0347_01.row.prog w) h (isSubtype (.ref 608) (.ref 608)) true := Looks.of_peek X (by kernel_rfl)
theorem s_call (X : (Mine.hd.heap_1_39 w.params).In h) : Looks (model PySem.Challenge.rw_ny0347_01.row.prog w) h (specialOf (.ref 608) "__call__") (some (.builtin "type.__call__")) := Looks.of_peek X (by kernel_rfl)
theorem s_typ (X : (Mine.hd.heap_1_39 w.params).In h) : Looks (model PySem.Challenge.rw_ny0347_01.row.prog w) h (isInstance (.ref 608) (.type "type")) true := Looks.of_peek X (by kernel_rfl)
theorem s_init (X : (Mine.hd.heap_1_39 w.params).In h) : Looks (model PySem.Challenge.rw_ny0347_01.row.prog w) h (typeLookup (.ref 608) "__init__") (some (.ref 378)) := Looks.of_peek X (by kernel_rfl)
theorem s_bind (X : (Mine.hd.heap_1_39 w.params).In h) (self : Value) : Looks (model PySem.Challenge.rw_ny0347_01.row.prog w) h (bindSpecial (.ref 378) self) (.ref 378, [self]) := Looks.of_peek X (by kernel_rfl)
noncomputable def clsOk (K : Frag) (C : Addr) : Bool := match K.lookup C with
  | some ⟨_, _, .cls cd, _⟩ => !cd.abstract && !cd.hasDel && !cd.mro.isEmpty
  | _ => false
theorem clsOk_spec {K : Frag} {C : Addr} {h : Heap} (X : K.In h) (e : clsOk K C = true) : ∃ oc od cd sl, h.get? C = some ⟨oc, od, .cls cd, sl⟩ ∧ cd.abstract = false ∧ cd.hasDel = false ∧ cd.mro.isEmpty = false := by
  unfold clsOk at e
  split at e
  · rename_i oc od cd sl ho
    simp only [Bool.and_eq_true, Bool.not_eq_true'] at e
    exact ⟨oc, od, cd, sl, X _ _ ho, e.1.1, e.1.2, e.2⟩
  · cases e
theorem s_obj (X : (Mine.hd.heap_1_39 w.params).In h) : ∃ oc od cd sl, h.get? 608 = some ⟨oc, od, .cls cd, sl⟩ ∧ cd.abstract = false ∧ cd.hasDel = false ∧ cd.mro.isEmpty = false := clsOk_spec X (by kernel_rfl)
theorem new_S (X : (Mine.hd.heap_1_39 w.params).In h)
    (hq : R (.ok (.ret (.ref (h.objs.size + 1)))) ⟨(h.push emptyDict).push (instObj 608 h.objs.size), g, d, t, os⟩) :
    codeAny (model PySem.Challenge.rw_ny0347_01.row.prog w) A (.call (.builtin "object.__new__") ⟨[.ref 608], []⟩) R ⟨h, g, d, t, os⟩ := by
  obtain ⟨oc, od, cd, sl, hC, e1, e2, e4⟩ := s_obj X
  have made := s_made X
  have ist := s_ist X
  have typ := s_typ X
  have F := PySem.F.objNew
  have chk : Looks (model PySem.Challenge.rw_ny0347_01.row.prog w) h (checkBuiltinCall "object.__new__" ⟨[.ref 608], []⟩) () := Looks.of_peek X (by kernel_rfl)
  refine codeAny_call_builtin_code (Code.quiet_builtin _ F.quiet) (chk.here ?_)
  refine codeAny_builtin F.entry ?_
  unfold Builtin.«object.__new__»
  dsimp only
  refine wpAny_bind (ist.here ?_)
  simp only [Bool.not_true, Bool.false_eq_true, if_false]
  refine wpAny_bind (made.here ?_)
  simp only [List.isEmpty_nil, Bool.not_true, Bool.or_self, Bool.false_eq_true, if_false]
  refine wpAny_bind (wpAny_bind (wpAny_load hC (wpAny_pure ?_)))
  simp only [e1, Bool.false_eq_true, if_false]
  show wpAny _ _ ((alloc emptyDict >>= fun x => pure (some x)) >>= _) _ _ _
  refine wpAny_bind (wpAny_bind (wpAny_alloc (wpAny_pure (wpAny_bind ?_))))
  show wpAny _ _ (newObjAsIs _ _ _) _ _ _
  unfold newObjAsIs classHasDel
  refine wpAny_bind (wpAny_alloc (wpAny_bind (wpAny_bind (wpAny_load (Heap.get?_push_of_some _ (Heap.get?_push_of_some _ hC)) (wpAny_pure ?_)))))
  rw [e2]
  refine wpAny_pure (wpAny_pure ?_)
  show R _ _
  rw [Heap.size_push]
  exact hq
end
end Mine
end
section
open PySem PySem.W PyProof.Rows PySem.Calls Builtin Builtin.ObjectAttr Builtin.Getset_descriptor
set_option maxHeartbeats 1000000
namespace Mine
theorem c_new {w : World} {mean : ExcName → Option Value} {mg mb : Str → Option Value}
  {dp un : Nat} {gd : Option (List Code)} {outer : List Env} {base : Heap} {s : Shared} {v : Value} {R : Result → Shared → Prop}
    (B : Below (AT dp un gd outer) base outer s.heap) (X : (Mine.hd.heap_1_39 w.params).In s.heap) 
    (T : Top Mine.hd.view_1_40 LO mean mg mb s.heap) (hdp : dp + 20 < recursionLimit) (hun : un + 100 < cLine)
    (ret : ∀ x dx h' tk, (∀ b o, s.heap.get? b = some o → h'.get? b = some o) → h'.get? x = some (instObj 608 dx) → h'.get? dx = some (dictOf [] 0) → s.heap.objs.size ≤ dx → dx < x → R (.ok (.ret (.ref x))) { s with heap := h', toks := tk })
    : codeAny (model PySem.Challenge.rw_ny0347_01.row.prog w) (AT dp un gd outer) (.call (.ref 101) ⟨[.ref 608, v], []⟩) R s := by
  w_top off
  revert X; k_fill; intro X
  refine' enterV (vs := [v]) (bf := fun t d => [(Str.ofString "cls", Value.ref 608), (Str.ofString "args", t), (Str.ofString "kwargs", d)]) X T ?ho ?hcd ?hroom ?hb ?hloc ?hz ?_ ?c2 ?c3 ?c4 ?c5
  case ho => k_is
  case hcd => k_is
  case hroom => ktr_room
  case hb => kernel_rfl
  case hz => exact Nat.le_of_ble_eq_true rfl
  case hloc => exact fun t d => locs rfl
  case c2 => rfl
  case c3 => rfl
  case c4 => rfl
  case c5 => decide
  intro ta da L' h' tk' F' N' hlt
  try dsimp only
  try k_fold
  (repeat' (first | (k_unfold; (try dsimp only)) | (k_end; wrow_close) | ((with_reducible show wpAny _ _ (PySem.isTrue _ _ _) _ _ _); (k_fold)) | ((with_reducible show wpAny _ _ (execs (_ :: _) _) _ _ _); (k_fold)) | walk1 | (dsimp only; first | ((with_reducible show wpAny _ _ (PySem.isTrue _ _ _) _ _ _); (k_fold)) | ((with_reducible show wpAny _ _ (execs (_ :: _) _) _ _ _); (k_fold))) | (dsimp only; walk1) | (leave1; walk_say "STEP leave1"; try dsimp only) | fail "no step"))
  rename Fr _ _ _ _ => F9
  refine wpAny_call (new_S (X.keeps F9.keep) ?_)
  show R _ _
  refine ret _ _ _ _ (fun b o e => Heap.get?_push_of_some _ (Heap.get?_push_of_some _ (F9.keep b o e))) ?_ (Heap.get?_push_of_some _ (Heap.get?_push_size _ rfl)) (Nat.le_of_lt (Nat.lt_of_le_of_lt F9.above F9.ns.lt)) (Nat.lt_succ_self _)
  have := Heap.get?_push_size (h'.push emptyDict) (o := instObj 608 h'.objs.size) rfl
  rwa [Heap.size_push] at this
theorem under_make {dp un : Nat} {gd : Option (List Code)} {outer : List Env} {C : Addr} {rest : List Value} {kw : List (Str × Value)} : (AT dp un gd outer).under (.builtin "type.__call__" ⟨.ref C :: rest, kw⟩) = AT (dp + 1) (un + 1) gd outer := by kernel_rfl
theorem make_S {w : World} {mean : ExcName → Option Value} {mg mb : Str → Option Value}
  {dp un : Nat} {gd : Option (List Code)} {outer : List Env} {base : Heap} {s : Shared} {v : Value} {R : Result → Shared → Prop}
    (B : Below (AT dp un gd outer) base outer s.heap) (X : (Mine.hd.heap_1_39 w.params).In s.heap) 
    (T : Top Mine.hd.view_1_40 LO mean mg mb s.heap) (hdp : dp + 30 < recursionLimit) (hun : un + 120 < cLine)
    (ret : ∀ x dx h' tk, (∀ b o, s.heap.get? b = some o → h'.get? b = some o) → h'.get? x = some (instObj 608 dx) → h'.get? dx = some (dictOf [] 0) → s.heap.objs.size ≤ dx → dx < x →
      codeAny (model PySem.Challenge.rw_ny0347_01.row.prog w) (AT (dp + 1) (un + 1) gd outer) (.call (.ref 378) ⟨[.ref x, v], []⟩) (InitBack x R) { s with heap := h', toks := tk })
    : codeAny (model PySem.Challenge.rw_ny0347_01.row.prog w) (AT dp un gd outer) (.call (.ref 608) ⟨[v], []⟩) R s := by
  obtain ⟨oc, od, cd, sl, hC, e1, e2, e4⟩ := s_obj X
  have call := s_call X
  have typ := s_typ X
  have mro := s_mro X
  have by_ := s_by X
  refine codeAny_of_tree ?_
  show wpAny _ _ (callAny (.ref 608) _) _ _ _
  refine nd_load hC ?_
  show wpAny _ _ (callAny.viaDunder (.ref 608) _) _ _ _
  unfold callAny.viaDunder
  refine wpAny_bind (call.at ?_)
  dsimp only
  rw [tc_bind]
  refine wpAny_bind (wpAny_pure (wpAny_bind (wpAny_pure ?_)))
  refine wpAny_pure (a := Fin.again (.call (.builtin "type.__call__") ⟨.ref 608 :: [v], []⟩)) (And.intro rfl ?_)
  refine codeAny_call_builtin_at (Code.quiet_builtin _ (by decide +kernel)) entry_typeCall (check_slot tc_kind tc_split typ (tc_args _ _ _) ?_)
  unfold Builtin.«type.__call__»
  rw [under_make]
  dsimp only
  rw [if_neg (by decide)]
  refine wpAny_bind (mro.here ?_)
  rw [if_neg (by decide)]
  refine wpAny_bind (by_.here ?_)
  dsimp only
  refine wpAny_bind (cls_bind (C := 608) (mc := .type "type") (obj := .none) (tp := .ref 608) X (by kernel_rfl) (by kernel_rfl) (wpAny_call (sm_get (p := 105) (C := 608) (obj := .none) (rest := []) (s := { s with toks := s.toks + 1 }) X (by kernel_rfl) (handed_on (v := .ref 101) rfl ?_))))
  refine wpAny_bind (wpAny_holding (wpAny_call (c_new (s := { s with toks := s.toks + 1 }) (base := base) ⟨rfl, B.stays, B.frames⟩ X T (by (first | lia | omega)) (by (first | lia | omega)) ?_)))
  intro x dx h' tk hk hx hdx hle hlt
  have X' := X.keeps hk
  have t1 : Looks (model PySem.Challenge.rw_ny0347_01.row.prog w) h' (typeOf (.ref x)) (.ref 608) := (Looks.ld hx).andThen .now
  have s1 := s_self X'
  have i1 := s_init X'
  have b1 := s_bind X' (.ref x)
  show wpAny _ _ _ _ _ _
  unfold isInstance callSpecial? specialOf
  repeat (first | with_reducible refine wpAny_call ?_ | lk)
  refine codeAny_mono (ret x dx h' tk hk hx hdx hle hlt) fun r s' z => ?_
  rcases r with e | (v | _ | _ | _) <;> first | exact z | exact z.elim | skip
  obtain ⟨rfl, z⟩ := z
  exact wpAny_pure (wpAny_pure z)
end Mine
end
section
open PySem PySem.W PyProof.Rows PySem.Calls PySem.Spec
set_option maxHeartbeats 1000000
namespace Mine
noncomputable abbrev dqObj : Obj := { cls := .type "collections.deque", data := .fields #[.none, .int 0 0] }
theorem dq_mro : mroOf (.type "collections.deque") = pure [.type "collections.deque", .type "object"] := by rw [mroOf_type]; kernel_rfl
theorem dq_look : typeLookup (.type "collections.deque") "__new__" = pure (some (.builtin "collections.deque.__new__")) := by rw [typeLookup_type, builtinLookup_eq_fast]; kernel_rfl
theorem dq_tree : Builtin.«collections.deque.__new__» ⟨[.type "collections.deque"], []⟩ = Sem.alloc dqObj fun a => .pure (.done (.ret (.ref a))) := by kernel_rfl
theorem dq_slot_init : Slot "collections.deque" "__init__" "collections.deque.__init__" := Slot.of (owner := "collections.deque") (n := "__init__") (by rw [typeLookup_type, builtinLookup_eq_fast]; kernel_rfl) (by decide +kernel) (by decide +kernel) (by decide +kernel) (.inl (by decide +kernel)) (by rw [isSubtype_type]; kernel_rfl)
theorem dq_slot_len : Slot "collections.deque" "__len__" "collections.deque.__len__" := Slot.of (owner := "collections.deque") (n := "__len__") (by rw [typeLookup_type, builtinLookup_eq_fast]; kernel_rfl) (by decide +kernel) (by decide +kernel) (by decide +kernel) (.inl (by decide +kernel)) (by rw [isSubtype_type]; kernel_rfl)
theorem dq_called : TypeCalled "collections.deque" "collections.deque.__new__" "collections.deque.__init__" :=
  ⟨by decide +kernel, by decide +kernel, ⟨_, _, dq_mro⟩, madeBy_type dq_mro dq_look (by decide +kernel), by decide +kernel, by rw [isSubtype_type]; kernel_rfl, dq_slot_init⟩
theorem dq_tc : checkTypeCall "collections.deque" ⟨[], []⟩ = pure () := by kernel_rfl
theorem dq_nc : checkBuiltinCall "collections.deque.__new__" ⟨[.type "collections.deque"], []⟩ = pure () := by kernel_rfl
theorem dq_en : entryFor table "collections.deque.__new__" = some Builtin.«collections.deque.__new__» := entryFor_of_tree (by kernel_rfl)
theorem dq_ei : entryFor table "collections.deque.__init__" = some Builtin.«collections.deque.__init__» := entryFor_of_tree (by kernel_rfl)
theorem dq_el : entryFor table "collections.deque.__len__" = some Builtin.«collections.deque.__len__» := entryFor_of_tree (by kernel_rfl)
theorem dq_ai (v : Value) : argsOk "collections.deque.__init__" ⟨[v], []⟩ := by unfold argsOk; kernel_rfl
theorem dq_al (v : Value) : argsOk "collections.deque.__len__" ⟨[v], []⟩ := by unfold argsOk; kernel_rfl
theorem dq_init (a : Addr) : Builtin.«collections.deque.__init__» ⟨[.ref a], []⟩ = (setField (.ref a) 0 .none >>= fun _ => Builtin.Deque.clear (.ref a) >>= fun _ => ret .none) := by kernel_rfl
theorem dq_new_meets : Meets (Builtin.«collections.deque.__new__» ⟨[.type "collections.deque"], []⟩) (fun _ R s => R (.ok (.ret (.ref s.heap.objs.size))) { s with heap := s.heap.push dqObj }) := by
  intro prog w A R s h
  rw [dq_tree]
  exact wpAny_bind (m := alloc dqObj) (f := fun a => Sem.pure (PySem.Fin.done (.ret (.ref a)))) (wpAny_alloc (wpAny_pure h))
theorem dq_init_meets (a : Addr) : Meets (Builtin.«collections.deque.__init__» ⟨[.ref a], []⟩) (fun _ R s => s.heap.get? a = some dqObj ∧ ∀ h', h'.get? a = some dqObj → Heap.SameBut a s.heap h' → R (.ok (.ret .none)) { s with heap := h' }) := by
  intro prog w A R s h
  rw [dq_init]
  refine wpAny_bind (wpAny_setField_rec h.1 (by decide) fun h' hg hs => wpAny_bind ?_)
  unfold Builtin.Deque.clear Builtin.Deque.items
  refine wpAny_bind (wpAny_bind (wpAny_fieldsOf hg rfl (wpAny_pure ?_)))
  rw [if_neg (by decide)]
  exact wpAny_pure (wpAny_pure (h.2 h' hg hs))
theorem call_deque {prog : Program} {w : World} {A : Around} {E : Value → Shared → Prop} {s : Shared} {Q : Value → Shared → Prop}
    (h : ∀ x h', (∀ b o, s.heap.get? b = some o → h'.get? b = some o) → h'.get? x = some dqObj → s.heap.objs.size ≤ x → Q (.ref x) { s with heap := h' }) :
    wpAny (model prog w) A (call (.type "collections.deque") []) Q E s := by
  refine callType_meets (Q₁ := fun obj s₁ => obj = .ref s.heap.objs.size ∧ s₁ = { s with heap := s.heap.push dqObj }) dq_called dq_tc dq_nc dq_en dq_ei dq_new_meets ⟨rfl, rfl⟩ ?_
  rintro obj s₁ ⟨rfl, rfl⟩
  have hg : (s.heap.push dqObj).get? s.heap.objs.size = some dqObj := Heap.get?_push_size _ rfl
  refine ⟨⟨_, hg, rfl⟩, dq_ai _, _, dq_init_meets _, hg, fun h' hg' hs => ⟨rfl, h _ h' (fun b o e => hs.extBut b o (Nat.ne_of_lt (Heap.lt_size e)) (Heap.get?_push_of_some _ e)) hg' (Nat.le_refl _)⟩⟩
end Mine
end
section
open PySem PySem.W PyProof.Rows PySem.Calls PySem.Spec
set_option maxHeartbeats 1000000
namespace Mine
theorem dq_noBool : typeLookup (.type "collections.deque") "__bool__" = pure none := by rw [typeLookup_type, builtinLookup_eq_fast]; kernel_rfl
theorem dq_truthy {prog : Program} {w : World} {A : Around} {E : Value → Shared → Prop} {s : Shared} {l : Addr} {Q : Bool → Shared → Prop} (hl : s.heap.get? l = some dqObj) (h : ∀ tk, Q false { s with toks := tk }) :
    wpAny (model prog w) A (truthy (.ref l)) Q E s := by
  have hT : s.TypeIs (.ref l) "collections.deque" := ⟨_, hl, rfl⟩
  have key : wpAny (model prog w) A (runValue (.builtin "len" ⟨[.ref l], []⟩)) (fun r s' => (∃ t, r = .int 0 t) ∧ Q false s') E s := by
    refine wpAny_runValue (codeAny_builtin entry_len ?_)
    rw [Around.under_plainId plain_len _]
    refine wpAny_mono (Q := fun fin s' => ∃ r, fin = Fin.done (.ret r) ∧ (∃ t, r = .int 0 t) ∧ Q false s') ?_ (fun fin s' h' => by obtain ⟨r, rfl, hq⟩ := h'; exact hq) fun _ _ e => e
    unfold Builtin.«len»
    refine wpAny_bind (m := oneArg "len" _) (wpAny_pure ?_)
    refine wpAny_bind (m := callSpecial? (.ref l) (Str.ofString "__len__")) (wpAny_callSpecial?_slot (name := Str.ofString "__len__") hT dq_slot_len
      (wpAny_call_entry dq_slot_len hT dq_el ?_ (dq_al _)))
    show wpAny _ _ (do retInt (← Builtin.Deque.size (.ref l))) _ _ s
    unfold Builtin.Deque.size
    refine wpAny_bind (wpAny_bind (wpAny_fieldsOf hl rfl (wpAny_pure ?_)))
    refine wpAny_bind (wpAny_mkInt (wpAny_pure ⟨_, rfl, ?_⟩))
    refine wpAny_bind (wpAny_holding (wpAny_pure ?_))
    refine wpAny_bind (wpAny_letGo ?_)
    show wpAny _ _ (if ((0 : Nat) : Int) < 0 then _ else _) _ _ _
    rw [if_neg (by (first | lia | omega))]
    show wpAny _ _ (if ((0 : Nat) : Int) ≥ 2 ^ 63 then _ else _) _ _ _
    rw [if_neg (by (first | lia | omega))]
    exact wpAny_bind (wpAny_mkInt (wpAny_pure ⟨_, rfl, ⟨_, rfl⟩, h _⟩))
  unfold truthy
  first
    | refine wpAny_bind (wpAny_callSpecial?_none (name := Str.ofString "__bool__") hT dq_noBool ?_)
    | refine wpAny_bind (wpAny_pure (wpAny_bind (wpAny_callSpecial?_none (name := Str.ofString "__bool__") hT dq_noBool ?_)))
  first
    | refine wpAny_bind (wpAny_specialOf (name := Str.ofString "__len__") hT dq_slot_len.lookup ?_)
    | refine wpAny_bind (wpAny_pure (wpAny_bind (wpAny_specialOf (name := Str.ofString "__len__") hT dq_slot_len.lookup ?_)))
  first
    | exact wpAny_bind (wpAny_mono key (fun r s' h' => by obtain ⟨⟨t, rfl⟩, hq⟩ := h'; exact wpAny_pure hq) fun _ _ e => e)
    | exact wpAny_bind (wpAny_pure (wpAny_bind (wpAny_mono key (fun r s' h' => by obtain ⟨⟨t, rfl⟩, hq⟩ := h'; exact wpAny_pure hq) fun _ _ e => e)))
theorem dq_truthyN {prog : Program} {w : World} {A : Around} {E : Value → Shared → Prop} {s : Shared} {h₀ : Heap} {L l : Addr} {news : List (Addr × Obj)} {Q : Bool → Shared → Prop} (N : News h₀ L s.heap news) (hm : (l, dqObj) ∈ news) (h : ∀ tk, Q false { s with toks := tk }) :
    wpAny (model prog w) A (truthy (.ref l)) Q E s := dq_truthy (N _ hm).1 h
end Mine
end
section
open PySem PySem.W PyProof.Rows PySem.Calls
set_option maxHeartbeats 1000000
namespace Mine
noncomputable abbrev sioD (h1 h2 h3 : Int) (t1 t2 t3 t4 t5 t6 : Tok) (nl buf : Str) (pos : Int) : Obj := dictOf [⟨h1, .str (Str.ofString "_StringIO__newline") t1, .str nl t2⟩, ⟨h2, .str (Str.ofString "_StringIO__buf") t3, .str buf t4⟩, ⟨h3, .str (Str.ofString "_StringIO__pos") t5, .int pos t6⟩] 3
theorem c_read {w : World} {mean : ExcName → Option Value} {mg mb : Str → Option Value}
  {dp un : Nat} {gd : Option (List Code)} {cn : Str} {cs : Scope} {a : Addr} {ccd : Value} {cl : List (Str × Addr)} {outer : List Env} {A₀ : Around} {base h₀ : Heap} {L : Addr} {m : Str → Option Value} {rest : List (Addr × Obj)} {s : Shared}
    {Q E : Value → Shared → Prop} {y e : Addr} {nl buf : Str} {t1 t2 t3 t4 t5 t6 tk : Tok} {pos : Int} {h1 h2 h3 : Int}
    (B : Below A₀ base outer h₀) (F : Fr h₀ L s.heap m) (X : (Mine.hd.heap_1_39 w.params).In h₀)
    (N : News h₀ L s.heap ((y, instObj 608 e) :: (e, dictOf [⟨h1, .str (Str.ofString "_StringIO__newline") t1, .str nl t2⟩, ⟨h2, .str (Str.ofString "_StringIO__buf") t3, .str buf t4⟩, ⟨h3, .str (Str.ofString "_StringIO__pos") t5, .int pos t6⟩] 3) :: rest))
    (T : Top Mine.hd.view_1_40 LO mean mg mb h₀) (hk : cs.kind = .function) (hdp : dp + 10 < recursionLimit) (hun : un + 100 < cLine) (hxd : y ≠ e)
    (hrest : ∀ p ∈ rest, p.1 ≠ e)
    (h0p : 0 ≤ pos) (hbl : buf.length < 1000)
    (retE : (buf.length : Int) ≤ pos → ∀ t h' tk', Fr h₀ L h' m → News h₀ L h' ((y, instObj 608 e) :: (e, sioD h1 h2 h3 t1 t2 t3 t4 t5 t6 nl buf pos) :: rest) → Q (.str (Str.ofString "") t) { s with heap := h', toks := tk' })
    (retC : pos < (buf.length : Int) → ∀ t t6' h' tk', Fr h₀ L h' m → News h₀ L h' ((y, instObj 608 e) :: (e, sioD h1 h2 h3 t1 t2 t3 t4 t5 t6' nl buf (pos + 1)) :: rest) → Q (.str (Txt.slice buf (some pos) (some (pos + 1))) t) { s with heap := h', toks := tk' })
    : wpAny (model PySem.Challenge.rw_ny0347_01.row.prog w) (ktrTop dp un gd cn cs L a ccd cl outer) (call (.ref 554) [.ref y, .int 1 tk]) Q E s := by
  w_top off
  revert N X; k_fill; intro X N
  refine wpAny_call ?_
  k_dflt ((refine' code_def ?k1 ?k2 ?k3 ?k4 ?k5 ?kA ?kF ?kK ?k6 ?k7 ?k8 ?k9 ?kB ?_ ?c2 ?c3 ?c4 ?c5; (case kA => exact rfl); (case kF => exact rfl); (case kK => assumption); (case k1 => k_asm); (case k2 => k_asm); (case k3 => k_asm); (case k4 => k_asm); (case k5 => k_asm); (case k6 => k_is); (case k7 => k_is); (case k8 => ktr_room); (case k9 => first | exact BindsTo.of_eq rfl | exact binds_K (by k_in) rfl (by k_is) rfl rfl rfl); (case c5 => decide); (case kB => exact locs rfl); (case c2 => exact rfl); (case c3 => exact rfl); (case c4 => exact rfl); k_whole; intro g' L' h' FG' F' N' B' X' T'; (try dsimp only); (try k_fold)))
  (repeat' (first | (k_unfold; (try dsimp only)) | (k_end; wrow_close) | ((with_reducible show wpAny _ _ (PySem.isTrue _ _ _) _ _ _); (k_fold)) | ((with_reducible show wpAny _ _ (execs (_ :: _) _) _ _ _); (k_fold)) | walk1 | (dsimp only; first | ((with_reducible show wpAny _ _ (PySem.isTrue _ _ _) _ _ _); (k_fold)) | ((with_reducible show wpAny _ _ (execs (_ :: _) _) _ _ _); (k_fold))) | (dsimp only; walk1) | (leave1; walk_say "STEP leave1"; try dsimp only) | fail "no step"))
  all_goals (show Q _ _)
  · exact retE (by assumption) _ _ _ (by assumption) (by assumption)
  · exact retC (by (first | lia | omega)) _ _ _ _ (by assumption) (by assumption)
  · have hlen : (buf.length : Int) = pos + 1 := by (first | lia | omega)
    rename News h₀ L _ _ => kN
    rw [hlen] at kN ⊢
    exact retC (by (first | lia | omega)) _ _ _ _ (by assumption) kN
noncomputable def okc (c : Nat) : Bool := c != 9 && c != 10 && c != 13 && c != 92
theorem okc_spec {c : Nat} (h : okc c = true) : c ≠ 9 ∧ c ≠ 10 ∧ c ≠ 13 ∧ c ≠ 92 := by
  simp [okc] at h
  (first | lia | omega)
theorem drop_cons {l : List Nat} {i : Nat} (h : i < l.length) : ∃ c, c ∈ l ∧ l.drop i = c :: l.drop (i + 1) := ⟨l[i], List.getElem_mem h, List.drop_eq_getElem_cons h⟩
theorem wc_q : (39 ∉ (Str.ofString "abcdfeghijklmnopqrstuvwxyzABCDEFGHIJKLMNOPQRSTUVWXYZ0123456789_ßàáâãäåæçèéêëìíîïðñòóôõöøùúûüýþÿÀÁÂÃÄÅÆÇÈÉÊËÌÍÎÏÐÑÒÓÔÕÖØÙÚÛÜÝÞ").cps.toList) ∧ (34 ∉ (Str.ofString "abcdfeghijklmnopqrstuvwxyzABCDEFGHIJKLMNOPQRSTUVWXYZ0123456789_ßàáâãäåæçèéêëìíîïðñòóôõöøùúûüýþÿÀÁÂÃÄÅÆÇÈÉÊËÌÍÎÏÐÑÒÓÔÕÖØÙÚÛÜÝÞ").cps.toList) := by constructor <;> decide +kernel
noncomputable def IsQ (k : Nat) : Prop := k = 39 ∨ k = 34
/-- the sign read: none left, a blank, a mark, another -/
inductive ChK (buf : Str) (pos : Int) (ch : Str) (pos' : Int) : Prop where
  | eof (hd : buf.cps.toList.drop pos.toNat = []) (hl : ch.length = 0) (hp : pos = pos')
  | blank (hd : buf.cps.toList.drop pos.toNat = 32 :: buf.cps.toList.drop (pos + 1).toNat) (hl : ch.length = 1) (f : (!(Builtin.Str.occurrences (Str.ofString " \t\x0d\n") ch 0 (Str.ofString " \t\x0d\n").length 1).isEmpty) = true) (hp : pos + 1 = pos')
  | mark (c : Nat) (hc : IsQ c) (hch : ch = ⟨#[c]⟩) (hd : buf.cps.toList.drop pos.toNat = c :: buf.cps.toList.drop (pos + 1).toNat) (hl : ch.length = 1) (f1 : (!(Builtin.Str.occurrences (Str.ofString " \t\x0d\n") ch 0 (Str.ofString " \t\x0d\n").length 1).isEmpty) = false) (f2 : (!(Builtin.Str.occurrences (Str.ofString "") ch 0 (Str.ofString "").length 1).isEmpty) = false) (f3 : (!(Builtin.Str.occurrences (Str.ofString "\\") ch 0 (Str.ofString "\\").length 1).isEmpty) = false) (f4 : (!(Builtin.Str.occurrences (Str.ofString "abcdfeghijklmnopqrstuvwxyzABCDEFGHIJKLMNOPQRSTUVWXYZ0123456789_ßàáâãäåæçèéêëìíîïðñòóôõöøùúûüýþÿÀÁÂÃÄÅÆÇÈÉÊËÌÍÎÏÐÑÒÓÔÕÖØÙÚÛÜÝÞ") ch 0 (Str.ofString "abcdfeghijklmnopqrstuvwxyzABCDEFGHIJKLMNOPQRSTUVWXYZ0123456789_ßàáâãäåæçèéêëìíîïðñòóôõöøùúûüýþÿÀÁÂÃÄÅÆÇÈÉÊËÌÍÎÏÐÑÒÓÔÕÖØÙÚÛÜÝÞ").length 1).isEmpty) = false) (f5 : (!(Builtin.Str.occurrences (Str.ofString "'\"") ch 0 (Str.ofString "'\"").length 1).isEmpty) = true) (hp : pos + 1 = pos')
  | other (c : Nat) (h1 : c ≠ 32) (h2 : c ≠ 39) (h3 : c ≠ 34) (hch : ch = ⟨#[c]⟩) (hd : buf.cps.toList.drop pos.toNat = c :: buf.cps.toList.drop (pos + 1).toNat) (hl : ch.length = 1) (f1 : (!(Builtin.Str.occurrences (Str.ofString " \t\x0d\n") ch 0 (Str.ofString " \t\x0d\n").length 1).isEmpty) = false) (f2 : (!(Builtin.Str.occurrences (Str.ofString "") ch 0 (Str.ofString "").length 1).isEmpty) = false) (f3 : (!(Builtin.Str.occurrences (Str.ofString "\\") ch 0 (Str.ofString "\\").length 1).isEmpty) = false) (f5 : (!(Builtin.Str.occurrences (Str.ofString "'\"") ch 0 (Str.ofString "'\"").length 1).isEmpty) = false) (hp : pos + 1 = pos')
/-- the sign read within marks k -/
inductive ChQ (k : Nat) (buf : Str) (pos : Int) (ch : Str) (pos' : Int) : Prop where
  | eof (hd : buf.cps.toList.drop pos.toNat = []) (hl : ch.length = 0) (hp : pos = pos')
  | same (hch : ch = ⟨#[k]⟩) (hd : buf.cps.toList.drop pos.toNat = k :: buf.cps.toList.drop (pos + 1).toNat) (hl : ch.length = 1) (f : (ch == (⟨#[k]⟩ : Str)) = true) (hp : pos + 1 = pos')
  | other (c : Nat) (hc : c ≠ k) (hch : ch = ⟨#[c]⟩) (hd : buf.cps.toList.drop pos.toNat = c :: buf.cps.toList.drop (pos + 1).toNat) (hl : ch.length = 1) (f1 : (!(Builtin.Str.occurrences (Str.ofString "\\") ch 0 (Str.ofString "\\").length 1).isEmpty) = false) (f2 : (ch == (⟨#[k]⟩ : Str)) = false) (hp : pos + 1 = pos')
theorem c_readU {w : World} {mean : ExcName → Option Value} {mg mb : Str → Option Value}
  {dp un : Nat} {gd : Option (List Code)} {cn : Str} {cs : Scope} {a : Addr} {ccd : Value} {cl : List (Str × Addr)} {outer : List Env} {A₀ : Around} {base h₀ : Heap} {L : Addr} {m : Str → Option Value} {rest : List (Addr × Obj)} {s : Shared}
    {Q E : Value → Shared → Prop} {y e : Addr} {nl buf : Str} {t1 t2 t3 t4 t5 t6 tk : Tok} {pos : Int} {h1 h2 h3 : Int}
    (B : Below A₀ base outer h₀) (F : Fr h₀ L s.heap m) (X : (Mine.hd.heap_1_39 w.params).In h₀)
    (N : News h₀ L s.heap ((y, instObj 608 e) :: (e, sioD h1 h2 h3 t1 t2 t3 t4 t5 t6 nl buf pos) :: rest))
    (T : Top Mine.hd.view_1_40 LO mean mg mb h₀) (hk : cs.kind = .function) (hdp : dp + 10 < recursionLimit) (hun : un + 100 < cLine) (hxd : y ≠ e)
    (hrest : ∀ p ∈ rest, p.1 ≠ e)
    (h0p : 0 ≤ pos) (hbl : buf.length < 1000) (hok : ∀ c ∈ buf.cps.toList, okc c = true)
    (ret : ∀ ch t t6' pos' h' tk', (ch == Str.ofString "\n") = false → ChK buf pos ch pos' → 0 ≤ pos' → Fr h₀ L h' m → News h₀ L h' ((y, instObj 608 e) :: (e, sioD h1 h2 h3 t1 t2 t3 t4 t5 t6' nl buf pos') :: rest) → Q (.str ch t) { s with heap := h', toks := tk' })
    : wpAny (model PySem.Challenge.rw_ny0347_01.row.prog w) (ktrTop dp un gd cn cs L a ccd cl outer) (call (.ref 554) [.ref y, .int 1 tk]) Q E s := by
  refine c_read B F X N T hk hdp hun hxd hrest h0p hbl (fun hle t h' tk' F' N' => ret _ t t6 pos h' tk' (by decide +kernel) (.eof (List.drop_eq_nil_of_le (by simp only [Str.length] at hle; simp; (first | lia | omega))) (by decide +kernel) rfl) h0p F' N') (fun hlt => ?_)
  have hlt' : pos.toNat < buf.cps.toList.length := by simp only [Str.length] at hlt; simp; (first | lia | omega)
  obtain ⟨c, hm, hd⟩ := drop_cons hlt'
  have e1 : (pos + 1).toNat = pos.toNat + 1 := by (first | lia | omega)
  rw [← e1] at hd
  rw [slice_one h0p hd]
  obtain ⟨n9, n10, n13, n92⟩ := okc_spec (hok c hm)
  intro t t6' h' tk' F' N'
  have f1 : ((⟨#[c]⟩ : Str) == Str.ofString "\n") = false := one_ne (by decide +kernel) n10
  have f5 : c ∉ (Str.ofString "\\").cps.toList := by
    rw [show (Str.ofString "\\").cps.toList = [92] by decide +kernel]; simp; (first | lia | omega)
  refine ret _ t t6' (pos + 1) h' tk' f1 ?_ (by (first | lia | omega)) F' N'
  by_cases h32 : c = 32
  · subst h32
    exact .blank hd rfl (yin (by rw [show (Str.ofString " \t\x0d\n").cps.toList = [32, 9, 13, 10] by decide +kernel]; simp)) rfl
  have f3 : c ∉ (Str.ofString " \t\x0d\n").cps.toList := by
    rw [show (Str.ofString " \t\x0d\n").cps.toList = [32, 9, 13, 10] by decide +kernel]; simp; (first | lia | omega)
  have f4 : c ∉ (Str.ofString "").cps.toList := by
    rw [show (Str.ofString "").cps.toList = [] by decide +kernel]; simp
  have e6 : (Str.ofString "'\"").cps.toList = [39, 34] := by decide +kernel
  by_cases hq : c = 39 ∨ c = 34
  · refine .mark c hq rfl hd rfl (nin f3) (nin f4) (nin f5) (nin ?_) (yin (by rw [e6]; simpa using hq)) rfl
    rcases hq with rfl | rfl
    · exact wc_q.1
    · exact wc_q.2
  · exact .other c h32 (fun e => hq (.inl e)) (fun e => hq (.inr e)) rfl hd rfl (nin f3) (nin f4) (nin f5) (nin (by rw [e6]; simpa using hq)) rfl
theorem c_readV {w : World} {mean : ExcName → Option Value} {mg mb : Str → Option Value}
  {dp un : Nat} {gd : Option (List Code)} {cn : Str} {cs : Scope} {a : Addr} {ccd : Value} {cl : List (Str × Addr)} {outer : List Env} {A₀ : Around} {base h₀ : Heap} {L : Addr} {m : Str → Option Value} {rest : List (Addr × Obj)} {s : Shared}
    {Q E : Value → Shared → Prop} {y e : Addr} {nl buf : Str} {t1 t2 t3 t4 t5 t6 tk : Tok} {pos : Int} {h1 h2 h3 : Int}
    (B : Below A₀ base outer h₀) (F : Fr h₀ L s.heap m) (X : (Mine.hd.heap_1_39 w.params).In h₀)
    (N : News h₀ L s.heap ((y, instObj 608 e) :: (e, sioD h1 h2 h3 t1 t2 t3 t4 t5 t6 nl buf pos) :: rest))
    (T : Top Mine.hd.view_1_40 LO mean mg mb h₀) (hk : cs.kind = .function) (hdp : dp + 10 < recursionLimit) (hun : un + 100 < cLine) (hxd : y ≠ e)
    (hrest : ∀ p ∈ rest, p.1 ≠ e)
    (h0p : 0 ≤ pos) (hbl : buf.length < 1000) (hok : ∀ c ∈ buf.cps.toList, okc c = true)
    {k : Nat} (_hQ : IsQ k)
    (ret : ∀ ch t t6' pos' h' tk', (ch == Str.ofString "\n") = false → ChQ k buf pos ch pos' → 0 ≤ pos' → Fr h₀ L h' m → News h₀ L h' ((y, instObj 608 e) :: (e, sioD h1 h2 h3 t1 t2 t3 t4 t5 t6' nl buf pos') :: rest) → Q (.str ch t) { s with heap := h', toks := tk' })
    : wpAny (model PySem.Challenge.rw_ny0347_01.row.prog w) (ktrTop dp un gd cn cs L a ccd cl outer) (call (.ref 554) [.ref y, .int 1 tk]) Q E s := by
  refine c_read B F X N T hk hdp hun hxd hrest h0p hbl (fun hle t h' tk' F' N' => ret _ t t6 pos h' tk' (by decide +kernel) (.eof (List.drop_eq_nil_of_le (by simp only [Str.length] at hle; simp; (first | lia | omega))) (by decide +kernel) rfl) h0p F' N') (fun hlt => ?_)
  have hlt' : pos.toNat < buf.cps.toList.length := by simp only [Str.length] at hlt; simp; (first | lia | omega)
  obtain ⟨c, hm, hd⟩ := drop_cons hlt'
  have e1 : (pos + 1).toNat = pos.toNat + 1 := by (first | lia | omega)
  rw [← e1] at hd
  rw [slice_one h0p hd]
  obtain ⟨n9, n10, n13, n92⟩ := okc_spec (hok c hm)
  intro t t6' h' tk' F' N'
  have f1 : ((⟨#[c]⟩ : Str) == Str.ofString "\n") = false := one_ne (by decide +kernel) n10
  have f5 : c ∉ (Str.ofString "\\").cps.toList := by
    rw [show (Str.ofString "\\").cps.toList = [92] by decide +kernel]; simp; (first | lia | omega)
  refine ret _ t t6' (pos + 1) h' tk' f1 ?_ (by (first | lia | omega)) F' N'
  by_cases hq : c = k
  · subst hq
    exact .same rfl hd rfl (by simp) rfl
  · exact .other c hq rfl hd rfl (nin f5) (one_ne rfl hq) rfl
theorem truthy1 {prog : Program} {w : World} {A : Around} {E : Value → Shared → Prop} {s : Shared} {x : Str} {t : Tok} {Q : Bool → Shared → Prop} (h1 : x.length = 1) (h : ∀ k, Q true { s with toks := k }) : wpAny (model prog w) A (PySem.truthy (.str x t)) Q E s :=
  KXt.truthy (b := true) (by rw [h1]; rfl) (by (first | lia | omega)) h
theorem truthy0 {prog : Program} {w : World} {A : Around} {E : Value → Shared → Prop} {s : Shared} {x : Str} {t : Tok} {Q : Bool → Shared → Prop} (h1 : x.length = 0) (h : ∀ k, Q false { s with toks := k }) : wpAny (model prog w) A (PySem.truthy (.str x t)) Q E s :=
  KXt.truthy (b := false) (by rw [h1]; rfl) (by (first | lia | omega)) h
theorem truthyP {prog : Program} {w : World} {A : Around} {E : Value → Shared → Prop} {s : Shared} {x : Str} {t : Tok} {Q : Bool → Shared → Prop} (h1 : 1 ≤ x.length) (h2 : x.length ≤ 1000) (h : ∀ k, Q true { s with toks := k }) : wpAny (model prog w) A (PySem.truthy (.str x t)) Q E s :=
  KXt.truthy (b := true) (bne_iff_ne.mpr (by (first | lia | omega))) (by (first | lia | omega)) h
end Mine
end
section
open PySem PySem.W PyProof.Rows PySem.Calls
set_option maxHeartbeats 1000000
namespace Mine
noncomputable abbrev lexD (H : Nat → Int) (K V : Nat → Tok) (y p f : Addr) (st : Value) (tok : Str) (tt : Tok) : Obj := dictOf [⟨H 0, .str (Str.ofString "instream") (K 0), .ref y⟩, ⟨H 1, .str (Str.ofString "infile") (K 1), .none⟩, ⟨H 2, .str (Str.ofString "posix") (K 2), .bool true⟩, ⟨H 3, .str (Str.ofString "eof") (K 3), .none⟩, ⟨H 4, .str (Str.ofString "commenters") (K 4), .str (Str.ofString "") (V 4)⟩, ⟨H 5, .str (Str.ofString "wordchars") (K 5), .str (Str.ofString "abcdfeghijklmnopqrstuvwxyzABCDEFGHIJKLMNOPQRSTUVWXYZ0123456789_ßàáâãäåæçèéêëìíîïðñòóôõöøùúûüýþÿÀÁÂÃÄÅÆÇÈÉÊËÌÍÎÏÐÑÒÓÔÕÖØÙÚÛÜÝÞ") (V 5)⟩, ⟨H 6, .str (Str.ofString "whitespace") (K 6), .str (Str.ofString " \t\x0d\n") (V 6)⟩, ⟨H 7, .str (Str.ofString "whitespace_split") (K 7), .bool true⟩, ⟨H 8, .str (Str.ofString "quotes") (K 8), .str (Str.ofString "'\"") (V 8)⟩, ⟨H 9, .str (Str.ofString "escape") (K 9), .str (Str.ofString "\\") (V 9)⟩, ⟨H 10, .str (Str.ofString "escapedquotes") (K 10), .str (Str.ofString "\"") (V 10)⟩, ⟨H 11, .str (Str.ofString "state") (K 11), st⟩, ⟨H 12, .str (Str.ofString "pushback") (K 12), .ref p⟩, ⟨H 13, .str (Str.ofString "lineno") (K 13), .int 1 (V 13)⟩, ⟨H 14, .str (Str.ofString "debug") (K 14), .int 0 (V 14)⟩, ⟨H 15, .str (Str.ofString "token") (K 15), .str tok tt⟩, ⟨H 16, .str (Str.ofString "filestack") (K 16), .ref f⟩, ⟨H 17, .str (Str.ofString "source") (K 17), .none⟩, ⟨H 18, .str (Str.ofString "_punctuation_chars") (K 18), .str (Str.ofString "") (V 18)⟩] 19
theorem lexD_mk {a0 a1 a2 a3 a4 a5 a6 a7 a8 a9 a10 a11 a12 a13 a14 a15 a16 a17 a18 : Int} {k0 k1 k2 k3 k4 k5 k6 k7 k8 k9 k10 k11 k12 k13 k14 k15 k16 k17 k18 v4 v5 v6 v8 v9 v10 v13 v14 v18 tt : Tok} {y p f : Addr} {st : Value} {tok : Str} : dictOf [⟨a0, .str (Str.ofString "instream") k0, .ref y⟩, ⟨a1, .str (Str.ofString "infile") k1, .none⟩, ⟨a2, .str (Str.ofString "posix") k2, .bool true⟩, ⟨a3, .str (Str.ofString "eof") k3, .none⟩, ⟨a4, .str (Str.ofString "commenters") k4, .str (Str.ofString "") v4⟩, ⟨a5, .str (Str.ofString "wordchars") k5, .str (Str.ofString "abcdfeghijklmnopqrstuvwxyzABCDEFGHIJKLMNOPQRSTUVWXYZ0123456789_ßàáâãäåæçèéêëìíîïðñòóôõöøùúûüýþÿÀÁÂÃÄÅÆÇÈÉÊËÌÍÎÏÐÑÒÓÔÕÖØÙÚÛÜÝÞ") v5⟩, ⟨a6, .str (Str.ofString "whitespace") k6, .str (Str.ofString " \t\x0d\n") v6⟩, ⟨a7, .str (Str.ofString "whitespace_split") k7, .bool true⟩, ⟨a8, .str (Str.ofString "quotes") k8, .str (Str.ofString "'\"") v8⟩, ⟨a9, .str (Str.ofString "escape") k9, .str (Str.ofString "\\") v9⟩, ⟨a10, .str (Str.ofString "escapedquotes") k10, .str (Str.ofString "\"") v10⟩, ⟨a11, .str (Str.ofString "state") k11, st⟩, ⟨a12, .str (Str.ofString "pushback") k12, .ref p⟩, ⟨a13, .str (Str.ofString "lineno") k13, .int 1 v13⟩, ⟨a14, .str (Str.ofString "debug") k14, .int 0 v14⟩, ⟨a15, .str (Str.ofString "token") k15, .str tok tt⟩, ⟨a16, .str (Str.ofString "filestack") k16, .ref f⟩, ⟨a17, .str (Str.ofString "source") k17, .none⟩, ⟨a18, .str (Str.ofString "_punctuation_chars") k18, .str (Str.ofString "") v18⟩] 19 = lexD (fun i => ([a0, a1, a2, a3, a4, a5, a6, a7, a8, a9, a10, a11, a12, a13, a14, a15, a16, a17, a18] : List Int).getD i 0) (fun i => ([k0, k1, k2, k3, k4, k5, k6, k7, k8, k9, k10, k11, k12, k13, k14, k15, k16, k17, k18] : List Nat).getD i 0) (fun i => ([0, 0, 0, 0, v4, v5, v6, 0, v8, v9, v10, 0, 0, v13, v14, 0, 0, 0, v18] : List Nat).getD i 0) y p f st tok tt := rfl
end Mine
end
section
open PySem PySem.W PyProof.Rows PySem.Calls
set_option maxHeartbeats 1000000
namespace Mine
/-- the lexer's property: its own table's entry -/
theorem c_punct {w : World} {mean : ExcName → Option Value} {mg mb : Str → Option Value}
  {dp un : Nat} {gd : Option (List Code)} {cn : Str} {cs : Scope} {a : Addr} {ccd : Value} {cl : List (Str × Addr)} {outer : List Env} {A₀ : Around} {base h₀ : Heap} {L : Addr} {m : Str → Option Value} {rest : List (Addr × Obj)} {s : Shared}
    {Q E : Value → Shared → Prop} {x d y p f : Addr} {H : Nat → Int} {K V : Nat → Tok} {st : Value} {tok : Str} {tt : Tok}
    (B : Below A₀ base outer h₀) (F : Fr h₀ L s.heap m) (X : (Mine.hd.heap_1_39 w.params).In h₀)
    (N : News h₀ L s.heap ((x, instObj 743 d) :: (d, lexD H K V y p f st tok tt) :: rest))
    (T : Top Mine.hd.view_1_40 LO mean mg mb h₀) (hk : cs.kind = .function) (hdp : dp + 10 < recursionLimit)
    (ret : ∀ h' tk', Fr h₀ L h' m → News h₀ L h' ((x, instObj 743 d) :: (d, lexD H K V y p f st tok tt) :: rest) → Q (.str (Str.ofString "") (V 18)) { s with heap := h', toks := tk' })
    : wpAny (model PySem.Challenge.rw_ny0347_01.row.prog w) (ktrTop dp un gd cn cs L a ccd cl outer) (getAttr (.ref x) (Str.ofString "punctuation_chars") true) Q E s := by
  w_top off
  revert N X; k_fill; intro X N
  refine get_prop F X (InstAt.of_news N (List.mem_cons_self ..) (List.mem_cons_of_mem _ (List.mem_cons_self ..))) (by k_is) (by k_is) (by k_is) (by k_is) (by k_is) (by k_is) ?_
  k_dflt ((refine' code_def ?k1 ?k2 ?k3 ?k4 ?k5 ?kA ?kF ?kK ?k6 ?k7 ?k8 ?k9 ?kB ?_ ?c2 ?c3 ?c4 ?c5; (case kA => exact rfl); (case kF => exact rfl); (case kK => assumption); (case k1 => k_asm); (case k2 => k_asm); (case k3 => k_asm); (case k4 => k_asm); (case k5 => k_asm); (case k6 => k_is); (case k7 => k_is); (case k8 => ktr_room); (case k9 => first | exact BindsTo.of_eq rfl | exact binds_K (by k_in) rfl (by k_is) rfl rfl rfl); (case c5 => decide); (case kB => exact locs rfl); (case c2 => exact rfl); (case c3 => exact rfl); (case c4 => exact rfl); k_whole; intro g' L' h' FG' F' N' B' X' T'; (try dsimp only); (try k_fold)))
  (repeat' (first | (k_unfold; (try dsimp only)) | (k_end; wrow_close) | ((with_reducible show wpAny _ _ (PySem.isTrue _ _ _) _ _ _); (k_fold)) | ((with_reducible show wpAny _ _ (execs (_ :: _) _) _ _ _); (k_fold)) | walk1 | (dsimp only; first | ((with_reducible show wpAny _ _ (PySem.isTrue _ _ _) _ _ _); (k_fold)) | ((with_reducible show wpAny _ _ (execs (_ :: _) _) _ _ _); (k_fold))) | (dsimp only; walk1) | (leave1; walk_say "STEP leave1"; try dsimp only) | fail "no step"))
  all_goals (show Q _ _)
  all_goals exact ret _ _ (by assumption) (by assumption)
end Mine
end
section
open PySem PySem.W PyProof.Rows PySem.Calls
section
open PySem PySem.W PyProof.Rows PySem.Calls
set_option maxHeartbeats 1000000
namespace Mine
structure RT where
  quoted : Bool
  st : LSt
  tok : Str
  pos : Int
  tt : Tok
  ts : Tok
  t6 : Tok
theorem News.sub {h₀ h : Heap} {L : Addr} {l l' : List (Addr × Obj)} (N : News h₀ L h l) (hs : ∀ p ∈ l', p ∈ l) : News h₀ L h l' := fun p hp => N p (hs p hp)
theorem RaisedS.sub {base G : Heap} {l : List Env} {e : Addr} {cls : Value} {t : Addr} {vs : List Value} {news news' : List (Addr × Obj)} {h : Heap} (R : RaisedS base G l e cls t vs news h) (hs : ∀ p ∈ news', p ∈ news) : RaisedS base G l e cls t vs news' h := by
  obtain ⟨⟨B, h1, h1', h2, h3⟩, h4⟩ := R
  exact ⟨⟨B, h1, h1', fun q hq => h2 q (hs q hq), h3⟩, h4⟩
noncomputable abbrev ledL (H : Nat → Int) (K V : Nat → Tok) (x d y e p f : Addr) (h1 h2 h3 : Int) (t1 t2 t3 t4 t5 : Tok) (nl buf : Str) (rest : List (Addr × Obj)) (c : RT) : List (Addr × Obj) :=
  (x, instObj 743 d) :: (d, lexD H K V y p f (c.st.val c.ts) c.tok c.tt) :: (y, instObj 608 e) :: (e, sioD h1 h2 h3 t1 t2 t3 t4 t5 c.t6 nl buf c.pos) :: (p, dqObj) :: (f, dqObj) :: rest
noncomputable def okSt (buf : Str) (c : RT) : Prop := match c.st with
  | .none => c.tok = Str.ofString "" ∧ c.quoted = false ∧ buf.cps.toList.drop c.pos.toNat = []
  | .ws => c.tok = Str.ofString "" ∧ c.quoted = false
  | .a => (c.quoted = false ∧ 1 ≤ c.tok.length ∧ (c.tok == Str.ofString "") = false) ∨ c.quoted = true
  | .q k => IsQ k
structure Run (buf : Str) (c₀ c : RT) : Prop where
  ok : okSt buf c
  eq : rd c.st c.quoted c.tok (buf.cps.toList.drop c.pos.toNat) = rd c₀.st c₀.quoted c₀.tok (buf.cps.toList.drop c₀.pos.toNat)
  pos : 0 ≤ c.pos
  len : c.tok.length ≤ c.pos.toNat ∧ c.pos.toNat ≤ buf.length
theorem drop_lt {l : List Nat} {i : Int} {c : Nat} {r : List Nat} (h0 : 0 ≤ i) (h : l.drop i.toNat = c :: r) : i.toNat + 1 ≤ l.length := by
  apply Nat.succ_le_of_lt
  apply Nat.lt_of_not_le
  intro hn
  rw [List.drop_eq_nil_of_le hn] at h
  cases h
theorem Run.to {buf : Str} {c₀ : RT} {q q' : Bool} {st st' : LSt} {tok tok' : Str} {pos : Int} {tt' ts' t6' : Tok} {c : Nat}
    (h1 : rd st q tok (buf.cps.toList.drop pos.toNat) = rd c₀.st c₀.quoted c₀.tok (buf.cps.toList.drop c₀.pos.toNat)) (h2 : 0 ≤ pos) (h3 : tok.length ≤ pos.toNat ∧ pos.toNat ≤ buf.length)
    (hd : buf.cps.toList.drop pos.toNat = c :: buf.cps.toList.drop (pos + 1).toNat)
    (hs : rd st q tok (c :: buf.cps.toList.drop (pos + 1).toNat) = rd st' q' tok' (buf.cps.toList.drop (pos + 1).toNat)) (hl : tok'.length ≤ tok.length + 1)
    (ho : okSt buf ⟨q', st', tok', pos + 1, tt', ts', t6'⟩) : Run buf c₀ ⟨q', st', tok', pos + 1, tt', ts', t6'⟩ := by
  have hlt := drop_lt h2 hd
  refine ⟨ho, ?_, by show 0 ≤ pos + 1; (first | lia | omega), ?_⟩
  · show rd st' q' tok' (buf.cps.toList.drop (pos + 1).toNat) = _
    rw [← hs, ← hd, h1]
  · show tok'.length ≤ (pos + 1).toNat ∧ (pos + 1).toNat ≤ buf.length
    have : buf.length = buf.cps.toList.length := by simp [Str.length]
    (first | lia | omega)
theorem fall {buf : Str} {pos : Int} {c : Nat} (h2 : 0 ≤ pos) (hd : buf.cps.toList.drop pos.toNat = c :: buf.cps.toList.drop (pos + 1).toNat) : (buf.length - (pos + 1)).toNat < (buf.length - pos).toNat := by
  have hlt := drop_lt h2 hd
  have : buf.length = buf.cps.toList.length := by simp [Str.length]
  (first | lia | omega)
noncomputable def valO (t : Tok) : Option Str → Value
  | none => .none
  | some x => .str x t
/-- what read_token leaves -/
structure RdEnd (buf : Str) (c₀ : RT) (v : Value) (c : RT) : Prop where
  val : ∃ r t, v = valO t r ∧ rd c₀.st c₀.quoted c₀.tok (buf.cps.toList.drop c₀.pos.toNat) = some (r, c.st, buf.cps.toList.drop c.pos.toNat)
  st : c.st = .none ∨ c.st = .ws
  ok : okSt buf c
  tok : c.tok = Str.ofString ""
  quoted : c.quoted = false
  pos : 0 ≤ c.pos ∧ c.pos.toNat ≤ buf.length
theorem len_empty : (Str.ofString "").length = 0 := by decide +kernel
theorem len_one (c : Nat) : (⟨#[c]⟩ : Str).length = 1 := rfl
theorem ne_empty {x : Str} (h : 1 ≤ x.length) : (x == Str.ofString "") = false := by
  apply Bool.eq_false_iff.mpr
  intro he
  rw [eq_of_beq he, len_empty] at h
  (first | lia | omega)
theorem fin_tok {x : Str} (h : 1 ≤ x.length) : fin false x = some x := by
  have := ne_empty h
  unfold fin
  rw [if_neg]
  rintro ⟨_, rfl⟩
  simp at this
theorem fin_q (x : Str) : fin true x = some x := by simp [fin]
theorem fin_e : fin false (Str.ofString "") = none := by simp [fin]
theorem len_app1 (x : Str) (c : Nat) : (x ++ (⟨#[c]⟩ : Str)).length = x.length + 1 := by rw [Str.length_append]; rfl
theorem led_out {h₀ h : Heap} {L x d y e p f : Addr} {ox od oy oe op of : Obj} {rest : List (Addr × Obj)} (N : News h₀ L h ((x, ox) :: (d, od) :: (y, oy) :: (e, oe) :: (p, op) :: (f, of) :: rest)) : News h₀ L h ((y, oy) :: (e, oe) :: (x, ox) :: (d, od) :: (p, op) :: (f, of) :: rest) :=
  News.sub N fun q hq => by simp only [List.mem_cons] at hq ⊢; rcases hq with h | h | h | h | h <;> simp [h]
theorem led_in {h₀ h : Heap} {L x d y e p f : Addr} {ox od oy oe op of : Obj} {rest : List (Addr × Obj)} (N : News h₀ L h ((y, oy) :: (e, oe) :: (x, ox) :: (d, od) :: (p, op) :: (f, of) :: rest)) : News h₀ L h ((x, ox) :: (d, od) :: (y, oy) :: (e, oe) :: (p, op) :: (f, of) :: rest) :=
  News.sub N fun q hq => by simp only [List.mem_cons] at hq ⊢; rcases hq with h | h | h | h | h <;> simp [h]
theorem led_rest {x d y e p f : Addr} {ox od oy oe op of : Obj} {rest : List (Addr × Obj)} : ∀ q ∈ rest, q ∈ (x, ox) :: (d, od) :: (y, oy) :: (e, oe) :: (p, op) :: (f, of) :: rest := fun q hq => by simp [hq]
theorem led_ne {x d e p f : Addr} {ox od op of : Obj} {rest : List (Addr × Obj)} (h1 : x ≠ e) (h2 : d ≠ e) (h3 : p ≠ e) (h4 : f ≠ e) (h5 : ∀ q ∈ rest, q.1 ≠ e) : ∀ q ∈ (x, ox) :: (d, od) :: (p, op) :: (f, of) :: rest, q.1 ≠ e := by
  intro q hq
  simp only [List.mem_cons] at hq
  rcases hq with rfl | rfl | rfl | rfl | hq
  · exact h1
  · exact h2
  · exact h3
  · exact h4
  · exact h5 q hq
set_option maxHeartbeats 8000000 in
theorem c_read_token {w : World} {mean : ExcName → Option Value} {mg mb : Str → Option Value}
  {dp un : Nat} {gd : Option (List Code)} {cn : Str} {cs : Scope} {a : Addr} {ccd : Value} {cl : List (Str × Addr)} {outer : List Env} {A₀ : Around} {base h₀ : Heap} {L : Addr} {m : Str → Option Value} {rest : List (Addr × Obj)} {s : Shared}
    {Q E : Value → Shared → Prop} {x d y e p f : Addr} {nl buf : Str} {t1 t2 t3 t4 t5 : Tok} {h1 h2 h3 : Int} {H : Nat → Int} {K V : Nat → Tok} {c₀ : RT}
    (B : Below A₀ base outer h₀) (F : Fr h₀ L s.heap m) (X : (Mine.hd.heap_1_39 w.params).In h₀)
    (N : News h₀ L s.heap (ledL H K V x d y e p f h1 h2 h3 t1 t2 t3 t4 t5 nl buf rest c₀))
    (T : Top Mine.hd.view_1_40 LO mean mg mb h₀) (hk : cs.kind = .function) (hdp : dp + 30 < recursionLimit) (hun : un + 200 < cLine)
    (hbl : buf.length < 1000) (hq0 : c₀.quoted = false) (hok : ∀ c ∈ buf.cps.toList, okc c = true) (hr0 : Run buf c₀ c₀)
    (hde : d ≠ e) (hed : e ≠ d) (hxd : x ≠ d) (hxe : x ≠ e) (hyd : y ≠ d) (hye : y ≠ e) (hpd : p ≠ d) (hpe : p ≠ e) (hfd : f ≠ d) (hfe : f ≠ e) (hrd : ∀ q ∈ rest, q.1 ≠ d) (hre : ∀ q ∈ rest, q.1 ≠ e)
    (ret : ∀ v (c' : RT) h' tk', RdEnd buf c₀ v c' → Fr h₀ L h' m → News h₀ L h' (ledL H K V x d y e p f h1 h2 h3 t1 t2 t3 t4 t5 nl buf rest c') → Q v { s with heap := h', toks := tk' })
    (exc : rd c₀.st c₀.quoted c₀.tok (buf.cps.toList.drop c₀.pos.toNat) = none → ∀ e' t' t₁ g' h' tk', Fr h₀ L g' m → g'.UpToSlots h' → RaisedS base g' (envX cn cs L a ccd cl :: outer) e' (.type "ValueError") t' [.str (Str.ofString "No closing quotation") t₁] rest h' → E (.ref e') { s with heap := h', toks := tk' })
    : wpAny (model PySem.Challenge.rw_ny0347_01.row.prog w) (ktrTop dp un gd cn cs L a ccd cl outer) (call (.ref 711) [.ref x]) Q E s := by
  w_top off
  revert N X; k_fill; intro X N
  refine wpAny_call ?_
  k_dflt ((refine' code_def ?k1 ?k2 ?k3 ?k4 ?k5 ?kA ?kF ?kK ?k6 ?k7 ?k8 ?k9 ?kB ?_ ?c2 ?c3 ?c4 ?c5; (case kA => exact rfl); (case kF => exact rfl); (case kK => assumption); (case k1 => k_asm); (case k2 => k_asm); (case k3 => k_asm); (case k4 => k_asm); (case k5 => k_asm); (case k6 => k_is); (case k7 => k_is); (case k8 => ktr_room); (case k9 => first | exact BindsTo.of_eq rfl | exact binds_K (by k_in) rfl (by k_is) rfl rfl rfl); (case c5 => decide); (case kB => exact locs rfl); (case c2 => exact rfl); (case c3 => exact rfl); (case c4 => exact rfl); k_whole; intro g' L' h' FG' F' N' B' X' T'; (try dsimp only); (try k_fold)))
  iterate 10 (first | (k_unfold; (try dsimp only)) | ((with_reducible show wpAny _ _ (PySem.truthy (Value.str _ _)) _ _ _); (with_reducible show wpAny _ _ (PySem.truthy (Value.str _ _)) _ _ _); (first | (refine truthy1 (by with_reducible assumption) ?_; intro _) | (refine truthy0 (by with_reducible assumption) ?_; intro _) | (refine truthyP (by with_reducible assumption) (by (first | lia | omega)) ?_; intro _) | ((rename ChK _ _ _ _ => hK'); rcases hK' with ⟨hd', hl', hp'⟩ | ⟨hd', hl', f', hp'⟩ | ⟨c', hc', hch', hd', hl', g1', g2', g3', g4', g5', hp'⟩ | ⟨c', h1', h2', h3', hch', hd', hl', g1', g2', g3', g5', hp'⟩; (case' eof => (subst hp'; refine truthy0 hl' ?_; intro _; (try ((rename (_ ∨ _) => hTQ'); (obtain ⟨hTq', hTa', hTb'⟩ | hTq' := hTQ') <;> subst hTq')))); (case' blank => (subst hp'; refine truthy1 hl' ?_; intro _; (try ((rename (_ ∨ _) => hTQ'); (obtain ⟨hTq', hTa', hTb'⟩ | hTq' := hTQ') <;> subst hTq')))); (case' mark => (subst hp'; refine truthy1 hl' ?_; intro _)); (case' other => (subst hp'; refine truthy1 hl' ?_; intro _))) | ((rename ChQ _ _ _ _ _ => hK'); rcases hK' with ⟨hd', hl', hp'⟩ | ⟨hch', hd', hl', f', hp'⟩ | ⟨c', hc', hch', hd', hl', g1', g2', hp'⟩; (case' eof => (subst hp'; refine truthy0 hl' ?_; intro _)); (case' same => (subst hp'; refine truthy1 hl' ?_; intro _)); (case' other => (subst hp'; refine truthy1 hl' ?_; intro _))))) | ((with_reducible show ite _ _ _); (first | (refine ite_isFalse (by with_reducible assumption) ?_) | (refine ite_pos (by with_reducible assumption) ?_) | (refine ite_neg (by with_reducible assumption) ?_))) | ((with_reducible show wpAny _ _ (getAttr (Value.ref _) _ _) _ _ _); (with_reducible show wpAny _ _ (getAttr (Value.ref _) (Str.ofString "punctuation_chars") _) _ _ _); (rename Fr _ _ _ _ => lF); (rename News _ _ _ _ => lN); refine c_punct (by k_asm) lF (by k_asm) lN (by k_asm) (by exact rfl) (by ktr_room) ?_; intro h' tk' F' N'; clear lF lN) | ((with_reducible show wpAny _ _ (call (Value.ref _) _) _ _ _); (with_reducible show wpAny _ _ (call (Value.ref 554) [_, _]) _ _ _); refine HoldN.mk 1 ?_) | ((with_reducible show wpAny _ _ (leaving _ (Value.ref _)) _ _ _); first | (refine' leave_raiseS ?k1 ?k0 ?k2 ?k3 ?_; (case k0 => first | assumption | exact Heap.MadeExc.of (by assumption)); (case k2 => assumption); (case k1 => assumption); (case k3 => k_asm); k_whole; intro h' t' S' R' U'; clear R'; (try dsimp only at S' U' ⊢)) | (refine' leave_onS ?k1 ?k2 ?k3 ?k4 ?_; (case k3 => assumption); (case k2 => assumption); (case k1 => assumption); (case k4 => assumption); k_whole; intro h' S' R' U'; clear R'; (try dsimp only at S' U' ⊢))) | ((with_reducible show wpAny _ _ (PySem.isTrue _ _ _) _ _ _); (k_fold)) | ((with_reducible show wpAny _ _ (execs (_ :: _) _) _ _ _); (k_fold)) | walk1 | (dsimp only; first | ((with_reducible show wpAny _ _ (PySem.truthy (Value.str _ _)) _ _ _); (with_reducible show wpAny _ _ (PySem.truthy (Value.str _ _)) _ _ _); (first | (refine truthy1 (by with_reducible assumption) ?_; intro _) | (refine truthy0 (by with_reducible assumption) ?_; intro _) | (refine truthyP (by with_reducible assumption) (by (first | lia | omega)) ?_; intro _) | ((rename ChK _ _ _ _ => hK'); rcases hK' with ⟨hd', hl', hp'⟩ | ⟨hd', hl', f', hp'⟩ | ⟨c', hc', hch', hd', hl', g1', g2', g3', g4', g5', hp'⟩ | ⟨c', h1', h2', h3', hch', hd', hl', g1', g2', g3', g5', hp'⟩; (case' eof => (subst hp'; refine truthy0 hl' ?_; intro _; (try ((rename (_ ∨ _) => hTQ'); (obtain ⟨hTq', hTa', hTb'⟩ | hTq' := hTQ') <;> subst hTq')))); (case' blank => (subst hp'; refine truthy1 hl' ?_; intro _; (try ((rename (_ ∨ _) => hTQ'); (obtain ⟨hTq', hTa', hTb'⟩ | hTq' := hTQ') <;> subst hTq')))); (case' mark => (subst hp'; refine truthy1 hl' ?_; intro _)); (case' other => (subst hp'; refine truthy1 hl' ?_; intro _))) | ((rename ChQ _ _ _ _ _ => hK'); rcases hK' with ⟨hd', hl', hp'⟩ | ⟨hch', hd', hl', f', hp'⟩ | ⟨c', hc', hch', hd', hl', g1', g2', hp'⟩; (case' eof => (subst hp'; refine truthy0 hl' ?_; intro _)); (case' same => (subst hp'; refine truthy1 hl' ?_; intro _)); (case' other => (subst hp'; refine truthy1 hl' ?_; intro _))))) | ((with_reducible show ite _ _ _); (first | (refine ite_isFalse (by with_reducible assumption) ?_) | (refine ite_pos (by with_reducible assumption) ?_) | (refine ite_neg (by with_reducible assumption) ?_))) | ((with_reducible show wpAny _ _ (getAttr (Value.ref _) _ _) _ _ _); (with_reducible show wpAny _ _ (getAttr (Value.ref _) (Str.ofString "punctuation_chars") _) _ _ _); (rename Fr _ _ _ _ => lF); (rename News _ _ _ _ => lN); refine c_punct (by k_asm) lF (by k_asm) lN (by k_asm) (by exact rfl) (by ktr_room) ?_; intro h' tk' F' N'; clear lF lN) | ((with_reducible show wpAny _ _ (call (Value.ref _) _) _ _ _); (with_reducible show wpAny _ _ (call (Value.ref 554) [_, _]) _ _ _); refine HoldN.mk 1 ?_) | ((with_reducible show wpAny _ _ (leaving _ (Value.ref _)) _ _ _); first | (refine' leave_raiseS ?k1 ?k0 ?k2 ?k3 ?_; (case k0 => first | assumption | exact Heap.MadeExc.of (by assumption)); (case k2 => assumption); (case k1 => assumption); (case k3 => k_asm); k_whole; intro h' t' S' R' U'; clear R'; (try dsimp only at S' U' ⊢)) | (refine' leave_onS ?k1 ?k2 ?k3 ?k4 ?_; (case k3 => assumption); (case k2 => assumption); (case k1 => assumption); (case k4 => assumption); k_whole; intro h' S' R' U'; clear R'; (try dsimp only at S' U' ⊢))) | ((with_reducible show wpAny _ _ (PySem.isTrue _ _ _) _ _ _); (k_fold)) | ((with_reducible show wpAny _ _ (execs (_ :: _) _) _ _ _); (k_fold))) | (dsimp only; walk1))
  rename Fr _ _ _ _ => F1
  rename News _ _ _ _ => N1
  refine' ksw_while (σ := RT) (ledL H K V x d y e p f h1 h2 h3 t1 t2 t3 t4 t5 nl buf rest) (fun c => [(Str.ofString "quoted", Value.bool c.quoted), (Str.ofString "escapedstate", Value.str (Str.ofString " ") ?te)]) (fun _ => True) [Str.ofString "nextchar"] (Run buf c₀) (fun c => (buf.length - c.pos).toNat) c₀ F1 N1 trivial ?hk hr0 ?turn
  case hk =>
    intro q hq
    simp only [List.mem_cons, List.not_mem_nil, or_false] at hq
    rcases hq with rfl | rfl
    · rw [hq0]; rfl
    · rfl
  case turn =>
    clear F1 N1
    rintro ⟨quoted, st, tok, pos, tt, ts, t6⟩ u h9 tk9 - ⟨hok1, heq1, hpos1, hlen1⟩ F' N'
    dsimp only at hpos1 hlen1
    cases st <;> dsimp only [okSt] at hok1
    case none =>
      obtain ⟨rfl, rfl, hdn⟩ := hok1
      dsimp only [ledL, LSt.val] at N' F' ⊢
      (repeat' (first | ((with_reducible show HoldN 1 _); refine HoldN.of ?_; (rename Fr _ _ _ _ => lF); (rename News _ _ _ _ => lN); (replace lN := led_out lN); k_dflt (first | (refine c_readV (by k_asm) lF (by k_asm) lN (by k_asm) (by exact rfl) (by ktr_room) (by ktr_units) (by assumption) (led_ne (by assumption) (by assumption) (by assumption) (by assumption) (by assumption)) (by (first | lia | omega)) (by assumption) (by assumption) (by assumption) ?_; intro ch' t' t6' pos' h' tk' f1' hK' hp' F' N'; (replace N' := led_in N'); clear lF lN) | (refine c_readU (by k_asm) lF (by k_asm) lN (by k_asm) (by exact rfl) (by ktr_room) (by ktr_units) (by assumption) (led_ne (by assumption) (by assumption) (by assumption) (by assumption) (by assumption)) (by (first | lia | omega)) (by assumption) (by assumption) ?_; intro ch' t' t6' pos' h' tk' f1' hK' hp' F' N'; (replace N' := led_in N'); clear lF lN))) | (k_unfold; (try dsimp only)) | (k_end; wrow_close) | ((with_reducible show wpAny _ _ (PySem.truthy (Value.str _ _)) _ _ _); (with_reducible show wpAny _ _ (PySem.truthy (Value.str _ _)) _ _ _); (first | (refine truthy1 (by with_reducible assumption) ?_; intro _) | (refine truthy0 (by with_reducible assumption) ?_; intro _) | (refine truthyP (by with_reducible assumption) (by (first | lia | omega)) ?_; intro _) | ((rename ChK _ _ _ _ => hK'); rcases hK' with ⟨hd', hl', hp'⟩ | ⟨hd', hl', f', hp'⟩ | ⟨c', hc', hch', hd', hl', g1', g2', g3', g4', g5', hp'⟩ | ⟨c', h1', h2', h3', hch', hd', hl', g1', g2', g3', g5', hp'⟩; (case' eof => (subst hp'; refine truthy0 hl' ?_; intro _; (try ((rename (_ ∨ _) => hTQ'); (obtain ⟨hTq', hTa', hTb'⟩ | hTq' := hTQ') <;> subst hTq')))); (case' blank => (subst hp'; refine truthy1 hl' ?_; intro _; (try ((rename (_ ∨ _) => hTQ'); (obtain ⟨hTq', hTa', hTb'⟩ | hTq' := hTQ') <;> subst hTq')))); (case' mark => (subst hp'; refine truthy1 hl' ?_; intro _)); (case' other => (subst hp'; refine truthy1 hl' ?_; intro _))) | ((rename ChQ _ _ _ _ _ => hK'); rcases hK' with ⟨hd', hl', hp'⟩ | ⟨hch', hd', hl', f', hp'⟩ | ⟨c', hc', hch', hd', hl', g1', g2', hp'⟩; (case' eof => (subst hp'; refine truthy0 hl' ?_; intro _)); (case' same => (subst hp'; refine truthy1 hl' ?_; intro _)); (case' other => (subst hp'; refine truthy1 hl' ?_; intro _))))) | ((with_reducible show ite _ _ _); (first | (refine ite_isFalse (by with_reducible assumption) ?_) | (refine ite_pos (by with_reducible assumption) ?_) | (refine ite_neg (by with_reducible assumption) ?_))) | ((with_reducible show wpAny _ _ (getAttr (Value.ref _) _ _) _ _ _); (with_reducible show wpAny _ _ (getAttr (Value.ref _) (Str.ofString "punctuation_chars") _) _ _ _); (rename Fr _ _ _ _ => lF); (rename News _ _ _ _ => lN); refine c_punct (by k_asm) lF (by k_asm) lN (by k_asm) (by exact rfl) (by ktr_room) ?_; intro h' tk' F' N'; clear lF lN) | ((with_reducible show wpAny _ _ (call (Value.ref _) _) _ _ _); (with_reducible show wpAny _ _ (call (Value.ref 554) [_, _]) _ _ _); refine HoldN.mk 1 ?_) | ((with_reducible show wpAny _ _ (leaving _ (Value.ref _)) _ _ _); first | (refine' leave_raiseS ?k1 ?k0 ?k2 ?k3 ?_; (case k0 => first | assumption | exact Heap.MadeExc.of (by assumption)); (case k2 => assumption); (case k1 => assumption); (case k3 => k_asm); k_whole; intro h' t' S' R' U'; clear R'; (try dsimp only at S' U' ⊢)) | (refine' leave_onS ?k1 ?k2 ?k3 ?k4 ?_; (case k3 => assumption); (case k2 => assumption); (case k1 => assumption); (case k4 => assumption); k_whole; intro h' S' R' U'; clear R'; (try dsimp only at S' U' ⊢))) | ((with_reducible show wpAny _ _ (PySem.isTrue _ _ _) _ _ _); (k_fold)) | ((with_reducible show wpAny _ _ (execs (_ :: _) _) _ _ _); (k_fold)) | walk1 | (dsimp only; first | ((with_reducible show wpAny _ _ (PySem.truthy (Value.str _ _)) _ _ _); (with_reducible show wpAny _ _ (PySem.truthy (Value.str _ _)) _ _ _); (first | (refine truthy1 (by with_reducible assumption) ?_; intro _) | (refine truthy0 (by with_reducible assumption) ?_; intro _) | (refine truthyP (by with_reducible assumption) (by (first | lia | omega)) ?_; intro _) | ((rename ChK _ _ _ _ => hK'); rcases hK' with ⟨hd', hl', hp'⟩ | ⟨hd', hl', f', hp'⟩ | ⟨c', hc', hch', hd', hl', g1', g2', g3', g4', g5', hp'⟩ | ⟨c', h1', h2', h3', hch', hd', hl', g1', g2', g3', g5', hp'⟩; (case' eof => (subst hp'; refine truthy0 hl' ?_; intro _; (try ((rename (_ ∨ _) => hTQ'); (obtain ⟨hTq', hTa', hTb'⟩ | hTq' := hTQ') <;> subst hTq')))); (case' blank => (subst hp'; refine truthy1 hl' ?_; intro _; (try ((rename (_ ∨ _) => hTQ'); (obtain ⟨hTq', hTa', hTb'⟩ | hTq' := hTQ') <;> subst hTq')))); (case' mark => (subst hp'; refine truthy1 hl' ?_; intro _)); (case' other => (subst hp'; refine truthy1 hl' ?_; intro _))) | ((rename ChQ _ _ _ _ _ => hK'); rcases hK' with ⟨hd', hl', hp'⟩ | ⟨hch', hd', hl', f', hp'⟩ | ⟨c', hc', hch', hd', hl', g1', g2', hp'⟩; (case' eof => (subst hp'; refine truthy0 hl' ?_; intro _)); (case' same => (subst hp'; refine truthy1 hl' ?_; intro _)); (case' other => (subst hp'; refine truthy1 hl' ?_; intro _))))) | ((with_reducible show ite _ _ _); (first | (refine ite_isFalse (by with_reducible assumption) ?_) | (refine ite_pos (by with_reducible assumption) ?_) | (refine ite_neg (by with_reducible assumption) ?_))) | ((with_reducible show wpAny _ _ (getAttr (Value.ref _) _ _) _ _ _); (with_reducible show wpAny _ _ (getAttr (Value.ref _) (Str.ofString "punctuation_chars") _) _ _ _); (rename Fr _ _ _ _ => lF); (rename News _ _ _ _ => lN); refine c_punct (by k_asm) lF (by k_asm) lN (by k_asm) (by exact rfl) (by ktr_room) ?_; intro h' tk' F' N'; clear lF lN) | ((with_reducible show wpAny _ _ (call (Value.ref _) _) _ _ _); (with_reducible show wpAny _ _ (call (Value.ref 554) [_, _]) _ _ _); refine HoldN.mk 1 ?_) | ((with_reducible show wpAny _ _ (leaving _ (Value.ref _)) _ _ _); first | (refine' leave_raiseS ?k1 ?k0 ?k2 ?k3 ?_; (case k0 => first | assumption | exact Heap.MadeExc.of (by assumption)); (case k2 => assumption); (case k1 => assumption); (case k3 => k_asm); k_whole; intro h' t' S' R' U'; clear R'; (try dsimp only at S' U' ⊢)) | (refine' leave_onS ?k1 ?k2 ?k3 ?k4 ?_; (case k3 => assumption); (case k2 => assumption); (case k1 => assumption); (case k4 => assumption); k_whole; intro h' S' R' U'; clear R'; (try dsimp only at S' U' ⊢))) | ((with_reducible show wpAny _ _ (PySem.isTrue _ _ _) _ _ _); (k_fold)) | ((with_reducible show wpAny _ _ (execs (_ :: _) _) _ _ _); (k_fold))) | (dsimp only; walk1) | (leave1; walk_say "STEP leave1"; try dsimp only) | fail "no step"))
      all_goals (rename ChK _ _ _ _ => hK9)
      all_goals (rcases hK9 with ⟨hd9, _, hp9⟩ | ⟨hd9, _⟩ | ⟨_, _, _, hd9, _⟩ | ⟨_, _, _, _, _, hd9, _⟩ <;> first | (rw [hdn] at hd9; cases hd9; done) | subst hp9)
      all_goals (show Q _ _)
      all_goals exact ret _ ⟨false, .none, Str.ofString "", pos, _, 0, _⟩ _ _ ⟨⟨none, 0, rfl, heq1.symm.trans (by simp [rd, fin_e])⟩, .inl rfl, ⟨rfl, rfl, hdn⟩, rfl, rfl, by constructor <;> (dsimp only; (first | lia | omega))⟩ (by assumption) (by assumption)
    case ws =>
      obtain ⟨rfl, rfl⟩ := hok1
      dsimp only [ledL, LSt.val] at N' F' ⊢
      (repeat' (first | ((with_reducible show HoldN 1 _); refine HoldN.of ?_; (rename Fr _ _ _ _ => lF); (rename News _ _ _ _ => lN); (replace lN := led_out lN); k_dflt (first | (refine c_readV (by k_asm) lF (by k_asm) lN (by k_asm) (by exact rfl) (by ktr_room) (by ktr_units) (by assumption) (led_ne (by assumption) (by assumption) (by assumption) (by assumption) (by assumption)) (by (first | lia | omega)) (by assumption) (by assumption) (by assumption) ?_; intro ch' t' t6' pos' h' tk' f1' hK' hp' F' N'; (replace N' := led_in N'); clear lF lN) | (refine c_readU (by k_asm) lF (by k_asm) lN (by k_asm) (by exact rfl) (by ktr_room) (by ktr_units) (by assumption) (led_ne (by assumption) (by assumption) (by assumption) (by assumption) (by assumption)) (by (first | lia | omega)) (by assumption) (by assumption) ?_; intro ch' t' t6' pos' h' tk' f1' hK' hp' F' N'; (replace N' := led_in N'); clear lF lN))) | (k_unfold; (try dsimp only)) | (k_end; wrow_close) | ((with_reducible show wpAny _ _ (PySem.truthy (Value.str _ _)) _ _ _); (with_reducible show wpAny _ _ (PySem.truthy (Value.str _ _)) _ _ _); (first | (refine truthy1 (by with_reducible assumption) ?_; intro _) | (refine truthy0 (by with_reducible assumption) ?_; intro _) | (refine truthyP (by with_reducible assumption) (by (first | lia | omega)) ?_; intro _) | ((rename ChK _ _ _ _ => hK'); rcases hK' with ⟨hd', hl', hp'⟩ | ⟨hd', hl', f', hp'⟩ | ⟨c', hc', hch', hd', hl', g1', g2', g3', g4', g5', hp'⟩ | ⟨c', h1', h2', h3', hch', hd', hl', g1', g2', g3', g5', hp'⟩; (case' eof => (subst hp'; refine truthy0 hl' ?_; intro _; (try ((rename (_ ∨ _) => hTQ'); (obtain ⟨hTq', hTa', hTb'⟩ | hTq' := hTQ') <;> subst hTq')))); (case' blank => (subst hp'; refine truthy1 hl' ?_; intro _; (try ((rename (_ ∨ _) => hTQ'); (obtain ⟨hTq', hTa', hTb'⟩ | hTq' := hTQ') <;> subst hTq')))); (case' mark => (subst hp'; refine truthy1 hl' ?_; intro _)); (case' other => (subst hp'; refine truthy1 hl' ?_; intro _))) | ((rename ChQ _ _ _ _ _ => hK'); rcases hK' with ⟨hd', hl', hp'⟩ | ⟨hch', hd', hl', f', hp'⟩ | ⟨c', hc', hch', hd', hl', g1', g2', hp'⟩; (case' eof => (subst hp'; refine truthy0 hl' ?_; intro _)); (case' same => (subst hp'; refine truthy1 hl' ?_; intro _)); (case' other => (subst hp'; refine truthy1 hl' ?_; intro _))))) | ((with_reducible show ite _ _ _); (first | (refine ite_isFalse (by with_reducible assumption) ?_) | (refine ite_pos (by with_reducible assumption) ?_) | (refine ite_neg (by with_reducible assumption) ?_))) | ((with_reducible show wpAny _ _ (getAttr (Value.ref _) _ _) _ _ _); (with_reducible show wpAny _ _ (getAttr (Value.ref _) (Str.ofString "punctuation_chars") _) _ _ _); (rename Fr _ _ _ _ => lF); (rename News _ _ _ _ => lN); refine c_punct (by k_asm) lF (by k_asm) lN (by k_asm) (by exact rfl) (by ktr_room) ?_; intro h' tk' F' N'; clear lF lN) | ((with_reducible show wpAny _ _ (call (Value.ref _) _) _ _ _); (with_reducible show wpAny _ _ (call (Value.ref 554) [_, _]) _ _ _); refine HoldN.mk 1 ?_) | ((with_reducible show wpAny _ _ (leaving _ (Value.ref _)) _ _ _); first | (refine' leave_raiseS ?k1 ?k0 ?k2 ?k3 ?_; (case k0 => first | assumption | exact Heap.MadeExc.of (by assumption)); (case k2 => assumption); (case k1 => assumption); (case k3 => k_asm); k_whole; intro h' t' S' R' U'; clear R'; (try dsimp only at S' U' ⊢)) | (refine' leave_onS ?k1 ?k2 ?k3 ?k4 ?_; (case k3 => assumption); (case k2 => assumption); (case k1 => assumption); (case k4 => assumption); k_whole; intro h' S' R' U'; clear R'; (try dsimp only at S' U' ⊢))) | ((with_reducible show wpAny _ _ (PySem.isTrue _ _ _) _ _ _); (k_fold)) | ((with_reducible show wpAny _ _ (execs (_ :: _) _) _ _ _); (k_fold)) | walk1 | (dsimp only; first | ((with_reducible show wpAny _ _ (PySem.truthy (Value.str _ _)) _ _ _); (with_reducible show wpAny _ _ (PySem.truthy (Value.str _ _)) _ _ _); (first | (refine truthy1 (by with_reducible assumption) ?_; intro _) | (refine truthy0 (by with_reducible assumption) ?_; intro _) | (refine truthyP (by with_reducible assumption) (by (first | lia | omega)) ?_; intro _) | ((rename ChK _ _ _ _ => hK'); rcases hK' with ⟨hd', hl', hp'⟩ | ⟨hd', hl', f', hp'⟩ | ⟨c', hc', hch', hd', hl', g1', g2', g3', g4', g5', hp'⟩ | ⟨c', h1', h2', h3', hch', hd', hl', g1', g2', g3', g5', hp'⟩; (case' eof => (subst hp'; refine truthy0 hl' ?_; intro _; (try ((rename (_ ∨ _) => hTQ'); (obtain ⟨hTq', hTa', hTb'⟩ | hTq' := hTQ') <;> subst hTq')))); (case' blank => (subst hp'; refine truthy1 hl' ?_; intro _; (try ((rename (_ ∨ _) => hTQ'); (obtain ⟨hTq', hTa', hTb'⟩ | hTq' := hTQ') <;> subst hTq')))); (case' mark => (subst hp'; refine truthy1 hl' ?_; intro _)); (case' other => (subst hp'; refine truthy1 hl' ?_; intro _))) | ((rename ChQ _ _ _ _ _ => hK'); rcases hK' with ⟨hd', hl', hp'⟩ | ⟨hch', hd', hl', f', hp'⟩ | ⟨c', hc', hch', hd', hl', g1', g2', hp'⟩; (case' eof => (subst hp'; refine truthy0 hl' ?_; intro _)); (case' same => (subst hp'; refine truthy1 hl' ?_; intro _)); (case' other => (subst hp'; refine truthy1 hl' ?_; intro _))))) | ((with_reducible show ite _ _ _); (first | (refine ite_isFalse (by with_reducible assumption) ?_) | (refine ite_pos (by with_reducible assumption) ?_) | (refine ite_neg (by with_reducible assumption) ?_))) | ((with_reducible show wpAny _ _ (getAttr (Value.ref _) _ _) _ _ _); (with_reducible show wpAny _ _ (getAttr (Value.ref _) (Str.ofString "punctuation_chars") _) _ _ _); (rename Fr _ _ _ _ => lF); (rename News _ _ _ _ => lN); refine c_punct (by k_asm) lF (by k_asm) lN (by k_asm) (by exact rfl) (by ktr_room) ?_; intro h' tk' F' N'; clear lF lN) | ((with_reducible show wpAny _ _ (call (Value.ref _) _) _ _ _); (with_reducible show wpAny _ _ (call (Value.ref 554) [_, _]) _ _ _); refine HoldN.mk 1 ?_) | ((with_reducible show wpAny _ _ (leaving _ (Value.ref _)) _ _ _); first | (refine' leave_raiseS ?k1 ?k0 ?k2 ?k3 ?_; (case k0 => first | assumption | exact Heap.MadeExc.of (by assumption)); (case k2 => assumption); (case k1 => assumption); (case k3 => k_asm); k_whole; intro h' t' S' R' U'; clear R'; (try dsimp only at S' U' ⊢)) | (refine' leave_onS ?k1 ?k2 ?k3 ?k4 ?_; (case k3 => assumption); (case k2 => assumption); (case k1 => assumption); (case k4 => assumption); k_whole; intro h' S' R' U'; clear R'; (try dsimp only at S' U' ⊢))) | ((with_reducible show wpAny _ _ (PySem.isTrue _ _ _) _ _ _); (k_fold)) | ((with_reducible show wpAny _ _ (execs (_ :: _) _) _ _ _); (k_fold))) | (dsimp only; walk1) | (leave1; walk_say "STEP leave1"; try dsimp only) | fail "no step"))
      all_goals (try (rename (_ = (⟨#[_]⟩ : Str)) => hch9; subst hch9))
      all_goals (first
        | ((rename (_ = ([] : List Nat)) => hd9); (show Q _ _); exact ret _ ⟨false, .none, Str.ofString "", pos, _, 0, _⟩ _ _ ⟨⟨none, 0, rfl, heq1.symm.trans (by dsimp only; rw [hd9]; simp [rd, fin_e])⟩, .inl rfl, ⟨rfl, rfl, hd9⟩, rfl, rfl, by constructor <;> (dsimp only; (first | lia | omega))⟩ (by assumption) (by assumption))
        | ((rename (_ = (32 :: _ : List Nat)) => hd9); exact ksw_end ⟨false, .ws, Str.ofString "", pos + 1, _, _, _⟩ (by assumption) (by assumption) (fun _ z => z) trivial (by (intro q9 hq9; simp only [List.mem_cons, List.not_mem_nil, or_false] at hq9; rcases hq9 with rfl | rfl <;> rfl)) (by (intro z h2 h3; simp only [List.forall_mem_cons, List.not_mem_nil, false_implies, implies_true, and_true, ne_eq] at h2; simp only [List.contains_cons, List.contains_nil, Bool.or_false, Bool.or_eq_false_iff, beq_eq_false_iff_ne, ne_eq] at h3; simp [h2, h3, kstB])) (Run.to heq1 hpos1 hlen1 hd9 rd_ws_b (Nat.le_succ _) ⟨rfl, rfl⟩) (fall hpos1 hd9))
        | ((rename IsQ _ => hc9); (rename (_ = (_ :: _ : List Nat)) => hd9); exact ksw_end ⟨false, .q _, Str.ofString "", pos + 1, _, _, _⟩ (by assumption) (by assumption) (fun _ z => z) trivial (by (intro q9 hq9; simp only [List.mem_cons, List.not_mem_nil, or_false] at hq9; rcases hq9 with rfl | rfl <;> rfl)) (by (intro z h2 h3; simp only [List.forall_mem_cons, List.not_mem_nil, false_implies, implies_true, and_true, ne_eq] at h2; simp only [List.contains_cons, List.contains_nil, Bool.or_false, Bool.or_eq_false_iff, beq_eq_false_iff_ne, ne_eq] at h3; simp [h2, h3, kstB])) (Run.to heq1 hpos1 hlen1 hd9 (rd_ws_q hc9) (Nat.le_succ _) hc9) (fall hpos1 hd9))
        | ((rename (_ ≠ 32) => hc1); (rename (_ ≠ 39) => hc2); (rename (_ ≠ 34) => hc3); (rename (_ = (_ :: _ : List Nat)) => hd9); exact ksw_end ⟨false, .a, _, pos + 1, _, _, _⟩ (by assumption) (by assumption) (fun _ z => z) trivial (by (intro q9 hq9; simp only [List.mem_cons, List.not_mem_nil, or_false] at hq9; rcases hq9 with rfl | rfl <;> rfl)) (by (intro z h2 h3; simp only [List.forall_mem_cons, List.not_mem_nil, false_implies, implies_true, and_true, ne_eq] at h2; simp only [List.contains_cons, List.contains_nil, Bool.or_false, Bool.or_eq_false_iff, beq_eq_false_iff_ne, ne_eq] at h3; simp [h2, h3, kstB])) (Run.to heq1 hpos1 hlen1 hd9 (rd_ws_p hc1 hc2 hc3) (by rw [len_one]; (first | lia | omega)) (.inl ⟨rfl, Nat.le_refl _, ne_empty (Nat.le_refl _)⟩)) (fall hpos1 hd9))
        )
    case a =>
      dsimp only [ledL, LSt.val] at N' F' ⊢
      have hl9 : tok.length ≤ 1000 := by (first | lia | omega)
      have fa1 : (Str.ofString "a" == Str.ofString " ") = false := by decide +kernel
      have fa2 : (!(Builtin.Str.occurrences (Str.ofString "'\"") (Str.ofString "a") 0 (Str.ofString "'\"").length 1).isEmpty) = false := by decide +kernel
      have fa3 : (!(Builtin.Str.occurrences (Str.ofString "\\") (Str.ofString "a") 0 (Str.ofString "\\").length 1).isEmpty) = false := by decide +kernel
      have fa4 : (Str.ofString "a" == Str.ofString "a") = true := by decide +kernel
      have fa5 : (Str.ofString "a" == Str.ofString "c") = false := by decide +kernel
      (repeat' (first | ((with_reducible show HoldN 1 _); refine HoldN.of ?_; (rename Fr _ _ _ _ => lF); (rename News _ _ _ _ => lN); (replace lN := led_out lN); k_dflt (first | (refine c_readV (by k_asm) lF (by k_asm) lN (by k_asm) (by exact rfl) (by ktr_room) (by ktr_units) (by assumption) (led_ne (by assumption) (by assumption) (by assumption) (by assumption) (by assumption)) (by (first | lia | omega)) (by assumption) (by assumption) (by assumption) ?_; intro ch' t' t6' pos' h' tk' f1' hK' hp' F' N'; (replace N' := led_in N'); clear lF lN) | (refine c_readU (by k_asm) lF (by k_asm) lN (by k_asm) (by exact rfl) (by ktr_room) (by ktr_units) (by assumption) (led_ne (by assumption) (by assumption) (by assumption) (by assumption) (by assumption)) (by (first | lia | omega)) (by assumption) (by assumption) ?_; intro ch' t' t6' pos' h' tk' f1' hK' hp' F' N'; (replace N' := led_in N'); clear lF lN))) | (k_unfold; (try dsimp only)) | (k_end; wrow_close) | ((with_reducible show wpAny _ _ (PySem.truthy (Value.str _ _)) _ _ _); (with_reducible show wpAny _ _ (PySem.truthy (Value.str _ _)) _ _ _); (first | (refine truthy1 (by with_reducible assumption) ?_; intro _) | (refine truthy0 (by with_reducible assumption) ?_; intro _) | (refine truthyP (by with_reducible assumption) (by (first | lia | omega)) ?_; intro _) | ((rename ChK _ _ _ _ => hK'); rcases hK' with ⟨hd', hl', hp'⟩ | ⟨hd', hl', f', hp'⟩ | ⟨c', hc', hch', hd', hl', g1', g2', g3', g4', g5', hp'⟩ | ⟨c', h1', h2', h3', hch', hd', hl', g1', g2', g3', g5', hp'⟩; (case' eof => (subst hp'; refine truthy0 hl' ?_; intro _; (try ((rename (_ ∨ _) => hTQ'); (obtain ⟨hTq', hTa', hTb'⟩ | hTq' := hTQ') <;> subst hTq')))); (case' blank => (subst hp'; refine truthy1 hl' ?_; intro _; (try ((rename (_ ∨ _) => hTQ'); (obtain ⟨hTq', hTa', hTb'⟩ | hTq' := hTQ') <;> subst hTq')))); (case' mark => (subst hp'; refine truthy1 hl' ?_; intro _)); (case' other => (subst hp'; refine truthy1 hl' ?_; intro _))) | ((rename ChQ _ _ _ _ _ => hK'); rcases hK' with ⟨hd', hl', hp'⟩ | ⟨hch', hd', hl', f', hp'⟩ | ⟨c', hc', hch', hd', hl', g1', g2', hp'⟩; (case' eof => (subst hp'; refine truthy0 hl' ?_; intro _)); (case' same => (subst hp'; refine truthy1 hl' ?_; intro _)); (case' other => (subst hp'; refine truthy1 hl' ?_; intro _))))) | ((with_reducible show ite _ _ _); (first | (refine ite_isFalse (by with_reducible assumption) ?_) | (refine ite_pos (by with_reducible assumption) ?_) | (refine ite_neg (by with_reducible assumption) ?_))) | ((with_reducible show wpAny _ _ (getAttr (Value.ref _) _ _) _ _ _); (with_reducible show wpAny _ _ (getAttr (Value.ref _) (Str.ofString "punctuation_chars") _) _ _ _); (rename Fr _ _ _ _ => lF); (rename News _ _ _ _ => lN); refine c_punct (by k_asm) lF (by k_asm) lN (by k_asm) (by exact rfl) (by ktr_room) ?_; intro h' tk' F' N'; clear lF lN) | ((with_reducible show wpAny _ _ (call (Value.ref _) _) _ _ _); (with_reducible show wpAny _ _ (call (Value.ref 554) [_, _]) _ _ _); refine HoldN.mk 1 ?_) | ((with_reducible show wpAny _ _ (leaving _ (Value.ref _)) _ _ _); first | (refine' leave_raiseS ?k1 ?k0 ?k2 ?k3 ?_; (case k0 => first | assumption | exact Heap.MadeExc.of (by assumption)); (case k2 => assumption); (case k1 => assumption); (case k3 => k_asm); k_whole; intro h' t' S' R' U'; clear R'; (try dsimp only at S' U' ⊢)) | (refine' leave_onS ?k1 ?k2 ?k3 ?k4 ?_; (case k3 => assumption); (case k2 => assumption); (case k1 => assumption); (case k4 => assumption); k_whole; intro h' S' R' U'; clear R'; (try dsimp only at S' U' ⊢))) | ((with_reducible show wpAny _ _ (PySem.isTrue _ _ _) _ _ _); (k_fold)) | ((with_reducible show wpAny _ _ (execs (_ :: _) _) _ _ _); (k_fold)) | walk1 | (dsimp only; first | ((with_reducible show wpAny _ _ (PySem.truthy (Value.str _ _)) _ _ _); (with_reducible show wpAny _ _ (PySem.truthy (Value.str _ _)) _ _ _); (first | (refine truthy1 (by with_reducible assumption) ?_; intro _) | (refine truthy0 (by with_reducible assumption) ?_; intro _) | (refine truthyP (by with_reducible assumption) (by (first | lia | omega)) ?_; intro _) | ((rename ChK _ _ _ _ => hK'); rcases hK' with ⟨hd', hl', hp'⟩ | ⟨hd', hl', f', hp'⟩ | ⟨c', hc', hch', hd', hl', g1', g2', g3', g4', g5', hp'⟩ | ⟨c', h1', h2', h3', hch', hd', hl', g1', g2', g3', g5', hp'⟩; (case' eof => (subst hp'; refine truthy0 hl' ?_; intro _; (try ((rename (_ ∨ _) => hTQ'); (obtain ⟨hTq', hTa', hTb'⟩ | hTq' := hTQ') <;> subst hTq')))); (case' blank => (subst hp'; refine truthy1 hl' ?_; intro _; (try ((rename (_ ∨ _) => hTQ'); (obtain ⟨hTq', hTa', hTb'⟩ | hTq' := hTQ') <;> subst hTq')))); (case' mark => (subst hp'; refine truthy1 hl' ?_; intro _)); (case' other => (subst hp'; refine truthy1 hl' ?_; intro _))) | ((rename ChQ _ _ _ _ _ => hK'); rcases hK' with ⟨hd', hl', hp'⟩ | ⟨hch', hd', hl', f', hp'⟩ | ⟨c', hc', hch', hd', hl', g1', g2', hp'⟩; (case' eof => (subst hp'; refine truthy0 hl' ?_; intro _)); (case' same => (subst hp'; refine truthy1 hl' ?_; intro _)); (case' other => (subst hp'; refine truthy1 hl' ?_; intro _))))) | ((with_reducible show ite _ _ _); (first | (refine ite_isFalse (by with_reducible assumption) ?_) | (refine ite_pos (by with_reducible assumption) ?_) | (refine ite_neg (by with_reducible assumption) ?_))) | ((with_reducible show wpAny _ _ (getAttr (Value.ref _) _ _) _ _ _); (with_reducible show wpAny _ _ (getAttr (Value.ref _) (Str.ofString "punctuation_chars") _) _ _ _); (rename Fr _ _ _ _ => lF); (rename News _ _ _ _ => lN); refine c_punct (by k_asm) lF (by k_asm) lN (by k_asm) (by exact rfl) (by ktr_room) ?_; intro h' tk' F' N'; clear lF lN) | ((with_reducible show wpAny _ _ (call (Value.ref _) _) _ _ _); (with_reducible show wpAny _ _ (call (Value.ref 554) [_, _]) _ _ _); refine HoldN.mk 1 ?_) | ((with_reducible show wpAny _ _ (leaving _ (Value.ref _)) _ _ _); first | (refine' leave_raiseS ?k1 ?k0 ?k2 ?k3 ?_; (case k0 => first | assumption | exact Heap.MadeExc.of (by assumption)); (case k2 => assumption); (case k1 => assumption); (case k3 => k_asm); k_whole; intro h' t' S' R' U'; clear R'; (try dsimp only at S' U' ⊢)) | (refine' leave_onS ?k1 ?k2 ?k3 ?k4 ?_; (case k3 => assumption); (case k2 => assumption); (case k1 => assumption); (case k4 => assumption); k_whole; intro h' S' R' U'; clear R'; (try dsimp only at S' U' ⊢))) | ((with_reducible show wpAny _ _ (PySem.isTrue _ _ _) _ _ _); (k_fold)) | ((with_reducible show wpAny _ _ (execs (_ :: _) _) _ _ _); (k_fold))) | (dsimp only; walk1) | (leave1; walk_say "STEP leave1"; try dsimp only) | fail "no step"))
      all_goals (try (rename (_ = (⟨#[_]⟩ : Str)) => hch9; subst hch9))
      all_goals (first
        | ((rename (_ = ([] : List Nat)) => hd9); (show Q _ _); first
          | ((rename (1 ≤ Str.length _) => hp9); exact ret _ ⟨false, .none, Str.ofString "", pos, _, 0, _⟩ _ _ ⟨⟨some _, _, rfl, heq1.symm.trans (by dsimp only; rw [hd9]; simp [rd, fin_tok hp9])⟩, .inl rfl, ⟨rfl, rfl, hd9⟩, rfl, rfl, by constructor <;> (dsimp only; (first | lia | omega))⟩ (by assumption) (News.sub (by assumption) (fun _ z => List.Mem.tail _ z)))
          | exact ret _ ⟨false, .none, Str.ofString "", pos, _, 0, _⟩ _ _ ⟨⟨some _, _, rfl, heq1.symm.trans (by dsimp only; rw [hd9]; simp [rd, fin_q])⟩, .inl rfl, ⟨rfl, rfl, hd9⟩, rfl, rfl, by constructor <;> (dsimp only; (first | lia | omega))⟩ (by assumption) (News.sub (by assumption) (fun _ z => List.Mem.tail _ z)))
        | ((rename (_ = (32 :: _ : List Nat)) => hd9); (show Q _ _); (have hlt9 := drop_lt hpos1 hd9); (have hle9 : buf.length = buf.cps.toList.length := by simp [Str.length]); first
          | ((rename (1 ≤ Str.length _) => hp9); exact ret _ ⟨false, .ws, Str.ofString "", pos + 1, _, _, _⟩ _ _ ⟨⟨some _, _, rfl, heq1.symm.trans (by dsimp only; rw [hd9, rd_a_b, fin_tok hp9])⟩, .inr rfl, ⟨rfl, rfl⟩, rfl, rfl, by constructor <;> (dsimp only; (first | lia | omega))⟩ (by assumption) (News.sub (by assumption) (fun _ z => List.Mem.tail _ z)))
          | exact ret _ ⟨false, .ws, Str.ofString "", pos + 1, _, _, _⟩ _ _ ⟨⟨some _, _, rfl, heq1.symm.trans (by dsimp only; rw [hd9, rd_a_b, fin_q])⟩, .inr rfl, ⟨rfl, rfl⟩, rfl, rfl, by constructor <;> (dsimp only; (first | lia | omega))⟩ (by assumption) (News.sub (by assumption) (fun _ z => List.Mem.tail _ z)))
        | ((rename IsQ _ => hc9); (rename (_ = (_ :: _ : List Nat)) => hd9); exact ksw_end ⟨quoted, .q _, tok, pos + 1, _, _, _⟩ (by assumption) (by assumption) (fun _ z => List.Mem.tail _ z) trivial (by (intro q9 hq9; simp only [List.mem_cons, List.not_mem_nil, or_false] at hq9; rcases hq9 with rfl | rfl <;> rfl)) (by (intro z h2 h3; simp only [List.forall_mem_cons, List.not_mem_nil, false_implies, implies_true, and_true, ne_eq] at h2; simp only [List.contains_cons, List.contains_nil, Bool.or_false, Bool.or_eq_false_iff, beq_eq_false_iff_ne, ne_eq] at h3; simp [h2, h3, kstB])) (Run.to heq1 hpos1 hlen1 hd9 (rd_a_q hc9) (Nat.le_succ _) hc9) (fall hpos1 hd9))
        | ((rename (_ ≠ 32) => hc1); (rename (_ ≠ 39) => hc2); (rename (_ ≠ 34) => hc3); (rename (_ = (_ :: _ : List Nat)) => hd9); exact ksw_end ⟨quoted, .a, _, pos + 1, _, _, _⟩ (by assumption) (by assumption) (fun _ z => List.Mem.tail _ z) trivial (by (intro q9 hq9; simp only [List.mem_cons, List.not_mem_nil, or_false] at hq9; rcases hq9 with rfl | rfl <;> rfl)) (by (intro z h2 h3; simp only [List.forall_mem_cons, List.not_mem_nil, false_implies, implies_true, and_true, ne_eq] at h2; simp only [List.contains_cons, List.contains_nil, Bool.or_false, Bool.or_eq_false_iff, beq_eq_false_iff_ne, ne_eq] at h3; simp [h2, h3, kstB])) (Run.to heq1 hpos1 hlen1 hd9 (rd_a_p hc1 hc2 hc3) (Nat.le_of_eq (len_app1 _ _)) (by
            rcases hok1 with ⟨hq, _, _⟩ | hq
            · exact .inl ⟨hq, by rw [len_app1]; (first | lia | omega), ne_empty (by rw [len_app1]; (first | lia | omega))⟩
            · exact .inr hq)) (fall hpos1 hd9))
        )
    case q k =>
      have hQ : IsQ k := hok1
      have fq1 : ((⟨#[k]⟩ : Str) == Str.ofString " ") = false := one_ne (k := 32) (by decide +kernel) (by rcases hQ with rfl | rfl <;> decide)
      have fq2 : (!(Builtin.Str.occurrences (Str.ofString "'\"") (⟨#[k]⟩ : Str) 0 (Str.ofString "'\"").length 1).isEmpty) = true := yin (by rw [show (Str.ofString "'\"").cps.toList = [39, 34] by decide +kernel]; simpa [IsQ] using hQ)
      have hl9 : tok.length ≤ 1000 := by (first | lia | omega)
      dsimp only [ledL, LSt.val] at N' F' ⊢
      (repeat' (first | ((with_reducible show HoldN 1 _); refine HoldN.of ?_; (rename Fr _ _ _ _ => lF); (rename News _ _ _ _ => lN); (replace lN := led_out lN); k_dflt (first | (refine c_readV (by k_asm) lF (by k_asm) lN (by k_asm) (by exact rfl) (by ktr_room) (by ktr_units) (by assumption) (led_ne (by assumption) (by assumption) (by assumption) (by assumption) (by assumption)) (by (first | lia | omega)) (by assumption) (by assumption) (by assumption) ?_; intro ch' t' t6' pos' h' tk' f1' hK' hp' F' N'; (replace N' := led_in N'); clear lF lN) | (refine c_readU (by k_asm) lF (by k_asm) lN (by k_asm) (by exact rfl) (by ktr_room) (by ktr_units) (by assumption) (led_ne (by assumption) (by assumption) (by assumption) (by assumption) (by assumption)) (by (first | lia | omega)) (by assumption) (by assumption) ?_; intro ch' t' t6' pos' h' tk' f1' hK' hp' F' N'; (replace N' := led_in N'); clear lF lN))) | (k_unfold; (try dsimp only)) | (k_end; wrow_close) | ((with_reducible show wpAny _ _ (PySem.truthy (Value.str _ _)) _ _ _); (with_reducible show wpAny _ _ (PySem.truthy (Value.str _ _)) _ _ _); (first | (refine truthy1 (by with_reducible assumption) ?_; intro _) | (refine truthy0 (by with_reducible assumption) ?_; intro _) | (refine truthyP (by with_reducible assumption) (by (first | lia | omega)) ?_; intro _) | ((rename ChK _ _ _ _ => hK'); rcases hK' with ⟨hd', hl', hp'⟩ | ⟨hd', hl', f', hp'⟩ | ⟨c', hc', hch', hd', hl', g1', g2', g3', g4', g5', hp'⟩ | ⟨c', h1', h2', h3', hch', hd', hl', g1', g2', g3', g5', hp'⟩; (case' eof => (subst hp'; refine truthy0 hl' ?_; intro _; (try ((rename (_ ∨ _) => hTQ'); (obtain ⟨hTq', hTa', hTb'⟩ | hTq' := hTQ') <;> subst hTq')))); (case' blank => (subst hp'; refine truthy1 hl' ?_; intro _; (try ((rename (_ ∨ _) => hTQ'); (obtain ⟨hTq', hTa', hTb'⟩ | hTq' := hTQ') <;> subst hTq')))); (case' mark => (subst hp'; refine truthy1 hl' ?_; intro _)); (case' other => (subst hp'; refine truthy1 hl' ?_; intro _))) | ((rename ChQ _ _ _ _ _ => hK'); rcases hK' with ⟨hd', hl', hp'⟩ | ⟨hch', hd', hl', f', hp'⟩ | ⟨c', hc', hch', hd', hl', g1', g2', hp'⟩; (case' eof => (subst hp'; refine truthy0 hl' ?_; intro _)); (case' same => (subst hp'; refine truthy1 hl' ?_; intro _)); (case' other => (subst hp'; refine truthy1 hl' ?_; intro _))))) | ((with_reducible show ite _ _ _); (first | (refine ite_isFalse (by with_reducible assumption) ?_) | (refine ite_pos (by with_reducible assumption) ?_) | (refine ite_neg (by with_reducible assumption) ?_))) | ((with_reducible show wpAny _ _ (getAttr (Value.ref _) _ _) _ _ _); (with_reducible show wpAny _ _ (getAttr (Value.ref _) (Str.ofString "punctuation_chars") _) _ _ _); (rename Fr _ _ _ _ => lF); (rename News _ _ _ _ => lN); refine c_punct (by k_asm) lF (by k_asm) lN (by k_asm) (by exact rfl) (by ktr_room) ?_; intro h' tk' F' N'; clear lF lN) | ((with_reducible show wpAny _ _ (call (Value.ref _) _) _ _ _); (with_reducible show wpAny _ _ (call (Value.ref 554) [_, _]) _ _ _); refine HoldN.mk 1 ?_) | ((with_reducible show wpAny _ _ (leaving _ (Value.ref _)) _ _ _); first | (refine' leave_raiseS ?k1 ?k0 ?k2 ?k3 ?_; (case k0 => first | assumption | exact Heap.MadeExc.of (by assumption)); (case k2 => assumption); (case k1 => assumption); (case k3 => k_asm); k_whole; intro h' t' S' R' U'; clear R'; (try dsimp only at S' U' ⊢)) | (refine' leave_onS ?k1 ?k2 ?k3 ?k4 ?_; (case k3 => assumption); (case k2 => assumption); (case k1 => assumption); (case k4 => assumption); k_whole; intro h' S' R' U'; clear R'; (try dsimp only at S' U' ⊢))) | ((with_reducible show wpAny _ _ (PySem.isTrue _ _ _) _ _ _); (k_fold)) | ((with_reducible show wpAny _ _ (execs (_ :: _) _) _ _ _); (k_fold)) | walk1 | (dsimp only; first | ((with_reducible show wpAny _ _ (PySem.truthy (Value.str _ _)) _ _ _); (with_reducible show wpAny _ _ (PySem.truthy (Value.str _ _)) _ _ _); (first | (refine truthy1 (by with_reducible assumption) ?_; intro _) | (refine truthy0 (by with_reducible assumption) ?_; intro _) | (refine truthyP (by with_reducible assumption) (by (first | lia | omega)) ?_; intro _) | ((rename ChK _ _ _ _ => hK'); rcases hK' with ⟨hd', hl', hp'⟩ | ⟨hd', hl', f', hp'⟩ | ⟨c', hc', hch', hd', hl', g1', g2', g3', g4', g5', hp'⟩ | ⟨c', h1', h2', h3', hch', hd', hl', g1', g2', g3', g5', hp'⟩; (case' eof => (subst hp'; refine truthy0 hl' ?_; intro _; (try ((rename (_ ∨ _) => hTQ'); (obtain ⟨hTq', hTa', hTb'⟩ | hTq' := hTQ') <;> subst hTq')))); (case' blank => (subst hp'; refine truthy1 hl' ?_; intro _; (try ((rename (_ ∨ _) => hTQ'); (obtain ⟨hTq', hTa', hTb'⟩ | hTq' := hTQ') <;> subst hTq')))); (case' mark => (subst hp'; refine truthy1 hl' ?_; intro _)); (case' other => (subst hp'; refine truthy1 hl' ?_; intro _))) | ((rename ChQ _ _ _ _ _ => hK'); rcases hK' with ⟨hd', hl', hp'⟩ | ⟨hch', hd', hl', f', hp'⟩ | ⟨c', hc', hch', hd', hl', g1', g2', hp'⟩; (case' eof => (subst hp'; refine truthy0 hl' ?_; intro _)); (case' same => (subst hp'; refine truthy1 hl' ?_; intro _)); (case' other => (subst hp'; refine truthy1 hl' ?_; intro _))))) | ((with_reducible show ite _ _ _); (first | (refine ite_isFalse (by with_reducible assumption) ?_) | (refine ite_pos (by with_reducible assumption) ?_) | (refine ite_neg (by with_reducible assumption) ?_))) | ((with_reducible show wpAny _ _ (getAttr (Value.ref _) _ _) _ _ _); (with_reducible show wpAny _ _ (getAttr (Value.ref _) (Str.ofString "punctuation_chars") _) _ _ _); (rename Fr _ _ _ _ => lF); (rename News _ _ _ _ => lN); refine c_punct (by k_asm) lF (by k_asm) lN (by k_asm) (by exact rfl) (by ktr_room) ?_; intro h' tk' F' N'; clear lF lN) | ((with_reducible show wpAny _ _ (call (Value.ref _) _) _ _ _); (with_reducible show wpAny _ _ (call (Value.ref 554) [_, _]) _ _ _); refine HoldN.mk 1 ?_) | ((with_reducible show wpAny _ _ (leaving _ (Value.ref _)) _ _ _); first | (refine' leave_raiseS ?k1 ?k0 ?k2 ?k3 ?_; (case k0 => first | assumption | exact Heap.MadeExc.of (by assumption)); (case k2 => assumption); (case k1 => assumption); (case k3 => k_asm); k_whole; intro h' t' S' R' U'; clear R'; (try dsimp only at S' U' ⊢)) | (refine' leave_onS ?k1 ?k2 ?k3 ?k4 ?_; (case k3 => assumption); (case k2 => assumption); (case k1 => assumption); (case k4 => assumption); k_whole; intro h' S' R' U'; clear R'; (try dsimp only at S' U' ⊢))) | ((with_reducible show wpAny _ _ (PySem.isTrue _ _ _) _ _ _); (k_fold)) | ((with_reducible show wpAny _ _ (execs (_ :: _) _) _ _ _); (k_fold))) | (dsimp only; walk1) | (leave1; walk_say "STEP leave1"; try dsimp only) | fail "no step"))
      all_goals (try (rename (_ = (⟨#[_]⟩ : Str)) => hch9; subst hch9))
      all_goals (first
        | ((rename (_ = ([] : List Nat)) => hd9); (rename RaisedS _ _ _ _ _ _ _ _ _ => R9); (show E _ _); exact exc (heq1.symm.trans (by dsimp only; rw [hd9]; simp [rd])) _ _ _ _ _ _ (by assumption) (by assumption) (RaisedS.sub R9 led_rest))
        | ((rename (_ ≠ k) => hc1); (rename (_ = (_ :: _ : List Nat)) => hd9); exact ksw_end ⟨true, .q k, _, pos + 1, _, _, _⟩ (by assumption) (by assumption) (fun _ z => z) trivial (by (intro q9 hq9; simp only [List.mem_cons, List.not_mem_nil, or_false] at hq9; rcases hq9 with rfl | rfl <;> rfl)) (by (intro z h2 h3; simp only [List.forall_mem_cons, List.not_mem_nil, false_implies, implies_true, and_true, ne_eq] at h2; simp only [List.contains_cons, List.contains_nil, Bool.or_false, Bool.or_eq_false_iff, beq_eq_false_iff_ne, ne_eq] at h3; simp [h2, h3, kstB])) (Run.to heq1 hpos1 hlen1 hd9 (rd_q_n hc1) (Nat.le_of_eq (len_app1 _ _)) hQ) (fall hpos1 hd9))
        | ((rename (_ = (k :: _ : List Nat)) => hd9); exact ksw_end ⟨true, .a, tok, pos + 1, _, _, _⟩ (by assumption) (by assumption) (fun _ z => z) trivial (by (intro q9 hq9; simp only [List.mem_cons, List.not_mem_nil, or_false] at hq9; rcases hq9 with rfl | rfl <;> rfl)) (by (intro z h2 h3; simp only [List.forall_mem_cons, List.not_mem_nil, false_implies, implies_true, and_true, ne_eq] at h2; simp only [List.contains_cons, List.contains_nil, Bool.or_false, Bool.or_eq_false_iff, beq_eq_false_iff_ne, ne_eq] at h3; simp [h2, h3, kstB])) (Run.to heq1 hpos1 hlen1 hd9 rd_q_y (Nat.le_succ _) (.inr rfl)) (fall hpos1 hd9))
        )
end Mine
end
section
open PySem PySem.W PyProof.Rows PySem.Calls
set_option maxHeartbeats 1000000
namespace Mine
/-- between two words -/
structure Idle (buf : Str) (c : RT) : Prop where
  st : c.st = .none ∨ c.st = .ws
  ok : okSt buf c
  tok : c.tok = Str.ofString ""
  quoted : c.quoted = false
  pos : 0 ≤ c.pos ∧ c.pos.toNat ≤ buf.length
theorem Idle.run {buf : Str} {c : RT} (h : Idle buf c) : Run buf c c := ⟨h.ok, rfl, h.pos.1, by rw [h.tok, len_empty]; exact ⟨Nat.zero_le _, h.pos.2⟩⟩
theorem RdEnd.idle {buf : Str} {c₀ c : RT} {v : Value} (h : RdEnd buf c₀ v c) : Idle buf c := ⟨h.st, h.ok, h.tok, h.quoted, h.pos⟩
set_option maxHeartbeats 8000000 in
theorem c_get_token {w : World} {mean : ExcName → Option Value} {mg mb : Str → Option Value}
  {dp un : Nat} {gd : Option (List Code)} {cn : Str} {cs : Scope} {a : Addr} {ccd : Value} {cl : List (Str × Addr)} {outer : List Env} {A₀ : Around} {base h₀ : Heap} {L : Addr} {m : Str → Option Value} {rest : List (Addr × Obj)} {s : Shared}
    {Q E : Value → Shared → Prop} {x d y e p f : Addr} {nl buf : Str} {t1 t2 t3 t4 t5 : Tok} {h1 h2 h3 : Int} {H : Nat → Int} {K V : Nat → Tok} {c₀ : RT}
    (B : Below A₀ base outer h₀) (F : Fr h₀ L s.heap m) (X : (Mine.hd.heap_1_39 w.params).In h₀)
    (N : News h₀ L s.heap (ledL H K V x d y e p f h1 h2 h3 t1 t2 t3 t4 t5 nl buf rest c₀))
    (T : Top Mine.hd.view_1_40 LO mean mg mb h₀) (hk : cs.kind = .function) (hdp : dp + 40 < recursionLimit) (hun : un + 250 < cLine)
    (hbl : buf.length < 1000) (hok : ∀ c ∈ buf.cps.toList, okc c = true) (hi : Idle buf c₀)
    (hde : d ≠ e) (hed : e ≠ d) (hxd : x ≠ d) (hxe : x ≠ e) (hyd : y ≠ d) (hye : y ≠ e) (hpd : p ≠ d) (hpe : p ≠ e) (hfd : f ≠ d) (hfe : f ≠ e) (hrd : ∀ q ∈ rest, q.1 ≠ d) (hre : ∀ q ∈ rest, q.1 ≠ e)
    (ret : ∀ v (c' : RT) h' tk', RdEnd buf c₀ v c' → Fr h₀ L h' m → News h₀ L h' (ledL H K V x d y e p f h1 h2 h3 t1 t2 t3 t4 t5 nl buf rest c') → Q v { s with heap := h', toks := tk' })
    (exc : rd c₀.st c₀.quoted c₀.tok (buf.cps.toList.drop c₀.pos.toNat) = none → ∀ e' t' t₁ g' h' tk', Fr h₀ L g' m → g'.UpToSlots h' → RaisedS base g' (envX cn cs L a ccd cl :: outer) e' (.type "ValueError") t' [.str (Str.ofString "No closing quotation") t₁] rest h' → E (.ref e') { s with heap := h', toks := tk' })
    : wpAny (model PySem.Challenge.rw_ny0347_01.row.prog w) (ktrTop dp un gd cn cs L a ccd cl outer) (call (.ref 704) [.ref x]) Q E s := by
  w_top off
  revert N X; k_fill; intro X N
  refine wpAny_call ?_
  k_dflt ((refine' code_def ?k1 ?k2 ?k3 ?k4 ?k5 ?kA ?kF ?kK ?k6 ?k7 ?k8 ?k9 ?kB ?_ ?c2 ?c3 ?c4 ?c5; (case kA => exact rfl); (case kF => exact rfl); (case kK => assumption); (case k1 => k_asm); (case k2 => k_asm); (case k3 => k_asm); (case k4 => k_asm); (case k5 => k_asm); (case k6 => k_is); (case k7 => k_is); (case k8 => ktr_room); (case k9 => first | exact BindsTo.of_eq rfl | exact binds_K (by k_in) rfl (by k_is) rfl rfl rfl); (case c5 => decide); (case kB => exact locs rfl); (case c2 => exact rfl); (case c3 => exact rfl); (case c4 => exact rfl); k_whole; intro g' L' h' FG' F' N' B' X' T'; (try dsimp only); (try k_fold)))
  dsimp only [ledL] at N
  (repeat' (first | ((with_reducible show HoldN 2 _); refine HoldN.of ?_; (rename News _ _ _ _ => lN); (refine dq_truthyN lN (by (first | exact List.Mem.tail _ (List.Mem.tail _ (List.Mem.tail _ (List.Mem.tail _ (List.Mem.head _)))) | exact List.Mem.tail _ (List.Mem.tail _ (List.Mem.tail _ (List.Mem.tail _ (List.Mem.tail _ (List.Mem.head _))))))) ?_); intro _) | ((with_reducible show HoldN 1 _); refine HoldN.of ?_; (rename Fr _ _ _ _ => lF); (rename News _ _ _ _ => lN); (rename Idle _ _ => lI); k_dflt (refine c_read_token (by k_asm) lF (by k_asm) lN (by k_asm) (by exact rfl) (by ktr_room) (by ktr_units) (by assumption) lI.quoted (by assumption) lI.run (by assumption) (by assumption) (by assumption) (by assumption) (by assumption) (by assumption) (by assumption) (by assumption) (by assumption) (by assumption) (by assumption) (by assumption) (fun v' c' h' tk' hE' F' N' => ?_) (fun hn' e' t' t1' g' h' tk' FG' U' R' => ?_)); rotate_left; all_goals (clear lF lN); all_goals (try ((have hE0' := hE'); (obtain ⟨⟨r', tr', hv', hrd'⟩, _, _, _, _, _⟩ := hE'); subst hv'; (rcases r' with _ | x') <;> (dsimp only [valO] at hE0' ⊢)))) | (k_unfold; (try dsimp only)) | (k_end; wrow_close) | ((with_reducible show wpAny _ _ (call (Value.ref _) _) _ _ _); (show wpAny _ _ (call (Value.ref 711) [_]) _ _ _); refine HoldN.mk 1 ?_) | ((with_reducible show wpAny _ _ (call (Value.ref _) _) _ _ _); (show wpAny _ _ (call (Value.ref 711) [_]) _ _ _); refine HoldN.mk 1 ?_) | ((with_reducible show wpAny _ _ (leaving _ (Value.ref _)) _ _ _); first | (refine' leave_raiseS ?k1 ?k0 ?k2 ?k3 ?_; (case k0 => first | assumption | exact Heap.MadeExc.of (by assumption)); (case k2 => assumption); (case k1 => assumption); (case k3 => k_asm); k_whole; intro h' t' S' R' U'; clear R'; (try dsimp only at S' U' ⊢)) | (refine' leave_onS ?k1 ?k2 ?k3 ?k4 ?_; (case k3 => assumption); (case k2 => assumption); (case k1 => assumption); (case k4 => assumption); k_whole; intro h' S' R' U'; clear R'; (try dsimp only at S' U' ⊢))) | ((with_reducible show wpAny _ _ (PySem.truthy (Value.ref _)) _ _ _); refine HoldN.mk 2 ?_) | ((with_reducible show wpAny _ _ (PySem.isTrue _ _ _) _ _ _); (k_fold)) | ((with_reducible show wpAny _ _ (execs (_ :: _) _) _ _ _); (k_fold)) | walk1 | (dsimp only; first | ((with_reducible show wpAny _ _ (call (Value.ref _) _) _ _ _); (show wpAny _ _ (call (Value.ref 711) [_]) _ _ _); refine HoldN.mk 1 ?_) | ((with_reducible show wpAny _ _ (call (Value.ref _) _) _ _ _); (show wpAny _ _ (call (Value.ref 711) [_]) _ _ _); refine HoldN.mk 1 ?_) | ((with_reducible show wpAny _ _ (leaving _ (Value.ref _)) _ _ _); first | (refine' leave_raiseS ?k1 ?k0 ?k2 ?k3 ?_; (case k0 => first | assumption | exact Heap.MadeExc.of (by assumption)); (case k2 => assumption); (case k1 => assumption); (case k3 => k_asm); k_whole; intro h' t' S' R' U'; clear R'; (try dsimp only at S' U' ⊢)) | (refine' leave_onS ?k1 ?k2 ?k3 ?k4 ?_; (case k3 => assumption); (case k2 => assumption); (case k1 => assumption); (case k4 => assumption); k_whole; intro h' S' R' U'; clear R'; (try dsimp only at S' U' ⊢))) | ((with_reducible show wpAny _ _ (PySem.truthy (Value.ref _)) _ _ _); refine HoldN.mk 2 ?_) | ((with_reducible show wpAny _ _ (PySem.isTrue _ _ _) _ _ _); (k_fold)) | ((with_reducible show wpAny _ _ (execs (_ :: _) _) _ _ _); (k_fold))) | (dsimp only; walk1) | (leave1; walk_say "STEP leave1"; try dsimp only) | fail "no step"))
  · (show E _ _); exact exc (by assumption) _ _ _ _ _ _ (by assumption) (by assumption) (by assumption)
  all_goals ((show Q _ _); exact ret _ _ _ _ (by assumption) (by assumption) (by assumption))
end Mine
end
section
open PySem PySem.W PyProof.Rows PySem.Calls
set_option maxHeartbeats 1000000
namespace Mine
set_option maxHeartbeats 8000000 in
theorem c_next {w : World} {mean : ExcName → Option Value} {mg mb : Str → Option Value}
  {dp un : Nat} {gd : Option (List Code)} {cn : Str} {cs : Scope} {a : Addr} {ccd : Value} {cl : List (Str × Addr)} {outer : List Env} {A₀ : Around} {base h₀ : Heap} {L : Addr} {m : Str → Option Value} {rest : List (Addr × Obj)} {s : Shared}
    {Q E : Value → Shared → Prop} {x d y e p f : Addr} {nl buf : Str} {t1 t2 t3 t4 t5 : Tok} {h1 h2 h3 : Int} {H : Nat → Int} {K V : Nat → Tok} {c₀ : RT}
    (B : Below A₀ base outer h₀) (F : Fr h₀ L s.heap m) (X : (Mine.hd.heap_1_39 w.params).In h₀)
    (N : News h₀ L s.heap (ledL H K V x d y e p f h1 h2 h3 t1 t2 t3 t4 t5 nl buf rest c₀))
    (T : Top Mine.hd.view_1_40 LO mean mg mb h₀) (hk : cs.kind = .function) (hdp : dp + 50 < recursionLimit) (hun : un + 300 < cLine)
    (hbl : buf.length < 1000) (hok : ∀ c ∈ buf.cps.toList, okc c = true) (hi : Idle buf c₀)
    (hde : d ≠ e) (hed : e ≠ d) (hxd : x ≠ d) (hxe : x ≠ e) (hyd : y ≠ d) (hye : y ≠ e) (hpd : p ≠ d) (hpe : p ≠ e) (hfd : f ≠ d) (hfe : f ≠ e) (hrd : ∀ q ∈ rest, q.1 ≠ d) (hre : ∀ q ∈ rest, q.1 ≠ e)
    (ret : ∀ xw t (c' : RT) h' tk', rd c₀.st c₀.quoted c₀.tok (buf.cps.toList.drop c₀.pos.toNat) = some (some xw, c'.st, buf.cps.toList.drop c'.pos.toNat) → Idle buf c' → Fr h₀ L h' m → News h₀ L h' (ledL H K V x d y e p f h1 h2 h3 t1 t2 t3 t4 t5 nl buf rest c') → Q (.str xw t) { s with heap := h', toks := tk' })
    (stop : ∀ (c' : RT) e' t' g' h' tk', rd c₀.st c₀.quoted c₀.tok (buf.cps.toList.drop c₀.pos.toNat) = some (none, c'.st, buf.cps.toList.drop c'.pos.toNat) → Fr h₀ L g' m → g'.UpToSlots h' → RaisedS base g' (envX cn cs L a ccd cl :: outer) e' (.type "StopIteration") t' [] rest h' → E (.ref e') { s with heap := h', toks := tk' })
    (exc : rd c₀.st c₀.quoted c₀.tok (buf.cps.toList.drop c₀.pos.toNat) = none → ∀ e' t' t₁ g' h' tk', Fr h₀ L g' m → g'.UpToSlots h' → RaisedS base g' (envX cn cs L a ccd cl :: outer) e' (.type "ValueError") t' [.str (Str.ofString "No closing quotation") t₁] rest h' → E (.ref e') { s with heap := h', toks := tk' })
    : wpAny (model PySem.Challenge.rw_ny0347_01.row.prog w) (ktrTop dp un gd cn cs L a ccd cl outer) (call (.ref 740) [.ref x]) Q E s := by
  w_top off
  revert N X; k_fill; intro X N
  refine wpAny_call ?_
  k_dflt ((refine' code_def ?k1 ?k2 ?k3 ?k4 ?k5 ?kA ?kF ?kK ?k6 ?k7 ?k8 ?k9 ?kB ?_ ?c2 ?c3 ?c4 ?c5; (case kA => exact rfl); (case kF => exact rfl); (case kK => assumption); (case k1 => k_asm); (case k2 => k_asm); (case k3 => k_asm); (case k4 => k_asm); (case k5 => k_asm); (case k6 => k_is); (case k7 => k_is); (case k8 => ktr_room); (case k9 => first | exact BindsTo.of_eq rfl | exact binds_K (by k_in) rfl (by k_is) rfl rfl rfl); (case c5 => decide); (case kB => exact locs rfl); (case c2 => exact rfl); (case c3 => exact rfl); (case c4 => exact rfl); k_whole; intro g' L' h' FG' F' N' B' X' T'; (try dsimp only); (try k_fold)))
  (repeat' (first | ((with_reducible show HoldN 1 _); refine HoldN.of ?_; (rename Fr _ _ _ _ => lF); (rename News _ _ _ _ => lN); (rename Idle _ _ => lI); k_dflt (refine c_get_token (by k_asm) lF (by k_asm) lN (by k_asm) (by exact rfl) (by ktr_room) (by ktr_units) (by assumption) (by assumption) lI (by assumption) (by assumption) (by assumption) (by assumption) (by assumption) (by assumption) (by assumption) (by assumption) (by assumption) (by assumption) (by assumption) (by assumption) (fun v' c' h' tk' hE' F' N' => ?_) (fun hn' e' t' t1' g' h' tk' FG' U' R' => ?_)); rotate_left; all_goals (clear lF lN); all_goals (try ((have hI' := hE'.idle); (obtain ⟨⟨r', tr', hv', hrd'⟩, _, _, _, _, _⟩ := hE'); subst hv'; (rcases r' with _ | x') <;> (dsimp only [valO])))) | (k_unfold; (try dsimp only)) | (k_end; wrow_close) | ((with_reducible show wpAny _ _ (call (Value.ref _) _) _ _ _); (show wpAny _ _ (call (Value.ref 704) [_]) _ _ _); refine HoldN.mk 1 ?_) | ((with_reducible show wpAny _ _ (call (Value.ref _) _) _ _ _); (show wpAny _ _ (call (Value.ref 704) [_]) _ _ _); refine HoldN.mk 1 ?_) | ((with_reducible show wpAny _ _ (leaving _ (Value.ref _)) _ _ _); first | (refine' leave_raiseS ?k1 ?k0 ?k2 ?k3 ?_; (case k0 => first | assumption | exact Heap.MadeExc.of (by assumption)); (case k2 => assumption); (case k1 => assumption); (case k3 => k_asm); k_whole; intro h' t' S' R' U'; clear R'; (try dsimp only at S' U' ⊢)) | (refine' leave_onS ?k1 ?k2 ?k3 ?k4 ?_; (case k3 => assumption); (case k2 => assumption); (case k1 => assumption); (case k4 => assumption); k_whole; intro h' S' R' U'; clear R'; (try dsimp only at S' U' ⊢))) | ((with_reducible show wpAny _ _ (PySem.isTrue _ _ _) _ _ _); (k_fold)) | ((with_reducible show wpAny _ _ (execs (_ :: _) _) _ _ _); (k_fold)) | walk1 | (dsimp only; first | ((with_reducible show wpAny _ _ (call (Value.ref _) _) _ _ _); (show wpAny _ _ (call (Value.ref 704) [_]) _ _ _); refine HoldN.mk 1 ?_) | ((with_reducible show wpAny _ _ (call (Value.ref _) _) _ _ _); (show wpAny _ _ (call (Value.ref 704) [_]) _ _ _); refine HoldN.mk 1 ?_) | ((with_reducible show wpAny _ _ (leaving _ (Value.ref _)) _ _ _); first | (refine' leave_raiseS ?k1 ?k0 ?k2 ?k3 ?_; (case k0 => first | assumption | exact Heap.MadeExc.of (by assumption)); (case k2 => assumption); (case k1 => assumption); (case k3 => k_asm); k_whole; intro h' t' S' R' U'; clear R'; (try dsimp only at S' U' ⊢)) | (refine' leave_onS ?k1 ?k2 ?k3 ?k4 ?_; (case k3 => assumption); (case k2 => assumption); (case k1 => assumption); (case k4 => assumption); k_whole; intro h' S' R' U'; clear R'; (try dsimp only at S' U' ⊢))) | ((with_reducible show wpAny _ _ (PySem.isTrue _ _ _) _ _ _); (k_fold)) | ((with_reducible show wpAny _ _ (execs (_ :: _) _) _ _ _); (k_fold))) | (dsimp only; walk1) | (leave1; walk_say "STEP leave1"; try dsimp only) | fail "no step"))
  · (show E _ _); exact exc (by assumption) _ _ _ _ _ _ (by assumption) (by assumption) (by assumption)
  · (show E _ _); (rename RaisedS _ _ _ _ _ _ _ _ _ => R9); exact stop _ _ _ _ _ _ (by assumption) (by assumption) (by assumption) (RaisedS.sub R9 led_rest)
  · (show Q _ _); exact ret _ _ _ _ _ (by assumption) (by assumption) (by assumption) (by assumption)
end Mine
end
end
section
open PySem PySem.W PyProof.Rows PySem.Calls
set_option maxHeartbeats 1000000
namespace Mine
/-- the state behind a StopIteration that list() took: the base turned -/
structure Turned (A₀ : Around) (base : Heap) (outer : List Env) (h₀ : Heap) (L : Addr) (m : Str → Option Value) (news : List (Addr × Obj)) (h' : Heap) : Prop where
  ex : ∃ g', KtsTurn (outer.filterMap (·.frame)) h₀ g' ∧ Fr g' L h' m ∧ Below A₀ base outer g' ∧ News g' L h' news
theorem turned_of {A₀ : Around} {base h₀ G h' : Heap} {outer : List Env} {L a e t : Addr} {m : Str → Option Value} {name : Str} {scope : Scope} {cd : Value} {cls : Value} {vs : List Value} {news : List (Addr × Obj)}
    (K : Below A₀ base outer h₀) (F : Fr h₀ L G m) (hsm : G.UpToSlots h') (R : RaisedS base G (envOf name scope L a cd :: outer) e cls t vs news h') : Turned A₀ base outer h₀ L m news h' := by
  obtain ⟨⟨B, hB, hBG, hl, hfl, hnew⟩, htup⟩ := R
  obtain ⟨g', hT, hF, hK⟩ := kts_ground K F hBG hfl.1 hsm
  have hL : B.get? L = none := by
    obtain ⟨_, ⟨L', _, hf, hn', _⟩, _⟩ := hfl.2.2.1
    obtain rfl : L = L' := Option.some.inj hf
    exact hn'
  refine ⟨g', hT, hF, hK, fun q hq => ⟨hfl.1 _ _ (hl q hq).1, (fun z => by have := (hl q hq).1; rw [z, hL] at this; cases this), hT.none_ _ ?_⟩⟩
  exact kts_none F.keep (hl q hq).2.1
noncomputable abbrev lstO (acc : Array Value) (n : Nat) : Obj := { cls := .type "list", dict := none, data := .seq acc n, slots := #[] }
theorem News.upd {h₀ h : Heap} {L S : Addr} {o o' : Obj} {pre rest : List (Addr × Obj)} {f : Obj → Obj} (N : News h₀ L h (pre ++ (S, o) :: rest)) (hf : f o = o') (hfr : o'.isFreed = false) (hpre : ∀ q ∈ pre, q.1 ≠ S) (hrest : ∀ q ∈ rest, q.1 ≠ S) :
    News h₀ L (h.update S f) (pre ++ (S, o') :: rest) := by
  intro q hq
  have hS := N (S, o) (by simp)
  rcases List.mem_append.mp hq with hq' | hq'
  · have := N q (List.mem_append_left _ hq')
    exact ⟨(Heap.get?_update_other _ _ (Ne.symm (hpre q hq'))).trans this.1, this.2⟩
  · rcases List.mem_cons.mp hq' with rfl | hq''
    · refine ⟨?_, hS.2⟩
      show (h.update S f).get? S = some o'
      rw [← hf]
      exact Heap.get?_update_self f hS.1 (by rw [hf]; exact hfr)
    · have := N q (List.mem_append_right _ (List.mem_cons_of_mem _ hq''))
      exact ⟨(Heap.get?_update_other _ _ (Ne.symm (hrest q hq''))).trans this.1, this.2⟩
theorem Fr.upd {h₀ h : Heap} {L S : Addr} {m : Str → Option Value} {f : Obj → Obj} (F : Fr h₀ L h m) (h0 : h₀.get? S = none) (hL : S ≠ L) : Fr h₀ L (h.update S f) m :=
  ⟨F.ns.at' fun o e => (Heap.get?_update_other _ _ hL).trans e, fun b o e => (Heap.get?_update_other _ _ (fun z : S = b => by rw [z] at h0; rw [h0] at e; cases e)).trans (F.keep b o e), F.above⟩
theorem lex_next (P : Params) : findIn (Mine.hd.heap_1_39 P) (.ref 743) "__next__" = some (some (.ref 740)) := by kernel_rfl
theorem lex_fn (P : Params) : isFn (Mine.hd.heap_1_39 P) (.ref 740) = true := by kernel_rfl
theorem stop_of {M : Model} {A : Around} {base G : Heap} {l : List Env} {e t : Addr} {vs : List Value} {news : List (Addr × Obj)} {s : Shared} {Q : Option Value → Shared → Prop} {E : Value → Shared → Prop} (_U : G.UpToSlots s.heap) (R : RaisedS base G l e (.type "StopIteration") t vs news s.heap) (k : Q none s) : OwitStop M A Q E (.ref e) s := by
  obtain ⟨⟨B, hB, hBG, hl, hfl, hnew⟩, htup⟩ := R
  obtain ⟨ob, hob, hobc⟩ := hfl.there
  have hT : s.TypeIs (.ref e) "StopIteration" := ⟨ob, hob, hobc⟩
  unfold OwitStop
  refine wpAny_isInstance hT isSubtype_stop ?_
  rw [if_pos rfl]
  exact k
theorem sub_ve_stop : isSubtype (.type "ValueError") (.type "StopIteration") = pure false := by rw [isSubtype_type]; kernel_rfl
theorem pass_of {M : Model} {A : Around} {base G : Heap} {l : List Env} {e t : Addr} {vs : List Value} {news : List (Addr × Obj)} {s : Shared} {Q : Option Value → Shared → Prop} {E : Value → Shared → Prop} (R : RaisedS base G l e (.type "ValueError") t vs news s.heap) (k : E (.ref e) s) : OwitStop M A Q E (.ref e) s := by
  obtain ⟨⟨B, hB, hBG, hl, hfl, hnew⟩, htup⟩ := R
  obtain ⟨ob, hob, hobc⟩ := hfl.there
  have hT : s.TypeIs (.ref e) "ValueError" := ⟨ob, hob, hobc⟩
  unfold OwitStop
  refine wpAny_isInstance hT sub_ve_stop ?_
  rw [if_neg (by decide)]
  exact k
theorem ext_loop {w : World} {mean : ExcName → Option Value} {mg mb : Str → Option Value}
  {dp un : Nat} {gd : Option (List Code)} {cn : Str} {cs : Scope} {a : Addr} {ccd : Value} {outer : List Env} {A₀ : Around} {base h₀ : Heap} {L : Addr} {m : Str → Option Value}
    {x d y e p f : Addr} {nl buf : Str} {t1 t2 t3 t4 t5 : Tok} {h1 h2 h3 : Int} {H : Nat → Int} {K V : Nat → Tok} {S : Addr} {rest : List (Addr × Obj)} {res : Value}
    (B : Below A₀ base outer h₀) (X : (Mine.hd.heap_1_39 w.params).In h₀)
    (T : Top Mine.hd.view_1_40 LO mean mg mb h₀) (hk : cs.kind = .function) (hdp : dp + 60 < recursionLimit) (hun : un + 320 < cLine)
    (hbl : buf.length < 1000) (hok : ∀ c ∈ buf.cps.toList, okc c = true)
    (hde : d ≠ e) (hed : e ≠ d) (hxd : x ≠ d) (hxe : x ≠ e) (hyd : y ≠ d) (hye : y ≠ e) (hpd : p ≠ d) (hpe : p ≠ e) (hfd : f ≠ d) (hfe : f ≠ e) (hSd : S ≠ d) (hSe : S ≠ e) (hSx : x ≠ S) (hSy : y ≠ S) (hSp : p ≠ S) (hSf : f ≠ S)
    (hrd : ∀ q ∈ rest, q.1 ≠ d) (hre : ∀ q ∈ rest, q.1 ≠ e) (hrS : ∀ q ∈ rest, q.1 ≠ S)
    {R : Result → Shared → Prop} {st : LSt} {l : List Nat} {ws : List Str} {ok : Bool} (hL : Lx st l ws ok) :
    ∀ (s : Shared) (c : RT) (acc : Array Value) (n : Nat) (done : List Str), c.st = st → buf.cps.toList.drop c.pos.toNat = l → Idle buf c → Fr h₀ L s.heap m →
      News h₀ L s.heap (ledL H K V x d y e p f h1 h2 h3 t1 t2 t3 t4 t5 nl buf ((S, lstO acc n) :: rest) c) → StrsAre acc.toList done → done.length + ws.length ≤ 10000 →
      (ok = true → ∀ acc' n' h' tk', StrsAre acc'.toList (done ++ ws) → Turned A₀ base outer h₀ L m ((S, lstO acc' n') :: rest) h' → R (.ok (.ret res)) { s with heap := h', toks := tk' }) →
      (ok = false → ∀ e' t' t₁ g' h' tk', Fr h₀ L g' m → g'.UpToSlots h' → RaisedS base g' (envOf cn cs L a ccd :: outer) e' (.type "ValueError") t' [.str (Str.ofString "No closing quotation") t₁] rest h' → R (.error (.ref e')) { s with heap := h', toks := tk' }) →
      codeAny (model PySem.Challenge.rw_ny0347_01.row.prog w) (ktrTop dp un gd cn cs L a ccd [] outer) (.builtin "list.extend.loop" ⟨[.ref S, .ref x, res], []⟩) R s := by
  have hq1 : ∀ {acc : Array Value} {n : Nat} {b : Addr}, S ≠ b → (∀ q ∈ rest, q.1 ≠ b) → ∀ q ∈ (S, lstO acc n) :: rest, q.1 ≠ b := fun h1 h2 q hq => by
    rcases List.mem_cons.mp hq with rfl | hq
    · exact h1
    · exact h2 q hq
  induction hL with
  | stop hrdv =>
    rintro s c acc n done rfl rfl hi F N hacc hlen kret kexc
    refine codeAny_builtin PySem.F.entry_extend_loop ?_
    rw [Around.under_plainId PySem.F.plain_extend_loop _]
    show wpAny _ (ktrTop dp (un + 1) gd cn cs L a ccd [] outer) (pyNext (.ref x) >>= _) _ _ s
    have hI : InstAt s.heap x (instObj 743 d) 743 (some (lexD H K V y p f (c.st.val c.ts) c.tok c.tt)) := InstAt.of_news N (List.Mem.head _) (List.Mem.tail _ (List.Mem.head _))
    have hrd0 : rd c.st c.quoted c.tok (buf.cps.toList.drop c.pos.toNat) = rd c.st false (Str.ofString "") (buf.cps.toList.drop c.pos.toNat) := by rw [hi.quoted, hi.tok]
    refine wpAny_bind (owit_next (f := 740) F X hI (lex_next w.params) (lex_fn w.params) ?_)
    refine (c_next B F X N T hk (by (first | lia | omega)) (by (first | lia | omega)) hbl hok hi hde hed hxd hxe hyd hye hpd hpe hfd hfe (hq1 hSd hrd) (hq1 hSe hre) ?hret ?hstop ?hexc)
    case hret => intro xw t c' h' tk' hr _ _ _; rw [hrd0, hrdv] at hr; cases hr
    case hexc => intro hr; rw [hrd0, hrdv] at hr; cases hr
    case hstop =>
      intro c' e' t' g' h' tk' hr FG U R'
      have hTu := turned_of B FG U R'
      exact stop_of U R' (wpAny_pure (kret rfl acc n h' tk' (by rw [List.append_nil]; exact hacc) hTu))
  | @word _ _ xw st' l' ws ok hrdv hL' ih =>
    rintro s c acc n done rfl rfl hi F N hacc hlen kret kexc
    refine codeAny_builtin PySem.F.entry_extend_loop ?_
    rw [Around.under_plainId PySem.F.plain_extend_loop _]
    show wpAny _ (ktrTop dp (un + 1) gd cn cs L a ccd [] outer) (pyNext (.ref x) >>= _) _ _ s
    have hI : InstAt s.heap x (instObj 743 d) 743 (some (lexD H K V y p f (c.st.val c.ts) c.tok c.tt)) := InstAt.of_news N (List.Mem.head _) (List.Mem.tail _ (List.Mem.head _))
    have hrd0 : rd c.st c.quoted c.tok (buf.cps.toList.drop c.pos.toNat) = rd c.st false (Str.ofString "") (buf.cps.toList.drop c.pos.toNat) := by rw [hi.quoted, hi.tok]
    refine wpAny_bind (owit_next (f := 740) F X hI (lex_next w.params) (lex_fn w.params) ?_)
    refine (c_next B F X N T hk (by (first | lia | omega)) (by (first | lia | omega)) hbl hok hi hde hed hxd hxe hyd hye hpd hpe hfd hfe (hq1 hSd hrd) (hq1 hSe hre) ?hret ?hstop ?hexc)
    case hstop => intro c' e' t' g' h' tk' hr; rw [hrd0, hrdv] at hr; cases hr
    case hexc => intro hr; rw [hrd0, hrdv] at hr; cases hr
    case hret =>
      intro xw' t c' h' tk' hr hi' F' N'
      rw [hrd0, hrdv] at hr
      simp only [Option.some.injEq, Prod.mk.injEq] at hr
      obtain ⟨rfl, hst, hdr⟩ := hr
      have hS := N' (S, lstO acc n) (by simp)
      have hsz : acc.size = done.length := by have := hacc.len_eq; simpa using this
      show wpAny _ _ (updateSeq S (·.push (.str xw t)) >>= _) _ _ _
      refine wpAny_bind (wpAny_updateSeq (hz := ?hz) hS.1 rfl ?hgo)
      case hz =>
        rw [sizeLine_eq, hsz]; simp only [List.length_cons] at hlen; (first | lia | omega)
      refine wpAny_pure ⟨plainId_quiet PySem.F.plain_extend_loop _, ih _ c' (acc.push (.str xw t)) (n + 1) (done ++ [xw]) hst.symm hdr.symm hi' (Fr.upd F' hS.2.2 hS.2.1) ?_ ?_ ?_ ?_ ?_⟩
      · exact News.upd (pre := [_, _, _, _, _, _]) N' (by simp [Obj.mapSeq]) rfl (by simp only [List.forall_mem_cons, List.not_mem_nil, false_implies, implies_true, and_true]; exact ⟨hSx, Ne.symm hSd, hSy, Ne.symm hSe, hSp, hSf⟩) hrS
      · rw [Array.toList_push]; exact StrsAre.snoc hacc _ t
      · simp only [List.length_append, List.length_cons, List.length_nil] at hlen ⊢; (first | lia | omega)
      · intro ho acc' n' h'' tk'' hs hTu
        exact kret ho acc' n' h'' tk'' (by simpa using hs) hTu
      · exact kexc
  | bad hrdv =>
    rintro s c acc n done rfl rfl hi F N hacc hlen kret kexc
    refine codeAny_builtin PySem.F.entry_extend_loop ?_
    rw [Around.under_plainId PySem.F.plain_extend_loop _]
    show wpAny _ (ktrTop dp (un + 1) gd cn cs L a ccd [] outer) (pyNext (.ref x) >>= _) _ _ s
    have hI : InstAt s.heap x (instObj 743 d) 743 (some (lexD H K V y p f (c.st.val c.ts) c.tok c.tt)) := InstAt.of_news N (List.Mem.head _) (List.Mem.tail _ (List.Mem.head _))
    have hrd0 : rd c.st c.quoted c.tok (buf.cps.toList.drop c.pos.toNat) = rd c.st false (Str.ofString "") (buf.cps.toList.drop c.pos.toNat) := by rw [hi.quoted, hi.tok]
    refine wpAny_bind (owit_next (f := 740) F X hI (lex_next w.params) (lex_fn w.params) ?_)
    refine (c_next B F X N T hk (by (first | lia | omega)) (by (first | lia | omega)) hbl hok hi hde hed hxd hxe hyd hye hpd hpe hfd hfe (hq1 hSd hrd) (hq1 hSe hre) ?hret ?hstop ?hexc)
    case hret => intro xw t c' h' tk' hr _ _ _; rw [hrd0, hrdv] at hr; cases hr
    case hstop => intro c' e' t' g' h' tk' hr; rw [hrd0, hrdv] at hr; cases hr
    case hexc =>
      intro hr e' t' t₁ g' h' tk' FG U R'
      exact pass_of R' (kexc rfl e' t' t₁ g' h' tk' FG U (RaisedS.sub R' fun q hq => List.mem_cons_of_mem _ hq))
end Mine
end
section
open PySem PySem.W PyProof.Rows PySem.Calls
set_option maxHeartbeats 1000000
namespace Mine
theorem c_iter {w : World} {mean : ExcName → Option Value} {mg mb : Str → Option Value}
  {dp un : Nat} {gd : Option (List Code)} {cn : Str} {cs : Scope} {a : Addr} {ccd : Value} {cl : List (Str × Addr)} {outer : List Env} {A₀ : Around} {base h₀ : Heap} {L : Addr} {m : Str → Option Value} {news : List (Addr × Obj)} {s : Shared}
    {Q E : Value → Shared → Prop} {x : Addr}
    (B : Below A₀ base outer h₀) (F : Fr h₀ L s.heap m) (X : (Mine.hd.heap_1_39 w.params).In h₀)
    (N : News h₀ L s.heap news)
    (T : Top Mine.hd.view_1_40 LO mean mg mb h₀) (hk : cs.kind = .function) (hdp : dp + 5 < recursionLimit) (hun : un + 20 < cLine)
    (ret : ∀ h' tk', Fr h₀ L h' m → News h₀ L h' news → Q (.ref x) { s with heap := h', toks := tk' })
    : wpAny (model PySem.Challenge.rw_ny0347_01.row.prog w) (ktrTop dp un gd cn cs L a ccd cl outer) (call (.ref 733) [.ref x]) Q E s := by
  w_top off
  revert N X; k_fill; intro X N
  refine wpAny_call ?_
  k_dflt ((refine' code_def ?k1 ?k2 ?k3 ?k4 ?k5 ?kA ?kF ?kK ?k6 ?k7 ?k8 ?k9 ?kB ?_ ?c2 ?c3 ?c4 ?c5; (case kA => exact rfl); (case kF => exact rfl); (case kK => assumption); (case k1 => k_asm); (case k2 => k_asm); (case k3 => k_asm); (case k4 => k_asm); (case k5 => k_asm); (case k6 => k_is); (case k7 => k_is); (case k8 => ktr_room); (case k9 => first | exact BindsTo.of_eq rfl | exact binds_K (by k_in) rfl (by k_is) rfl rfl rfl); (case c5 => decide); (case kB => exact locs rfl); (case c2 => exact rfl); (case c3 => exact rfl); (case c4 => exact rfl); k_whole; intro g' L' h' FG' F' N' B' X' T'; (try dsimp only); (try k_fold)))
  (repeat' (first | (k_unfold; (try dsimp only)) | (k_end; wrow_close) | ((with_reducible show wpAny _ _ (PySem.isTrue _ _ _) _ _ _); (k_fold)) | ((with_reducible show wpAny _ _ (execs (_ :: _) _) _ _ _); (k_fold)) | walk1 | (dsimp only; first | ((with_reducible show wpAny _ _ (PySem.isTrue _ _ _) _ _ _); (k_fold)) | ((with_reducible show wpAny _ _ (execs (_ :: _) _) _ _ _); (k_fold))) | (dsimp only; walk1) | (leave1; walk_say "STEP leave1"; try dsimp only) | fail "no step"))
  (show Q _ _); exact ret _ _ (by assumption) (by assumption)
theorem lex_iter (P : Params) : findIn (Mine.hd.heap_1_39 P) (.ref 743) "__iter__" = some (some (.ref 733)) := by kernel_rfl
theorem lex_fni (P : Params) : isFn (Mine.hd.heap_1_39 P) (.ref 733) = true := by kernel_rfl
theorem lex_len (P : Params) : findIn (Mine.hd.heap_1_39 P) (.ref 743) "__len__" = some none := by kernel_rfl
theorem lex_hint (P : Params) : findIn (Mine.hd.heap_1_39 P) (.ref 743) "__length_hint__" = some none := by kernel_rfl
theorem News.push {h₀ h : Heap} {L : Addr} {m : Str → Option Value} {news : List (Addr × Obj)} (F : Fr h₀ L h m) (N : News h₀ L h news) (o : Obj) (ho : o.isFreed = false) : News h₀ L (h.push o) ((h.objs.size, o) :: news) := by
  intro q hq
  rcases List.mem_cons.mp hq with rfl | hq
  · exact ⟨Heap.get?_push_size _ ho, Nat.ne_of_gt F.ns.lt, next_is_new F⟩
  · exact ⟨Heap.get?_push_of_some _ (N q hq).1, (N q hq).2⟩
theorem led_S {h₀ h : Heap} {L S : Addr} {x d y e p f : Addr} {o o' : Obj} {nl buf : Str} {t1 t2 t3 t4 t5 : Tok} {h1 h2 h3 : Int} {H : Nat → Int} {K V : Nat → Tok} {rest : List (Addr × Obj)} {c : RT}
    (N : News h₀ L h ((S, o) :: (ledL H K V x d y e p f h1 h2 h3 t1 t2 t3 t4 t5 nl buf rest c))) (ho : o = o') : News h₀ L h (ledL H K V x d y e p f h1 h2 h3 t1 t2 t3 t4 t5 nl buf ((S, o') :: rest) c) := by
  subst ho
  refine News.sub N fun q hq => ?_
  simp only [List.mem_cons] at hq ⊢
  rcases hq with h | h | h | h | h | h | h | h <;> simp only [h, true_or, or_true]
theorem list_lex {w : World} {mean : ExcName → Option Value} {mg mb : Str → Option Value}
  {dp un : Nat} {gd : Option (List Code)} {cn : Str} {cs : Scope} {a : Addr} {ccd : Value} {outer : List Env} {A₀ : Around} {base h₀ : Heap} {L : Addr} {m : Str → Option Value}
    {x d y e p f : Addr} {nl buf : Str} {t1 t2 t3 t4 t5 : Tok} {h1 h2 h3 : Int} {H : Nat → Int} {K V : Nat → Tok} {rest : List (Addr × Obj)} {s : Shared} {Q E : Value → Shared → Prop} {c : RT} {ws : List Str} {ok : Bool}
    (B : Below A₀ base outer h₀) (F : Fr h₀ L s.heap m) (X : (Mine.hd.heap_1_39 w.params).In h₀)
    (N : News h₀ L s.heap (ledL H K V x d y e p f h1 h2 h3 t1 t2 t3 t4 t5 nl buf rest c))
    (T : Top Mine.hd.view_1_40 LO mean mg mb h₀) (hk : cs.kind = .function) (hdp : dp + 70 < recursionLimit) (hun : un + 350 < cLine)
    (hbl : buf.length < 1000) (hok : ∀ c ∈ buf.cps.toList, okc c = true) (hi : Idle buf c)
    (hde : d ≠ e) (hed : e ≠ d) (hxd : x ≠ d) (hxe : x ≠ e) (hyd : y ≠ d) (hye : y ≠ e) (hpd : p ≠ d) (hpe : p ≠ e) (hfd : f ≠ d) (hfe : f ≠ e)
    (hrd : ∀ q ∈ rest, q.1 ≠ d) (hre : ∀ q ∈ rest, q.1 ≠ e)
    (hL : Lx c.st (buf.cps.toList.drop c.pos.toNat) ws ok) (hlen : ws.length ≤ 10000)
    (ret : ok = true → ∀ S acc n h' tk', StrsAre acc.toList ws → Turned A₀ base outer h₀ L m ((S, lstO acc n) :: rest) h' → Q (.ref S) { s with heap := h', toks := tk' })
    (exc : ok = false → ∀ e' t' t₁ g' h' tk', Fr h₀ L g' m → g'.UpToSlots h' → RaisedS base g' (envOf cn cs L a ccd :: outer) e' (.type "ValueError") t' [.str (Str.ofString "No closing quotation") t₁] rest h' → E (.ref e') { s with heap := h', toks := tk' })
    : wpAny (model PySem.Challenge.rw_ny0347_01.row.prog w) (ktrTop dp un gd cn cs L a ccd [] outer) (call (.type "list") [.ref x]) Q E s := by
  refine callType_codes (Q₁ := fun obj s₁ => obj = .ref s.heap.objs.size ∧ s₁ = { s with heap := s.heap.push (lstO #[] 0) }) PySem.F.called_list (PySem.F.typeCall_list_1 _) PySem.F.entry_list_init
    (code_list_new _ ⟨rfl, rfl⟩) fun obj s₁ h₁ => ?_
  obtain ⟨rfl, rfl⟩ := h₁
  have N₁ := News.push F N (lstO #[] 0) rfl
  have F₁ : Fr h₀ L (s.heap.push (lstO #[] 0)) m := F.push _
  have hlt : ∀ q ∈ (ledL H K V x d y e p f h1 h2 h3 t1 t2 t3 t4 t5 nl buf rest c), q.1 ≠ s.heap.objs.size := fun q hq => Nat.ne_of_lt (Heap.lt_size (N q hq).1)
  generalize hS0 : s.heap.objs.size = S at *
  have hS : (s.heap.push (lstO #[] 0)).get? S = some (lstO #[] 0) := (N₁ _ (List.Mem.head _)).1
  refine ⟨⟨_, hS, rfl⟩, PySem.F.args_list_init_2 _ _, ?_⟩
  show wpAny _ (ktrTop dp (un + 2) gd cn cs L a ccd [] outer) (do let old ← Builtin.List.listItems (.ref S); Builtin.List.listUpdate (.ref S) (fun _ => #[]); letGo old.toList.reverse; Builtin.List.listExtendWith (.ref S) (.ref x) .none) _ _ _
  refine wpAny_bind ?_
  unfold Builtin.List.listItems
  refine wpAny_bind (wpAny_seqItems hS rfl (wpAny_pure ?_))
  show wpAny _ _ (updateSeq S (fun _ => #[]) >>= fun _ => letGo (#[] : Array Value).toList.reverse >>= fun _ => Builtin.List.listExtendWith (.ref S) (.ref x) .none) _ _ _
  refine wpAny_bind (wpAny_updateSeq hS rfl ?_)
  have hpre : ∀ q ∈ (ledL H K V x d y e p f h1 h2 h3 t1 t2 t3 t4 t5 nl buf rest c), q.1 ≠ S := hlt
  have N₂ := News.upd (f := Obj.mapSeq (fun _ => (#[] : Array Value))) (pre := []) N₁ rfl rfl (fun _ h => nomatch h) hpre
  have F₂ := Fr.upd (f := Obj.mapSeq (fun _ => (#[] : Array Value))) F₁ (N₁ _ (List.Mem.head _)).2.2 (N₁ _ (List.Mem.head _)).2.1
  refine wpAny_bind (wpAny_letGo ?_)
  unfold Builtin.List.listExtendWith
  have hI : InstAt (((s.heap.push (lstO #[] 0)).update S (Obj.mapSeq (fun _ => (#[] : Array Value))))) x (instObj 743 d) 743 (some (lexD H K V y p f (c.st.val c.ts) c.tok c.tt)) := InstAt.of_news N₂ (List.Mem.tail _ (List.Mem.head _)) (List.Mem.tail _ (List.Mem.tail _ (List.Mem.head _)))
  have hSx : S ≠ x := fun e => hpre (x, _) (List.Mem.head _) e.symm
  refine wpAny_bind (hI.type.here ?_)
  have g1 : Builtin.List.listSameRef (.ref S) (.ref x) = false := by simp [Builtin.List.listSameRef, hSx]
  have g2 : (Value.ref 743 == Value.type "list") = false := by decide
  have g3 : (Value.ref 743 == Value.type "tuple") = false := by decide
  simp only [g1, g2, g3, Bool.or_false, Bool.false_eq_true, if_false]
  refine wpAny_bind (owit_iter (f := 733) F₂ X hI (lex_iter w.params) (lex_fni w.params) ?_)
  refine c_iter B F₂ X N₂ T hk (by (first | lia | omega)) (by (first | lia | omega)) fun h₃ tk₃ F₃ N₃ => ?_
  have hI₃ : InstAt h₃ x (instObj 743 d) 743 (some (lexD H K V y p f (c.st.val c.ts) c.tok c.tt)) := InstAt.of_news N₃ (List.Mem.tail _ (List.Mem.head _)) (List.Mem.tail _ (List.Mem.tail _ (List.Mem.head _)))
  refine owit_it F₃ X hI₃ (lex_next w.params) ?_
  refine wpAny_bind (wpAny_holding ?_)
  unfold Builtin.List.listLengthHint
  refine wpAny_bind (wpAny_bind (hI₃.type.here ((looks_findIn (X.keeps F₃.keep) (lex_len w.params)).here ?_)))
  show wpAny _ _ (specialOf (Value.ref x) (Str.ofString "__length_hint__") >>= _) _ _ _
  refine wpAny_bind (wpAny_bind (hI₃.type.here ((looks_findIn (X.keeps F₃.keep) (lex_hint w.params)).here ?_)))
  refine wpAny_pure ?_
  show wpAny _ _ (rule "list.extend.makes-room" >>= fun _ => Builtin.List.listTouch (.ref S) >>= fun _ => again (.builtin "list.extend.loop" ⟨[.ref S, .ref x, .none], []⟩)) _ _ _
  refine wpAny_bind (wpAny_rule ?_)
  refine wpAny_bind ?_
  show wpAny _ _ (updateSeq S (·.push .none) >>= fun _ => updateSeq S (·.pop)) _ _ _
  have hS₃ := N₃ _ (List.Mem.head _)
  refine wpAny_bind (wpAny_updateSeq hS₃.1 rfl ?_)
  have N₄ := News.upd (f := Obj.mapSeq (·.push Value.none)) (pre := []) N₃ rfl rfl (fun _ h => nomatch h) hpre
  have F₄ := Fr.upd (f := Obj.mapSeq (·.push Value.none)) F₃ hS₃.2.2 hS₃.2.1
  have hS₄ := N₄ _ (List.Mem.head _)
  refine wpAny_updateSeq (hz := by seq_fits) hS₄.1 rfl ?_
  have N₅ := News.upd (f := Obj.mapSeq (·.pop)) (pre := []) N₄ rfl rfl (fun _ h => nomatch h) hpre
  have F₅ := Fr.upd (f := Obj.mapSeq (·.pop)) F₄ hS₄.2.2 hS₄.2.1
  have nx : x ≠ S := hpre (x, _) (List.Mem.head _)
  have nd : d ≠ S := hpre (d, _) (List.Mem.tail _ (List.Mem.head _))
  have ny : y ≠ S := hpre (y, _) (List.Mem.tail _ (List.Mem.tail _ (List.Mem.head _)))
  have ne : e ≠ S := hpre (e, _) (List.Mem.tail _ (List.Mem.tail _ (List.Mem.tail _ (List.Mem.head _))))
  have np : p ≠ S := hpre (p, _) (List.Mem.tail _ (List.Mem.tail _ (List.Mem.tail _ (List.Mem.tail _ (List.Mem.head _)))))
  have nf : f ≠ S := hpre (f, _) (List.Mem.tail _ (List.Mem.tail _ (List.Mem.tail _ (List.Mem.tail _ (List.Mem.tail _ (List.Mem.head _))))))
  have nr : ∀ q ∈ rest, q.1 ≠ S := fun q hq => hpre q (by simp [hq])
  refine wpAny_pure ⟨plainId_quiet PySem.F.plain_extend_loop _, ?_⟩
  have N₆ := led_S (o' := lstO #[] 2) N₅ rfl
  refine ext_loop (dp := dp) (un := un + 1) B X T hk (by (first | lia | omega)) (by (first | lia | omega)) hbl hok hde hed hxd hxe hyd hye hpd hpe hfd hfe (Ne.symm nd) (Ne.symm ne) nx ny np nf hrd hre nr hL _ c #[] 2 [] rfl rfl hi F₅ N₆ ?_ (by simpa using hlen) ?_ ?_
  · exact .nil
  · intro ho acc' n' h' tk' hs hTu
    exact ⟨rfl, ret ho S acc' n' h' tk' hs hTu⟩
  · intro ho e' t' t₁ g' h' tk' FG U R'
    exact exc ho e' t' t₁ g' h' tk' FG U R'
end Mine
end
section
open PySem PySem.W PyProof.Rows PySem.Calls
set_option maxHeartbeats 1000000
namespace Mine
theorem list_lexW {w : World} {mean : ExcName → Option Value} {mg mb : Str → Option Value}
  {dp un : Nat} {gd : Option (List Code)} {cn : Str} {cs : Scope} {a : Addr} {ccd : Value} {outer : List Env} {A₀ : Around} {base h₀ : Heap} {L : Addr} {m : Str → Option Value}
    {x d e : Addr} {nl buf : Str} {t1 t2 t3 t4 t5 t6 ts : Tok} {h1 h2 h3 : Int} {a0 a1 a2 a3 a4 a5 a6 a7 a8 a9 a10 a11 a12 a13 a14 a15 a16 a17 a18 : Int} {k0 k1 k2 k3 k4 k5 k6 k7 k8 k9 k10 k11 k12 k13 k14 k15 k16 k17 k18 v4 v5 v6 v8 v9 v10 v13 v14 v18 tt : Tok} {y p f : Addr}  {rest : List (Addr × Obj)} {s : Shared} {Q E : Value → Shared → Prop} {ws : List Str} {ok : Bool}
    (B : Below A₀ base outer h₀) (F : Fr h₀ L s.heap m) (X : (Mine.hd.heap_1_39 w.params).In h₀)
    (N : News h₀ L s.heap ((f, dqObj) :: (p, dqObj) :: (y, instObj 608 e) :: (e, sioD h1 h2 h3 t1 t2 t3 t4 t5 t6 nl buf 0) :: (x, instObj 743 d) :: (d, dictOf [⟨a0, .str (Str.ofString "instream") k0, .ref y⟩, ⟨a1, .str (Str.ofString "infile") k1, .none⟩, ⟨a2, .str (Str.ofString "posix") k2, .bool true⟩, ⟨a3, .str (Str.ofString "eof") k3, .none⟩, ⟨a4, .str (Str.ofString "commenters") k4, .str (Str.ofString "") v4⟩, ⟨a5, .str (Str.ofString "wordchars") k5, .str (Str.ofString "abcdfeghijklmnopqrstuvwxyzABCDEFGHIJKLMNOPQRSTUVWXYZ0123456789_ßàáâãäåæçèéêëìíîïðñòóôõöøùúûüýþÿÀÁÂÃÄÅÆÇÈÉÊËÌÍÎÏÐÑÒÓÔÕÖØÙÚÛÜÝÞ") v5⟩, ⟨a6, .str (Str.ofString "whitespace") k6, .str (Str.ofString " \t\x0d\n") v6⟩, ⟨a7, .str (Str.ofString "whitespace_split") k7, .bool true⟩, ⟨a8, .str (Str.ofString "quotes") k8, .str (Str.ofString "'\"") v8⟩, ⟨a9, .str (Str.ofString "escape") k9, .str (Str.ofString "\\") v9⟩, ⟨a10, .str (Str.ofString "escapedquotes") k10, .str (Str.ofString "\"") v10⟩, ⟨a11, .str (Str.ofString "state") k11, .str (Str.ofString " ") ts⟩, ⟨a12, .str (Str.ofString "pushback") k12, .ref p⟩, ⟨a13, .str (Str.ofString "lineno") k13, .int 1 v13⟩, ⟨a14, .str (Str.ofString "debug") k14, .int 0 v14⟩, ⟨a15, .str (Str.ofString "token") k15, .str (Str.ofString "") tt⟩, ⟨a16, .str (Str.ofString "filestack") k16, .ref f⟩, ⟨a17, .str (Str.ofString "source") k17, .none⟩, ⟨a18, .str (Str.ofString "_punctuation_chars") k18, .str (Str.ofString "") v18⟩] 19) :: rest))
    (T : Top Mine.hd.view_1_40 LO mean mg mb h₀) (hk : cs.kind = .function) (hdp : dp + 70 < recursionLimit) (hun : un + 350 < cLine)
    (hbl : buf.length < 1000) (hok : ∀ c ∈ buf.cps.toList, okc c = true)
    (l1 : (d : Nat) < x) (l2 : (x : Nat) < e) (l3 : (e : Nat) < y) (l4 : (y : Nat) < p) (l5 : (p : Nat) < f) (l0 : ∀ q ∈ rest, q.1 < d)
    (hL : Lx .ws buf.cps.toList ws ok) (hlen : ws.length ≤ 10000)
    (ret : ok = true → ∀ S acc n h' tk', StrsAre acc.toList ws → Turned A₀ base outer h₀ L m ((S, lstO acc n) :: rest) h' → Q (.ref S) { s with heap := h', toks := tk' })
    (exc : ok = false → ∀ e' t' t₁ g' h' tk', Fr h₀ L g' m → g'.UpToSlots h' → RaisedS base g' (envOf cn cs L a ccd :: outer) e' (.type "ValueError") t' [.str (Str.ofString "No closing quotation") t₁] rest h' → E (.ref e') { s with heap := h', toks := tk' })
    : wpAny (model PySem.Challenge.rw_ny0347_01.row.prog w) (ktrTop dp un gd cn cs L a ccd [] outer) (call (.type "list") [.ref x]) Q E s := by
  have ne : ∀ {b c : Nat}, b < c → b ≠ c := fun h => Nat.ne_of_lt h
  have ng : ∀ {b c : Nat}, c < b → b ≠ c := fun h => Nat.ne_of_gt h
  refine list_lex (c := ⟨false, .ws, Str.ofString "", 0, tt, ts, t6⟩) (H := (fun i => ([a0, a1, a2, a3, a4, a5, a6, a7, a8, a9, a10, a11, a12, a13, a14, a15, a16, a17, a18] : List Int).getD i 0)) (K := (fun i => ([k0, k1, k2, k3, k4, k5, k6, k7, k8, k9, k10, k11, k12, k13, k14, k15, k16, k17, k18] : List Nat).getD i 0)) (V := (fun i => ([0, 0, 0, 0, v4, v5, v6, 0, v8, v9, v10, 0, 0, v13, v14, 0, 0, 0, v18] : List Nat).getD i 0)) (p := p) (f := f) (y := y) (d := d) (e := e) (buf := buf) (nl := nl) (h1 := h1) (h2 := h2) (h3 := h3) (t1 := t1) (t2 := t2) (t3 := t3) (t4 := t4) (t5 := t5) B F X (News.sub N ?_) T hk hdp hun hbl hok ⟨.inr rfl, ⟨rfl, rfl⟩, rfl, rfl, by constructor <;> simp⟩ ?_ ?_ ?_ ?_ ?_ ?_ ?_ ?_ ?_ ?_ ?_ ?_ (by simpa using hL) hlen ret exc
  · intro q hq
    simp only [ledL, List.mem_cons] at hq ⊢
    rcases hq with h | h | h | h | h | h | h
    · exact .inr (.inr (.inr (.inr (.inl h))))
    · exact .inr (.inr (.inr (.inr (.inr (.inl h)))))
    · exact .inr (.inr (.inl h))
    · exact .inr (.inr (.inr (.inl h)))
    · exact .inr (.inl h)
    · exact .inl h
    · exact .inr (.inr (.inr (.inr (.inr (.inr h)))))
  · exact ne (Nat.lt_trans l1 l2)
  · exact ng (Nat.lt_trans l1 l2)
  · exact ng l1
  · exact ne l2
  · exact ng (Nat.lt_trans l1 (Nat.lt_trans l2 l3))
  · exact ng l3
  · exact ng (Nat.lt_trans l1 (Nat.lt_trans l2 (Nat.lt_trans l3 l4)))
  · exact ng (Nat.lt_trans l3 l4)
  · exact ng (Nat.lt_trans l1 (Nat.lt_trans l2 (Nat.lt_trans l3 (Nat.lt_trans l4 l5))))
  · exact ng (Nat.lt_trans l3 (Nat.lt_trans l4 l5))
  · exact fun q hq => ne (l0 q hq)
  · exact fun q hq => ne (Nat.lt_trans (l0 q hq) (Nat.lt_trans l1 l2))
end Mine
end
section
open PySem PySem.W PyProof.Rows PySem.Calls
set_option maxHeartbeats 1000000
namespace Mine
theorem c_outcome {w : World} {mean : ExcName → Option Value} {mg mb : Str → Option Value}
  {dp un : Nat} {gd : Option (List Code)} {cn : Str} {cs : Scope} {a : Addr} {ccd : Value} {A₀ : Around} {h₀ : Heap} {L : Addr} {m : Str → Option Value} {rest : List (Addr × Obj)} {s : Shared}
    {Q E : Value → Shared → Prop} {x : Str} {tx : Tok}
    (B : Below A₀ h₀ [] h₀) (F : Fr h₀ L s.heap m) (X : (Mine.hd.heap_1_39 w.params).In h₀)
    (N : News h₀ L s.heap rest)
    (T : Top Mine.hd.view_1_40 LO mean mg mb h₀) (hk : cs.kind = .function) (hdp : dp + 200 < recursionLimit) (hun : un + 600 < cLine) (hx : x.length < 1000) (hok : ∀ c ∈ x.cps.toList, okc c = true) {ws : List Str} {ok : Bool} (hL : Lx .ws x.cps.toList ws ok) (hlen : ws.length ≤ 10000)
    (ret : ok = true → ∀ S acc n h' tk', StrsAre acc.toList ws → Fr h₀ L h' m → News h₀ L h' ((S, lstO acc n) :: rest) → Q (.ref S) { s with heap := h', toks := tk' })
    (bad : ok = false → ∀ t h' tk', Fr h₀ L h' m → News h₀ L h' rest → Q (.str (Str.ofString "No closing quotation") t) { s with heap := h', toks := tk' })
    : wpAny (model PySem.Challenge.rw_ny0347_01.row.prog w) (ktrTop dp un gd cn cs L a ccd [] []) (call (.ref 806) [.str x tx]) Q E s := by
  w_top off
  revert N X; k_fill; intro X N
  refine wpAny_call ?_
  k_dflt (refine' code_defS0 ?k1 ?k2 ?k3 ?k4 ?k5 ?kA ?k6 ?k7 ?k8 ?k9 ?kB ?_ ?cK ?c2 ?c3 ?c4 ?c5; (case kA => exact rfl); (case k2 => k_asm); (case k1 => k_asm); (case k3 => k_asm); (case k4 => k_asm); (case k5 => k_asm); (case k6 => k_is); (case k7 => k_is); (case k8 => ktr_room); (case k9 => exact BindsTo.of_eq rfl); (case kB => exact locs rfl); (case cK => exact hk); (case c2 => exact rfl); (case c3 => exact rfl); (case c4 => exact rfl); (case c5 => decide); k_whole; intro g' L' h' FG' F' N' B' X' T' D'; (try dsimp only); (try k_lift B'); (try k_fold))
  (repeat' (first | ((with_reducible show HoldN 1 _); refine HoldN.of ?_; (rename Fr _ _ _ _ => lF); (rename News _ _ _ _ => lN); refine wpAny_call ?_; k_dflt (refine make_S (by exact below_push (by k_asm) lF rfl) (by exact Frag.In.keeps (by k_asm) lF.keep) (by exact Top.keeps (by k_asm) lF.keep) (by ktr_room) (by ktr_units) ?_; intro x' d' h' tk' hk' hx' hd' hle' hlt'; (have F' := Fr.keeps lF hk'); (have N' := news_more lF (news_more lF (lN.keepsAll hk') hd' hle') hx' (Nat.le_trans hle' (Nat.le_of_lt hlt'))); (have l1 := news_lt lN hle'); (try k_lt l1); (replace hlt' := ltN hlt'); clear hk' hx' hd' hle' lF lN; (try dsimp only at F' N'); k_enter)) | ((with_reducible show HoldN 2 _); refine HoldN.of ?_; (rename Fr _ _ _ _ => lF); (rename News _ _ _ _ => lN); refine call_deque ?_; intro x' h' hk' hx' hle'; (have F' := Fr.keeps lF hk'); (have N' := news_more lF (lN.keepsAll hk') hx' hle'); (have l1 := news_lt lN hle'); (try k_lt l1); clear hk' hx' hle' lF lN; (try dsimp only at F' N')) | ((with_reducible show HoldN 3 _); refine HoldN.of ?_; (rename Fr _ _ _ _ => lF); (rename News _ _ _ _ => lN); (rename Lx _ _ _ _ => lX); k_dflt (refine list_lexW (by k_asm) lF (by k_asm) lN (by k_asm) (by exact rfl) (by ktr_room) (by ktr_units) (by assumption) (by assumption) (by first | assumption | omega | exact And.left (by assumption) | exact And.left (And.right (by assumption))) (by first | assumption | omega | exact And.left (by assumption) | exact And.left (And.right (by assumption))) (by first | assumption | omega | exact And.left (by assumption) | exact And.left (And.right (by assumption))) (by first | assumption | omega | exact And.left (by assumption) | exact And.left (And.right (by assumption))) (by first | assumption | omega | exact And.left (by assumption) | exact And.left (And.right (by assumption))) (by assumption) lX (by assumption) (fun ho' S' acc' n' h' tk' hs' hT' => ?_) (fun ho' e' t' t1' g' h' tk' FG' U' R' => ?_)); rotate_left; all_goals (clear lF lN); all_goals (try (obtain ⟨g', hT', F', B', N'⟩ := hT'))) | (k_unfold; (try dsimp only)) | (k_end; wrow_close) | ((with_reducible show wpAny _ _ (call (Value.type "list") _) _ _ _); (show wpAny _ _ (call (Value.type "list") [Value.ref _]) _ _ _); refine HoldN.mk 3 ?_) | ((with_reducible show wpAny _ _ (call (Value.type "collections.deque") _) _ _ _); refine HoldN.mk 2 ?_) | ((with_reducible show wpAny _ _ (call (Value.ref _) _) _ _ _); (show wpAny _ _ (call (Value.ref 755) [_]) _ _ _); k_dflt (refine wpAny_call ?_; kts_go)) | ((with_reducible show wpAny _ _ (call (Value.ref _) _) _ _ _); (with_reducible show wpAny _ _ (call (Value.ref 608) [_]) _ _ _); refine HoldN.mk 1 ?_) | ((with_reducible show wpAny _ _ (PySem.isTrue _ _ _) _ _ _); (k_fold)) | ((with_reducible show wpAny _ _ (execs (_ :: _) _) _ _ _); (k_fold)) | walk1 | (dsimp only; first | ((with_reducible show wpAny _ _ (call (Value.type "list") _) _ _ _); (show wpAny _ _ (call (Value.type "list") [Value.ref _]) _ _ _); refine HoldN.mk 3 ?_) | ((with_reducible show wpAny _ _ (call (Value.type "collections.deque") _) _ _ _); refine HoldN.mk 2 ?_) | ((with_reducible show wpAny _ _ (call (Value.ref _) _) _ _ _); (show wpAny _ _ (call (Value.ref 755) [_]) _ _ _); k_dflt (refine wpAny_call ?_; kts_go)) | ((with_reducible show wpAny _ _ (call (Value.ref _) _) _ _ _); (with_reducible show wpAny _ _ (call (Value.ref 608) [_]) _ _ _); refine HoldN.mk 1 ?_) | ((with_reducible show wpAny _ _ (PySem.isTrue _ _ _) _ _ _); (k_fold)) | ((with_reducible show wpAny _ _ (execs (_ :: _) _) _ _ _); (k_fold))) | (dsimp only; walk1) | (leave1; walk_say "STEP leave1"; try dsimp only) | fail "no step"))
  · (show Q _ _); exact bad (by assumption) _ _ _ (by assumption) (by assumption)
  · (show Q _ _); exact ret (by assumption) _ _ _ _ _ (by assumption) (by assumption) (by assumption)
end Mine
end
section
open PySem PySem.W PyProof.Rows PySem.Calls
open PyProof.Rows.LCg PyProof.Rows.LCp
set_option maxHeartbeats 1000000
namespace Mine
theorem take_of_drop {α : Type} {l : List α} {i : Nat} {q : α} {r : List α} (h : l.drop i = q :: r) : l.take (i + 1) = l.take i ++ [q] := by
  have : l[i]? = some q := by
    have e : (l.drop i)[0]? = some q := by rw [h]; rfl
    rw [List.getElem?_drop] at e; simpa using e
  rw [List.take_add_one, this]; rfl
theorem sum_le_mul {l : List Nat} {k : Nat} (h : ∀ x ∈ l, x ≤ k) : l.sum ≤ l.length * k := by
  induction l with
  | nil => simp
  | cons a r ih =>
    rw [List.sum_cons, List.length_cons, Nat.succ_mul]
    have h1 := h a (List.Mem.head _)
    have h2 := ih fun x hx => h x (List.Mem.tail _ hx)
    (first | lia | omega)
noncomputable def writtenP (ps : List Piece) : Str := Txt.join (Str.ofString "") (ps.map writingOf)
theorem written_ok {ps : List Piece} (hsz : ∀ q ∈ ps, q.1.length ≤ 1 ∧ q.2.length ≤ 1000) (hl : ps.length ≤ 10000) : ((ps.map writingOf).map (·.length)).sum + (ps.map writingOf).length * (Str.ofString "").length ≤ 16777216 := by
  have h1 : ((ps.map writingOf).map (·.length)).sum ≤ ((ps.map writingOf).map (·.length)).length * 1002 := sum_le_mul (by
    intro x hx
    simp only [List.map_map, List.mem_map, Function.comp] at hx
    obtain ⟨q, hq, rfl⟩ := hx
    obtain ⟨a, b⟩ := hsz q hq
    simp only [writingOf, Str.length_append]
    (first | lia | omega))
  have h2 : (Str.ofString "").length = 0 := by decide +kernel
  rw [h2]
  simp only [List.length_map] at h1 ⊢
  (first | lia | omega)
set_option maxHeartbeats 4000000 in
theorem c_written {w : World} {mean : ExcName → Option Value} {mg mb : Str → Option Value}
  {dp un : Nat} {gd : Option (List Code)} {cn : Str} {cs : Scope} {a : Addr} {ccd : Value} {cl : List (Str × Addr)} {outer : List Env} {A₀ : Around} {base h₀ : Heap} {L : Addr} {m : Str → Option Value} {rest : List (Addr × Obj)} {s : Shared}
    {Q E : Value → Shared → Prop} {l : Addr} {vs : Array Value} {ln : Nat} {ps : List Piece}
    (B : Below A₀ base outer h₀) (F : Fr h₀ L s.heap m) (X : (Mine.hd.heap_1_39 w.params).In h₀)
    (N : News h₀ L s.heap rest)
    (T : Top Mine.hd.view_1_40 LO mean mg mb h₀) (hk : cs.kind = .function) (hdp : dp + 10 < recursionLimit) (hun : un + 100 < cLine)
    (hl : (l, listO vs ln) ∈ rest) (hps : PcsIn rest vs.toList ps) (hsz : ∀ q ∈ ps, q.1.length ≤ 1 ∧ q.2.length ≤ 1000) (hvs : vs.size ≤ 10000)
    (ret : ∀ t tl h' tk', (∀ p ∈ rest, p ∈ tl) → Fr h₀ L h' m → News h₀ L h' tl → Q (.str (writtenP ps) t) { s with heap := h', toks := tk' })
    : wpAny (model PySem.Challenge.rw_ny0347_01.row.prog w) (ktrTop dp un gd cn cs L a ccd cl outer) (call (.ref 787) [.ref l]) Q E s := by
  w_top off
  revert N X; k_fill; intro X N
  refine wpAny_call ?_
  k_dflt ((refine' code_def ?k1 ?k2 ?k3 ?k4 ?k5 ?kA ?kF ?kK ?k6 ?k7 ?k8 ?k9 ?kB ?_ ?c2 ?c3 ?c4 ?c5; (case kA => exact rfl); (case kF => exact rfl); (case kK => assumption); (case k1 => k_asm); (case k2 => k_asm); (case k3 => k_asm); (case k4 => k_asm); (case k5 => k_asm); (case k6 => k_is); (case k7 => k_is); (case k8 => ktr_room); (case k9 => first | exact BindsTo.of_eq rfl | exact binds_K (by k_in) rfl (by k_is) rfl rfl rfl); (case c5 => decide); (case kB => exact locs rfl); (case c2 => exact rfl); (case c3 => exact rfl); (case c4 => exact rfl); k_whole; intro g' L' h' FG' F' N' B' X' T'; (try dsimp only); (try k_fold)))
  iterate 10 (first | (k_unfold; (try dsimp only)) | ((with_reducible show wpAny _ _ (eval (Expr.ListComp ..) _) _ _ _); k_dflt (refine LCp.ListComp_P (F₀ := by k_asm) (by with_unfolding_all rfl) (by decide) (by rfl) (by decide) (by rfl) (by rfl) (by decide) ?_)) | ((with_reducible show wpAny _ _ (PySem.isTrue _ _ _) _ _ _); (k_fold)) | ((with_reducible show wpAny _ _ (execs (_ :: _) _) _ _ _); (k_fold)) | walk1 | (dsimp only; first | ((with_reducible show wpAny _ _ (eval (Expr.ListComp ..) _) _ _ _); k_dflt (refine LCp.ListComp_P (F₀ := by k_asm) (by with_unfolding_all rfl) (by decide) (by rfl) (by decide) (by rfl) (by rfl) (by decide) ?_)) | ((with_reducible show wpAny _ _ (PySem.isTrue _ _ _) _ _ _); (k_fold)) | ((with_reducible show wpAny _ _ (execs (_ :: _) _) _ _ _); (k_fold))) | (dsimp only; walk1))
  rename Fr _ _ _ _ => F1
  rename News _ _ _ _ => N1
  refine SrcLP.ledger rfl F1 N1 hl (by rw [sizeLine_eq]; (first | lia | omega)) fun g9 => ?_
  refine compP_ind vs.size (fun i ys news => (∀ p ∈ rest, p ∈ news) ∧ StrsAre ys ((ps.take i).map writingOf)) ?step ?fin vs.size 0 [] _ (Nat.zero_add _) ⟨fun _ h => h, .nil⟩
  case step =>
    clear F1 N1
    rintro i ys news v hi hv ⟨hsub, hst⟩
    obtain ⟨av, mk, pt, tk1, tk2, rfl, hav, hdr⟩ := PcsIn.at hps (by simpa using hv)
    obtain ⟨hm1, hp1⟩ := hsz (mk, pt) (List.mem_of_mem_drop (i := i) (by rw [hdr]; exact List.Mem.head _))
    dsimp only at hm1 hp1
    refine ⟨av, _, _, _, 0, rfl, hsub _ hav, rfl, rfl, ?_⟩
    intro I oI C oC D m₂ h9 tk9 E' hC hx1 hx2 F' N' hoff hne3
    (repeat' (first | (k_unfold; (try dsimp only)) | (k_end; wrow_close) | ((with_reducible show wpAny _ _ (eval (Expr.ListComp ..) _) _ _ _); k_dflt (refine LCp.ListComp_P (F₀ := by k_asm) (by with_unfolding_all rfl) (by decide) (by rfl) (by decide) (by rfl) (by rfl) (by decide) ?_)) | ((with_reducible show wpAny _ _ (PySem.isTrue _ _ _) _ _ _); (k_fold)) | ((with_reducible show wpAny _ _ (execs (_ :: _) _) _ _ _); (k_fold)) | walk1 | (dsimp only; first | ((with_reducible show wpAny _ _ (eval (Expr.ListComp ..) _) _ _ _); k_dflt (refine LCp.ListComp_P (F₀ := by k_asm) (by with_unfolding_all rfl) (by decide) (by rfl) (by decide) (by rfl) (by rfl) (by decide) ?_)) | ((with_reducible show wpAny _ _ (PySem.isTrue _ _ _) _ _ _); (k_fold)) | ((with_reducible show wpAny _ _ (execs (_ :: _) _) _ _ _); (k_fold))) | (dsimp only; walk1) | (leave1; walk_say "STEP leave1"; try dsimp only) | fail "no step"))
    exact CompEnd.intro (by assumption) (by assumption) news (fun _ z => z) hoff (.inr ⟨_, hsub _ hl, rfl, _, rfl⟩) ⟨hsub, by rw [take_of_drop hdr, List.map_append]; exact StrsAre.snoc hst _ _⟩
  case fin =>
    clear F1 N1
    rintro ys news ⟨hsub, hst⟩
    intro D h9 tk9 F' N' hoff
    have hpl : ps.length = vs.size := by have := hps.len; simpa using this.symm
    have hst' : StrsAre ys (ps.map writingOf) := by rw [← hpl, List.take_length] at hst; exact hst
    iterate 1 (first | (k_unfold; (try dsimp only)) | ((with_reducible show wpAny _ _ (eval (Expr.ListComp ..) _) _ _ _); k_dflt (refine LCp.ListComp_P (F₀ := by k_asm) (by with_unfolding_all rfl) (by decide) (by rfl) (by decide) (by rfl) (by rfl) (by decide) ?_)) | ((with_reducible show wpAny _ _ (PySem.isTrue _ _ _) _ _ _); (k_fold)) | ((with_reducible show wpAny _ _ (execs (_ :: _) _) _ _ _); (k_fold)) | walk1 | (dsimp only; first | ((with_reducible show wpAny _ _ (eval (Expr.ListComp ..) _) _ _ _); k_dflt (refine LCp.ListComp_P (F₀ := by k_asm) (by with_unfolding_all rfl) (by decide) (by rfl) (by decide) (by rfl) (by rfl) (by decide) ?_)) | ((with_reducible show wpAny _ _ (PySem.isTrue _ _ _) _ _ _); (k_fold)) | ((with_reducible show wpAny _ _ (execs (_ :: _) _) _ _ _); (k_fold))) | (dsimp only; walk1))
    refine join_list (News.isList N' (List.Mem.head _)) hst' (written_ok hsz (by (first | lia | omega))) fun t9 k9 => ?_
    (repeat' (first | (k_unfold; (try dsimp only)) | (k_end; wrow_close) | ((with_reducible show wpAny _ _ (eval (Expr.ListComp ..) _) _ _ _); k_dflt (refine LCp.ListComp_P (F₀ := by k_asm) (by with_unfolding_all rfl) (by decide) (by rfl) (by decide) (by rfl) (by rfl) (by decide) ?_)) | ((with_reducible show wpAny _ _ (PySem.isTrue _ _ _) _ _ _); (k_fold)) | ((with_reducible show wpAny _ _ (execs (_ :: _) _) _ _ _); (k_fold)) | walk1 | (dsimp only; first | ((with_reducible show wpAny _ _ (eval (Expr.ListComp ..) _) _ _ _); k_dflt (refine LCp.ListComp_P (F₀ := by k_asm) (by with_unfolding_all rfl) (by decide) (by rfl) (by decide) (by rfl) (by rfl) (by decide) ?_)) | ((with_reducible show wpAny _ _ (PySem.isTrue _ _ _) _ _ _); (k_fold)) | ((with_reducible show wpAny _ _ (execs (_ :: _) _) _ _ _); (k_fold))) | (dsimp only; walk1) | (leave1; walk_say "STEP leave1"; try dsimp only) | fail "no step"))
    (show Q _ _); (rename News h₀ L _ _ => kN9); (rename Fr h₀ L _ m => kF9); exact ret _ _ _ _ (fun q hq => List.Mem.tail _ (hsub q hq)) kF9 kN9
end Mine
end
end
section
open PySem PySem.W PyProof.Rows PySem.Calls
open PyProof.Rows.LCg PyProof.Rows.LCp
set_option maxHeartbeats 1000000
namespace Mine
theorem item_led {prog : Program} {w : World} {A : Around} {E : Value → Shared → Prop} {s : Shared} {value slice : PySem.Expr} {h₀ : Heap} {L l : Addr} {news : List (Addr × Obj)} {vs : Array Value} {n : Nat} {k : Int} {u : Tok} {v : Value} {Q : Value → Shared → Prop}
    (N : News h₀ L s.heap news) (hm : (l, listO vs n) ∈ news) (h0 : 0 ≤ k) (hhi : k < 2 ^ 63) (hx : vs[k.toNat]? = some v) (h : Q v s)
    (hs : subscripted slice false (.ref l) (.int k u) = operate [.ref l, .int k u] (getItem (.ref l) (.int k u)) := by with_unfolding_all rfl) :
    wpAny (model prog w) A (subscriptTail value slice (.ref l) (.int k u)) Q E s := by
  have hl : s.heap.IsList l vs := News.isList N hm
  exact tail_any hl.typeIs slot_list_getitem.lookup (wpAny_getItem_list hl h0 hhi (by simpa using hx) h) hs
theorem item_led0 {prog : Program} {w : World} {A : Around} {E : Value → Shared → Prop} {s : Shared} {value slice : PySem.Expr} {h₀ : Heap} {L l : Addr} {news : List (Addr × Obj)} {x y : Value} {n : Nat} {u : Tok} {Q : Value → Shared → Prop}
    (N : News h₀ L s.heap news) (hm : (l, listO #[x, y] n) ∈ news) (h : Q x s) (hs : subscripted slice false (.ref l) (.int 0 u) = operate [.ref l, .int 0 u] (getItem (.ref l) (.int 0 u)) := by with_unfolding_all rfl) :
    wpAny (model prog w) A (subscriptTail value slice (.ref l) (.int 0 u)) Q E s := item_led N hm (by decide) (by decide) rfl h hs
theorem item_led1 {prog : Program} {w : World} {A : Around} {E : Value → Shared → Prop} {s : Shared} {value slice : PySem.Expr} {h₀ : Heap} {L l : Addr} {news : List (Addr × Obj)} {x y : Value} {n : Nat} {u : Tok} {Q : Value → Shared → Prop}
    (N : News h₀ L s.heap news) (hm : (l, listO #[x, y] n) ∈ news) (h : Q y s) (hs : subscripted slice false (.ref l) (.int 1 u) = operate [.ref l, .int 1 u] (getItem (.ref l) (.int 1 u)) := by with_unfolding_all rfl) :
    wpAny (model prog w) A (subscriptTail value slice (.ref l) (.int 1 u)) Q E s := item_led N hm (by decide) (by decide) rfl h hs
noncomputable def Apart (tl news : List (Addr × Obj)) : Prop := ∀ p ∈ tl, ∀ q ∈ news, p.1 ≠ q.1
/-- what _law_thing does -/
noncomputable def ThingTells (w : World) (mean : ExcName → Option Value) (mg mb : Str → Option Value) (d : Tr) : Prop :=
  ∀ (dp un : Nat) (gd : Option (List Code)) (cn : Str) (cs : Scope) (a : Addr) (ccd : Value) (cl : List (Str × Addr)) (outer : List Env) (A₀ : Around) (base h₀ : Heap) (L : Addr) (m : Str → Option Value) (news : List (Addr × Obj)) (s : Shared) (v : Value) (Q E : Value → Shared → Prop),
    Below A₀ base outer h₀ → Fr h₀ L s.heap m → (Mine.hd.heap_1_39 w.params).In h₀ → News h₀ L s.heap news → Top Mine.hd.view_1_40 LO mean mg mb h₀ → cs.kind = .function → TrIn news v d → d.wide → dp + 2 * d.dep + 10 < recursionLimit → un + 20 * d.dep + 100 < cLine →
    (∀ r tl h' tk', Fr h₀ L h' m → News h₀ L h' (tl ++ news) → Apart tl news → ThIn tl r d → Q r { s with heap := h', toks := tk' }) →
    wpAny (model PySem.Challenge.rw_ny0347_01.row.prog w) (ktrTop dp un gd cn cs L a ccd cl outer) (call (.ref 775) [v]) Q E s
theorem comp_close {h₀ h' : Heap} {L I C D nb : Addr} {m : Str → Option Value} {s₁ : Shared} {tk : Nat} {oI oC : Obj} {ys : List Value} {tl tl' news : List (Addr × Obj)} {vs : Array Value} {n2 i : Nat} {r : Value} {t : Tr} {ts : List Tr}
    (F : Fr h₀ L h' m) (N : News h₀ L h' (tl' ++ ((I, oI) :: (C, oC) :: (D, lst ys) :: (tl ++ news)))) (ha : Apart tl' ((I, oI) :: (C, oC) :: (D, lst ys) :: (tl ++ news))) (hoff : Off3 I C D (tl ++ news)) (hm2 : (nb, listO vs n2) ∈ news)
    (hap : ∀ p ∈ tl, ∀ q ∈ news, p.1 ≠ q.1) (hths : ThsIn tl ys (ts.take i)) (ht : ThIn tl' r t) (hdr : ts.drop i = t :: ts.drop (i + 1)) :
    CompEnd h₀ L m s₁ I oI C oC D (lst ys) (SrcAt h₀ nb vs) (fun y news' => ∃ tl, news' = tl ++ news ∧ (∀ p ∈ tl, ∀ q ∈ news, p.1 ≠ q.1) ∧ ThsIn tl (ys ++ [y]) (ts.take (i + 1))) r { s₁ with heap := h', toks := tk } := by
  refine CompEnd.intro F N (tl' ++ (tl ++ news)) ?_ (Off3.of fun q hq => ?_) (.inr ⟨_, List.mem_append_right _ (List.mem_append_right _ hm2), rfl, _, rfl⟩) ⟨tl' ++ tl, (List.append_assoc _ _ _).symm, ?_, ?_⟩
  · intro q hq
    simp only [List.mem_cons, List.mem_append] at hq ⊢
    rcases hq with h | h | h | h | h | h
    · exact .inr (.inl h)
    · exact .inr (.inr (.inl h))
    · exact .inr (.inr (.inr (.inl h)))
    · exact .inl h
    · exact .inr (.inr (.inr (.inr (.inl h))))
    · exact .inr (.inr (.inr (.inr (.inr h))))
  · rcases List.mem_append.mp hq with hq | hq
    · exact ⟨ha q hq _ (List.Mem.head _), ha q hq _ (List.Mem.tail _ (List.Mem.head _)), ha q hq _ (List.Mem.tail _ (List.Mem.tail _ (List.Mem.head _)))⟩
    · exact hoff.mem q hq
  · intro q hq r hr
    rcases List.mem_append.mp hq with hq | hq
    · exact ha q hq r (List.Mem.tail _ (List.Mem.tail _ (List.Mem.tail _ (List.mem_append_right _ hr))))
    · exact hap q hq r hr
  · rw [take_of_drop hdr]
    exact ThsIn.snoc (hths.mono fun q hq => List.mem_append_right _ hq) (ht.mono fun q hq => List.mem_append_left _ hq)
theorem ret_list {tl news : List (Addr × Obj)} {D : Addr} {ys : List Value} (hap : ∀ p ∈ tl, ∀ q ∈ news, p.1 ≠ q.1) (hoff1 : Off1 D (tl ++ news)) : Apart ((D, lst ys) :: tl) news := by
  intro q hq r hr
  rcases List.mem_cons.mp hq with rfl | hq
  · exact fun e => off1_ne hoff1 r (List.mem_append_right _ hr) e.symm
  · exact hap q hq r hr
theorem ret_tup {tl news : List (Addr × Obj)} {D T : Addr} {o : Obj} {ys : List Value} (hap : ∀ p ∈ tl, ∀ q ∈ news, p.1 ≠ q.1) (hoff1 : Off1 D (tl ++ news)) (hl : ∀ p ∈ (D, lst ys) :: (tl ++ news), p.1 < T) : Apart ((T, o) :: (D, lst ys) :: tl) news := by
  intro q hq r hr
  rcases List.mem_cons.mp hq with rfl | hq
  · exact Nat.ne_of_gt (hl r (List.Mem.tail _ (List.mem_append_right _ hr)))
  · exact ret_list hap hoff1 q hq r hr
set_option maxHeartbeats 4000000 in
theorem thing_step {w : World} {mean : ExcName → Option Value} {mg mb : Str → Option Value} (d : Tr) (IH : ∀ d' : Tr, d'.size < d.size → ThingTells w mean mg mb d') : ThingTells w mean mg mb d := by
  w_top off
  intro dp un gd cn cs a ccd cl outer A₀ base h₀ L m news s v Q E B F X N T hk hR hw hdp hun hret
  revert N X; k_fill; intro X N
  cases hR with
  | int =>
    refine wpAny_call ?_
    k_dflt ((refine' code_def ?k1 ?k2 ?k3 ?k4 ?k5 ?kA ?kF ?kK ?k6 ?k7 ?k8 ?k9 ?kB ?_ ?c2 ?c3 ?c4 ?c5; (case kA => exact rfl); (case kF => exact rfl); (case kK => assumption); (case k1 => k_asm); (case k2 => k_asm); (case k3 => k_asm); (case k4 => k_asm); (case k5 => k_asm); (case k6 => k_is); (case k7 => k_is); (case k8 => ktr_room); (case k9 => first | exact BindsTo.of_eq rfl | exact binds_K (by k_in) rfl (by k_is) rfl rfl rfl); (case c5 => decide); (case kB => exact locs rfl); (case c2 => exact rfl); (case c3 => exact rfl); (case c4 => exact rfl); k_whole; intro g' L' h' FG' F' N' B' X' T'; (try dsimp only); (try k_fold)))
    (repeat' (first | ((with_reducible show HoldN 2 _); refine HoldN.of ?_; (rename Fr _ _ _ _ => lF); (rename News _ _ _ _ => lN); refine kde_tupleOf lF lN (News.isList lN (List.Mem.head _)) (by simp only [List.size_toArray]; (first | lia | omega)) rfl ?_; intro D' h' F' N' l1; clear lF lN) | ((with_reducible show HoldN 1 _); refine HoldN.of ?_; (rename Fr _ _ _ _ => lF); (rename News _ _ _ _ => lN); (rename (∀ d' : Tr, _ → ThingTells _ _ _ _ d') => lI); (rename TrIn _ _ _ => lT); k_dflt (refine lI _ (by assumption) _ _ _ _ _ _ _ _ _ _ _ _ _ _ _ _ _ _ _ (by k_asm) lF (by k_asm) lN (by k_asm) (by exact rfl) lT (by assumption) (by ktr_room) (by ktr_units) ?_); intro r' tl' h' tk' F' N' ha' ht'; clear lF lN) | (k_unfold; (try dsimp only)) | (k_end; wrow_close) | ((with_reducible show wpAny _ _ (call (Value.ref _) _) _ _ _); (show wpAny _ _ (call (Value.ref 775) [_]) _ _ _); refine HoldN.mk 1 ?_) | ((with_reducible show wpAny _ _ (call (Value.type "tuple") _) _ _ _); refine HoldN.mk 2 ?_) | ((with_reducible show wpAny _ _ (subscriptTail _ _ _ _) _ _ _); (with_reducible show wpAny _ _ (subscriptTail _ _ (Value.ref _) (Value.int _ _)) _ _ _); (rename News _ _ _ _ => lN); first | ((with_reducible show wpAny _ _ (subscriptTail _ _ (Value.ref _) (Value.int 0 _)) _ _ _); refine' item_led0 lN ?k1 ?_ ?k6; (case k1 => with_reducible assumption); (case k6 => with_unfolding_all rfl); k_whole) | ((with_reducible show wpAny _ _ (subscriptTail _ _ (Value.ref _) (Value.int 1 _)) _ _ _); refine' item_led1 lN ?k1 ?_ ?k6; (case k1 => with_reducible assumption); (case k6 => with_unfolding_all rfl); k_whole)) | ((with_reducible show wpAny _ _ (exec (Stmt.Assign _ (Expr.ListComp ..) ..) _) _ _ _); k_dflt (refine LCg.Assign_ListComp_U (F₀ := by k_asm) (by rfl) (by with_unfolding_all rfl) (by rfl) (by decide) (by rfl) (by decide) (by rfl) (by rfl) (by rfl) ?_)) | walk1 | (dsimp only; first | ((with_reducible show wpAny _ _ (call (Value.ref _) _) _ _ _); (show wpAny _ _ (call (Value.ref 775) [_]) _ _ _); refine HoldN.mk 1 ?_) | ((with_reducible show wpAny _ _ (call (Value.type "tuple") _) _ _ _); refine HoldN.mk 2 ?_) | ((with_reducible show wpAny _ _ (subscriptTail _ _ _ _) _ _ _); (with_reducible show wpAny _ _ (subscriptTail _ _ (Value.ref _) (Value.int _ _)) _ _ _); (rename News _ _ _ _ => lN); first | ((with_reducible show wpAny _ _ (subscriptTail _ _ (Value.ref _) (Value.int 0 _)) _ _ _); refine' item_led0 lN ?k1 ?_ ?k6; (case k1 => with_reducible assumption); (case k6 => with_unfolding_all rfl); k_whole) | ((with_reducible show wpAny _ _ (subscriptTail _ _ (Value.ref _) (Value.int 1 _)) _ _ _); refine' item_led1 lN ?k1 ?_ ?k6; (case k1 => with_reducible assumption); (case k6 => with_unfolding_all rfl); k_whole)) | ((with_reducible show wpAny _ _ (exec (Stmt.Assign _ (Expr.ListComp ..) ..) _) _ _ _); k_dflt (refine LCg.Assign_ListComp_U (F₀ := by k_asm) (by rfl) (by with_unfolding_all rfl) (by rfl) (by decide) (by rfl) (by decide) (by rfl) (by rfl) (by rfl) ?_))) | (dsimp only; walk1) | (leave1; walk_say "STEP leave1"; try dsimp only) | fail "no step"))
    (show Q _ _); (rename News h₀ L _ _ => kN9); (rename Fr h₀ L _ m => kF9); exact hret _ [] _ _ kF9 kN9 (fun _ h => nomatch h) (by constructor)
  | str =>
    refine wpAny_call ?_
    k_dflt ((refine' code_def ?k1 ?k2 ?k3 ?k4 ?k5 ?kA ?kF ?kK ?k6 ?k7 ?k8 ?k9 ?kB ?_ ?c2 ?c3 ?c4 ?c5; (case kA => exact rfl); (case kF => exact rfl); (case kK => assumption); (case k1 => k_asm); (case k2 => k_asm); (case k3 => k_asm); (case k4 => k_asm); (case k5 => k_asm); (case k6 => k_is); (case k7 => k_is); (case k8 => ktr_room); (case k9 => first | exact BindsTo.of_eq rfl | exact binds_K (by k_in) rfl (by k_is) rfl rfl rfl); (case c5 => decide); (case kB => exact locs rfl); (case c2 => exact rfl); (case c3 => exact rfl); (case c4 => exact rfl); k_whole; intro g' L' h' FG' F' N' B' X' T'; (try dsimp only); (try k_fold)))
    (repeat' (first | ((with_reducible show HoldN 2 _); refine HoldN.of ?_; (rename Fr _ _ _ _ => lF); (rename News _ _ _ _ => lN); refine kde_tupleOf lF lN (News.isList lN (List.Mem.head _)) (by simp only [List.size_toArray]; (first | lia | omega)) rfl ?_; intro D' h' F' N' l1; clear lF lN) | ((with_reducible show HoldN 1 _); refine HoldN.of ?_; (rename Fr _ _ _ _ => lF); (rename News _ _ _ _ => lN); (rename (∀ d' : Tr, _ → ThingTells _ _ _ _ d') => lI); (rename TrIn _ _ _ => lT); k_dflt (refine lI _ (by assumption) _ _ _ _ _ _ _ _ _ _ _ _ _ _ _ _ _ _ _ (by k_asm) lF (by k_asm) lN (by k_asm) (by exact rfl) lT (by assumption) (by ktr_room) (by ktr_units) ?_); intro r' tl' h' tk' F' N' ha' ht'; clear lF lN) | (k_unfold; (try dsimp only)) | (k_end; wrow_close) | ((with_reducible show wpAny _ _ (call (Value.ref _) _) _ _ _); (show wpAny _ _ (call (Value.ref 775) [_]) _ _ _); refine HoldN.mk 1 ?_) | ((with_reducible show wpAny _ _ (call (Value.type "tuple") _) _ _ _); refine HoldN.mk 2 ?_) | ((with_reducible show wpAny _ _ (subscriptTail _ _ _ _) _ _ _); (with_reducible show wpAny _ _ (subscriptTail _ _ (Value.ref _) (Value.int _ _)) _ _ _); (rename News _ _ _ _ => lN); first | ((with_reducible show wpAny _ _ (subscriptTail _ _ (Value.ref _) (Value.int 0 _)) _ _ _); refine' item_led0 lN ?k1 ?_ ?k6; (case k1 => with_reducible assumption); (case k6 => with_unfolding_all rfl); k_whole) | ((with_reducible show wpAny _ _ (subscriptTail _ _ (Value.ref _) (Value.int 1 _)) _ _ _); refine' item_led1 lN ?k1 ?_ ?k6; (case k1 => with_reducible assumption); (case k6 => with_unfolding_all rfl); k_whole)) | ((with_reducible show wpAny _ _ (exec (Stmt.Assign _ (Expr.ListComp ..) ..) _) _ _ _); k_dflt (refine LCg.Assign_ListComp_U (F₀ := by k_asm) (by rfl) (by with_unfolding_all rfl) (by rfl) (by decide) (by rfl) (by decide) (by rfl) (by rfl) (by rfl) ?_)) | walk1 | (dsimp only; first | ((with_reducible show wpAny _ _ (call (Value.ref _) _) _ _ _); (show wpAny _ _ (call (Value.ref 775) [_]) _ _ _); refine HoldN.mk 1 ?_) | ((with_reducible show wpAny _ _ (call (Value.type "tuple") _) _ _ _); refine HoldN.mk 2 ?_) | ((with_reducible show wpAny _ _ (subscriptTail _ _ _ _) _ _ _); (with_reducible show wpAny _ _ (subscriptTail _ _ (Value.ref _) (Value.int _ _)) _ _ _); (rename News _ _ _ _ => lN); first | ((with_reducible show wpAny _ _ (subscriptTail _ _ (Value.ref _) (Value.int 0 _)) _ _ _); refine' item_led0 lN ?k1 ?_ ?k6; (case k1 => with_reducible assumption); (case k6 => with_unfolding_all rfl); k_whole) | ((with_reducible show wpAny _ _ (subscriptTail _ _ (Value.ref _) (Value.int 1 _)) _ _ _); refine' item_led1 lN ?k1 ?_ ?k6; (case k1 => with_reducible assumption); (case k6 => with_unfolding_all rfl); k_whole)) | ((with_reducible show wpAny _ _ (exec (Stmt.Assign _ (Expr.ListComp ..) ..) _) _ _ _); k_dflt (refine LCg.Assign_ListComp_U (F₀ := by k_asm) (by rfl) (by with_unfolding_all rfl) (by rfl) (by decide) (by rfl) (by decide) (by rfl) (by rfl) (by rfl) ?_))) | (dsimp only; walk1) | (leave1; walk_say "STEP leave1"; try dsimp only) | fail "no step"))
    (show Q _ _); (rename News h₀ L _ _ => kN9); (rename Fr h₀ L _ m => kF9); exact hret _ [] _ _ kF9 kN9 (fun _ h => nomatch h) (by constructor)
  | @node na nb nk nt n1 n2 vs ts hm1 hm2 hts =>
    refine wpAny_call ?_
    k_dflt ((refine' code_def ?k1 ?k2 ?k3 ?k4 ?k5 ?kA ?kF ?kK ?k6 ?k7 ?k8 ?k9 ?kB ?_ ?c2 ?c3 ?c4 ?c5; (case kA => exact rfl); (case kF => exact rfl); (case kK => assumption); (case k1 => k_asm); (case k2 => k_asm); (case k3 => k_asm); (case k4 => k_asm); (case k5 => k_asm); (case k6 => k_is); (case k7 => k_is); (case k8 => ktr_room); (case k9 => first | exact BindsTo.of_eq rfl | exact binds_K (by k_in) rfl (by k_is) rfl rfl rfl); (case c5 => decide); (case kB => exact locs rfl); (case c2 => exact rfl); (case c3 => exact rfl); (case c4 => exact rfl); k_whole; intro g' L' h' FG' F' N' B' X' T'; (try dsimp only); (try k_fold)))
    iterate 23 (first | (k_unfold; (try dsimp only)) | ((with_reducible show wpAny _ _ (call (Value.ref _) _) _ _ _); (show wpAny _ _ (call (Value.ref 775) [_]) _ _ _); refine HoldN.mk 1 ?_) | ((with_reducible show wpAny _ _ (call (Value.type "tuple") _) _ _ _); refine HoldN.mk 2 ?_) | ((with_reducible show wpAny _ _ (subscriptTail _ _ _ _) _ _ _); (with_reducible show wpAny _ _ (subscriptTail _ _ (Value.ref _) (Value.int _ _)) _ _ _); (rename News _ _ _ _ => lN); first | ((with_reducible show wpAny _ _ (subscriptTail _ _ (Value.ref _) (Value.int 0 _)) _ _ _); refine' item_led0 lN ?k1 ?_ ?k6; (case k1 => with_reducible assumption); (case k6 => with_unfolding_all rfl); k_whole) | ((with_reducible show wpAny _ _ (subscriptTail _ _ (Value.ref _) (Value.int 1 _)) _ _ _); refine' item_led1 lN ?k1 ?_ ?k6; (case k1 => with_reducible assumption); (case k6 => with_unfolding_all rfl); k_whole)) | ((with_reducible show wpAny _ _ (exec (Stmt.Assign _ (Expr.ListComp ..) ..) _) _ _ _); k_dflt (refine LCg.Assign_ListComp_U (F₀ := by k_asm) (by rfl) (by with_unfolding_all rfl) (by rfl) (by decide) (by rfl) (by decide) (by rfl) (by rfl) (by rfl) ?_)) | walk1 | (dsimp only; first | ((with_reducible show wpAny _ _ (call (Value.ref _) _) _ _ _); (show wpAny _ _ (call (Value.ref 775) [_]) _ _ _); refine HoldN.mk 1 ?_) | ((with_reducible show wpAny _ _ (call (Value.type "tuple") _) _ _ _); refine HoldN.mk 2 ?_) | ((with_reducible show wpAny _ _ (subscriptTail _ _ _ _) _ _ _); (with_reducible show wpAny _ _ (subscriptTail _ _ (Value.ref _) (Value.int _ _)) _ _ _); (rename News _ _ _ _ => lN); first | ((with_reducible show wpAny _ _ (subscriptTail _ _ (Value.ref _) (Value.int 0 _)) _ _ _); refine' item_led0 lN ?k1 ?_ ?k6; (case k1 => with_reducible assumption); (case k6 => with_unfolding_all rfl); k_whole) | ((with_reducible show wpAny _ _ (subscriptTail _ _ (Value.ref _) (Value.int 1 _)) _ _ _); refine' item_led1 lN ?k1 ?_ ?k6; (case k1 => with_reducible assumption); (case k6 => with_unfolding_all rfl); k_whole)) | ((with_reducible show wpAny _ _ (exec (Stmt.Assign _ (Expr.ListComp ..) ..) _) _ _ _); k_dflt (refine LCg.Assign_ListComp_U (F₀ := by k_asm) (by rfl) (by with_unfolding_all rfl) (by rfl) (by decide) (by rfl) (by decide) (by rfl) (by rfl) (by rfl) ?_))) | (dsimp only; walk1))
    rename Fr _ _ _ _ => F1
    rename News _ _ _ _ => N1
    simp only [Tr.dep] at hdp hun
    simp only [Tr.wide] at hw
    obtain ⟨hnk, htl, hws⟩ := hw
    have hvl : vs.size = ts.length := by have := hts.len; simpa using this
    refine CompSrc.ledger rfl F1 N1 hm2 (by rw [sizeLine_eq]; (first | lia | omega)) fun g9 => ?_
    refine compU_ind vs.size (fun i ys news' => ∃ tl, news' = tl ++ news ∧ (∀ p ∈ tl, ∀ q ∈ news, p.1 ≠ q.1) ∧ ThsIn tl ys (ts.take i)) ?step ?fin vs.size 0 [] _ (Nat.zero_add _) ⟨[], rfl, (fun _ h => nomatch h), .nil⟩
    case step =>
      clear F1 N1
      rintro i ys news' v hi hv ⟨tl, rfl, hap, hths⟩ I oI C oC D m₂ h9 tk9 E' hC hx1 F' N' hoff hne3
      obtain ⟨t, hti, hdr⟩ := TrsIn.at hts (by simpa using hv)
      have htm : t ∈ ts := List.mem_of_mem_drop (i := i) (by rw [hdr]; exact List.Mem.head _)
      have hlt : t.size < (Tr.node nk ts).size := by have := size_mem htm; simp only [Tr.size]; (first | lia | omega)
      have hwt := wide_mem hws htm
      have hdt := dep_mem htm
      have hti' : TrIn ((I, oI) :: (C, oC) :: (D, lst ys) :: (tl ++ news)) v t := hti.mono fun q hq => List.Mem.tail _ (List.Mem.tail _ (List.Mem.tail _ (List.mem_append_right _ hq)))
      (repeat' (first | ((with_reducible show HoldN 2 _); refine HoldN.of ?_; (rename Fr _ _ _ _ => lF); (rename News _ _ _ _ => lN); refine kde_tupleOf lF lN (News.isList lN (List.Mem.head _)) (by simp only [List.size_toArray]; (first | lia | omega)) rfl ?_; intro D' h' F' N' l1; clear lF lN) | ((with_reducible show HoldN 1 _); refine HoldN.of ?_; (rename Fr _ _ _ _ => lF); (rename News _ _ _ _ => lN); (rename (∀ d' : Tr, _ → ThingTells _ _ _ _ d') => lI); (rename TrIn _ _ _ => lT); k_dflt (refine lI _ (by assumption) _ _ _ _ _ _ _ _ _ _ _ _ _ _ _ _ _ _ _ (by k_asm) lF (by k_asm) lN (by k_asm) (by exact rfl) lT (by assumption) (by ktr_room) (by ktr_units) ?_); intro r' tl' h' tk' F' N' ha' ht'; clear lF lN) | (k_unfold; (try dsimp only)) | (k_end; wrow_close) | ((with_reducible show wpAny _ _ (call (Value.ref _) _) _ _ _); (show wpAny _ _ (call (Value.ref 775) [_]) _ _ _); refine HoldN.mk 1 ?_) | ((with_reducible show wpAny _ _ (call (Value.type "tuple") _) _ _ _); refine HoldN.mk 2 ?_) | ((with_reducible show wpAny _ _ (subscriptTail _ _ _ _) _ _ _); (with_reducible show wpAny _ _ (subscriptTail _ _ (Value.ref _) (Value.int _ _)) _ _ _); (rename News _ _ _ _ => lN); first | ((with_reducible show wpAny _ _ (subscriptTail _ _ (Value.ref _) (Value.int 0 _)) _ _ _); refine' item_led0 lN ?k1 ?_ ?k6; (case k1 => with_reducible assumption); (case k6 => with_unfolding_all rfl); k_whole) | ((with_reducible show wpAny _ _ (subscriptTail _ _ (Value.ref _) (Value.int 1 _)) _ _ _); refine' item_led1 lN ?k1 ?_ ?k6; (case k1 => with_reducible assumption); (case k6 => with_unfolding_all rfl); k_whole)) | ((with_reducible show wpAny _ _ (exec (Stmt.Assign _ (Expr.ListComp ..) ..) _) _ _ _); k_dflt (refine LCg.Assign_ListComp_U (F₀ := by k_asm) (by rfl) (by with_unfolding_all rfl) (by rfl) (by decide) (by rfl) (by decide) (by rfl) (by rfl) (by rfl) ?_)) | walk1 | (dsimp only; first | ((with_reducible show wpAny _ _ (call (Value.ref _) _) _ _ _); (show wpAny _ _ (call (Value.ref 775) [_]) _ _ _); refine HoldN.mk 1 ?_) | ((with_reducible show wpAny _ _ (call (Value.type "tuple") _) _ _ _); refine HoldN.mk 2 ?_) | ((with_reducible show wpAny _ _ (subscriptTail _ _ _ _) _ _ _); (with_reducible show wpAny _ _ (subscriptTail _ _ (Value.ref _) (Value.int _ _)) _ _ _); (rename News _ _ _ _ => lN); first | ((with_reducible show wpAny _ _ (subscriptTail _ _ (Value.ref _) (Value.int 0 _)) _ _ _); refine' item_led0 lN ?k1 ?_ ?k6; (case k1 => with_reducible assumption); (case k6 => with_unfolding_all rfl); k_whole) | ((with_reducible show wpAny _ _ (subscriptTail _ _ (Value.ref _) (Value.int 1 _)) _ _ _); refine' item_led1 lN ?k1 ?_ ?k6; (case k1 => with_reducible assumption); (case k6 => with_unfolding_all rfl); k_whole)) | ((with_reducible show wpAny _ _ (exec (Stmt.Assign _ (Expr.ListComp ..) ..) _) _ _ _); k_dflt (refine LCg.Assign_ListComp_U (F₀ := by k_asm) (by rfl) (by with_unfolding_all rfl) (by rfl) (by decide) (by rfl) (by decide) (by rfl) (by rfl) (by rfl) ?_))) | (dsimp only; walk1) | (leave1; walk_say "STEP leave1"; try dsimp only) | fail "no step"))
      (rename ThIn _ _ _ => ht9); (rename News _ _ _ _ => kN9); (rename Fr _ _ _ _ => kF9); (rename Apart _ _ => ha9)
      exact comp_close kF9 kN9 ha9 hoff hm2 hap hths ht9 hdr
    case fin =>
      clear F1 N1
      rintro ys news' ⟨tl, rfl, hap, hths⟩
      intro D h9 tk9 F' N' hoff1
      have hm1' : (na, listO #[.int nk nt, .ref nb] n1) ∈ (D, lst ys) :: (tl ++ news) := List.Mem.tail _ (List.mem_append_right _ hm1)
      have hths' : ThsIn tl ys ts := by rw [hvl, List.take_length] at hths; exact hths
      have hyz : ys.length ≤ 100 := by have := hths'.len; (first | lia | omega)
      (repeat' (first | ((with_reducible show HoldN 2 _); refine HoldN.of ?_; (rename Fr _ _ _ _ => lF); (rename News _ _ _ _ => lN); refine kde_tupleOf lF lN (News.isList lN (List.Mem.head _)) (by simp only [List.size_toArray]; (first | lia | omega)) rfl ?_; intro D' h' F' N' l1; clear lF lN) | ((with_reducible show HoldN 1 _); refine HoldN.of ?_; (rename Fr _ _ _ _ => lF); (rename News _ _ _ _ => lN); (rename (∀ d' : Tr, _ → ThingTells _ _ _ _ d') => lI); (rename TrIn _ _ _ => lT); k_dflt (refine lI _ (by assumption) _ _ _ _ _ _ _ _ _ _ _ _ _ _ _ _ _ _ _ (by k_asm) lF (by k_asm) lN (by k_asm) (by exact rfl) lT (by assumption) (by ktr_room) (by ktr_units) ?_); intro r' tl' h' tk' F' N' ha' ht'; clear lF lN) | (k_unfold; (try dsimp only)) | (k_end; wrow_close) | ((with_reducible show wpAny _ _ (call (Value.ref _) _) _ _ _); (show wpAny _ _ (call (Value.ref 775) [_]) _ _ _); refine HoldN.mk 1 ?_) | ((with_reducible show wpAny _ _ (call (Value.type "tuple") _) _ _ _); refine HoldN.mk 2 ?_) | ((with_reducible show wpAny _ _ (subscriptTail _ _ _ _) _ _ _); (with_reducible show wpAny _ _ (subscriptTail _ _ (Value.ref _) (Value.int _ _)) _ _ _); (rename News _ _ _ _ => lN); first | ((with_reducible show wpAny _ _ (subscriptTail _ _ (Value.ref _) (Value.int 0 _)) _ _ _); refine' item_led0 lN ?k1 ?_ ?k6; (case k1 => with_reducible assumption); (case k6 => with_unfolding_all rfl); k_whole) | ((with_reducible show wpAny _ _ (subscriptTail _ _ (Value.ref _) (Value.int 1 _)) _ _ _); refine' item_led1 lN ?k1 ?_ ?k6; (case k1 => with_reducible assumption); (case k6 => with_unfolding_all rfl); k_whole)) | ((with_reducible show wpAny _ _ (exec (Stmt.Assign _ (Expr.ListComp ..) ..) _) _ _ _); k_dflt (refine LCg.Assign_ListComp_U (F₀ := by k_asm) (by rfl) (by with_unfolding_all rfl) (by rfl) (by decide) (by rfl) (by decide) (by rfl) (by rfl) (by rfl) ?_)) | walk1 | (dsimp only; first | ((with_reducible show wpAny _ _ (call (Value.ref _) _) _ _ _); (show wpAny _ _ (call (Value.ref 775) [_]) _ _ _); refine HoldN.mk 1 ?_) | ((with_reducible show wpAny _ _ (call (Value.type "tuple") _) _ _ _); refine HoldN.mk 2 ?_) | ((with_reducible show wpAny _ _ (subscriptTail _ _ _ _) _ _ _); (with_reducible show wpAny _ _ (subscriptTail _ _ (Value.ref _) (Value.int _ _)) _ _ _); (rename News _ _ _ _ => lN); first | ((with_reducible show wpAny _ _ (subscriptTail _ _ (Value.ref _) (Value.int 0 _)) _ _ _); refine' item_led0 lN ?k1 ?_ ?k6; (case k1 => with_reducible assumption); (case k6 => with_unfolding_all rfl); k_whole) | ((with_reducible show wpAny _ _ (subscriptTail _ _ (Value.ref _) (Value.int 1 _)) _ _ _); refine' item_led1 lN ?k1 ?_ ?k6; (case k1 => with_reducible assumption); (case k6 => with_unfolding_all rfl); k_whole)) | ((with_reducible show wpAny _ _ (exec (Stmt.Assign _ (Expr.ListComp ..) ..) _) _ _ _); k_dflt (refine LCg.Assign_ListComp_U (F₀ := by k_asm) (by rfl) (by with_unfolding_all rfl) (by rfl) (by decide) (by rfl) (by decide) (by rfl) (by rfl) (by rfl) ?_))) | (dsimp only; walk1) | (leave1; walk_say "STEP leave1"; try dsimp only) | fail "no step"))
      · (show Q _ _); (rename News h₀ L _ _ => kN9); (rename Fr h₀ L _ m => kF9)
        (rename ((nk : Int) = 1) => he9); (have hn9 : nk = 1 := by (first | lia | omega)); subst hn9
        (rename (∀ p ∈ (D, lst ys) :: (tl ++ news), p.1 < _) => hl9)
        exact hret _ (_ :: (D, lst ys) :: tl) _ _ kF9 kN9 (ret_tup hap hoff1 hl9) (.tuple (List.Mem.head _) (hths'.mono fun q hq => List.Mem.tail _ (List.Mem.tail _ hq)))
      · (show Q _ _); (rename News h₀ L _ _ => kN9); (rename Fr h₀ L _ m => kF9)
        (rename ((nk : Int) ≠ 1) => he9); (have hn9 : nk = 0 := by (first | lia | omega)); subst hn9
        exact hret _ ((D, lst ys) :: tl) _ _ kF9 kN9 (ret_list hap hoff1) (.list (List.Mem.head _) (hths'.mono fun q hq => List.Mem.tail _ hq))
theorem c_thing {w : World} {mean : ExcName → Option Value} {mg mb : Str → Option Value} : ∀ d : Tr, ThingTells w mean mg mb d := by
  have all : ∀ n, ∀ d : Tr, d.size < n → ThingTells w mean mg mb d := by
    intro n
    induction n with
    | zero => intro d h; exact absurd h (Nat.not_lt_zero _)
    | succ n ih => exact fun d h => thing_step d fun d' h' => ih d' (Nat.lt_of_lt_of_le h' (Nat.le_of_lt_succ h))
  exact fun d => all _ d (Nat.lt_succ_self _)
end Mine
end
section
open PySem PySem.W PyProof.Rows PySem.Calls
section
open PySem PySem.W PyProof.Rows PySem.Calls
open PyProof.Rows.LCg PyProof.Rows.LCp
set_option maxHeartbeats 1000000
namespace Mine
theorem len_led {prog : Program} {w : World} {A : Around} {E : Value → Shared → Prop} {s : Shared} {h₀ : Heap} {L l : Addr} {news : List (Addr × Obj)} {vs : Array Value} {n : Nat} {Q : Value → Shared → Prop} (N : News h₀ L s.heap news) (hm : (l, listO vs n) ∈ news) (hz : vs.size ≤ 100000) (h : ∀ t k, Q (.int vs.size t) { s with toks := k }) : wpAny (model prog w) A (call (.builtin "len") [.ref l]) Q E s :=
  call_len_list (News.isList N hm) (by (first | lia | omega)) (h _ _)
theorem ext_head {prog : Program} {w : World} {A : Around} {E : Value → Shared → Prop} {s : Shared} {h₀ : Heap} {L D b : Addr} {m : Str → Option Value} {its its2 : Array Value} {n n2 : Nat} {rest news : List (Addr × Obj)} {Q : Value → Shared → Prop}
    (F : Fr h₀ L s.heap m) (N : News h₀ L s.heap news) (hD : (D, listO its n) ∈ news) (hs : ∀ p ∈ rest, p ∈ news) (hap : ∀ p ∈ rest, p.1 ≠ D) (hb : (b, listO its2 n2) ∈ news) (hsz : its.size + its2.size ≤ 100000)
    (h : ∀ h' n', Fr h₀ L h' m → News h₀ L h' ((D, listO (its ++ its2) n') :: rest) → Q .none { s with heap := h' }) :
    wpAny (model prog w) A (call (.builtin "list.extend") [.ref D, .ref b]) Q E s := by
  have N2 : News h₀ L s.heap ([] ++ (D, { cls := .type "list", data := .seq its.toList.toArray n }) :: rest) := fun p hp => by
    rcases List.mem_cons.mp hp with rfl | hp
    · exact N _ hD
    · exact N p (hs p hp)
  refine extend_in (own := []) F N2 (fun _ h => nomatch h) hap (N _ hb).1 (fun h' n' F' N' => h h' n' F' ?_) (by rw [sizeLine_eq, Array.length_toList]; (first | lia | omega))
  have e : (its.toList ++ its2.toList).toArray = its ++ its2 := by simp
  rw [e] at N'
  exact N'
theorem q39 : Str.ofString "'" = ⟨#[39]⟩ := by decide +kernel
theorem qmark_no {x : Str} (h : (Builtin.Str.occurrences x (Str.ofString "'") 0 x.length 1).isEmpty = true) : qmark x = Str.ofString "'" := by
  unfold qmark
  rw [if_neg]
  intro hm
  have := yes_in hm
  rw [q39] at h; rw [h] at this; cases this
theorem qmark_yes {x : Str} (h : (Builtin.Str.occurrences x (Str.ofString "'") 0 x.length 1).isEmpty = false) : qmark x = Str.ofString "\"" := by
  unfold qmark
  rw [if_pos]
  refine Classical.byContradiction fun hm => ?_
  have := no_in hm
  rw [q39] at h; rw [h] at this; cases this
theorem apart2 {D l : Addr} {o o' : Obj} {news : List (Addr × Obj)} (h1 : ∀ p ∈ news, p.1 < D) (h2 : D < l ∧ AllLt l news) : Apart [(l, o), (D, o')] news := by
  have hdl : @LT.lt Nat _ D l := h2.1
  intro p hp q hq
  have := h1 q hq
  simp only [List.mem_cons, List.not_mem_nil, or_false] at hp
  rcases hp with rfl | rfl
  · exact Nat.ne_of_gt (Nat.lt_trans this hdl)
  · exact Nat.ne_of_gt this
theorem openP_at (k : Nat) (h : k ≤ 1) : openP k = (Str.ofString "", Txt.item (Str.ofString "[(") k) := by
  have : k = 0 ∨ k = 1 := by (first | lia | omega)
  rcases this with rfl | rfl
  · exact congrArg (fun z => (Str.ofString "", z)) (show Str.ofString "[" = Txt.item (Str.ofString "[(") ((0 : Nat) : Int) from by decide +kernel)
  · exact congrArg (fun z => (Str.ofString "", z)) (show Str.ofString "(" = Txt.item (Str.ofString "[(") ((1 : Nat) : Int) from by decide +kernel)
structure PieS where
  pvs : Array Value
  n : Nat
  tl : List (Addr × Obj)
structure PieP (k : Nat) (ts : List Tr) (news : List (Addr × Obj)) (l : Addr) (i : Nat) (c : PieS) : Prop where
  ex : ∃ t0, c.tl = t0 ++ news ∧ (∀ p ∈ t0, ∀ q ∈ news, p.1 ≠ q.1) ∧ PcsIn t0 c.pvs.toList (openP k :: piecesOfs (ts.take i) 0)
  ne : ∀ p ∈ c.tl, p.1 ≠ l
theorem pie_len {k : Nat} {ts : List Tr} {i : Nat} : (openP k :: piecesOfs (ts.take i) 0).length ≤ (piecesOf (.node k ts)).length := by
  have key : ∀ (ts : List Tr) (i j : Nat), (piecesOfs (ts.take i) j).length ≤ (piecesOfs ts j).length := by
    intro ts
    induction ts with
    | nil => intro i j; simp
    | cons t r ih =>
      intro i j
      cases i with
      | zero => simp [piecesOfs]
      | succ i => have := ih i (j + 1); simp only [List.take_succ_cons, piecesOfs, List.length_append]; (first | lia | omega)
  have := key ts i 0
  simp only [piecesOf, List.length_cons, List.length_append]
  (first | lia | omega)
theorem pie_child {k : Nat} {ts : List Tr} {t : Tr} (h : t ∈ ts) : (piecesOf t).length ≤ (piecesOf (.node k ts)).length := by
  have key : ∀ (ts : List Tr) (j : Nat), t ∈ ts → (piecesOf t).length ≤ (piecesOfs ts j).length := by
    intro ts
    induction ts with
    | nil => intro j h; cases h
    | cons s r ih =>
      intro j h
      simp only [piecesOfs, List.length_append]
      rcases List.mem_cons.mp h with rfl | h
      · (first | lia | omega)
      · have := ih (j + 1) h; (first | lia | omega)
  have := key ts 0 h
  simp only [piecesOf, List.length_cons, List.length_append]
  (first | lia | omega)
theorem allLt_mem {d : Nat} {l : List (Addr × Obj)} (h : AllLt d l) : ∀ p ∈ l, @LT.lt Nat _ p.1 d := by
  induction l with
  | nil => intro p hp; cases hp
  | cons a r ih =>
    intro p hp
    rcases List.mem_cons.mp hp with rfl | hp
    · exact h.1
    · exact ih h.2 p hp
theorem shut_at (k : Nat) (h : k ≤ 1) : (if k = 1 then Str.ofString ")" else Str.ofString "]") = Txt.item (Str.ofString "])") k := by
  have : k = 0 ∨ k = 1 := by (first | lia | omega)
  rcases this with rfl | rfl
  · exact (show Str.ofString "]" = Txt.item (Str.ofString "])") ((0 : Nat) : Int) from by decide +kernel)
  · exact (show Str.ofString ")" = Txt.item (Str.ofString "])") ((1 : Nat) : Int) from by decide +kernel)
theorem pie_step1 {k i n' : Nat} {ts : List Tr} {t : Tr} {t0 tl news : List (Addr × Obj)} {l D I : Addr} {o oI : Obj} {pvs vs' : Array Value} {t1 t2 : Tok}
    (hap0 : ∀ p ∈ t0, ∀ q ∈ news, p.1 ≠ q.1) (hne : ∀ p ∈ t0 ++ news, p.1 ≠ l) (hpc : PcsIn t0 pvs.toList (openP k :: piecesOfs (ts.take i) 0)) (hdr : ts.drop i = t :: ts.drop (i + 1)) (hi0 : 0 < (i : Int)) (hil : i < ts.length)
    (ha : Apart tl ((D, tupO #[.str (Str.ofString "") t1, .str (Str.ofString ", ") t2]) :: (I, oI) :: (l, o) :: (t0 ++ news))) (hD : I < D ∧ l < D ∧ AllLt D (t0 ++ news)) (hp : PcsIn tl vs'.toList (piecesOf t)) :
    PieP k ts news l (i + 1) ⟨pvs.push (.ref D) ++ vs', n', tl ++ (D, tupO #[.str (Str.ofString "") t1, .str (Str.ofString ", ") t2]) :: (t0 ++ news)⟩ := by
  have hlD : @LT.lt Nat _ l D := hD.2.1
  refine ⟨⟨tl ++ (D, tupO #[.str (Str.ofString "") t1, .str (Str.ofString ", ") t2]) :: t0, by simp, ?_, ?_⟩, ?_⟩
  · intro p hp q hq
    rcases List.mem_append.mp hp with hp | hp
    · exact ha p hp q (List.Mem.tail _ (List.Mem.tail _ (List.Mem.tail _ (List.mem_append_right _ hq))))
    · rcases List.mem_cons.mp hp with rfl | hp
      · exact Nat.ne_of_gt (allLt_mem hD.2.2 q (List.mem_append_right _ hq))
      · exact hap0 p hp q hq
  · have e : openP k :: piecesOfs (ts.take (i + 1)) 0 = ((openP k :: piecesOfs (ts.take i) 0) ++ [(Str.ofString "", Str.ofString ", ")]) ++ piecesOf t := by
      rw [take_of_drop hdr, piecesOfs_snoc, List.length_take, Nat.min_eq_left (Nat.le_of_lt hil)]
      have : commaP (0 + i) = [(Str.ofString "", Str.ofString ", ")] := by unfold commaP; rw [if_neg (by (first | lia | omega))]
      rw [this]; simp
    rw [e, Array.toList_append, Array.toList_push]
    refine PcsIn.append (PcsIn.snoc (hpc.mono fun p hp => List.mem_append_right _ (List.Mem.tail _ hp)) (List.mem_append_right _ (List.Mem.head _))) (hp.mono fun p hp => List.mem_append_left _ hp)
  · intro p hp
    rcases List.mem_append.mp hp with hp | hp
    · exact ha p hp (l, o) (List.Mem.tail _ (List.Mem.tail _ (List.Mem.head _)))
    · rcases List.mem_cons.mp hp with rfl | hp
      · exact Nat.ne_of_gt hlD
      · exact hne p hp
theorem pie_step2 {k i n' : Nat} {ts : List Tr} {t : Tr} {t0 tl news : List (Addr × Obj)} {l I : Addr} {o oI : Obj} {pvs vs' : Array Value}
    (hap0 : ∀ p ∈ t0, ∀ q ∈ news, p.1 ≠ q.1) (hne : ∀ p ∈ t0 ++ news, p.1 ≠ l) (hpc : PcsIn t0 pvs.toList (openP k :: piecesOfs (ts.take i) 0)) (hdr : ts.drop i = t :: ts.drop (i + 1)) (hi0 : ¬ 0 < (i : Int))
    (ha : Apart tl ((I, oI) :: (l, o) :: (t0 ++ news))) (hp : PcsIn tl vs'.toList (piecesOf t)) :
    PieP k ts news l (i + 1) ⟨pvs ++ vs', n', tl ++ (t0 ++ news)⟩ := by
  refine ⟨⟨tl ++ t0, by simp, ?_, ?_⟩, ?_⟩
  · intro p hp q hq
    rcases List.mem_append.mp hp with hp | hp
    · exact ha p hp q (List.Mem.tail _ (List.Mem.tail _ (List.mem_append_right _ hq)))
    · exact hap0 p hp q hq
  · have e : openP k :: piecesOfs (ts.take (i + 1)) 0 = (openP k :: piecesOfs (ts.take i) 0) ++ piecesOf t := by
      have h0 : i = 0 := by (first | lia | omega)
      subst h0
      rw [take_of_drop hdr, piecesOfs_snoc]
      simp [commaP]
    rw [e, Array.toList_append]
    exact PcsIn.append (hpc.mono fun p hp => List.mem_append_right _ hp) (hp.mono fun p hp => List.mem_append_left _ hp)
  · intro p hp
    rcases List.mem_append.mp hp with hp | hp
    · exact ha p hp (l, o) (List.Mem.tail _ (List.Mem.head _))
    · exact hne p hp
theorem pie_mem1 {tl T : List (Addr × Obj)} {d i l : Addr × Obj} : ∀ p ∈ tl ++ d :: i :: T, p ∈ tl ++ d :: i :: l :: T := by
  intro p hp
  rcases List.mem_append.mp hp with hp | hp
  · exact List.mem_append_left _ hp
  · refine List.mem_append_right _ ?_
    rcases List.mem_cons.mp hp with rfl | hp
    · exact List.Mem.head _
    rcases List.mem_cons.mp hp with rfl | hp
    · exact List.Mem.tail _ (List.Mem.head _)
    · exact List.Mem.tail _ (List.Mem.tail _ (List.Mem.tail _ hp))
theorem pie_mem2 {tl T : List (Addr × Obj)} {i l : Addr × Obj} : ∀ p ∈ tl ++ i :: T, p ∈ tl ++ i :: l :: T := by
  intro p hp
  rcases List.mem_append.mp hp with hp | hp
  · exact List.mem_append_left _ hp
  · refine List.mem_append_right _ ?_
    rcases List.mem_cons.mp hp with rfl | hp
    · exact List.Mem.head _
    · exact List.Mem.tail _ (List.Mem.tail _ hp)
theorem pie_ap1 {tl T : List (Addr × Obj)} {D I l : Addr} {od oI o : Obj} (ha : Apart tl ((D, od) :: (I, oI) :: (l, o) :: T)) (hd : I < D ∧ l < D ∧ AllLt D T) (hi : I ≠ l) (hT : ∀ p ∈ T, p.1 ≠ l) : ∀ p ∈ tl ++ (D, od) :: (I, oI) :: T, p.1 ≠ l := by
  have hlD : @LT.lt Nat _ l D := hd.2.1
  intro p hp
  rcases List.mem_append.mp hp with hp | hp
  · exact ha p hp (l, o) (List.Mem.tail _ (List.Mem.tail _ (List.Mem.head _)))
  · rcases List.mem_cons.mp hp with rfl | hp
    · exact Nat.ne_of_gt hlD
    rcases List.mem_cons.mp hp with rfl | hp
    · exact hi
    · exact hT p hp
theorem pie_ap2 {tl T : List (Addr × Obj)} {I l : Addr} {oI o : Obj} (ha : Apart tl ((I, oI) :: (l, o) :: T)) (hi : I ≠ l) (hT : ∀ p ∈ T, p.1 ≠ l) : ∀ p ∈ tl ++ (I, oI) :: T, p.1 ≠ l := by
  intro p hp
  rcases List.mem_append.mp hp with hp | hp
  · exact ha p hp (l, o) (List.Mem.tail _ (List.Mem.head _))
  · rcases List.mem_cons.mp hp with rfl | hp
    · exact hi
    · exact hT p hp
theorem pie_close1 {h₀ h' : Heap} {L : Addr} {s : Shared} {k i tk n' : Nat} {ts : List Tr} {m' m₀ : Str → Option Value} {stored : List Str} {t0 tl news : List (Addr × Obj)} {l I D : Addr} {o o2 oI od : Obj} {pvs' : Array Value}
    (F : Fr h₀ L h' m') (N : News h₀ L h' ((l, listO pvs' n') :: (tl ++ (D, od) :: (I, oI) :: (t0 ++ news)))) (ha : Apart tl ((D, od) :: (I, oI) :: (l, o) :: (t0 ++ news))) (hD : I < D ∧ l < D ∧ AllLt D (t0 ++ news)) (hap : ∀ p ∈ (l, o2) :: (t0 ++ news), p.1 ≠ I)
    (hr : ∀ z, stored.contains z = false → m' z = m₀ z) (hp : PieP k ts news l (i + 1) ⟨pvs', n', tl ++ (D, od) :: (t0 ++ news)⟩) :
    KfEnd h₀ L s [(I, oI)] [I] (fun c : PieS => (l, listO c.pvs c.n) :: c.tl) (fun _ => []) stored m₀ (PieP k ts news l (i + 1)) { s with heap := h', toks := tk } := by
  have hID : @LT.lt Nat _ I D := hD.1
  refine kf_end ⟨pvs', n', tl ++ (D, od) :: (t0 ++ news)⟩ F N (fun p hp => ?_) (fun p hp => ?_) (fun _ h => nomatch h) (fun z _ hz => hr z hz) hp
  · rw [List.mem_singleton.mp hp]; exact List.Mem.tail _ (List.mem_append_right _ (List.Mem.tail _ (List.Mem.head _)))
  · rw [List.mem_singleton]
    rcases List.mem_cons.mp hp with rfl | hp
    · exact ⟨List.Mem.head _, hap (l, o2) (List.Mem.head _)⟩
    rcases List.mem_append.mp hp with hp | hp
    · exact ⟨List.Mem.tail _ (List.mem_append_left _ hp), ha p hp (I, oI) (List.Mem.tail _ (List.Mem.head _))⟩
    rcases List.mem_cons.mp hp with rfl | hp
    · exact ⟨List.Mem.tail _ (List.mem_append_right _ (List.Mem.head _)), Nat.ne_of_gt hID⟩
    · exact ⟨List.Mem.tail _ (List.mem_append_right _ (List.Mem.tail _ (List.Mem.tail _ hp))), hap _ (List.Mem.tail _ hp)⟩
theorem pie_close2 {h₀ h' : Heap} {L : Addr} {s : Shared} {k i tk n' : Nat} {ts : List Tr} {m' m₀ : Str → Option Value} {stored : List Str} {t0 tl news : List (Addr × Obj)} {l I : Addr} {o o2 oI : Obj} {pvs' : Array Value}
    (F : Fr h₀ L h' m') (N : News h₀ L h' ((l, listO pvs' n') :: (tl ++ (I, oI) :: (t0 ++ news)))) (ha : Apart tl ((I, oI) :: (l, o) :: (t0 ++ news))) (hap : ∀ p ∈ (l, o2) :: (t0 ++ news), p.1 ≠ I)
    (hr : ∀ z, stored.contains z = false → m' z = m₀ z) (hp : PieP k ts news l (i + 1) ⟨pvs', n', tl ++ (t0 ++ news)⟩) :
    KfEnd h₀ L s [(I, oI)] [I] (fun c : PieS => (l, listO c.pvs c.n) :: c.tl) (fun _ => []) stored m₀ (PieP k ts news l (i + 1)) { s with heap := h', toks := tk } := by
  refine kf_end ⟨pvs', n', tl ++ (t0 ++ news)⟩ F N (fun p hp => ?_) (fun p hp => ?_) (fun _ h => nomatch h) (fun z _ hz => hr z hz) hp
  · rw [List.mem_singleton.mp hp]; exact List.Mem.tail _ (List.mem_append_right _ (List.Mem.head _))
  · rw [List.mem_singleton]
    rcases List.mem_cons.mp hp with rfl | hp
    · exact ⟨List.Mem.head _, hap (l, o2) (List.Mem.head _)⟩
    rcases List.mem_append.mp hp with hp | hp
    · exact ⟨List.Mem.tail _ (List.mem_append_left _ hp), ha p hp (I, oI) (List.Mem.head _)⟩
    · exact ⟨List.Mem.tail _ (List.mem_append_right _ (List.Mem.tail _ hp)), hap _ (List.Mem.tail _ hp)⟩
theorem pie_doneC {k sz : Nat} {ts : List Tr} {t0 : List (Addr × Obj)} {l D1 D2 : Addr} {o : Obj} {pvs : Array Value} {t1 t2 t3 t4 : Tok} (hk : k ≤ 1) (hk1 : (k : Int) = 1) (hs1 : (sz : Int) = 1) (hsz : sz = ts.length)
    (hpc : PcsIn t0 pvs.toList (openP k :: piecesOfs (ts.take sz) 0)) :
    PcsIn ((D2, tupO #[.str (Str.ofString "") t1, .str (Txt.item (Str.ofString "])") k) t2]) :: (D1, tupO #[.str (Str.ofString "") t3, .str (Str.ofString ",") t4]) :: (l, o) :: t0) ((pvs.push (.ref D1)).push (.ref D2)).toList (piecesOf (.node k ts)) := by
  have e : piecesOf (.node k ts) = ((openP k :: piecesOfs (ts.take sz) 0) ++ [(Str.ofString "", Str.ofString ",")]) ++ [(Str.ofString "", Txt.item (Str.ofString "])") k)] := by
    rw [hsz, List.take_length]
    simp only [piecesOf, shutP]
    rw [if_pos ⟨by (first | lia | omega), by (first | lia | omega)⟩, shut_at k hk]
    simp
  rw [e, Array.toList_push, Array.toList_push]
  exact PcsIn.snoc (PcsIn.snoc (hpc.mono fun p hp => List.Mem.tail _ (List.Mem.tail _ (List.Mem.tail _ hp))) (List.Mem.tail _ (List.Mem.head _))) (List.Mem.head _)
theorem pie_doneN {k sz : Nat} {ts : List Tr} {t0 : List (Addr × Obj)} {l D2 : Addr} {o : Obj} {pvs : Array Value} {t1 t2 : Tok} (hk : k ≤ 1) (hno : ¬ (k = 1 ∧ sz = 1)) (hsz : sz = ts.length)
    (hpc : PcsIn t0 pvs.toList (openP k :: piecesOfs (ts.take sz) 0)) :
    PcsIn ((D2, tupO #[.str (Str.ofString "") t1, .str (Txt.item (Str.ofString "])") k) t2]) :: (l, o) :: t0) (pvs.push (.ref D2)).toList (piecesOf (.node k ts)) := by
  have e : piecesOf (.node k ts) = (openP k :: piecesOfs (ts.take sz) 0) ++ [(Str.ofString "", Txt.item (Str.ofString "])") k)] := by
    rw [hsz] at hno ⊢
    rw [List.take_length]
    simp only [piecesOf, shutP]
    rw [if_neg hno, shut_at k hk]
    simp
  rw [e, Array.toList_push]
  exact PcsIn.snoc (hpc.mono fun p hp => List.Mem.tail _ (List.Mem.tail _ hp)) (List.Mem.head _)
theorem apart_l {t0 news : List (Addr × Obj)} {l : Addr} {o : Obj} (hap0 : ∀ p ∈ t0, ∀ q ∈ news, p.1 ≠ q.1) (hne : ∀ p ∈ t0 ++ news, p.1 ≠ l) : Apart ((l, o) :: t0) news := by
  intro p hp q hq
  rcases List.mem_cons.mp hp with rfl | hp
  · exact (hne q (List.mem_append_right _ hq)).symm
  · exact hap0 p hp q hq
theorem apart_D {t0 tl news : List (Addr × Obj)} {D : Addr} {o : Obj} (h : Apart tl news) (hl : AllLt D (t0 ++ news)) : Apart ((D, o) :: tl) news := by
  intro p hp q hq
  rcases List.mem_cons.mp hp with rfl | hp
  · exact Nat.ne_of_gt (allLt_mem hl q (List.mem_append_right _ hq))
  · exact h p hp q hq
theorem TrIn.up2 {a b : Addr × Obj} {tl : List (Addr × Obj)} {v : Value} {t : Tr} (h : TrIn tl v t) : TrIn (a :: b :: tl) v t := h.mono fun _ hp => List.Mem.tail _ (List.Mem.tail _ hp)
theorem TrIn.up3 {a b c : Addr × Obj} {tl : List (Addr × Obj)} {v : Value} {t : Tr} (h : TrIn tl v t) : TrIn (a :: b :: c :: tl) v t := h.mono fun _ hp => List.Mem.tail _ (List.Mem.tail _ (List.Mem.tail _ hp))
noncomputable def PiecesTells (w : World) (mean : ExcName → Option Value) (mg mb : Str → Option Value) (d : Tr) : Prop :=
  ∀ (dp un : Nat) (gd : Option (List Code)) (cn : Str) (cs : Scope) (a : Addr) (ccd : Value) (cl : List (Str × Addr)) (outer : List Env) (A₀ : Around) (base h₀ : Heap) (L : Addr) (m : Str → Option Value) (news : List (Addr × Obj)) (s : Shared) (v : Value) (Q E : Value → Shared → Prop),
    Below A₀ base outer h₀ → Fr h₀ L s.heap m → (Mine.hd.heap_1_39 w.params).In h₀ → News h₀ L s.heap news → Top Mine.hd.view_1_40 LO mean mg mb h₀ → cs.kind = .function → TrIn news v d → d.wide → (piecesOf d).length ≤ 10000 → dp + 2 * d.dep + 10 < recursionLimit → un + 20 * d.dep + 100 < cLine →
    (∀ P pvs n tl h' tk', Fr h₀ L h' m → News h₀ L h' (tl ++ news) → Apart tl news → (P, listO pvs n) ∈ tl → PcsIn tl pvs.toList (piecesOf d) → Q (.ref P) { s with heap := h', toks := tk' }) →
    wpAny (model PySem.Challenge.rw_ny0347_01.row.prog w) (ktrTop dp un gd cn cs L a ccd cl outer) (call (.ref 782) [v]) Q E s
theorem pie_call {w : World} {mean : ExcName → Option Value} {mg mb : Str → Option Value} {D : Nat} {tl : List (Addr × Obj)} {v : Value} {t : Tr} (_lT : TrIn tl v t) (lI : ∀ d' : Tr, d'.size < D → PiecesTells w mean mg mb d') (lt : t.size < D) : PiecesTells w mean mg mb t := lI t lt
set_option maxHeartbeats 4000000 in
theorem pieces_step {w : World} {mean : ExcName → Option Value} {mg mb : Str → Option Value} (d : Tr) (IH : ∀ d' : Tr, d'.size < d.size → PiecesTells w mean mg mb d') : PiecesTells w mean mg mb d := by
  w_top off
  intro dp un gd cn cs a ccd cl outer A₀ base h₀ L m news s v Q E B F X N T hk hR hw hpl hdp hun hret
  revert N X; k_fill; intro X N
  cases hR with
  | int =>
    simp only [Tr.wide] at hw
    refine wpAny_call ?_
    k_dflt ((refine' code_def ?k1 ?k2 ?k3 ?k4 ?k5 ?kA ?kF ?kK ?k6 ?k7 ?k8 ?k9 ?kB ?_ ?c2 ?c3 ?c4 ?c5; (case kA => exact rfl); (case kF => exact rfl); (case kK => assumption); (case k1 => k_asm); (case k2 => k_asm); (case k3 => k_asm); (case k4 => k_asm); (case k5 => k_asm); (case k6 => k_is); (case k7 => k_is); (case k8 => ktr_room); (case k9 => first | exact BindsTo.of_eq rfl | exact binds_K (by k_in) rfl (by k_is) rfl rfl rfl); (case c5 => decide); (case kB => exact locs rfl); (case c2 => exact rfl); (case c3 => exact rfl); (case c4 => exact rfl); k_whole; intro g' L' h' FG' F' N' B' X' T'; (try dsimp only); (try k_fold)))
    (repeat' (first | ((with_reducible show HoldN 3 _); refine HoldN.of ?_; (rename News _ _ _ _ => lN); first | ((with_reducible show wpAny _ _ (subscriptTail _ _ (Value.ref _) (Value.int 0 _)) _ _ _); refine item_led0 lN (by first | with_reducible assumption | exact List.Mem.tail _ (by assumption) | exact List.Mem.tail _ (List.Mem.tail _ (by assumption)) | exact List.Mem.tail _ (List.Mem.tail _ (List.Mem.tail _ (by assumption)))) ?_ (by with_unfolding_all rfl)) | ((with_reducible show wpAny _ _ (subscriptTail _ _ (Value.ref _) (Value.int 1 _)) _ _ _); refine item_led1 lN (by first | with_reducible assumption | exact List.Mem.tail _ (by assumption) | exact List.Mem.tail _ (List.Mem.tail _ (by assumption)) | exact List.Mem.tail _ (List.Mem.tail _ (List.Mem.tail _ (by assumption)))) ?_ (by with_unfolding_all rfl)) | (refine item_led lN (by first | with_reducible assumption | exact List.Mem.tail _ (by assumption) | exact List.Mem.tail _ (List.Mem.tail _ (by assumption)) | exact List.Mem.tail _ (List.Mem.tail _ (List.Mem.tail _ (by assumption)))) (by (first | lia | omega)) (by (first | lia | omega)) (by assumption) ?_ (by with_unfolding_all rfl))) | ((with_reducible show HoldN 2 _); refine HoldN.of ?_; (rename News _ _ _ _ => lN); refine len_led lN (by first | with_reducible assumption | exact List.Mem.tail _ (by assumption) | exact List.Mem.tail _ (List.Mem.tail _ (by assumption)) | exact List.Mem.tail _ (List.Mem.tail _ (List.Mem.tail _ (by assumption)))) (by (first | lia | omega)) ?_; intro _ _) | ((with_reducible show HoldN 1 _); refine HoldN.of ?_; (rename Fr _ _ _ _ => lF); (rename News _ _ _ _ => lN); (rename (∀ d' : Tr, _ → PiecesTells _ _ _ _ d') => lI); (rename TrIn _ _ _ => lT); k_dflt (refine (pie_call lT lI (by assumption)) _ _ _ _ _ _ _ _ _ _ _ _ _ _ _ _ _ _ _ (by k_asm) lF (by k_asm) lN (by k_asm) (by exact rfl) (by first | exact TrIn.up2 lT | exact TrIn.up3 lT) (by assumption) (by assumption) (by ktr_room) (by ktr_units) ?_); intro P' vs' n' tl' h' tk' F' N' ha' hm' hp'; clear lF lN) | (k_unfold; (try dsimp only)) | (k_end; wrow_close) | ((with_reducible show wpAny _ _ (call (Value.ref _) _) _ _ _); (show wpAny _ _ (call (Value.ref 782) [_]) _ _ _); refine HoldN.mk 1 ?_) | ((with_reducible show wpAny _ _ (call (Value.type "str") _) _ _ _); (with_reducible show wpAny _ _ (call (Value.type "str") [Value.int _ _]) _ _ _); refine str_of_int (log_small (by assumption)) ?_) | ((with_reducible show wpAny _ _ (call (Value.builtin "len") _) _ _ _); (with_reducible show wpAny _ _ (call (Value.builtin "len") [Value.ref _]) _ _ _); refine HoldN.mk 2 ?_) | ((with_reducible show wpAny _ _ (subscriptTail _ _ _ _) _ _ _); (with_reducible show wpAny _ _ (subscriptTail _ _ (Value.ref _) (Value.int _ _)) _ _ _); refine HoldN.mk 3 ?_) | ((with_reducible show wpAny _ _ (exec (Stmt.For (Expr.Name ..) (Expr.Call ..) ..) _) _ _ _); k_dflt (refine' For_turns ?F ?_; (case F => k_asm); k_whole)) | ((with_reducible show wpAny _ _ (PySem.isTrue _ _ _) _ _ _); (k_fold)) | ((with_reducible show wpAny _ _ (execs (_ :: _) _) _ _ _); (k_fold)) | walk1 | (dsimp only; first | ((with_reducible show wpAny _ _ (call (Value.ref _) _) _ _ _); (show wpAny _ _ (call (Value.ref 782) [_]) _ _ _); refine HoldN.mk 1 ?_) | ((with_reducible show wpAny _ _ (call (Value.type "str") _) _ _ _); (with_reducible show wpAny _ _ (call (Value.type "str") [Value.int _ _]) _ _ _); refine str_of_int (log_small (by assumption)) ?_) | ((with_reducible show wpAny _ _ (call (Value.builtin "len") _) _ _ _); (with_reducible show wpAny _ _ (call (Value.builtin "len") [Value.ref _]) _ _ _); refine HoldN.mk 2 ?_) | ((with_reducible show wpAny _ _ (subscriptTail _ _ _ _) _ _ _); (with_reducible show wpAny _ _ (subscriptTail _ _ (Value.ref _) (Value.int _ _)) _ _ _); refine HoldN.mk 3 ?_) | ((with_reducible show wpAny _ _ (exec (Stmt.For (Expr.Name ..) (Expr.Call ..) ..) _) _ _ _); k_dflt (refine' For_turns ?F ?_; (case F => k_asm); k_whole)) | ((with_reducible show wpAny _ _ (PySem.isTrue _ _ _) _ _ _); (k_fold)) | ((with_reducible show wpAny _ _ (execs (_ :: _) _) _ _ _); (k_fold))) | (dsimp only; walk1) | (leave1; walk_say "STEP leave1"; try dsimp only) | fail "no step"))
    (show Q _ _); (rename News h₀ L _ _ => kN9); (rename Fr h₀ L _ m => kF9); (rename (∀ p ∈ news, p.1 < _) => l19); (rename (_ ∧ AllLt _ news) => l29)
    exact hret _ _ _ [_, _] _ _ kF9 kN9 (apart2 l19 l29) (List.Mem.head _) (.cons (List.Mem.tail _ (List.Mem.head _)) .nil)
  | str =>
    refine wpAny_call ?_
    k_dflt ((refine' code_def ?k1 ?k2 ?k3 ?k4 ?k5 ?kA ?kF ?kK ?k6 ?k7 ?k8 ?k9 ?kB ?_ ?c2 ?c3 ?c4 ?c5; (case kA => exact rfl); (case kF => exact rfl); (case kK => assumption); (case k1 => k_asm); (case k2 => k_asm); (case k3 => k_asm); (case k4 => k_asm); (case k5 => k_asm); (case k6 => k_is); (case k7 => k_is); (case k8 => ktr_room); (case k9 => first | exact BindsTo.of_eq rfl | exact binds_K (by k_in) rfl (by k_is) rfl rfl rfl); (case c5 => decide); (case kB => exact locs rfl); (case c2 => exact rfl); (case c3 => exact rfl); (case c4 => exact rfl); k_whole; intro g' L' h' FG' F' N' B' X' T'; (try dsimp only); (try k_fold)))
    (repeat' (first | ((with_reducible show HoldN 3 _); refine HoldN.of ?_; (rename News _ _ _ _ => lN); first | ((with_reducible show wpAny _ _ (subscriptTail _ _ (Value.ref _) (Value.int 0 _)) _ _ _); refine item_led0 lN (by first | with_reducible assumption | exact List.Mem.tail _ (by assumption) | exact List.Mem.tail _ (List.Mem.tail _ (by assumption)) | exact List.Mem.tail _ (List.Mem.tail _ (List.Mem.tail _ (by assumption)))) ?_ (by with_unfolding_all rfl)) | ((with_reducible show wpAny _ _ (subscriptTail _ _ (Value.ref _) (Value.int 1 _)) _ _ _); refine item_led1 lN (by first | with_reducible assumption | exact List.Mem.tail _ (by assumption) | exact List.Mem.tail _ (List.Mem.tail _ (by assumption)) | exact List.Mem.tail _ (List.Mem.tail _ (List.Mem.tail _ (by assumption)))) ?_ (by with_unfolding_all rfl)) | (refine item_led lN (by first | with_reducible assumption | exact List.Mem.tail _ (by assumption) | exact List.Mem.tail _ (List.Mem.tail _ (by assumption)) | exact List.Mem.tail _ (List.Mem.tail _ (List.Mem.tail _ (by assumption)))) (by (first | lia | omega)) (by (first | lia | omega)) (by assumption) ?_ (by with_unfolding_all rfl))) | ((with_reducible show HoldN 2 _); refine HoldN.of ?_; (rename News _ _ _ _ => lN); refine len_led lN (by first | with_reducible assumption | exact List.Mem.tail _ (by assumption) | exact List.Mem.tail _ (List.Mem.tail _ (by assumption)) | exact List.Mem.tail _ (List.Mem.tail _ (List.Mem.tail _ (by assumption)))) (by (first | lia | omega)) ?_; intro _ _) | ((with_reducible show HoldN 1 _); refine HoldN.of ?_; (rename Fr _ _ _ _ => lF); (rename News _ _ _ _ => lN); (rename (∀ d' : Tr, _ → PiecesTells _ _ _ _ d') => lI); (rename TrIn _ _ _ => lT); k_dflt (refine (pie_call lT lI (by assumption)) _ _ _ _ _ _ _ _ _ _ _ _ _ _ _ _ _ _ _ (by k_asm) lF (by k_asm) lN (by k_asm) (by exact rfl) (by first | exact TrIn.up2 lT | exact TrIn.up3 lT) (by assumption) (by assumption) (by ktr_room) (by ktr_units) ?_); intro P' vs' n' tl' h' tk' F' N' ha' hm' hp'; clear lF lN) | (k_unfold; (try dsimp only)) | (k_end; wrow_close) | ((with_reducible show wpAny _ _ (call (Value.ref _) _) _ _ _); (show wpAny _ _ (call (Value.ref 782) [_]) _ _ _); refine HoldN.mk 1 ?_) | ((with_reducible show wpAny _ _ (call (Value.type "str") _) _ _ _); (with_reducible show wpAny _ _ (call (Value.type "str") [Value.int _ _]) _ _ _); refine str_of_int (log_small (by assumption)) ?_) | ((with_reducible show wpAny _ _ (call (Value.builtin "len") _) _ _ _); (with_reducible show wpAny _ _ (call (Value.builtin "len") [Value.ref _]) _ _ _); refine HoldN.mk 2 ?_) | ((with_reducible show wpAny _ _ (subscriptTail _ _ _ _) _ _ _); (with_reducible show wpAny _ _ (subscriptTail _ _ (Value.ref _) (Value.int _ _)) _ _ _); refine HoldN.mk 3 ?_) | ((with_reducible show wpAny _ _ (exec (Stmt.For (Expr.Name ..) (Expr.Call ..) ..) _) _ _ _); k_dflt (refine' For_turns ?F ?_; (case F => k_asm); k_whole)) | ((with_reducible show wpAny _ _ (PySem.isTrue _ _ _) _ _ _); (k_fold)) | ((with_reducible show wpAny _ _ (execs (_ :: _) _) _ _ _); (k_fold)) | walk1 | (dsimp only; first | ((with_reducible show wpAny _ _ (call (Value.ref _) _) _ _ _); (show wpAny _ _ (call (Value.ref 782) [_]) _ _ _); refine HoldN.mk 1 ?_) | ((with_reducible show wpAny _ _ (call (Value.type "str") _) _ _ _); (with_reducible show wpAny _ _ (call (Value.type "str") [Value.int _ _]) _ _ _); refine str_of_int (log_small (by assumption)) ?_) | ((with_reducible show wpAny _ _ (call (Value.builtin "len") _) _ _ _); (with_reducible show wpAny _ _ (call (Value.builtin "len") [Value.ref _]) _ _ _); refine HoldN.mk 2 ?_) | ((with_reducible show wpAny _ _ (subscriptTail _ _ _ _) _ _ _); (with_reducible show wpAny _ _ (subscriptTail _ _ (Value.ref _) (Value.int _ _)) _ _ _); refine HoldN.mk 3 ?_) | ((with_reducible show wpAny _ _ (exec (Stmt.For (Expr.Name ..) (Expr.Call ..) ..) _) _ _ _); k_dflt (refine' For_turns ?F ?_; (case F => k_asm); k_whole)) | ((with_reducible show wpAny _ _ (PySem.isTrue _ _ _) _ _ _); (k_fold)) | ((with_reducible show wpAny _ _ (execs (_ :: _) _) _ _ _); (k_fold))) | (dsimp only; walk1) | (leave1; walk_say "STEP leave1"; try dsimp only) | fail "no step"))
    · (show Q _ _); (rename News h₀ L _ _ => kN9); (rename Fr h₀ L _ m => kF9); (rename (∀ p ∈ news, p.1 < _) => l19); (rename (_ ∧ AllLt _ news) => l29)
      exact hret _ _ _ [_, _] _ _ kF9 kN9 (apart2 l19 l29) (List.Mem.head _) (by simp only [piecesOf]; rw [qmark_no (by assumption)]; exact .cons (List.Mem.tail _ (List.Mem.head _)) .nil)
    · (show Q _ _); (rename News h₀ L _ _ => kN9); (rename Fr h₀ L _ m => kF9); (rename (∀ p ∈ news, p.1 < _) => l19); (rename (_ ∧ AllLt _ news) => l29)
      exact hret _ _ _ [_, _] _ _ kF9 kN9 (apart2 l19 l29) (List.Mem.head _) (by simp only [piecesOf]; rw [qmark_yes (by assumption)]; exact .cons (List.Mem.tail _ (List.Mem.head _)) .nil)
  | @node na nb nk nt n1 n2 vs ts hm1 hm2 hts =>
    refine wpAny_call ?_
    k_dflt ((refine' code_def ?k1 ?k2 ?k3 ?k4 ?k5 ?kA ?kF ?kK ?k6 ?k7 ?k8 ?k9 ?kB ?_ ?c2 ?c3 ?c4 ?c5; (case kA => exact rfl); (case kF => exact rfl); (case kK => assumption); (case k1 => k_asm); (case k2 => k_asm); (case k3 => k_asm); (case k4 => k_asm); (case k5 => k_asm); (case k6 => k_is); (case k7 => k_is); (case k8 => ktr_room); (case k9 => first | exact BindsTo.of_eq rfl | exact binds_K (by k_in) rfl (by k_is) rfl rfl rfl); (case c5 => decide); (case kB => exact locs rfl); (case c2 => exact rfl); (case c3 => exact rfl); (case c4 => exact rfl); k_whole; intro g' L' h' FG' F' N' B' X' T'; (try dsimp only); (try k_fold)))
    simp only [Tr.wide] at hw
    simp only [Tr.dep] at hdp hun
    obtain ⟨hnk, htl, hws⟩ := hw
    have hvl : vs.size = ts.length := by have := hts.len; simpa using this
    (repeat' (first | ((with_reducible show HoldN 3 _); refine HoldN.of ?_; (rename News _ _ _ _ => lN); first | ((with_reducible show wpAny _ _ (subscriptTail _ _ (Value.ref _) (Value.int 0 _)) _ _ _); refine item_led0 lN (by first | with_reducible assumption | exact List.Mem.tail _ (by assumption) | exact List.Mem.tail _ (List.Mem.tail _ (by assumption)) | exact List.Mem.tail _ (List.Mem.tail _ (List.Mem.tail _ (by assumption)))) ?_ (by with_unfolding_all rfl)) | ((with_reducible show wpAny _ _ (subscriptTail _ _ (Value.ref _) (Value.int 1 _)) _ _ _); refine item_led1 lN (by first | with_reducible assumption | exact List.Mem.tail _ (by assumption) | exact List.Mem.tail _ (List.Mem.tail _ (by assumption)) | exact List.Mem.tail _ (List.Mem.tail _ (List.Mem.tail _ (by assumption)))) ?_ (by with_unfolding_all rfl)) | (refine item_led lN (by first | with_reducible assumption | exact List.Mem.tail _ (by assumption) | exact List.Mem.tail _ (List.Mem.tail _ (by assumption)) | exact List.Mem.tail _ (List.Mem.tail _ (List.Mem.tail _ (by assumption)))) (by (first | lia | omega)) (by (first | lia | omega)) (by assumption) ?_ (by with_unfolding_all rfl))) | ((with_reducible show HoldN 2 _); refine HoldN.of ?_; (rename News _ _ _ _ => lN); refine len_led lN (by first | with_reducible assumption | exact List.Mem.tail _ (by assumption) | exact List.Mem.tail _ (List.Mem.tail _ (by assumption)) | exact List.Mem.tail _ (List.Mem.tail _ (List.Mem.tail _ (by assumption)))) (by (first | lia | omega)) ?_; intro _ _) | ((with_reducible show HoldN 1 _); refine HoldN.of ?_; (rename Fr _ _ _ _ => lF); (rename News _ _ _ _ => lN); (rename (∀ d' : Tr, _ → PiecesTells _ _ _ _ d') => lI); (rename TrIn _ _ _ => lT); k_dflt (refine (pie_call lT lI (by assumption)) _ _ _ _ _ _ _ _ _ _ _ _ _ _ _ _ _ _ _ (by k_asm) lF (by k_asm) lN (by k_asm) (by exact rfl) (by first | exact TrIn.up2 lT | exact TrIn.up3 lT) (by assumption) (by assumption) (by ktr_room) (by ktr_units) ?_); intro P' vs' n' tl' h' tk' F' N' ha' hm' hp'; clear lF lN) | (k_unfold; (try dsimp only)) | (k_end; wrow_close) | ((with_reducible show wpAny _ _ (call (Value.ref _) _) _ _ _); (show wpAny _ _ (call (Value.ref 782) [_]) _ _ _); refine HoldN.mk 1 ?_) | ((with_reducible show wpAny _ _ (call (Value.type "str") _) _ _ _); (with_reducible show wpAny _ _ (call (Value.type "str") [Value.int _ _]) _ _ _); refine str_of_int (log_small (by assumption)) ?_) | ((with_reducible show wpAny _ _ (call (Value.builtin "len") _) _ _ _); (with_reducible show wpAny _ _ (call (Value.builtin "len") [Value.ref _]) _ _ _); refine HoldN.mk 2 ?_) | ((with_reducible show wpAny _ _ (subscriptTail _ _ _ _) _ _ _); (with_reducible show wpAny _ _ (subscriptTail _ _ (Value.ref _) (Value.int _ _)) _ _ _); refine HoldN.mk 3 ?_) | ((with_reducible show wpAny _ _ (exec (Stmt.For (Expr.Name ..) (Expr.Call ..) ..) _) _ _ _); k_dflt (refine' For_turns ?F ?_; (case F => k_asm); k_whole)) | ((with_reducible show wpAny _ _ (PySem.isTrue _ _ _) _ _ _); (k_fold)) | ((with_reducible show wpAny _ _ (execs (_ :: _) _) _ _ _); (k_fold)) | walk1 | (dsimp only; first | ((with_reducible show wpAny _ _ (call (Value.ref _) _) _ _ _); (show wpAny _ _ (call (Value.ref 782) [_]) _ _ _); refine HoldN.mk 1 ?_) | ((with_reducible show wpAny _ _ (call (Value.type "str") _) _ _ _); (with_reducible show wpAny _ _ (call (Value.type "str") [Value.int _ _]) _ _ _); refine str_of_int (log_small (by assumption)) ?_) | ((with_reducible show wpAny _ _ (call (Value.builtin "len") _) _ _ _); (with_reducible show wpAny _ _ (call (Value.builtin "len") [Value.ref _]) _ _ _); refine HoldN.mk 2 ?_) | ((with_reducible show wpAny _ _ (subscriptTail _ _ _ _) _ _ _); (with_reducible show wpAny _ _ (subscriptTail _ _ (Value.ref _) (Value.int _ _)) _ _ _); refine HoldN.mk 3 ?_) | ((with_reducible show wpAny _ _ (exec (Stmt.For (Expr.Name ..) (Expr.Call ..) ..) _) _ _ _); k_dflt (refine' For_turns ?F ?_; (case F => k_asm); k_whole)) | ((with_reducible show wpAny _ _ (PySem.isTrue _ _ _) _ _ _); (k_fold)) | ((with_reducible show wpAny _ _ (execs (_ :: _) _) _ _ _); (k_fold))) | (dsimp only; walk1) | (leave1; walk_say "STEP leave1"; try dsimp only) | fail "no step"))
    rename IsRange _ _ _ _ _ _ _ _ => hR1
    rename News _ _ _ _ => N1
    rename Fr _ _ _ _ => F1
    rename (∀ p ∈ news, p.1 < _) => l19
    rename (_ ∧ AllLt _ news) => l29
    refine name_head N1 fun l' hl9 => ?_
    subst hl9
    refine' turns_range (σ := PieS) (fun c => (l', listO c.pvs c.n) :: c.tl) (fun _ => []) [Str.ofString "k"] (PieP nk ts news l') ⟨#[.ref _], 0, (_, _) :: news⟩ ?hh hR1 ?hn F1 N1 ?hk ?hp ?turn ?done
    case hh => rfl
    case hn => (first | lia | omega)
    case hk => exact fun _ h => nomatch h
    case hp =>
      refine ⟨⟨[_], rfl, ?_, ?_⟩, ?_⟩
      · intro p hp q hq
        rw [List.mem_singleton.mp hp]
        exact Nat.ne_of_gt (l19 q hq)
      · rw [openP_at nk hnk]
        exact .cons (List.Mem.head _) .nil
      · intro p hp
        rcases List.mem_cons.mp hp with rfl | hp
        · exact Nat.ne_of_lt l29.1
        · exact Nat.ne_of_lt (Nat.lt_trans (l19 p hp) l29.1)
    case turn =>
      clear F1 N1 hR1
      rintro i ⟨pvs, n, tl⟩ u I oI h9 tk9 t9 hi ⟨⟨t0, rfl, hap0, hpc⟩, hne⟩ hap F' N'
      dsimp only at hpc hne hap F' N' ⊢
      have hlI := hap _ (List.Mem.head _)
      have hIl := Ne.symm hlI
      dsimp only at hlI hIl
      obtain ⟨v, hv⟩ : ∃ v, vs[i]? = some v := ⟨vs[i], Array.getElem?_eq_getElem hi⟩
      have hv2 : vs[((i : Nat) : Int).toNat]? = some v := by simpa using hv
      obtain ⟨t, hti, hdr⟩ := TrsIn.at hts (by simpa using hv)
      have htm : t ∈ ts := List.mem_of_mem_drop (i := i) (by rw [hdr]; exact List.Mem.head _)
      have hlt : t.size < (Tr.node nk ts).size := by have := size_mem htm; simp only [Tr.size]; (first | lia | omega)
      have hwt := wide_mem hws htm
      have hdt := dep_mem htm
      have hpt : (piecesOf t).length ≤ 10000 := Nat.le_trans (pie_child htm) hpl
      have hti' : TrIn (t0 ++ news) v t := hti.mono fun q hq => List.mem_append_right _ hq
      have hm1' := List.mem_append_right t0 hm1
      have hm2' := List.mem_append_right t0 hm2
      have hpz : pvs.size ≤ 10000 := by have := hpc.len; rw [Array.length_toList] at this; rw [this]; exact Nat.le_trans pie_len hpl
      (repeat' (first | ((with_reducible show HoldN 3 _); refine HoldN.of ?_; (rename News _ _ _ _ => lN); first | ((with_reducible show wpAny _ _ (subscriptTail _ _ (Value.ref _) (Value.int 0 _)) _ _ _); refine item_led0 lN (by first | with_reducible assumption | exact List.Mem.tail _ (by assumption) | exact List.Mem.tail _ (List.Mem.tail _ (by assumption)) | exact List.Mem.tail _ (List.Mem.tail _ (List.Mem.tail _ (by assumption)))) ?_ (by with_unfolding_all rfl)) | ((with_reducible show wpAny _ _ (subscriptTail _ _ (Value.ref _) (Value.int 1 _)) _ _ _); refine item_led1 lN (by first | with_reducible assumption | exact List.Mem.tail _ (by assumption) | exact List.Mem.tail _ (List.Mem.tail _ (by assumption)) | exact List.Mem.tail _ (List.Mem.tail _ (List.Mem.tail _ (by assumption)))) ?_ (by with_unfolding_all rfl)) | (refine item_led lN (by first | with_reducible assumption | exact List.Mem.tail _ (by assumption) | exact List.Mem.tail _ (List.Mem.tail _ (by assumption)) | exact List.Mem.tail _ (List.Mem.tail _ (List.Mem.tail _ (by assumption)))) (by (first | lia | omega)) (by (first | lia | omega)) (by assumption) ?_ (by with_unfolding_all rfl))) | ((with_reducible show HoldN 2 _); refine HoldN.of ?_; (rename News _ _ _ _ => lN); refine len_led lN (by first | with_reducible assumption | exact List.Mem.tail _ (by assumption) | exact List.Mem.tail _ (List.Mem.tail _ (by assumption)) | exact List.Mem.tail _ (List.Mem.tail _ (List.Mem.tail _ (by assumption)))) (by (first | lia | omega)) ?_; intro _ _) | ((with_reducible show HoldN 1 _); refine HoldN.of ?_; (rename Fr _ _ _ _ => lF); (rename News _ _ _ _ => lN); (rename (∀ d' : Tr, _ → PiecesTells _ _ _ _ d') => lI); (rename TrIn _ _ _ => lT); k_dflt (refine (pie_call lT lI (by assumption)) _ _ _ _ _ _ _ _ _ _ _ _ _ _ _ _ _ _ _ (by k_asm) lF (by k_asm) lN (by k_asm) (by exact rfl) (by first | exact TrIn.up2 lT | exact TrIn.up3 lT) (by assumption) (by assumption) (by ktr_room) (by ktr_units) ?_); intro P' vs' n' tl' h' tk' F' N' ha' hm' hp'; clear lF lN) | (k_unfold; (try dsimp only)) | (k_end; wrow_close) | ((with_reducible show wpAny _ _ (call (Value.ref _) _) _ _ _); (show wpAny _ _ (call (Value.ref 782) [_]) _ _ _); refine HoldN.mk 1 ?_) | ((with_reducible show wpAny _ _ (call (Value.type "str") _) _ _ _); (with_reducible show wpAny _ _ (call (Value.type "str") [Value.int _ _]) _ _ _); refine str_of_int (log_small (by assumption)) ?_) | ((with_reducible show wpAny _ _ (call (Value.builtin "len") _) _ _ _); (with_reducible show wpAny _ _ (call (Value.builtin "len") [Value.ref _]) _ _ _); refine HoldN.mk 2 ?_) | ((with_reducible show wpAny _ _ (subscriptTail _ _ _ _) _ _ _); (with_reducible show wpAny _ _ (subscriptTail _ _ (Value.ref _) (Value.int _ _)) _ _ _); refine HoldN.mk 3 ?_) | ((with_reducible show wpAny _ _ (exec (Stmt.For (Expr.Name ..) (Expr.Call ..) ..) _) _ _ _); k_dflt (refine' For_turns ?F ?_; (case F => k_asm); k_whole)) | ((with_reducible show wpAny _ _ (PySem.isTrue _ _ _) _ _ _); (k_fold)) | ((with_reducible show wpAny _ _ (execs (_ :: _) _) _ _ _); (k_fold)) | walk1 | (dsimp only; first | ((with_reducible show wpAny _ _ (call (Value.ref _) _) _ _ _); (show wpAny _ _ (call (Value.ref 782) [_]) _ _ _); refine HoldN.mk 1 ?_) | ((with_reducible show wpAny _ _ (call (Value.type "str") _) _ _ _); (with_reducible show wpAny _ _ (call (Value.type "str") [Value.int _ _]) _ _ _); refine str_of_int (log_small (by assumption)) ?_) | ((with_reducible show wpAny _ _ (call (Value.builtin "len") _) _ _ _); (with_reducible show wpAny _ _ (call (Value.builtin "len") [Value.ref _]) _ _ _); refine HoldN.mk 2 ?_) | ((with_reducible show wpAny _ _ (subscriptTail _ _ _ _) _ _ _); (with_reducible show wpAny _ _ (subscriptTail _ _ (Value.ref _) (Value.int _ _)) _ _ _); refine HoldN.mk 3 ?_) | ((with_reducible show wpAny _ _ (exec (Stmt.For (Expr.Name ..) (Expr.Call ..) ..) _) _ _ _); k_dflt (refine' For_turns ?F ?_; (case F => k_asm); k_whole)) | ((with_reducible show wpAny _ _ (PySem.isTrue _ _ _) _ _ _); (k_fold)) | ((with_reducible show wpAny _ _ (execs (_ :: _) _) _ _ _); (k_fold))) | (dsimp only; walk1) | (leave1; walk_say "STEP leave1"; try dsimp only) | fail "no step"))
      · (rename Apart _ _ => ha9); (rename (_ < _ ∧ _ < _ ∧ AllLt _ (t0 ++ news)) => hD9); (rename News _ _ _ (_ ++ _) => kN9); (rename Fr _ _ _ _ => kF9); (rename ((_, listO _ _) ∈ _) => hb9); (rename PcsIn _ _ (piecesOf t) => hp9)
        refine ext_head kF9 kN9 (List.mem_append_right _ (List.Mem.tail _ (List.Mem.tail _ (List.Mem.head _)))) pie_mem1 (pie_ap1 ha9 hD9 hIl hne) (List.mem_append_left _ hb9) (by have := hp9.len; rw [Array.length_toList] at this; rw [Array.size_push]; (first | lia | omega)) fun h8 n8 F8 N8 => ?_
        clear kN9 kF9
        (repeat' (first | ((with_reducible show HoldN 3 _); refine HoldN.of ?_; (rename News _ _ _ _ => lN); first | ((with_reducible show wpAny _ _ (subscriptTail _ _ (Value.ref _) (Value.int 0 _)) _ _ _); refine item_led0 lN (by first | with_reducible assumption | exact List.Mem.tail _ (by assumption) | exact List.Mem.tail _ (List.Mem.tail _ (by assumption)) | exact List.Mem.tail _ (List.Mem.tail _ (List.Mem.tail _ (by assumption)))) ?_ (by with_unfolding_all rfl)) | ((with_reducible show wpAny _ _ (subscriptTail _ _ (Value.ref _) (Value.int 1 _)) _ _ _); refine item_led1 lN (by first | with_reducible assumption | exact List.Mem.tail _ (by assumption) | exact List.Mem.tail _ (List.Mem.tail _ (by assumption)) | exact List.Mem.tail _ (List.Mem.tail _ (List.Mem.tail _ (by assumption)))) ?_ (by with_unfolding_all rfl)) | (refine item_led lN (by first | with_reducible assumption | exact List.Mem.tail _ (by assumption) | exact List.Mem.tail _ (List.Mem.tail _ (by assumption)) | exact List.Mem.tail _ (List.Mem.tail _ (List.Mem.tail _ (by assumption)))) (by (first | lia | omega)) (by (first | lia | omega)) (by assumption) ?_ (by with_unfolding_all rfl))) | ((with_reducible show HoldN 2 _); refine HoldN.of ?_; (rename News _ _ _ _ => lN); refine len_led lN (by first | with_reducible assumption | exact List.Mem.tail _ (by assumption) | exact List.Mem.tail _ (List.Mem.tail _ (by assumption)) | exact List.Mem.tail _ (List.Mem.tail _ (List.Mem.tail _ (by assumption)))) (by (first | lia | omega)) ?_; intro _ _) | ((with_reducible show HoldN 1 _); refine HoldN.of ?_; (rename Fr _ _ _ _ => lF); (rename News _ _ _ _ => lN); (rename (∀ d' : Tr, _ → PiecesTells _ _ _ _ d') => lI); (rename TrIn _ _ _ => lT); k_dflt (refine (pie_call lT lI (by assumption)) _ _ _ _ _ _ _ _ _ _ _ _ _ _ _ _ _ _ _ (by k_asm) lF (by k_asm) lN (by k_asm) (by exact rfl) (by first | exact TrIn.up2 lT | exact TrIn.up3 lT) (by assumption) (by assumption) (by ktr_room) (by ktr_units) ?_); intro P' vs' n' tl' h' tk' F' N' ha' hm' hp'; clear lF lN) | (k_unfold; (try dsimp only)) | (k_end; wrow_close) | ((with_reducible show wpAny _ _ (call (Value.ref _) _) _ _ _); (show wpAny _ _ (call (Value.ref 782) [_]) _ _ _); refine HoldN.mk 1 ?_) | ((with_reducible show wpAny _ _ (call (Value.type "str") _) _ _ _); (with_reducible show wpAny _ _ (call (Value.type "str") [Value.int _ _]) _ _ _); refine str_of_int (log_small (by assumption)) ?_) | ((with_reducible show wpAny _ _ (call (Value.builtin "len") _) _ _ _); (with_reducible show wpAny _ _ (call (Value.builtin "len") [Value.ref _]) _ _ _); refine HoldN.mk 2 ?_) | ((with_reducible show wpAny _ _ (subscriptTail _ _ _ _) _ _ _); (with_reducible show wpAny _ _ (subscriptTail _ _ (Value.ref _) (Value.int _ _)) _ _ _); refine HoldN.mk 3 ?_) | ((with_reducible show wpAny _ _ (exec (Stmt.For (Expr.Name ..) (Expr.Call ..) ..) _) _ _ _); k_dflt (refine' For_turns ?F ?_; (case F => k_asm); k_whole)) | ((with_reducible show wpAny _ _ (PySem.isTrue _ _ _) _ _ _); (k_fold)) | ((with_reducible show wpAny _ _ (execs (_ :: _) _) _ _ _); (k_fold)) | walk1 | (dsimp only; first | ((with_reducible show wpAny _ _ (call (Value.ref _) _) _ _ _); (show wpAny _ _ (call (Value.ref 782) [_]) _ _ _); refine HoldN.mk 1 ?_) | ((with_reducible show wpAny _ _ (call (Value.type "str") _) _ _ _); (with_reducible show wpAny _ _ (call (Value.type "str") [Value.int _ _]) _ _ _); refine str_of_int (log_small (by assumption)) ?_) | ((with_reducible show wpAny _ _ (call (Value.builtin "len") _) _ _ _); (with_reducible show wpAny _ _ (call (Value.builtin "len") [Value.ref _]) _ _ _); refine HoldN.mk 2 ?_) | ((with_reducible show wpAny _ _ (subscriptTail _ _ _ _) _ _ _); (with_reducible show wpAny _ _ (subscriptTail _ _ (Value.ref _) (Value.int _ _)) _ _ _); refine HoldN.mk 3 ?_) | ((with_reducible show wpAny _ _ (exec (Stmt.For (Expr.Name ..) (Expr.Call ..) ..) _) _ _ _); k_dflt (refine' For_turns ?F ?_; (case F => k_asm); k_whole)) | ((with_reducible show wpAny _ _ (PySem.isTrue _ _ _) _ _ _); (k_fold)) | ((with_reducible show wpAny _ _ (execs (_ :: _) _) _ _ _); (k_fold))) | (dsimp only; walk1) | (leave1; walk_say "STEP leave1"; try dsimp only) | fail "no step"))
        exact pie_close1 F8 N8 ha9 hD9 hap (by intro z h3; simp only [List.contains_cons, List.contains_nil, Bool.or_false, beq_eq_false_iff_ne, ne_eq] at h3; simp [h3, kstB]) (pie_step1 hap0 hne hpc hdr (by assumption) (by (first | lia | omega)) ha9 hD9 hp9)
      · (rename Apart _ _ => ha9); (rename News _ _ _ (_ ++ _) => kN9); (rename Fr _ _ _ _ => kF9); (rename ((_, listO _ _) ∈ _) => hb9); (rename PcsIn _ _ (piecesOf t) => hp9)
        refine ext_head kF9 kN9 (List.mem_append_right _ (List.Mem.tail _ (List.Mem.head _))) pie_mem2 (pie_ap2 ha9 hIl hne) (List.mem_append_left _ hb9) (by have := hp9.len; rw [Array.length_toList] at this; (first | lia | omega)) fun h8 n8 F8 N8 => ?_
        clear kN9 kF9
        (repeat' (first | ((with_reducible show HoldN 3 _); refine HoldN.of ?_; (rename News _ _ _ _ => lN); first | ((with_reducible show wpAny _ _ (subscriptTail _ _ (Value.ref _) (Value.int 0 _)) _ _ _); refine item_led0 lN (by first | with_reducible assumption | exact List.Mem.tail _ (by assumption) | exact List.Mem.tail _ (List.Mem.tail _ (by assumption)) | exact List.Mem.tail _ (List.Mem.tail _ (List.Mem.tail _ (by assumption)))) ?_ (by with_unfolding_all rfl)) | ((with_reducible show wpAny _ _ (subscriptTail _ _ (Value.ref _) (Value.int 1 _)) _ _ _); refine item_led1 lN (by first | with_reducible assumption | exact List.Mem.tail _ (by assumption) | exact List.Mem.tail _ (List.Mem.tail _ (by assumption)) | exact List.Mem.tail _ (List.Mem.tail _ (List.Mem.tail _ (by assumption)))) ?_ (by with_unfolding_all rfl)) | (refine item_led lN (by first | with_reducible assumption | exact List.Mem.tail _ (by assumption) | exact List.Mem.tail _ (List.Mem.tail _ (by assumption)) | exact List.Mem.tail _ (List.Mem.tail _ (List.Mem.tail _ (by assumption)))) (by (first | lia | omega)) (by (first | lia | omega)) (by assumption) ?_ (by with_unfolding_all rfl))) | ((with_reducible show HoldN 2 _); refine HoldN.of ?_; (rename News _ _ _ _ => lN); refine len_led lN (by first | with_reducible assumption | exact List.Mem.tail _ (by assumption) | exact List.Mem.tail _ (List.Mem.tail _ (by assumption)) | exact List.Mem.tail _ (List.Mem.tail _ (List.Mem.tail _ (by assumption)))) (by (first | lia | omega)) ?_; intro _ _) | ((with_reducible show HoldN 1 _); refine HoldN.of ?_; (rename Fr _ _ _ _ => lF); (rename News _ _ _ _ => lN); (rename (∀ d' : Tr, _ → PiecesTells _ _ _ _ d') => lI); (rename TrIn _ _ _ => lT); k_dflt (refine (pie_call lT lI (by assumption)) _ _ _ _ _ _ _ _ _ _ _ _ _ _ _ _ _ _ _ (by k_asm) lF (by k_asm) lN (by k_asm) (by exact rfl) (by first | exact TrIn.up2 lT | exact TrIn.up3 lT) (by assumption) (by assumption) (by ktr_room) (by ktr_units) ?_); intro P' vs' n' tl' h' tk' F' N' ha' hm' hp'; clear lF lN) | (k_unfold; (try dsimp only)) | (k_end; wrow_close) | ((with_reducible show wpAny _ _ (call (Value.ref _) _) _ _ _); (show wpAny _ _ (call (Value.ref 782) [_]) _ _ _); refine HoldN.mk 1 ?_) | ((with_reducible show wpAny _ _ (call (Value.type "str") _) _ _ _); (with_reducible show wpAny _ _ (call (Value.type "str") [Value.int _ _]) _ _ _); refine str_of_int (log_small (by assumption)) ?_) | ((with_reducible show wpAny _ _ (call (Value.builtin "len") _) _ _ _); (with_reducible show wpAny _ _ (call (Value.builtin "len") [Value.ref _]) _ _ _); refine HoldN.mk 2 ?_) | ((with_reducible show wpAny _ _ (subscriptTail _ _ _ _) _ _ _); (with_reducible show wpAny _ _ (subscriptTail _ _ (Value.ref _) (Value.int _ _)) _ _ _); refine HoldN.mk 3 ?_) | ((with_reducible show wpAny _ _ (exec (Stmt.For (Expr.Name ..) (Expr.Call ..) ..) _) _ _ _); k_dflt (refine' For_turns ?F ?_; (case F => k_asm); k_whole)) | ((with_reducible show wpAny _ _ (PySem.isTrue _ _ _) _ _ _); (k_fold)) | ((with_reducible show wpAny _ _ (execs (_ :: _) _) _ _ _); (k_fold)) | walk1 | (dsimp only; first | ((with_reducible show wpAny _ _ (call (Value.ref _) _) _ _ _); (show wpAny _ _ (call (Value.ref 782) [_]) _ _ _); refine HoldN.mk 1 ?_) | ((with_reducible show wpAny _ _ (call (Value.type "str") _) _ _ _); (with_reducible show wpAny _ _ (call (Value.type "str") [Value.int _ _]) _ _ _); refine str_of_int (log_small (by assumption)) ?_) | ((with_reducible show wpAny _ _ (call (Value.builtin "len") _) _ _ _); (with_reducible show wpAny _ _ (call (Value.builtin "len") [Value.ref _]) _ _ _); refine HoldN.mk 2 ?_) | ((with_reducible show wpAny _ _ (subscriptTail _ _ _ _) _ _ _); (with_reducible show wpAny _ _ (subscriptTail _ _ (Value.ref _) (Value.int _ _)) _ _ _); refine HoldN.mk 3 ?_) | ((with_reducible show wpAny _ _ (exec (Stmt.For (Expr.Name ..) (Expr.Call ..) ..) _) _ _ _); k_dflt (refine' For_turns ?F ?_; (case F => k_asm); k_whole)) | ((with_reducible show wpAny _ _ (PySem.isTrue _ _ _) _ _ _); (k_fold)) | ((with_reducible show wpAny _ _ (execs (_ :: _) _) _ _ _); (k_fold))) | (dsimp only; walk1) | (leave1; walk_say "STEP leave1"; try dsimp only) | fail "no step"))
        exact pie_close2 F8 N8 ha9 hap (by intro z h3; simp only [List.contains_cons, List.contains_nil, Bool.or_false, beq_eq_false_iff_ne, ne_eq] at h3; simp [h3, kstB]) (pie_step2 hap0 hne hpc hdr (by assumption) ha9 hp9)
    case done =>
      clear F1 N1 hR1
      rintro ⟨pvs, n, tl⟩ u h9 tk9 ⟨⟨t0, rfl, hap0, hpc⟩, hne⟩ F' N'
      dsimp only at hpc hne F' N' ⊢
      have hm1' := List.mem_append_right t0 hm1
      have hm2' := List.mem_append_right t0 hm2
      have hpz : pvs.size ≤ 10000 := by have := hpc.len; rw [Array.length_toList] at this; rw [this]; exact Nat.le_trans pie_len hpl
      (repeat' (first | ((with_reducible show HoldN 3 _); refine HoldN.of ?_; (rename News _ _ _ _ => lN); first | ((with_reducible show wpAny _ _ (subscriptTail _ _ (Value.ref _) (Value.int 0 _)) _ _ _); refine item_led0 lN (by first | with_reducible assumption | exact List.Mem.tail _ (by assumption) | exact List.Mem.tail _ (List.Mem.tail _ (by assumption)) | exact List.Mem.tail _ (List.Mem.tail _ (List.Mem.tail _ (by assumption)))) ?_ (by with_unfolding_all rfl)) | ((with_reducible show wpAny _ _ (subscriptTail _ _ (Value.ref _) (Value.int 1 _)) _ _ _); refine item_led1 lN (by first | with_reducible assumption | exact List.Mem.tail _ (by assumption) | exact List.Mem.tail _ (List.Mem.tail _ (by assumption)) | exact List.Mem.tail _ (List.Mem.tail _ (List.Mem.tail _ (by assumption)))) ?_ (by with_unfolding_all rfl)) | (refine item_led lN (by first | with_reducible assumption | exact List.Mem.tail _ (by assumption) | exact List.Mem.tail _ (List.Mem.tail _ (by assumption)) | exact List.Mem.tail _ (List.Mem.tail _ (List.Mem.tail _ (by assumption)))) (by (first | lia | omega)) (by (first | lia | omega)) (by assumption) ?_ (by with_unfolding_all rfl))) | ((with_reducible show HoldN 2 _); refine HoldN.of ?_; (rename News _ _ _ _ => lN); refine len_led lN (by first | with_reducible assumption | exact List.Mem.tail _ (by assumption) | exact List.Mem.tail _ (List.Mem.tail _ (by assumption)) | exact List.Mem.tail _ (List.Mem.tail _ (List.Mem.tail _ (by assumption)))) (by (first | lia | omega)) ?_; intro _ _) | ((with_reducible show HoldN 1 _); refine HoldN.of ?_; (rename Fr _ _ _ _ => lF); (rename News _ _ _ _ => lN); (rename (∀ d' : Tr, _ → PiecesTells _ _ _ _ d') => lI); (rename TrIn _ _ _ => lT); k_dflt (refine (pie_call lT lI (by assumption)) _ _ _ _ _ _ _ _ _ _ _ _ _ _ _ _ _ _ _ (by k_asm) lF (by k_asm) lN (by k_asm) (by exact rfl) (by first | exact TrIn.up2 lT | exact TrIn.up3 lT) (by assumption) (by assumption) (by ktr_room) (by ktr_units) ?_); intro P' vs' n' tl' h' tk' F' N' ha' hm' hp'; clear lF lN) | (k_unfold; (try dsimp only)) | (k_end; wrow_close) | ((with_reducible show wpAny _ _ (call (Value.ref _) _) _ _ _); (show wpAny _ _ (call (Value.ref 782) [_]) _ _ _); refine HoldN.mk 1 ?_) | ((with_reducible show wpAny _ _ (call (Value.type "str") _) _ _ _); (with_reducible show wpAny _ _ (call (Value.type "str") [Value.int _ _]) _ _ _); refine str_of_int (log_small (by assumption)) ?_) | ((with_reducible show wpAny _ _ (call (Value.builtin "len") _) _ _ _); (with_reducible show wpAny _ _ (call (Value.builtin "len") [Value.ref _]) _ _ _); refine HoldN.mk 2 ?_) | ((with_reducible show wpAny _ _ (subscriptTail _ _ _ _) _ _ _); (with_reducible show wpAny _ _ (subscriptTail _ _ (Value.ref _) (Value.int _ _)) _ _ _); refine HoldN.mk 3 ?_) | ((with_reducible show wpAny _ _ (exec (Stmt.For (Expr.Name ..) (Expr.Call ..) ..) _) _ _ _); k_dflt (refine' For_turns ?F ?_; (case F => k_asm); k_whole)) | ((with_reducible show wpAny _ _ (PySem.isTrue _ _ _) _ _ _); (k_fold)) | ((with_reducible show wpAny _ _ (execs (_ :: _) _) _ _ _); (k_fold)) | walk1 | (dsimp only; first | ((with_reducible show wpAny _ _ (call (Value.ref _) _) _ _ _); (show wpAny _ _ (call (Value.ref 782) [_]) _ _ _); refine HoldN.mk 1 ?_) | ((with_reducible show wpAny _ _ (call (Value.type "str") _) _ _ _); (with_reducible show wpAny _ _ (call (Value.type "str") [Value.int _ _]) _ _ _); refine str_of_int (log_small (by assumption)) ?_) | ((with_reducible show wpAny _ _ (call (Value.builtin "len") _) _ _ _); (with_reducible show wpAny _ _ (call (Value.builtin "len") [Value.ref _]) _ _ _); refine HoldN.mk 2 ?_) | ((with_reducible show wpAny _ _ (subscriptTail _ _ _ _) _ _ _); (with_reducible show wpAny _ _ (subscriptTail _ _ (Value.ref _) (Value.int _ _)) _ _ _); refine HoldN.mk 3 ?_) | ((with_reducible show wpAny _ _ (exec (Stmt.For (Expr.Name ..) (Expr.Call ..) ..) _) _ _ _); k_dflt (refine' For_turns ?F ?_; (case F => k_asm); k_whole)) | ((with_reducible show wpAny _ _ (PySem.isTrue _ _ _) _ _ _); (k_fold)) | ((with_reducible show wpAny _ _ (execs (_ :: _) _) _ _ _); (k_fold))) | (dsimp only; walk1) | (leave1; walk_say "STEP leave1"; try dsimp only) | fail "no step"))
      · (show Q _ _); (rename News h₀ L _ _ => kN9); (rename Fr h₀ L _ m => kF9); (rename (_ < _ ∧ _ < _ ∧ AllLt _ (t0 ++ news)) => hD9); (rename (_ < _ ∧ AllLt _ (t0 ++ news)) => hD8)
        exact hret _ _ _ (_ :: _ :: _ :: t0) _ _ kF9 kN9 (apart_D (apart_D (apart_l hap0 hne) hD8.2) hD9.2.2) (List.Mem.tail _ (List.Mem.tail _ (List.Mem.head _))) (pie_doneC hnk (by assumption) (by assumption) hvl hpc)
      · (show Q _ _); (rename News h₀ L _ _ => kN9); (rename Fr h₀ L _ m => kF9); (rename (_ < _ ∧ AllLt _ (t0 ++ news)) => hD8)
        exact hret _ _ _ (_ :: _ :: t0) _ _ kF9 kN9 (apart_D (apart_l hap0 hne) hD8.2) (List.Mem.tail _ (List.Mem.head _)) (pie_doneN hnk (by (first | lia | omega)) hvl hpc)
      · (show Q _ _); (rename News h₀ L _ _ => kN9); (rename Fr h₀ L _ m => kF9); (rename (_ < _ ∧ AllLt _ (t0 ++ news)) => hD8)
        exact hret _ _ _ (_ :: _ :: t0) _ _ kF9 kN9 (apart_D (apart_l hap0 hne) hD8.2) (List.Mem.tail _ (List.Mem.head _)) (pie_doneN hnk (by (first | lia | omega)) hvl hpc)
theorem c_pieces {w : World} {mean : ExcName → Option Value} {mg mb : Str → Option Value} : ∀ d : Tr, PiecesTells w mean mg mb d := by
  have all : ∀ n, ∀ d : Tr, d.size < n → PiecesTells w mean mg mb d := by
    intro n
    induction n with
    | zero => intro d h; exact absurd h (Nat.not_lt_zero _)
    | succ n ih => exact fun d h => pieces_step d fun d' h' => ih d' (Nat.lt_of_lt_of_le h' (Nat.le_of_lt_succ h))
  exact fun d => all _ d (Nat.lt_succ_self _)
end Mine
end
section
open PySem PySem.W PyProof.Rows PySem.Calls
open PyProof.Rows.LCg PyProof.Rows.LCp
set_option maxHeartbeats 1000000
namespace Mine
theorem item_last {prog : Program} {w : World} {A : Around} {E : Value → Shared → Prop} {s : Shared} {value slice : PySem.Expr} {h₀ : Heap} {L l : Addr} {news : List (Addr × Obj)} {xs : Array Value} {x : Value} {n : Nat} {u : Tok} {Q : Value → Shared → Prop}
    (N : News h₀ L s.heap news) (hm : (l, listO (xs.push x) n) ∈ news) (h : Q x s) (hs : subscripted slice false (.ref l) (.int (-1) u) = operate [.ref l, .int (-1) u] (getItem (.ref l) (.int (-1) u)) := by with_unfolding_all rfl) :
    wpAny (model prog w) A (subscriptTail value slice (.ref l) (.int (-1) u)) Q E s := by
  have hl : s.heap.IsList l (xs.push x) := News.isList N hm
  refine tail_any hl.typeIs slot_list_getitem.lookup (wpAny_getItem_list_neg hl (by decide) (by rw [Array.size_push]; (first | lia | omega)) (by decide) ?_ h) hs
  rw [Array.size_push, show ((-1 : Int) + ((xs.size + 1 : Nat) : Int)).toNat = xs.size from by (first | lia | omega)]
  simp
structure RwS where
  r : Addr
  cur : Array Value
  n : Nat
  rvs : Array Value
  n2 : Nat
  tl : List (Addr × Obj)
theorem rw_blank {T : List (List Str)} {hid : Str} {rest tl : List (Addr × Obj)} {R r r' : Addr} {l : List Nat} {ps : List Piece} {cur rvs : Array Value} {n : Nat} (h : RwI T hid rest R (32 :: l) ps r cur rvs tl) (h1 : ∀ p ∈ tl, p.1 ≠ r') (h2 : (@Ne Nat r r')) (h3 : (@Ne Nat R r')) :
    RwI T hid rest R l ps r' #[] (rvs.push (.ref r)) ((r, listO cur n) :: tl) := by
  obtain ⟨hs, hn, hrR, d, c, hd, hc, hT, hw, k1, k2⟩ := h
  refine ⟨fun p hp => List.Mem.tail _ (hs p hp), ?_, Ne.symm h3, d ++ [c], [], ?_, .nil, ?_, ?_, ?_, fun _ h => nomatch h⟩
  · intro p hp
    rcases List.mem_cons.mp hp with rfl | hp
    · exact ⟨h2, hrR⟩
    · exact ⟨h1 p hp, (hn p hp).2⟩
  · rw [Array.toList_push]
    exact RowsIn.snoc (hd.mono fun p hp => List.Mem.tail _ hp) (List.Mem.head _) hc
  · rw [← hT, rwC_b]
  · rw [wtD_snoc]
    simp only [List.length_cons] at hw
    have : wtR ([] : List Str) = 0 := rfl
    (first | lia | omega)
  · intro row hr
    rcases List.mem_append.mp hr with hr | hr
    · exact k1 row hr
    · rw [List.mem_singleton.mp hr]; exact k2
theorem rw_sign {T : List (List Str)} {hid : Str} {rest tl : List (Addr × Obj)} {R r : Addr} {x : Nat} {l : List Nat} {ps : List Piece} {cur rvs : Array Value} {t : Tok} (h : RwI T hid rest R (x :: l) ps r cur rvs tl) (hx : x ≠ 32) (hk : x < 0x110000) :
    RwI T hid rest R l ps r (cur.push (.str ⟨#[x]⟩ t)) rvs tl := by
  obtain ⟨hs, hn, hrR, d, c, hd, hc, hT, hw, k1, k2⟩ := h
  refine ⟨hs, hn, hrR, d, c ++ [⟨#[x]⟩], hd, ?_, ?_, ?_, k1, ?_⟩
  · rw [Array.toList_push]; exact StrsAre.snoc hc _ _
  · rw [← hT, rwC_s hx]
  · rw [wtR_snoc]
    simp only [List.length_cons] at hw
    have : (⟨#[x]⟩ : Str).length = 1 := rfl
    (first | lia | omega)
  · intro y hy
    rcases List.mem_append.mp hy with hy | hy
    · exact k2 y hy
    · rw [List.mem_singleton.mp hy]; simp [PyData.strOk, hk]
theorem rw_part {T : List (List Str)} {hid m p : Str} {rest tl : List (Addr × Obj)} {R r : Addr} {ps : List Piece} {cur rvs : Array Value} {t : Tok} (h : RwI T hid rest R [] ((m, p) :: ps) r cur rvs tl) (h1 : (m == Str.ofString "") = false) (h2 : (m == hid) = false) (hk : PyData.strOk p = true) :
    RwI T hid rest R [] ps r (cur.push (.str p t)) rvs tl := by
  obtain ⟨hs, hn, hrR, d, c, hd, hc, hT, hw, k1, k2⟩ := h
  refine ⟨hs, hn, hrR, d, c ++ [p], hd, ?_, ?_, ?_, k1, ?_⟩
  · rw [Array.toList_push]; exact StrsAre.snoc hc _ _
  · rw [← hT, rwC_nil, rwC_nil]
    have h1' : m ≠ Str.ofString "" := by simpa using h1
    have h2' : m ≠ hid := by simpa using h2
    simp [rwP, h1', h2']
  · rw [wtR_snoc]
    simp only [remP, List.map_cons, List.sum_cons, List.length_nil] at hw ⊢
    (first | lia | omega)
  · intro y hy
    rcases List.mem_append.mp hy with hy | hy
    · exact k2 y hy
    · rw [List.mem_singleton.mp hy]; exact hk
theorem rw_skip {T : List (List Str)} {hid m p : Str} {rest tl : List (Addr × Obj)} {R r : Addr} {ps : List Piece} {cur rvs : Array Value} (h : RwI T hid rest R [] ((m, p) :: ps) r cur rvs tl) (h1 : (m == Str.ofString "") = false) (h2 : (m == hid) = true) :
    RwI T hid rest R [] ps r cur rvs tl := by
  obtain ⟨hs, hn, hrR, d, c, hd, hc, hT, hw, k1, k2⟩ := h
  refine ⟨hs, hn, hrR, d, c, hd, hc, ?_, ?_, k1, k2⟩
  · rw [← hT, rwC_nil, rwC_nil]
    have h1' : m ≠ Str.ofString "" := by simpa using h1
    have h2' : m = hid := by simpa using h2
    subst h2'
    simp [rwP, h1']
  · simp only [remP, List.map_cons, List.sum_cons, List.length_nil] at hw ⊢
    (first | lia | omega)
theorem rw_open {T : List (List Str)} {hid m p : Str} {rest tl : List (Addr × Obj)} {R r : Addr} {ps : List Piece} {cur rvs : Array Value} (h : RwI T hid rest R [] ((m, p) :: ps) r cur rvs tl) (h1 : (m == Str.ofString "") = true) :
    RwI T hid rest R p.cps.toList ps r cur rvs tl := by
  obtain ⟨hs, hn, hrR, d, c, hd, hc, hT, hw, k1, k2⟩ := h
  refine ⟨hs, hn, hrR, d, c, hd, hc, ?_, ?_, k1, k2⟩
  · rw [← hT, rwC_nil]
    have h1' : m = Str.ofString "" := by simpa using h1
    subst h1'
    simp [rwP, rwC]
  · simp only [remP, List.map_cons, List.sum_cons, List.length_nil] at hw ⊢
    have : p.cps.toList.length = p.length := by simp [Str.length]
    (first | lia | omega)
theorem rw_sizes {T : List (List Str)} {hid : Str} {rest tl : List (Addr × Obj)} {R r : Addr} {l : List Nat} {ps : List Piece} {cur rvs : Array Value} (h : RwI T hid rest R l ps r cur rvs tl) : cur.size ≤ 4000 ∧ rvs.size ≤ 4000 := by
  obtain ⟨hs, hn, hrR, d, c, hd, hc, hT, hw, k1, k2⟩ := h
  have a1 := hd.len; have a2 := StrsAre.len hc; have a3 := wtD_len d; have a4 := wtR_len c
  rw [Array.length_toList] at a1 a2
  (first | lia | omega)
theorem ok_at {p : Str} (h : PyData.strOk p = true) {j x : Nat} (hd : p.cps.toList.drop j = x :: p.cps.toList.drop (j + 1)) : x < 0x110000 := by
  have hm : x ∈ p.cps.toList := List.mem_of_mem_drop (i := j) (by rw [hd]; exact List.Mem.head _)
  unfold PyData.strOk at h
  rw [← Array.all_toList] at h
  simpa using List.all_eq_true.mp h x hm
theorem off_mem {I : Addr} {a b : Addr × Obj} {tl : List (Addr × Obj)} (hap : ∀ p ∈ a :: b :: tl, p.1 ≠ I) : a.1 ≠ I ∧ b.1 ≠ I ∧ ∀ p ∈ tl, p.1 ≠ I := ⟨hap _ (List.Mem.head _), hap _ (List.Mem.tail _ (List.Mem.head _)), fun p hp => hap p (List.Mem.tail _ (List.Mem.tail _ hp))⟩
noncomputable abbrev LedW (R : Addr) (c : RwS) : List (Addr × Obj) := (c.r, listO c.cur c.n) :: (R, listO (c.rvs.push (.ref c.r)) c.n2) :: c.tl
theorem allLt_mem7 {d : Nat} {l : List (Addr × Obj)} (h : AllLt d l) : ∀ p ∈ l, @LT.lt Nat _ p.1 d := by
  induction l with
  | nil => intro p hp; cases hp
  | cons a r ih =>
    intro p hp
    rcases List.mem_cons.mp hp with rfl | hp
    · exact h.1
    · exact ih h.2 p hp
theorem sp_yes {c : Nat} (h : ((⟨#[c]⟩ : Str) == Str.ofString " ") = true) : c = 32 := by
  rw [show Str.ofString " " = (⟨#[32]⟩ : Str) from by decide +kernel] at h
  simpa using h
theorem sp_no {c : Nat} (h : ((⟨#[c]⟩ : Str) == Str.ofString " ") = false) : c ≠ 32 := by
  intro e
  subst e
  rw [show Str.ofString " " = (⟨#[32]⟩ : Str) from by decide +kernel] at h
  simp at h
section
variable {h₀ h' : Heap} {L : Addr} {s : Shared} {tk : Nat} {m' m₀ : Str → Option Value} {stored : List Str} {T : List (List Str)} {hid : Str} {rest tl : List (Addr × Obj)} {R r I I2 : Addr} {oI oI2 : Obj} {ps : List Piece} {cur rvs : Array Value} {n n2 : Nat}
theorem rwk_blank {r' : Addr} {k : Nat} {l : List Nat} {x : Nat} (F : Fr h₀ L h' m') (N : News h₀ L h' ((r', listO #[] 0) :: (I2, oI2) :: (I, oI) :: (r, listO cur n) :: (R, listO ((rvs.push (.ref r)).push (.ref r')) k) :: tl))
    (l1 : I2 < r' ∧ I < r' ∧ r < r' ∧ R < r' ∧ AllLt r' tl) (hP : RwI T hid rest R (x :: l) ps r cur rvs tl) (hx : ((⟨#[x]⟩ : Str) == Str.ofString " ") = true) (h1 : ∀ p ∈ (r, listO cur n) :: (R, listO (rvs.push (.ref r)) n2) :: tl, p.1 ≠ I) (h2 : ∀ p ∈ (I, oI) :: (r, listO cur n) :: (R, listO (rvs.push (.ref r)) n2) :: tl, p.1 ≠ I2)
    (hr : ∀ z, stored.contains z = false → m' z = m₀ z) :
    KfEnd h₀ L s [(I2, oI2)] [I2] (fun c : RwS => (I, oI) :: LedW R c) (fun _ => []) stored m₀ (fun c => RwI T hid rest R l ps c.r c.cur c.rvs c.tl ∧ ∀ p ∈ LedW R c, p.1 ≠ I) { s with heap := h', toks := tk } := by
  have a1 : @LT.lt Nat _ I2 r' := l1.1
  have a2 : @LT.lt Nat _ I r' := l1.2.1
  have a3 : @LT.lt Nat _ r r' := l1.2.2.1
  have a4 : @LT.lt Nat _ R r' := l1.2.2.2.1
  have e32 := sp_yes hx
  subst e32
  refine kf_end ⟨r', #[], 0, rvs.push (.ref r), k, (r, listO cur n) :: tl⟩ F N (fun p hp => ?_) (fun p hp => ?_) (fun _ h => nomatch h) (fun z _ hz => hr z hz) ⟨rw_blank hP (fun p hp => Nat.ne_of_lt (allLt_mem7 l1.2.2.2.2 p hp)) (Nat.ne_of_lt a3) (Nat.ne_of_lt a4), fun p hp => ?_⟩
  · rw [List.mem_singleton.mp hp]; exact List.Mem.tail _ (List.Mem.head _)
  · rw [List.mem_singleton]
    rcases List.mem_cons.mp hp with rfl | hp
    · exact ⟨List.Mem.tail _ (List.Mem.tail _ (List.Mem.head _)), h2 (I, oI) (List.Mem.head _)⟩
    rcases List.mem_cons.mp hp with rfl | hp
    · exact ⟨List.Mem.head _, Nat.ne_of_gt a1⟩
    rcases List.mem_cons.mp hp with rfl | hp
    · exact ⟨List.Mem.tail _ (List.Mem.tail _ (List.Mem.tail _ (List.Mem.tail _ (List.Mem.head _)))), h2 (R, listO (rvs.push (.ref r)) n2) (List.Mem.tail _ (List.Mem.tail _ (List.Mem.head _)))⟩
    rcases List.mem_cons.mp hp with rfl | hp
    · exact ⟨List.Mem.tail _ (List.Mem.tail _ (List.Mem.tail _ (List.Mem.head _))), h2 (r, listO cur n) (List.Mem.tail _ (List.Mem.head _))⟩
    · exact ⟨List.Mem.tail _ (List.Mem.tail _ (List.Mem.tail _ (List.Mem.tail _ (List.Mem.tail _ hp)))), h2 p (List.Mem.tail _ (List.Mem.tail _ (List.Mem.tail _ hp)))⟩
  · rcases List.mem_cons.mp hp with rfl | hp
    · exact Nat.ne_of_gt a2
    rcases List.mem_cons.mp hp with rfl | hp
    · exact h1 (R, listO (rvs.push (.ref r)) n2) (List.Mem.tail _ (List.Mem.head _))
    rcases List.mem_cons.mp hp with rfl | hp
    · exact h1 (r, listO cur n) (List.Mem.head _)
    · exact h1 p (List.Mem.tail _ (List.Mem.tail _ hp))
theorem rwk_sign {k : Nat} {l : List Nat} {x : Nat} {t : Tok} (F : Fr h₀ L h' m') (N : News h₀ L h' ((I2, oI2) :: (I, oI) :: (r, listO (cur.push (.str ⟨#[x]⟩ t)) k) :: (R, listO (rvs.push (.ref r)) n2) :: tl))
    (hP : RwI T hid rest R (x :: l) ps r cur rvs tl) (hx : ((⟨#[x]⟩ : Str) == Str.ofString " ") = false) (hk : x < 0x110000) (h1 : ∀ p ∈ (r, listO cur n) :: (R, listO (rvs.push (.ref r)) n2) :: tl, p.1 ≠ I) (h2 : ∀ p ∈ (I, oI) :: (r, listO cur n) :: (R, listO (rvs.push (.ref r)) n2) :: tl, p.1 ≠ I2)
    (hr : ∀ z, stored.contains z = false → m' z = m₀ z) :
    KfEnd h₀ L s [(I2, oI2)] [I2] (fun c : RwS => (I, oI) :: LedW R c) (fun _ => []) stored m₀ (fun c => RwI T hid rest R l ps c.r c.cur c.rvs c.tl ∧ ∀ p ∈ LedW R c, p.1 ≠ I) { s with heap := h', toks := tk } := by
  refine kf_end ⟨r, cur.push (.str ⟨#[x]⟩ t), k, rvs, n2, tl⟩ F N (fun p hp => ?_) (fun p hp => ?_) (fun _ h => nomatch h) (fun z _ hz => hr z hz) ⟨rw_sign hP (sp_no hx) hk, fun p hp => ?_⟩
  · rw [List.mem_singleton.mp hp]; exact List.Mem.head _
  · rw [List.mem_singleton]
    rcases List.mem_cons.mp hp with rfl | hp
    · exact ⟨List.Mem.tail _ (List.Mem.head _), h2 (I, oI) (List.Mem.head _)⟩
    rcases List.mem_cons.mp hp with rfl | hp
    · exact ⟨List.Mem.tail _ (List.Mem.tail _ (List.Mem.head _)), h2 (r, listO cur n) (List.Mem.tail _ (List.Mem.head _))⟩
    · exact ⟨List.Mem.tail _ (List.Mem.tail _ (List.Mem.tail _ hp)), h2 p (List.Mem.tail _ (List.Mem.tail _ hp))⟩
  · rcases List.mem_cons.mp hp with rfl | hp
    · exact h1 (r, listO cur n) (List.Mem.head _)
    · exact h1 p (List.Mem.tail _ hp)
/-- the end of an outer turn -/
theorem rwk_out {cur' : Array Value} (F : Fr h₀ L h' m') (N : News h₀ L h' ((I, oI) :: (r, listO cur' n) :: (R, listO (rvs.push (.ref r)) n2) :: tl))
    (hP : RwI T hid rest R [] ps r cur' rvs tl) {o : Obj} (h1 : ∀ p ∈ (r, o) :: (R, listO (rvs.push (.ref r)) n2) :: tl, p.1 ≠ I)
    (hr : ∀ z, stored.contains z = false → m' z = m₀ z) :
    KfEnd h₀ L s [(I, oI)] [I] (LedW R) (fun _ => []) stored m₀ (fun c => RwI T hid rest R [] ps c.r c.cur c.rvs c.tl) { s with heap := h', toks := tk } := by
  refine kf_end ⟨r, cur', n, rvs, n2, tl⟩ F N (fun p hp => ?_) (fun p hp => ?_) (fun _ h => nomatch h) (fun z _ hz => hr z hz) hP
  · rw [List.mem_singleton.mp hp]; exact List.Mem.head _
  · rw [List.mem_singleton]
    rcases List.mem_cons.mp hp with rfl | hp
    · exact ⟨List.Mem.tail _ (List.Mem.head _), h1 (r, o) (List.Mem.head _)⟩
    · exact ⟨List.Mem.tail _ (List.Mem.tail _ hp), h1 p (List.Mem.tail _ hp)⟩
end
theorem rw_end {T : List (List Str)} {hid : Str} {rest tl : List (Addr × Obj)} {R r : Addr} {cur rvs : Array Value} {n n2 : Nat} (h : RwI T hid rest R [] [] r cur rvs tl) : RowsIn ((r, listO cur n) :: (R, listO (rvs.push (.ref r)) n2) :: tl) (rvs.push (.ref r)).toList T ∧ wtD T ≤ 4001 ∧ (∀ row ∈ T, ∀ x ∈ row, PyData.strOk x = true) ∧ rvs.size ≤ 4000 := by
  have hz := (rw_sizes h).2
  obtain ⟨hs, hn, hrR, d, c, hd, hc, hT, hw, k1, k2⟩ := h
  have e : T = d ++ [c] := by rw [← hT]; rfl
  subst e
  refine ⟨?_, ?_, ?_, hz⟩
  · rw [Array.toList_push]
    exact RowsIn.snoc (hd.mono fun p hp => List.Mem.tail _ (List.Mem.tail _ hp)) (List.Mem.head _) hc
  · rw [wtD_snoc]; (first | lia | omega)
  · intro row hr
    rcases List.mem_append.mp hr with hr | hr
    · exact k1 row hr
    · rw [List.mem_singleton.mp hr]; exact k2
theorem strs_carried : ∀ {vs : List Value} {xs : List Str}, StrsAre vs xs → CarriedAll vs (xs.map PyData.str)
  | _, _, .nil => .nil
  | _, _, .cons _ t r => .cons (.str _ t) (strs_carried r)
theorem strs_lay : ∀ {xs : List Str}, (∀ x ∈ xs, PyData.strOk x = true) → PyData.canLayAll0 (xs.map PyData.str) = true
  | [], _ => rfl
  | x :: r, h => by
    have h1 := h x (List.Mem.head _)
    have h2 := strs_lay (xs := r) fun y hy => h y (List.Mem.tail _ hy)
    simp [PyData.canLayAll0, PyData.canLay0, h1, h2]
theorem strs_depth : ∀ xs : List Str, PyData.depthAll (xs.map PyData.str) = 0
  | [] => rfl
  | _ :: r => by simp [PyData.depthAll, PyData.depth, strs_depth r]
theorem strs_shaped {xs : List Str} (h : ∀ x ∈ xs, PyData.strOk x = true) : SeqAt.shaped (.list (xs.map PyData.str)) = true := by
  simp [SeqAt.shaped, PyData.canLay0, PyData.depth, strs_lay h, strs_depth]
theorem ne_nil_led {prog : Program} {w : World} {A : Around} {E : Value → Shared → Prop} {s : Shared} {h₀ : Heap} {L a e : Addr} {news : List (Addr × Obj)} {us : Array Value} {n k : Nat} {row : List Str} {b : Bool} {Q : Value → Shared → Prop}
    (N : News h₀ L s.heap news) (hE : (e, listO #[] k) ∈ news) (ha : (a, listO us n) ∈ news) (hr : StrsAre us.toList row) (hok : ∀ x ∈ row, PyData.strOk x = true) (hu : A.units + 64 < cLine) (hb : decide (row ≠ []) = b) (h : Q (.bool b) s) :
    wpAny (model prog w) A (compareOp .NotEq (.ref a) (.ref e)) Q E s := by
  have ha' : s.heap.IsList a us.toList.toArray := by rw [Array.toArray_toList]; exact News.isList N ha
  have he' : s.heap.IsList e ([] : List Value).toArray := News.isList N hE
  refine ne_dataH (reads_newData ha' (strs_carried hr)) (reads_newData he' (CarriedAll.nil)) (strs_shaped hok) (by decide) hu ?_
  have : (!PyData.eqv (.list (row.map PyData.str)) (.list [])) = b := by
    rw [← hb]
    cases row <;> simp [PyData.eqv, PyData.eqvAll]
  rw [this]
  exact h
theorem row_ok {T : List (List Str)} {i : Nat} {row : List Str} (hdr : T.drop i = row :: T.drop (i + 1)) : row ∈ T := List.mem_of_mem_drop (i := i) (by rw [hdr]; exact List.Mem.head _)
theorem row_fits {T : List (List Str)} {row : List Str} (h : row ∈ T) (hw : wtD T ≤ 4001) : (row.map (·.length)).sum + row.length * (Str.ofString "").length ≤ 16777216 := by
  have h2 : (Str.ofString "").length = 0 := by decide +kernel
  have h1 : wtR row + 1 ≤ wtD T := by
    clear hw
    induction T with
    | nil => cases h
    | cons a r ih =>
      simp only [wtD, List.map_cons, List.sum_cons] at ih ⊢
      rcases List.mem_cons.mp h with rfl | h
      · (first | lia | omega)
      · have := ih h; (first | lia | omega)
  have h3 : (row.map (·.length)).sum ≤ wtR row := by
    clear h h1
    induction row with
    | nil => exact Nat.zero_le _
    | cons a r ih => simp only [wtR, List.map_cons, List.sum_cons] at *; (first | lia | omega)
  rw [h2]; (first | lia | omega)
set_option maxHeartbeats 4000000 in
theorem c_words {w : World} {mean : ExcName → Option Value} {mg mb : Str → Option Value}
  {dp un : Nat} {gd : Option (List Code)} {cn : Str} {cs : Scope} {a : Addr} {ccd : Value} {cl : List (Str × Addr)} {outer : List Env} {A₀ : Around} {base h₀ : Heap} {L : Addr} {m : Str → Option Value} {rest : List (Addr × Obj)} {s : Shared}
    {Q E : Value → Shared → Prop} {l : Addr} {vs : Array Value} {ln : Nat} {ps : List Piece} {hid : Str} {th : Tok}
    (B : Below A₀ base outer h₀) (F : Fr h₀ L s.heap m) (X : (Mine.hd.heap_1_39 w.params).In h₀)
    (N : News h₀ L s.heap rest)
    (T : Top Mine.hd.view_1_40 LO mean mg mb h₀) (hk : cs.kind = .function) (hdp : dp + 10 < recursionLimit) (hun : un + 100 < cLine)
    (hl : (l, listO vs ln) ∈ rest) (hps : PcsIn rest vs.toList ps) (hsz : remP ps ≤ 3000) (hok : ∀ q ∈ ps, PyData.strOk q.2 = true)
    (ret : ∀ W wvs n tl h' tk', (W, listO wvs n) ∈ tl → StrsAre wvs.toList (wordsP ps hid) → (∀ p ∈ rest, p ∈ tl) → Fr h₀ L h' m → News h₀ L h' tl → Q (.ref W) { s with heap := h', toks := tk' })
    : wpAny (model PySem.Challenge.rw_ny0347_01.row.prog w) (ktrTop dp un gd cn cs L a ccd cl outer) (call (.ref 799) [.ref l, .str hid th]) Q E s := by
  w_top off
  revert N X; k_fill; intro X N
  refine wpAny_call ?_
  k_dflt ((refine' code_def ?k1 ?k2 ?k3 ?k4 ?k5 ?kA ?kF ?kK ?k6 ?k7 ?k8 ?k9 ?kB ?_ ?c2 ?c3 ?c4 ?c5; (case kA => exact rfl); (case kF => exact rfl); (case kK => assumption); (case k1 => k_asm); (case k2 => k_asm); (case k3 => k_asm); (case k4 => k_asm); (case k5 => k_asm); (case k6 => k_is); (case k7 => k_is); (case k8 => ktr_room); (case k9 => first | exact BindsTo.of_eq rfl | exact binds_K (by k_in) rfl (by k_is) rfl rfl rfl); (case c5 => decide); (case kB => exact locs rfl); (case c2 => exact rfl); (case c3 => exact rfl); (case c4 => exact rfl); k_whole; intro g' L' h' FG' F' N' B' X' T'; (try dsimp only); (try k_fold)))
  (repeat' (first | ((with_reducible show HoldN 1 _); refine HoldN.of ?_; (rename News _ _ _ _ => lN); refine item_last lN (by first | exact List.Mem.head _ | exact List.Mem.tail _ (List.Mem.head _) | exact List.Mem.tail _ (List.Mem.tail _ (List.Mem.head _)) | exact List.Mem.tail _ (List.Mem.tail _ (List.Mem.tail _ (List.Mem.head _)))) ?_ (by with_unfolding_all rfl)) | (k_unfold; (try dsimp only)) | (k_end; wrow_close) | ((with_reducible show Mine.KfPost ..); (dsimp only [KfPost])) | ((with_reducible show wpAny _ _ (subscriptTail _ _ _ _) _ _ _); (with_reducible show wpAny _ _ (subscriptTail _ _ (Value.ref _) (Value.int (-1) _)) _ _ _); refine HoldN.mk 1 ?_) | ((with_reducible show wpAny _ _ (eval (Expr.ListComp ..) _) _ _ _); k_dflt (refine LCt.ListComp_T (F₀ := by k_asm) (by with_unfolding_all rfl) (by decide) (by rfl) (by decide) (by rfl) ?_)) | ((with_reducible show wpAny _ _ (exec (Stmt.For (Expr.Name ..) (Expr.Name ..) ..) _) _ _ _); k_dflt (refine' For_turns ?F ?_; (case F => k_asm); k_whole)) | ((with_reducible show wpAny _ _ (exec (Stmt.For ..) _) _ _ _); k_dflt (refine' For_turns ?F ?_; (case F => k_asm); k_whole)) | ((with_reducible show wpAny _ _ (PySem.isTrue _ _ _) _ _ _); (k_fold)) | ((with_reducible show wpAny _ _ (execs (_ :: _) _) _ _ _); (k_fold)) | walk1 | (dsimp only; first | ((with_reducible show Mine.KfPost ..); (dsimp only [KfPost])) | ((with_reducible show wpAny _ _ (subscriptTail _ _ _ _) _ _ _); (with_reducible show wpAny _ _ (subscriptTail _ _ (Value.ref _) (Value.int (-1) _)) _ _ _); refine HoldN.mk 1 ?_) | ((with_reducible show wpAny _ _ (eval (Expr.ListComp ..) _) _ _ _); k_dflt (refine LCt.ListComp_T (F₀ := by k_asm) (by with_unfolding_all rfl) (by decide) (by rfl) (by decide) (by rfl) ?_)) | ((with_reducible show wpAny _ _ (exec (Stmt.For (Expr.Name ..) (Expr.Name ..) ..) _) _ _ _); k_dflt (refine' For_turns ?F ?_; (case F => k_asm); k_whole)) | ((with_reducible show wpAny _ _ (exec (Stmt.For ..) _) _ _ _); k_dflt (refine' For_turns ?F ?_; (case F => k_asm); k_whole)) | ((with_reducible show wpAny _ _ (PySem.isTrue _ _ _) _ _ _); (k_fold)) | ((with_reducible show wpAny _ _ (execs (_ :: _) _) _ _ _); (k_fold))) | (dsimp only; walk1) | (leave1; walk_say "STEP leave1"; try dsimp only) | fail "no step"))
  rename Fr _ _ _ _ => F1
  rename News _ _ _ _ => N1
  rename (∀ p ∈ rest, p.1 < _) => l19
  rename (_ < _ ∧ AllLt _ rest) => l29
  refine name_head N1 fun R hR9 => ?_
  subst hR9
  obtain ⟨r0, hr0⟩ : ∃ r0, r0 = _ ∧ News _ _ _ ((R, W.listOf #[.ref r0] 0) :: (r0, W.listOf #[] 0) :: rest) := ⟨_, rfl, N1⟩
  have N2 := hr0.2
  have er0 := hr0.1
  clear hr0
  subst er0
  refine' turns_list (σ := RwS) (LedW R) (fun _ => []) [Str.ofString "mark", Str.ofString "part", Str.ofString "sign"] (fun i c => RwI (rwP ps hid [] []) hid rest R [] (ps.drop i) c.r c.cur c.rvs c.tl) ⟨r0, #[], 0, #[], 0, rest⟩ ?hh F1 ?hN (List.Mem.tail _ (List.Mem.tail _ hl)) ?hk ?hp ?turn ?hlc ?done
  case hh => rfl
  case hN =>
    intro p hp
    rcases List.mem_cons.mp hp with rfl | hp
    · exact N1 _ (List.Mem.tail _ (List.Mem.head _))
    rcases List.mem_cons.mp hp with rfl | hp
    · exact N1 _ (List.Mem.head _)
    · exact N1 _ (List.Mem.tail _ (List.Mem.tail _ hp))
  case hk => exact fun _ h => nomatch h
  case hp => 
    refine ⟨fun _ h => h, fun p hp => ⟨Nat.ne_of_lt (l19 p hp), Nat.ne_of_lt (Nat.lt_trans (l19 p hp) l29.1)⟩, Nat.ne_of_lt l29.1, [], [], .nil, .nil, rfl, ?_, fun _ h => (nomatch h), fun _ h => (nomatch h)⟩
    have : wtD [] = 0 := rfl
    have : wtR [] = 0 := rfl
    simp only [List.drop_zero, List.length_nil]
    (first | lia | omega)
  case hlc => exact fun i c hP => List.Mem.tail _ (List.Mem.tail _ (hP.sub _ hl))
  case turn =>
    clear F1 N1 N2
    rintro i v ⟨r, cur, n, rvs, n2, tl⟩ u I oI h9 tk9 hv hP hap hlI F' N'
    dsimp only [LedW] at hP hap F' N' ⊢
    obtain ⟨hrI, hRI, htI⟩ := off_mem hap
    have hIr := Ne.symm hrI
    have hIR := Ne.symm hRI
    dsimp only at hrI hRI hIr hIR
    have hrR := hP.rR
    have hRr := Ne.symm hrR
    have hn1 : ∀ p ∈ tl, p.1 ≠ r := fun p hp => (hP.ne p hp).1
    have hn2 : ∀ p ∈ tl, p.1 ≠ R := fun p hp => (hP.ne p hp).2
    obtain ⟨av, mk, pt, tk1, tk2, rfl, hav, hdr⟩ := PcsIn.at hps (by simpa using hv)
    have hav2 := hP.sub _ hav
    have hokp := hok _ (List.mem_of_mem_drop (i := i) (by rw [hdr]; exact List.Mem.head _))
    rw [hdr] at hP
    obtain ⟨hz1, hz2⟩ := rw_sizes hP
    have hTup := News.isTup N' (List.Mem.tail _ (List.Mem.tail _ (List.Mem.tail _ hav2)))
    (repeat' (first | ((with_reducible show HoldN 1 _); refine HoldN.of ?_; (rename News _ _ _ _ => lN); refine item_last lN (by first | exact List.Mem.head _ | exact List.Mem.tail _ (List.Mem.head _) | exact List.Mem.tail _ (List.Mem.tail _ (List.Mem.head _)) | exact List.Mem.tail _ (List.Mem.tail _ (List.Mem.tail _ (List.Mem.head _)))) ?_ (by with_unfolding_all rfl)) | (k_unfold; (try dsimp only)) | (k_end; wrow_close) | ((with_reducible show Mine.KfPost ..); (dsimp only [KfPost])) | ((with_reducible show wpAny _ _ (subscriptTail _ _ _ _) _ _ _); (with_reducible show wpAny _ _ (subscriptTail _ _ (Value.ref _) (Value.int (-1) _)) _ _ _); refine HoldN.mk 1 ?_) | ((with_reducible show wpAny _ _ (eval (Expr.ListComp ..) _) _ _ _); k_dflt (refine LCt.ListComp_T (F₀ := by k_asm) (by with_unfolding_all rfl) (by decide) (by rfl) (by decide) (by rfl) ?_)) | ((with_reducible show wpAny _ _ (exec (Stmt.For (Expr.Name ..) (Expr.Name ..) ..) _) _ _ _); k_dflt (refine' For_turns ?F ?_; (case F => k_asm); k_whole)) | ((with_reducible show wpAny _ _ (exec (Stmt.For ..) _) _ _ _); k_dflt (refine' For_turns ?F ?_; (case F => k_asm); k_whole)) | ((with_reducible show wpAny _ _ (PySem.isTrue _ _ _) _ _ _); (k_fold)) | ((with_reducible show wpAny _ _ (execs (_ :: _) _) _ _ _); (k_fold)) | walk1 | (dsimp only; first | ((with_reducible show Mine.KfPost ..); (dsimp only [KfPost])) | ((with_reducible show wpAny _ _ (subscriptTail _ _ _ _) _ _ _); (with_reducible show wpAny _ _ (subscriptTail _ _ (Value.ref _) (Value.int (-1) _)) _ _ _); refine HoldN.mk 1 ?_) | ((with_reducible show wpAny _ _ (eval (Expr.ListComp ..) _) _ _ _); k_dflt (refine LCt.ListComp_T (F₀ := by k_asm) (by with_unfolding_all rfl) (by decide) (by rfl) (by decide) (by rfl) ?_)) | ((with_reducible show wpAny _ _ (exec (Stmt.For (Expr.Name ..) (Expr.Name ..) ..) _) _ _ _); k_dflt (refine' For_turns ?F ?_; (case F => k_asm); k_whole)) | ((with_reducible show wpAny _ _ (exec (Stmt.For ..) _) _ _ _); k_dflt (refine' For_turns ?F ?_; (case F => k_asm); k_whole)) | ((with_reducible show wpAny _ _ (PySem.isTrue _ _ _) _ _ _); (k_fold)) | ((with_reducible show wpAny _ _ (execs (_ :: _) _) _ _ _); (k_fold))) | (dsimp only; walk1) | (leave1; walk_say "STEP leave1"; try dsimp only) | fail "no step"))
    · (rename Fr _ _ _ _ => F8); (rename News _ _ _ _ => N8); (rename ((mk == Str.ofString "") = true) => hmk)
      refine' turns_str (σ := RwS) (fun c => (I, oI) :: LedW R c) (fun _ => []) [Str.ofString "sign"] (fun j c => RwI (rwP ps hid [] []) hid rest R (pt.cps.toList.drop j) (ps.drop (i + 1)) c.r c.cur c.rvs c.tl ∧ ∀ p ∈ LedW R c, p.1 ≠ I) ⟨r, cur, n, rvs, n2, tl⟩ ?hh2 F8 N8 ?hk2 ?hp2 ?turn2 ?done2
      case hh2 => rfl
      case hk2 => exact fun _ h => nomatch h
      case hp2 => exact ⟨by rw [List.drop_zero]; exact rw_open hP hmk, hap⟩
      case turn2 =>
        clear F8 N8
        rintro j ch ⟨r, cur, n, rvs, n2, tl⟩ u2 I2 oI2 h8 tk8 t8 hch ⟨hP2, hap2⟩ hap3 F' N'
        dsimp only [LedW] at hP2 hap2 hap3 F' N' ⊢
        obtain ⟨hrI, hRI, htI⟩ := off_mem hap2
        have hIr := Ne.symm hrI
        have hIR := Ne.symm hRI
        obtain ⟨hII2, hrI2, h3⟩ := off_mem hap3
        have hRI2 := h3 _ (List.Mem.head _)
        have htI2 : ∀ p ∈ tl, p.1 ≠ I2 := fun p hp => h3 p (List.Mem.tail _ hp)
        have hI2I := Ne.symm hII2
        have hI2r := Ne.symm hrI2
        have hI2R := Ne.symm hRI2
        dsimp only at hrI hRI hIr hIR hII2 hrI2 hRI2 hI2I hI2r hI2R
        have hrR := hP2.rR
        have hRr := Ne.symm hrR
        have hn1 : ∀ p ∈ tl, p.1 ≠ r := fun p hp => (hP2.ne p hp).1
        have hn2 : ∀ p ∈ tl, p.1 ≠ R := fun p hp => (hP2.ne p hp).2
        rw [hch] at hP2
        obtain ⟨hz1, hz2⟩ := rw_sizes hP2
        (repeat' (first | ((with_reducible show HoldN 1 _); refine HoldN.of ?_; (rename News _ _ _ _ => lN); refine item_last lN (by first | exact List.Mem.head _ | exact List.Mem.tail _ (List.Mem.head _) | exact List.Mem.tail _ (List.Mem.tail _ (List.Mem.head _)) | exact List.Mem.tail _ (List.Mem.tail _ (List.Mem.tail _ (List.Mem.head _)))) ?_ (by with_unfolding_all rfl)) | (k_unfold; (try dsimp only)) | (k_end; wrow_close) | ((with_reducible show Mine.KfPost ..); (dsimp only [KfPost])) | ((with_reducible show wpAny _ _ (subscriptTail _ _ _ _) _ _ _); (with_reducible show wpAny _ _ (subscriptTail _ _ (Value.ref _) (Value.int (-1) _)) _ _ _); refine HoldN.mk 1 ?_) | ((with_reducible show wpAny _ _ (eval (Expr.ListComp ..) _) _ _ _); k_dflt (refine LCt.ListComp_T (F₀ := by k_asm) (by with_unfolding_all rfl) (by decide) (by rfl) (by decide) (by rfl) ?_)) | ((with_reducible show wpAny _ _ (exec (Stmt.For (Expr.Name ..) (Expr.Name ..) ..) _) _ _ _); k_dflt (refine' For_turns ?F ?_; (case F => k_asm); k_whole)) | ((with_reducible show wpAny _ _ (exec (Stmt.For ..) _) _ _ _); k_dflt (refine' For_turns ?F ?_; (case F => k_asm); k_whole)) | ((with_reducible show wpAny _ _ (PySem.isTrue _ _ _) _ _ _); (k_fold)) | ((with_reducible show wpAny _ _ (execs (_ :: _) _) _ _ _); (k_fold)) | walk1 | (dsimp only; first | ((with_reducible show Mine.KfPost ..); (dsimp only [KfPost])) | ((with_reducible show wpAny _ _ (subscriptTail _ _ _ _) _ _ _); (with_reducible show wpAny _ _ (subscriptTail _ _ (Value.ref _) (Value.int (-1) _)) _ _ _); refine HoldN.mk 1 ?_) | ((with_reducible show wpAny _ _ (eval (Expr.ListComp ..) _) _ _ _); k_dflt (refine LCt.ListComp_T (F₀ := by k_asm) (by with_unfolding_all rfl) (by decide) (by rfl) (by decide) (by rfl) ?_)) | ((with_reducible show wpAny _ _ (exec (Stmt.For (Expr.Name ..) (Expr.Name ..) ..) _) _ _ _); k_dflt (refine' For_turns ?F ?_; (case F => k_asm); k_whole)) | ((with_reducible show wpAny _ _ (exec (Stmt.For ..) _) _ _ _); k_dflt (refine' For_turns ?F ?_; (case F => k_asm); k_whole)) | ((with_reducible show wpAny _ _ (PySem.isTrue _ _ _) _ _ _); (k_fold)) | ((with_reducible show wpAny _ _ (execs (_ :: _) _) _ _ _); (k_fold))) | (dsimp only; walk1) | (leave1; walk_say "STEP leave1"; try dsimp only) | fail "no step"))
        · (rename News _ _ _ _ => N7); (rename Fr _ _ _ _ => F7); (rename (_ < _ ∧ _ < _ ∧ _ < _ ∧ _ < _ ∧ AllLt _ tl) => l7)
          exact rwk_blank F7 N7 l7 hP2 (by assumption) hap2 hap3 (by intro z h3; simp only [List.contains_cons, List.contains_nil, Bool.or_false, beq_eq_false_iff_ne, ne_eq] at h3; simp [h3, kstB])
        · (rename News _ _ _ _ => N7); (rename Fr _ _ _ _ => F7)
          exact rwk_sign F7 N7 hP2 (by assumption) (ok_at hokp hch) hap2 hap3 (by intro z h3; simp only [List.contains_cons, List.contains_nil, Bool.or_false, beq_eq_false_iff_ne, ne_eq] at h3; simp [h3, kstB])
      case done2 =>
        clear F8 N8
        rintro ⟨r, cur, n, rvs, n2, tl⟩ u2 h8 tk8 ⟨hP2, hap2⟩ F' N'
        dsimp only [LedW] at hP2 hap2 F' N' ⊢
        rw [List.drop_of_length_le (by simp)] at hP2
        (repeat' (first | ((with_reducible show HoldN 1 _); refine HoldN.of ?_; (rename News _ _ _ _ => lN); refine item_last lN (by first | exact List.Mem.head _ | exact List.Mem.tail _ (List.Mem.head _) | exact List.Mem.tail _ (List.Mem.tail _ (List.Mem.head _)) | exact List.Mem.tail _ (List.Mem.tail _ (List.Mem.tail _ (List.Mem.head _)))) ?_ (by with_unfolding_all rfl)) | (k_unfold; (try dsimp only)) | (k_end; wrow_close) | ((with_reducible show Mine.KfPost ..); (dsimp only [KfPost])) | ((with_reducible show wpAny _ _ (subscriptTail _ _ _ _) _ _ _); (with_reducible show wpAny _ _ (subscriptTail _ _ (Value.ref _) (Value.int (-1) _)) _ _ _); refine HoldN.mk 1 ?_) | ((with_reducible show wpAny _ _ (eval (Expr.ListComp ..) _) _ _ _); k_dflt (refine LCt.ListComp_T (F₀ := by k_asm) (by with_unfolding_all rfl) (by decide) (by rfl) (by decide) (by rfl) ?_)) | ((with_reducible show wpAny _ _ (exec (Stmt.For (Expr.Name ..) (Expr.Name ..) ..) _) _ _ _); k_dflt (refine' For_turns ?F ?_; (case F => k_asm); k_whole)) | ((with_reducible show wpAny _ _ (exec (Stmt.For ..) _) _ _ _); k_dflt (refine' For_turns ?F ?_; (case F => k_asm); k_whole)) | ((with_reducible show wpAny _ _ (PySem.isTrue _ _ _) _ _ _); (k_fold)) | ((with_reducible show wpAny _ _ (execs (_ :: _) _) _ _ _); (k_fold)) | walk1 | (dsimp only; first | ((with_reducible show Mine.KfPost ..); (dsimp only [KfPost])) | ((with_reducible show wpAny _ _ (subscriptTail _ _ _ _) _ _ _); (with_reducible show wpAny _ _ (subscriptTail _ _ (Value.ref _) (Value.int (-1) _)) _ _ _); refine HoldN.mk 1 ?_) | ((with_reducible show wpAny _ _ (eval (Expr.ListComp ..) _) _ _ _); k_dflt (refine LCt.ListComp_T (F₀ := by k_asm) (by with_unfolding_all rfl) (by decide) (by rfl) (by decide) (by rfl) ?_)) | ((with_reducible show wpAny _ _ (exec (Stmt.For (Expr.Name ..) (Expr.Name ..) ..) _) _ _ _); k_dflt (refine' For_turns ?F ?_; (case F => k_asm); k_whole)) | ((with_reducible show wpAny _ _ (exec (Stmt.For ..) _) _ _ _); k_dflt (refine' For_turns ?F ?_; (case F => k_asm); k_whole)) | ((with_reducible show wpAny _ _ (PySem.isTrue _ _ _) _ _ _); (k_fold)) | ((with_reducible show wpAny _ _ (execs (_ :: _) _) _ _ _); (k_fold))) | (dsimp only; walk1) | (leave1; walk_say "STEP leave1"; try dsimp only) | fail "no step"))
        (rename News _ _ _ _ => N7); (rename Fr _ _ _ _ => F7)
        exact rwk_out F7 N7 hP2 hap2 (by intro z h3; simp only [List.contains_cons, List.contains_nil, Bool.or_false, Bool.or_eq_false_iff, beq_eq_false_iff_ne, ne_eq] at h3; simp [h3, kstB])
    · (rename News _ _ _ _ => N7); (rename Fr _ _ _ _ => F7); (rename ((mk == Str.ofString "") = false) => hmk); (rename ((mk != hid) = true) => hmh)
      exact rwk_out F7 N7 (rw_part hP hmk (by simpa using hmh) hokp) hap (by intro z h3; simp only [List.contains_cons, List.contains_nil, Bool.or_false, Bool.or_eq_false_iff, beq_eq_false_iff_ne, ne_eq] at h3; simp [h3, kstB])
    · (rename News _ _ _ _ => N7); (rename Fr _ _ _ _ => F7); (rename ((mk == Str.ofString "") = false) => hmk); (rename ((mk != hid) = false) => hmh)
      exact rwk_out F7 N7 (rw_skip hP hmk (by simpa using hmh)) hap (by intro z h3; simp only [List.contains_cons, List.contains_nil, Bool.or_false, Bool.or_eq_false_iff, beq_eq_false_iff_ne, ne_eq] at h3; simp [h3, kstB])
  case done =>
    clear F1 N1 N2
    rintro ⟨r, cur, n, rvs, n2, tl⟩ u h9 tk9 hP F' N'
    dsimp only [LedW] at hP F' N' ⊢
    have hpl : ps.length = vs.size := by have := hps.len; simpa using this.symm
    rw [List.drop_of_length_le (by (first | lia | omega))] at hP
    obtain ⟨hRow, hWt, hOkT, hrz⟩ := rw_end (n := n) (n2 := n2) hP
    (repeat' (first | ((with_reducible show HoldN 1 _); refine HoldN.of ?_; (rename News _ _ _ _ => lN); refine item_last lN (by first | exact List.Mem.head _ | exact List.Mem.tail _ (List.Mem.head _) | exact List.Mem.tail _ (List.Mem.tail _ (List.Mem.head _)) | exact List.Mem.tail _ (List.Mem.tail _ (List.Mem.tail _ (List.Mem.head _)))) ?_ (by with_unfolding_all rfl)) | (k_unfold; (try dsimp only)) | (k_end; wrow_close) | ((with_reducible show Mine.KfPost ..); (dsimp only [KfPost])) | ((with_reducible show wpAny _ _ (subscriptTail _ _ _ _) _ _ _); (with_reducible show wpAny _ _ (subscriptTail _ _ (Value.ref _) (Value.int (-1) _)) _ _ _); refine HoldN.mk 1 ?_) | ((with_reducible show wpAny _ _ (eval (Expr.ListComp ..) _) _ _ _); k_dflt (refine LCt.ListComp_T (F₀ := by k_asm) (by with_unfolding_all rfl) (by decide) (by rfl) (by decide) (by rfl) ?_)) | ((with_reducible show wpAny _ _ (exec (Stmt.For (Expr.Name ..) (Expr.Name ..) ..) _) _ _ _); k_dflt (refine' For_turns ?F ?_; (case F => k_asm); k_whole)) | ((with_reducible show wpAny _ _ (exec (Stmt.For ..) _) _ _ _); k_dflt (refine' For_turns ?F ?_; (case F => k_asm); k_whole)) | ((with_reducible show wpAny _ _ (PySem.isTrue _ _ _) _ _ _); (k_fold)) | ((with_reducible show wpAny _ _ (execs (_ :: _) _) _ _ _); (k_fold)) | walk1 | (dsimp only; first | ((with_reducible show Mine.KfPost ..); (dsimp only [KfPost])) | ((with_reducible show wpAny _ _ (subscriptTail _ _ _ _) _ _ _); (with_reducible show wpAny _ _ (subscriptTail _ _ (Value.ref _) (Value.int (-1) _)) _ _ _); refine HoldN.mk 1 ?_) | ((with_reducible show wpAny _ _ (eval (Expr.ListComp ..) _) _ _ _); k_dflt (refine LCt.ListComp_T (F₀ := by k_asm) (by with_unfolding_all rfl) (by decide) (by rfl) (by decide) (by rfl) ?_)) | ((with_reducible show wpAny _ _ (exec (Stmt.For (Expr.Name ..) (Expr.Name ..) ..) _) _ _ _); k_dflt (refine' For_turns ?F ?_; (case F => k_asm); k_whole)) | ((with_reducible show wpAny _ _ (exec (Stmt.For ..) _) _ _ _); k_dflt (refine' For_turns ?F ?_; (case F => k_asm); k_whole)) | ((with_reducible show wpAny _ _ (PySem.isTrue _ _ _) _ _ _); (k_fold)) | ((with_reducible show wpAny _ _ (execs (_ :: _) _) _ _ _); (k_fold))) | (dsimp only; walk1) | (leave1; walk_say "STEP leave1"; try dsimp only) | fail "no step"))
    rename Fr _ _ _ _ => F1
    rename News _ _ _ _ => N1
    refine LCt.CompSrcT.ledger rfl F1 N1 (List.Mem.tail _ (List.Mem.head _)) (by rw [sizeLine_eq, Array.size_push]; (first | lia | omega)) fun g9 => ?_
    refine compT_ind (rvs.push (.ref r)).size (fun i ys news => (∀ p ∈ (r, listO cur n) :: (R, listO (rvs.push (.ref r)) n2) :: tl, p ∈ news) ∧ StrsAre ys ((((rwP ps hid [] []).take i).filter (· ≠ [])).map (Txt.join (Str.ofString "")))) ?step ?fin _ 0 [] _ (Nat.zero_add _) ⟨fun _ h => h, .nil⟩
    case step =>
      clear F1 N1
      rintro i ys news v hi hv ⟨hsub, hst⟩ I oI C oC D m₂ h9 tk9 E' hC hx1 F' N' hoff hne3
      obtain ⟨av, us, un9, row, rfl, hav, hrow, hdr⟩ := RowsIn.at hRow (i := i) (v := v) (by rw [Array.getElem?_toList]; exact hv)
      have hav2 := hsub _ hav
      have hokr := hOkT row (row_ok hdr)
      (repeat' (first | ((with_reducible show HoldN 1 _); refine HoldN.of ?_; (rename News _ _ _ _ => lN); refine item_last lN (by first | exact List.Mem.head _ | exact List.Mem.tail _ (List.Mem.head _) | exact List.Mem.tail _ (List.Mem.tail _ (List.Mem.head _)) | exact List.Mem.tail _ (List.Mem.tail _ (List.Mem.tail _ (List.Mem.head _)))) ?_ (by with_unfolding_all rfl)) | (k_unfold; (try dsimp only)) | (k_end; wrow_close) | ((with_reducible show Mine.KfPost ..); (dsimp only [KfPost])) | ((with_reducible show wpAny _ _ (subscriptTail _ _ _ _) _ _ _); (with_reducible show wpAny _ _ (subscriptTail _ _ (Value.ref _) (Value.int (-1) _)) _ _ _); refine HoldN.mk 1 ?_) | ((with_reducible show wpAny _ _ (eval (Expr.ListComp ..) _) _ _ _); k_dflt (refine LCt.ListComp_T (F₀ := by k_asm) (by with_unfolding_all rfl) (by decide) (by rfl) (by decide) (by rfl) ?_)) | ((with_reducible show wpAny _ _ (exec (Stmt.For (Expr.Name ..) (Expr.Name ..) ..) _) _ _ _); k_dflt (refine' For_turns ?F ?_; (case F => k_asm); k_whole)) | ((with_reducible show wpAny _ _ (exec (Stmt.For ..) _) _ _ _); k_dflt (refine' For_turns ?F ?_; (case F => k_asm); k_whole)) | ((with_reducible show wpAny _ _ (PySem.isTrue _ _ _) _ _ _); (k_fold)) | ((with_reducible show wpAny _ _ (execs (_ :: _) _) _ _ _); (k_fold)) | walk1 | (dsimp only; first | ((with_reducible show Mine.KfPost ..); (dsimp only [KfPost])) | ((with_reducible show wpAny _ _ (subscriptTail _ _ _ _) _ _ _); (with_reducible show wpAny _ _ (subscriptTail _ _ (Value.ref _) (Value.int (-1) _)) _ _ _); refine HoldN.mk 1 ?_) | ((with_reducible show wpAny _ _ (eval (Expr.ListComp ..) _) _ _ _); k_dflt (refine LCt.ListComp_T (F₀ := by k_asm) (by with_unfolding_all rfl) (by decide) (by rfl) (by decide) (by rfl) ?_)) | ((with_reducible show wpAny _ _ (exec (Stmt.For (Expr.Name ..) (Expr.Name ..) ..) _) _ _ _); k_dflt (refine' For_turns ?F ?_; (case F => k_asm); k_whole)) | ((with_reducible show wpAny _ _ (exec (Stmt.For ..) _) _ _ _); k_dflt (refine' For_turns ?F ?_; (case F => k_asm); k_whole)) | ((with_reducible show wpAny _ _ (PySem.isTrue _ _ _) _ _ _); (k_fold)) | ((with_reducible show wpAny _ _ (execs (_ :: _) _) _ _ _); (k_fold))) | (dsimp only; walk1) | (leave1; walk_say "STEP leave1"; try dsimp only) | fail "no step"))
      rename News _ _ _ _ => N7
      rename (_ < _ ∧ _ < _ ∧ _ < _ ∧ AllLt _ news) => l7
      have hsrc : ∀ g : Heap, SrcAt g R (rvs.push (.ref r)) news := fun _ => .inr ⟨_, hsub _ (List.Mem.tail _ (List.Mem.head _)), rfl, _, rfl⟩
      by_cases hr0 : row = []
      · refine ne_nil_led (b := false) N7 (List.Mem.head _) (List.Mem.tail _ (List.Mem.tail _ (List.Mem.tail _ (List.Mem.tail _ hav2)))) hrow hokr (by ktr_units) (by simp [hr0]) ?_
        (repeat' (first | ((with_reducible show HoldN 1 _); refine HoldN.of ?_; (rename News _ _ _ _ => lN); refine item_last lN (by first | exact List.Mem.head _ | exact List.Mem.tail _ (List.Mem.head _) | exact List.Mem.tail _ (List.Mem.tail _ (List.Mem.head _)) | exact List.Mem.tail _ (List.Mem.tail _ (List.Mem.tail _ (List.Mem.head _)))) ?_ (by with_unfolding_all rfl)) | (k_unfold; (try dsimp only)) | (k_end; wrow_close) | ((with_reducible show Mine.KfPost ..); (dsimp only [KfPost])) | ((with_reducible show wpAny _ _ (subscriptTail _ _ _ _) _ _ _); (with_reducible show wpAny _ _ (subscriptTail _ _ (Value.ref _) (Value.int (-1) _)) _ _ _); refine HoldN.mk 1 ?_) | ((with_reducible show wpAny _ _ (eval (Expr.ListComp ..) _) _ _ _); k_dflt (refine LCt.ListComp_T (F₀ := by k_asm) (by with_unfolding_all rfl) (by decide) (by rfl) (by decide) (by rfl) ?_)) | ((with_reducible show wpAny _ _ (exec (Stmt.For (Expr.Name ..) (Expr.Name ..) ..) _) _ _ _); k_dflt (refine' For_turns ?F ?_; (case F => k_asm); k_whole)) | ((with_reducible show wpAny _ _ (exec (Stmt.For ..) _) _ _ _); k_dflt (refine' For_turns ?F ?_; (case F => k_asm); k_whole)) | ((with_reducible show wpAny _ _ (PySem.isTrue _ _ _) _ _ _); (k_fold)) | ((with_reducible show wpAny _ _ (execs (_ :: _) _) _ _ _); (k_fold)) | walk1 | (dsimp only; first | ((with_reducible show Mine.KfPost ..); (dsimp only [KfPost])) | ((with_reducible show wpAny _ _ (subscriptTail _ _ _ _) _ _ _); (with_reducible show wpAny _ _ (subscriptTail _ _ (Value.ref _) (Value.int (-1) _)) _ _ _); refine HoldN.mk 1 ?_) | ((with_reducible show wpAny _ _ (eval (Expr.ListComp ..) _) _ _ _); k_dflt (refine LCt.ListComp_T (F₀ := by k_asm) (by with_unfolding_all rfl) (by decide) (by rfl) (by decide) (by rfl) ?_)) | ((with_reducible show wpAny _ _ (exec (Stmt.For (Expr.Name ..) (Expr.Name ..) ..) _) _ _ _); k_dflt (refine' For_turns ?F ?_; (case F => k_asm); k_whole)) | ((with_reducible show wpAny _ _ (exec (Stmt.For ..) _) _ _ _); k_dflt (refine' For_turns ?F ?_; (case F => k_asm); k_whole)) | ((with_reducible show wpAny _ _ (PySem.isTrue _ _ _) _ _ _); (k_fold)) | ((with_reducible show wpAny _ _ (execs (_ :: _) _) _ _ _); (k_fold))) | (dsimp only; walk1) | (leave1; walk_say "STEP leave1"; try dsimp only) | fail "no step"))
        (rename Fr _ _ _ _ => F7)
        exact CompEnd.intro F7 N7 news (fun _ z => List.Mem.tail _ z) hoff (hsrc _) ⟨hsub, by rw [take_of_drop hdr, List.filter_append, hr0]; simpa using hst⟩
      · refine ne_nil_led (b := true) N7 (List.Mem.head _) (List.Mem.tail _ (List.Mem.tail _ (List.Mem.tail _ (List.Mem.tail _ hav2)))) hrow hokr (by ktr_units) (by simp [hr0]) ?_
        (repeat' (first | ((with_reducible show HoldN 1 _); refine HoldN.of ?_; (rename News _ _ _ _ => lN); refine item_last lN (by first | exact List.Mem.head _ | exact List.Mem.tail _ (List.Mem.head _) | exact List.Mem.tail _ (List.Mem.tail _ (List.Mem.head _)) | exact List.Mem.tail _ (List.Mem.tail _ (List.Mem.tail _ (List.Mem.head _)))) ?_ (by with_unfolding_all rfl)) | (k_unfold; (try dsimp only)) | (k_end; wrow_close) | ((with_reducible show Mine.KfPost ..); (dsimp only [KfPost])) | ((with_reducible show wpAny _ _ (subscriptTail _ _ _ _) _ _ _); (with_reducible show wpAny _ _ (subscriptTail _ _ (Value.ref _) (Value.int (-1) _)) _ _ _); refine HoldN.mk 1 ?_) | ((with_reducible show wpAny _ _ (eval (Expr.ListComp ..) _) _ _ _); k_dflt (refine LCt.ListComp_T (F₀ := by k_asm) (by with_unfolding_all rfl) (by decide) (by rfl) (by decide) (by rfl) ?_)) | ((with_reducible show wpAny _ _ (exec (Stmt.For (Expr.Name ..) (Expr.Name ..) ..) _) _ _ _); k_dflt (refine' For_turns ?F ?_; (case F => k_asm); k_whole)) | ((with_reducible show wpAny _ _ (exec (Stmt.For ..) _) _ _ _); k_dflt (refine' For_turns ?F ?_; (case F => k_asm); k_whole)) | ((with_reducible show wpAny _ _ (PySem.isTrue _ _ _) _ _ _); (k_fold)) | ((with_reducible show wpAny _ _ (execs (_ :: _) _) _ _ _); (k_fold)) | walk1 | (dsimp only; first | ((with_reducible show Mine.KfPost ..); (dsimp only [KfPost])) | ((with_reducible show wpAny _ _ (subscriptTail _ _ _ _) _ _ _); (with_reducible show wpAny _ _ (subscriptTail _ _ (Value.ref _) (Value.int (-1) _)) _ _ _); refine HoldN.mk 1 ?_) | ((with_reducible show wpAny _ _ (eval (Expr.ListComp ..) _) _ _ _); k_dflt (refine LCt.ListComp_T (F₀ := by k_asm) (by with_unfolding_all rfl) (by decide) (by rfl) (by decide) (by rfl) ?_)) | ((with_reducible show wpAny _ _ (exec (Stmt.For (Expr.Name ..) (Expr.Name ..) ..) _) _ _ _); k_dflt (refine' For_turns ?F ?_; (case F => k_asm); k_whole)) | ((with_reducible show wpAny _ _ (exec (Stmt.For ..) _) _ _ _); k_dflt (refine' For_turns ?F ?_; (case F => k_asm); k_whole)) | ((with_reducible show wpAny _ _ (PySem.isTrue _ _ _) _ _ _); (k_fold)) | ((with_reducible show wpAny _ _ (execs (_ :: _) _) _ _ _); (k_fold))) | (dsimp only; walk1) | (leave1; walk_say "STEP leave1"; try dsimp only) | fail "no step"))
        refine join_list (News.isList N7 (List.Mem.tail _ (List.Mem.tail _ (List.Mem.tail _ (List.Mem.tail _ hav2))))) hrow (row_fits (row_ok hdr) hWt) fun t9 k9 => ?_
        (repeat' (first | ((with_reducible show HoldN 1 _); refine HoldN.of ?_; (rename News _ _ _ _ => lN); refine item_last lN (by first | exact List.Mem.head _ | exact List.Mem.tail _ (List.Mem.head _) | exact List.Mem.tail _ (List.Mem.tail _ (List.Mem.head _)) | exact List.Mem.tail _ (List.Mem.tail _ (List.Mem.tail _ (List.Mem.head _)))) ?_ (by with_unfolding_all rfl)) | (k_unfold; (try dsimp only)) | (k_end; wrow_close) | ((with_reducible show Mine.KfPost ..); (dsimp only [KfPost])) | ((with_reducible show wpAny _ _ (subscriptTail _ _ _ _) _ _ _); (with_reducible show wpAny _ _ (subscriptTail _ _ (Value.ref _) (Value.int (-1) _)) _ _ _); refine HoldN.mk 1 ?_) | ((with_reducible show wpAny _ _ (eval (Expr.ListComp ..) _) _ _ _); k_dflt (refine LCt.ListComp_T (F₀ := by k_asm) (by with_unfolding_all rfl) (by decide) (by rfl) (by decide) (by rfl) ?_)) | ((with_reducible show wpAny _ _ (exec (Stmt.For (Expr.Name ..) (Expr.Name ..) ..) _) _ _ _); k_dflt (refine' For_turns ?F ?_; (case F => k_asm); k_whole)) | ((with_reducible show wpAny _ _ (exec (Stmt.For ..) _) _ _ _); k_dflt (refine' For_turns ?F ?_; (case F => k_asm); k_whole)) | ((with_reducible show wpAny _ _ (PySem.isTrue _ _ _) _ _ _); (k_fold)) | ((with_reducible show wpAny _ _ (execs (_ :: _) _) _ _ _); (k_fold)) | walk1 | (dsimp only; first | ((with_reducible show Mine.KfPost ..); (dsimp only [KfPost])) | ((with_reducible show wpAny _ _ (subscriptTail _ _ _ _) _ _ _); (with_reducible show wpAny _ _ (subscriptTail _ _ (Value.ref _) (Value.int (-1) _)) _ _ _); refine HoldN.mk 1 ?_) | ((with_reducible show wpAny _ _ (eval (Expr.ListComp ..) _) _ _ _); k_dflt (refine LCt.ListComp_T (F₀ := by k_asm) (by with_unfolding_all rfl) (by decide) (by rfl) (by decide) (by rfl) ?_)) | ((with_reducible show wpAny _ _ (exec (Stmt.For (Expr.Name ..) (Expr.Name ..) ..) _) _ _ _); k_dflt (refine' For_turns ?F ?_; (case F => k_asm); k_whole)) | ((with_reducible show wpAny _ _ (exec (Stmt.For ..) _) _ _ _); k_dflt (refine' For_turns ?F ?_; (case F => k_asm); k_whole)) | ((with_reducible show wpAny _ _ (PySem.isTrue _ _ _) _ _ _); (k_fold)) | ((with_reducible show wpAny _ _ (execs (_ :: _) _) _ _ _); (k_fold))) | (dsimp only; walk1) | (leave1; walk_say "STEP leave1"; try dsimp only) | fail "no step"))
        (rename Fr _ _ _ _ => F7)
        exact CompEnd.intro F7 N7 news (fun _ z => List.Mem.tail _ z) hoff (hsrc _) ⟨hsub, by rw [take_of_drop hdr, List.filter_append, List.map_append, show [row].filter (fun x => decide (x ≠ [])) = [row] from by simp [hr0]]; exact StrsAre.snoc hst _ _⟩
    case fin =>
      clear F1 N1
      rintro ys news ⟨hsub, hst⟩
      intro D h9 tk9 F' N' hoff
      have hTl : (rwP ps hid [] []).length = (rvs.push (.ref r)).size := by have := hRow.len; rw [Array.length_toList] at this; exact this.symm
      rw [← hTl, List.take_length] at hst
      (repeat' (first | ((with_reducible show HoldN 1 _); refine HoldN.of ?_; (rename News _ _ _ _ => lN); refine item_last lN (by first | exact List.Mem.head _ | exact List.Mem.tail _ (List.Mem.head _) | exact List.Mem.tail _ (List.Mem.tail _ (List.Mem.head _)) | exact List.Mem.tail _ (List.Mem.tail _ (List.Mem.tail _ (List.Mem.head _)))) ?_ (by with_unfolding_all rfl)) | (k_unfold; (try dsimp only)) | (k_end; wrow_close) | ((with_reducible show Mine.KfPost ..); (dsimp only [KfPost])) | ((with_reducible show wpAny _ _ (subscriptTail _ _ _ _) _ _ _); (with_reducible show wpAny _ _ (subscriptTail _ _ (Value.ref _) (Value.int (-1) _)) _ _ _); refine HoldN.mk 1 ?_) | ((with_reducible show wpAny _ _ (eval (Expr.ListComp ..) _) _ _ _); k_dflt (refine LCt.ListComp_T (F₀ := by k_asm) (by with_unfolding_all rfl) (by decide) (by rfl) (by decide) (by rfl) ?_)) | ((with_reducible show wpAny _ _ (exec (Stmt.For (Expr.Name ..) (Expr.Name ..) ..) _) _ _ _); k_dflt (refine' For_turns ?F ?_; (case F => k_asm); k_whole)) | ((with_reducible show wpAny _ _ (exec (Stmt.For ..) _) _ _ _); k_dflt (refine' For_turns ?F ?_; (case F => k_asm); k_whole)) | ((with_reducible show wpAny _ _ (PySem.isTrue _ _ _) _ _ _); (k_fold)) | ((with_reducible show wpAny _ _ (execs (_ :: _) _) _ _ _); (k_fold)) | walk1 | (dsimp only; first | ((with_reducible show Mine.KfPost ..); (dsimp only [KfPost])) | ((with_reducible show wpAny _ _ (subscriptTail _ _ _ _) _ _ _); (with_reducible show wpAny _ _ (subscriptTail _ _ (Value.ref _) (Value.int (-1) _)) _ _ _); refine HoldN.mk 1 ?_) | ((with_reducible show wpAny _ _ (eval (Expr.ListComp ..) _) _ _ _); k_dflt (refine LCt.ListComp_T (F₀ := by k_asm) (by with_unfolding_all rfl) (by decide) (by rfl) (by decide) (by rfl) ?_)) | ((with_reducible show wpAny _ _ (exec (Stmt.For (Expr.Name ..) (Expr.Name ..) ..) _) _ _ _); k_dflt (refine' For_turns ?F ?_; (case F => k_asm); k_whole)) | ((with_reducible show wpAny _ _ (exec (Stmt.For ..) _) _ _ _); k_dflt (refine' For_turns ?F ?_; (case F => k_asm); k_whole)) | ((with_reducible show wpAny _ _ (PySem.isTrue _ _ _) _ _ _); (k_fold)) | ((with_reducible show wpAny _ _ (execs (_ :: _) _) _ _ _); (k_fold))) | (dsimp only; walk1) | (leave1; walk_say "STEP leave1"; try dsimp only) | fail "no step"))
      (show Q _ _); (rename News h₀ L _ _ => kN9); (rename Fr h₀ L _ m => kF9)
      exact ret _ _ _ _ _ _ (List.Mem.head _) hst (fun p hp => List.Mem.tail _ (hsub p (List.Mem.tail _ (List.Mem.tail _ (hP.sub p hp))))) kF9 kN9
end Mine
end
section
open PySem PySem.W PyProof.Rows PySem.Calls
open PyProof.Rows.LCg PyProof.Rows.LCp
set_option maxHeartbeats 1000000
namespace Mine
theorem ne_start {b0 R Wy : Nat} (h1 : b0 < Wy) (h2 : b0 < R) (h3 : R < Wy) (x : Nat) : ((0 + if R = x then 1 else 0) + if Wy = x then 1 else 0) + (if b0 = x then 1 else 0) ≤ 1 := by
  by_cases e1 : b0 = x
  · rw [if_pos e1, if_neg (by (first | lia | omega)), if_neg (by (first | lia | omega))]; decide
  · by_cases e2 : Wy = x
    · rw [if_neg e1, if_pos e2, if_neg (by (first | lia | omega))]; decide
    · rw [if_neg e1, if_neg e2]; split <;> decide
theorem ne_nums (x : Int) : 0 ≤ (x.fmod 2687384).fmod 8 ∧ (x.fmod 2687384).fmod 8 < 8 ∧ 0 ≤ (x.fmod 2687384).fdiv 8 ∧ (x.fmod 2687384).fdiv 8 ≤ 335922 := by
  have h1 : x.fmod 2687384 = x % 2687384 := by rw [Int.fmod_eq_emod_of_nonneg _ (by decide)]
  rw [h1]
  have h2 : (x % 2687384).fmod 8 = (x % 2687384) % 8 := by rw [Int.fmod_eq_emod_of_nonneg _ (by decide)]
  have h3 : (x % 2687384).fdiv 8 = (x % 2687384) / 8 := by rw [Int.fdiv_eq_ediv_of_nonneg _ (by decide)]
  rw [h2, h3]
  (first | lia | omega)
theorem ne_lt12 {ws : List Value} {ns : List Int} {i : Nat} {v : Value} (h : IntsAre ws (ns.take 12)) (hv : ws.toArray[i]? = some v) : i < 12 := by
  have h1 := h.length
  have h2 : i < ws.length := by
    rcases Nat.lt_or_ge i ws.length with h | h
    · exact h
    · rw [List.getElem?_toArray, List.getElem?_eq_none h] at hv; cases hv
  rw [List.length_take] at h1
  (first | lia | omega)
theorem ne_int {ws : List Value} {ns : List Int} {i : Nat} {v : Value} (h : IntsAre ws ns) (hv : ws.toArray[i]? = some v) : ∃ x t, v = .int x t := by
  rw [List.getElem?_toArray] at hv
  have key : ∀ {ws : List Value} {ns : List Int}, IntsAre ws ns → ∀ {i : Nat} {v : Value}, ws[i]? = some v → ∃ x t, v = .int x t := by
    intro ws ns h
    induction h with
    | nil => intro i v h; simp at h
    | cons x t _ ih =>
      intro i v h
      cases i with
      | zero => simp at h; exact ⟨_, _, h.symm⟩
      | succ i => simp at h; exact ih h
  exact key h hv
theorem ne_int3 {n : Int} (_h : 0 ≤ n) : (Tr.int (n.fmod 2001 - 1000)).wide := by
  have e1 : n.fmod 2001 = n % 2001 := by rw [Int.fmod_eq_emod_of_nonneg _ (by decide)]
  show -1000 ≤ n.fmod 2001 - 1000 ∧ n.fmod 2001 - 1000 ≤ 1000
  rw [e1]; (first | lia | omega)
theorem wo_start {n : Int} {wt nt : Tok} (h0 : 0 ≤ n) (h9 : n ≤ 335922) : WoP ⟨Str.ofString "", wt, n, nt⟩ := by
  have hl : (Str.ofString "").length = 0 := by decide +kernel
  refine ⟨h0, ?_, ?_, ?_⟩
  · show (Str.ofString "").length ≤ 7; rw [hl]; decide
  · show n ≤ wbnd (7 - (Str.ofString "").length); rw [hl]; exact Int.le_trans h9 (by decide)
  · intro x hx
    change x ∈ (Str.ofString "").cps.toList at hx
    rw [show (Str.ofString "").cps.toList = [] from by decide +kernel] at hx
    cases hx
theorem wo_toks {h₀ h : Heap} {L : Addr} {m : Str → Option Value} {nm : Int} {t1 t2 : Tok} {G : Prop} (_F : Fr h₀ L h m) (h1 : m (Str.ofString "word") = some (.str (Str.ofString "") t1)) (h2 : m (Str.ofString "number") = some (.int nm t2))
    (f : ∀ t1 t2, m (Str.ofString "word") = some (.str (Str.ofString "") t1) → m (Str.ofString "number") = some (.int nm t2) → G) : G := f t1 t2 h1 h2
noncomputable def Hold (P : Prop) : Prop := P
theorem Hold.mk {P : Prop} (h : Hold P) : P := h
theorem Hold.of {P : Prop} (h : P) : Hold P := h
theorem no_if {M : Model} {A : Around} {test : PySem.Expr} {body orelse : List Stmt} {pos : Pos} {env : Env} {Q : Flow → Shared → Prop} {E : Value → Shared → Prop} {s : Shared} (h1 : wpAny M A (PySem.isTrue test env (eval test env)) (fun b s' => b = false ∧ ∃ tk, s' = { s with toks := tk }) E s)
    (h2 : ∀ tk, wpAny M A (execs orelse env) Q E { s with toks := tk }) : wpAny M A (exec (.If test body orelse pos) env) Q E s :=
  wpAny_If (wpAny_mono h1 (fun b s' h => by obtain ⟨rfl, tk, rfl⟩ := h; simpa using h2 tk) fun _ _ e => e)
theorem kl_last_snoc : ∀ (l : List Value) (y : Value), kl_last (l ++ [y]) = some (l, y)
  | [], _ => rfl
  | x :: r, y => by
    show (match kl_last (r ++ [y]) with | some (p, y) => some (x :: p, y) | none => some ([], x)) = _
    rw [kl_last_snoc r y]
theorem len_led2 {prog : Program} {w : World} {A : Around} {E : Value → Shared → Prop} {s : Shared} {h₀ : Heap} {L l : Addr} {news : List (Addr × Obj)} {vs : Array Value} {x : Value} {n : Nat} {Q : Value → Shared → Prop} (N : News h₀ L s.heap news) (hm : (l, listO (vs.push x) n) ∈ news) (hz : vs.size ≤ 100000) (h : ∀ t k, Q (.int ((vs.size : Int) + 1) t) { s with toks := k }) : wpAny (model prog w) A (call (.builtin "len") [.ref l]) Q E s := by
  have e : (((vs.push x).size : Nat) : Int) = (vs.size : Int) + 1 := by rw [Array.size_push]; (first | lia | omega)
  refine call_len_list (News.isList N hm) (by rw [Array.size_push]; (first | lia | omega)) ?_
  rw [e]
  exact h _ _
theorem name_root {h₀ h : Heap} {L Sl Wy R b0 b : Addr} {o1 o2 o4 : Obj} {t : Tok} {n : Nat} {G : Prop} (_N : News h₀ L h [(Sl, o1), (Wy, o2), (R, listO #[.int 0 t, .ref b] n), (b0, o4)]) (f : ∀ Sl' Wy' R' b' t', Sl' = Sl → Wy' = Wy → R' = R → b' = b0 → t' = t → G) : G := f _ _ _ _ _ rfl rfl rfl rfl rfl
local macro_rules | `(tactic| walk_at "subscriptTail") => `(tactic| ((rename News _ _ _ _ => lN); (first | refine' item_last lN ?k1 ?_ ?k6 | refine' item_led1 lN ?k1 ?_ ?k6); (case k1 => repeat (first | exact List.Mem.head _ | apply List.Mem.tail)); (case k6 => with_unfolding_all rfl); k_whole))
set_option maxHeartbeats 4000000 in
theorem c_nest {w : World} {mean : ExcName → Option Value} {mg mb : Str → Option Value}
  {dp un : Nat} {gd : Option (List Code)} {cn : Str} {cs : Scope} {a : Addr} {ccd : Value} {cl : List (Str × Addr)} {outer : List Env} {A₀ : Around} {base h₀ : Heap} {L : Addr} {m : Str → Option Value} {s : Shared}
    {Q E : Value → Shared → Prop} {S : Addr} {its : List Value} {ns : List Int}
    (B : Below A₀ base outer h₀) (F : Fr h₀ L s.heap m) (X : (Mine.hd.heap_1_39 w.params).In h₀)
    (N : News h₀ L s.heap [])
    (T : Top Mine.hd.view_1_40 LO mean mg mb h₀) (hk : cs.kind = .function) (hdp : dp + 10 < recursionLimit) (hun : un + 100 < cLine)
    (hS : base.IsList S its.toArray) (hI : IntsAre its ns) (hns : ns.length ≤ 100)
    (ret : ∀ R k ts tl h' tk', TrIn tl (.ref R) (.node k ts) → (Tr.node k ts).wide → (Tr.node k ts).size ≤ 60 → Fr h₀ L h' m → News h₀ L h' tl → Q (.ref R) { s with heap := h', toks := tk' })
    : wpAny (model PySem.Challenge.rw_ny0347_01.row.prog w) (ktrTop dp un gd cn cs L a ccd cl outer) (call (.ref 770) [.ref S]) Q E s := by
  w_top off
  revert N X; k_fill; intro X N
  refine wpAny_call ?_
  k_dflt ((refine' code_def ?k1 ?k2 ?k3 ?k4 ?k5 ?kA ?kF ?kK ?k6 ?k7 ?k8 ?k9 ?kB ?_ ?c2 ?c3 ?c4 ?c5; (case kA => exact rfl); (case kF => exact rfl); (case kK => assumption); (case k1 => k_asm); (case k2 => k_asm); (case k3 => k_asm); (case k4 => k_asm); (case k5 => k_asm); (case k6 => k_is); (case k7 => k_is); (case k8 => ktr_room); (case k9 => first | exact BindsTo.of_eq rfl | exact binds_K (by k_in) rfl (by k_is) rfl rfl rfl); (case c5 => decide); (case kB => exact locs rfl); (case c2 => exact rfl); (case c3 => exact rfl); (case c4 => exact rfl); k_whole; intro g' L' h' FG' F' N' B' X' T'; (try dsimp only); (try k_lift B'); (try k_fold)))
  (repeat' (first | (k_unfold; (try dsimp only)) | (k_end; wrow_close) | ((with_reducible show Mine.KfPost ..); (dsimp only [KfPost])) | ((with_reducible show wpAny _ _ (call (Value.builtin "len") _) _ _ _); (with_reducible show wpAny _ _ (call (Value.builtin "len") [Value.ref _]) _ _ _); (rename News _ _ _ _ => lN); refine len_led2 lN (by repeat first | exact List.Mem.head _ | apply List.Mem.tail) (by (first | lia | omega)) ?_; intro _ _) | ((with_reducible show wpAny _ _ (exec (Stmt.While (Expr.Compare ..) ..) _) _ _ _); refine Hold.mk ?_) | ((with_reducible show KswEnd ..); (refine Hold.mk ?_)) | ((with_reducible show wpAny _ _ (exec (Stmt.For (Expr.Name ..) (Expr.Subscript ..) ..) _) _ _ _); k_dflt (refine' For_turns ?F ?_; (case F => k_asm); k_whole)) | ((with_reducible show wpAny _ _ (exec (Stmt.For ..) _) _ _ _); k_dflt (refine' For_turns ?F ?_; (case F => k_asm); k_whole)) | ((with_reducible show wpAny _ _ (PySem.isTrue _ _ _) _ _ _); (k_fold)) | ((with_reducible show wpAny _ _ (execs (_ :: _) _) _ _ _); (k_fold)) | walk1 | (dsimp only; first | ((with_reducible show Mine.KfPost ..); (dsimp only [KfPost])) | ((with_reducible show wpAny _ _ (call (Value.builtin "len") _) _ _ _); (with_reducible show wpAny _ _ (call (Value.builtin "len") [Value.ref _]) _ _ _); (rename News _ _ _ _ => lN); refine len_led2 lN (by repeat first | exact List.Mem.head _ | apply List.Mem.tail) (by (first | lia | omega)) ?_; intro _ _) | ((with_reducible show wpAny _ _ (exec (Stmt.While (Expr.Compare ..) ..) _) _ _ _); refine Hold.mk ?_) | ((with_reducible show KswEnd ..); (refine Hold.mk ?_)) | ((with_reducible show wpAny _ _ (exec (Stmt.For (Expr.Name ..) (Expr.Subscript ..) ..) _) _ _ _); k_dflt (refine' For_turns ?F ?_; (case F => k_asm); k_whole)) | ((with_reducible show wpAny _ _ (exec (Stmt.For ..) _) _ _ _); k_dflt (refine' For_turns ?F ?_; (case F => k_asm); k_whole)) | ((with_reducible show wpAny _ _ (PySem.isTrue _ _ _) _ _ _); (k_fold)) | ((with_reducible show wpAny _ _ (execs (_ :: _) _) _ _ _); (k_fold))) | (dsimp only; walk1) | (leave1; walk_say "STEP leave1"; try dsimp only) | fail "no step"))
  rename Fr _ _ _ _ => F1
  rename News _ _ _ _ => N1
  rename (IntsAre _ (List.take 12 ns)) => hI1
  rename (_ = min 12 ns.length) => hI2
  rename (_ < _ ∧ _ < _ ∧ _ < _) => l19
  rename (_ < _ ∧ _ < _) => l29
  rename (_ < _) => l39
  refine name_root N1 fun Sl Wy R b0 tk0 e1 e2 e3 e4 e5 => ?_
  subst e1 e2 e3 e4 e5
  rename List Value => ws
  have hSW : @LT.lt Nat _ Wy Sl := l19.1
  have hSR : @LT.lt Nat _ R Sl := l19.2.1
  have hSb : @LT.lt Nat _ b0 Sl := l19.2.2
  have hWR : @LT.lt Nat _ R Wy := l29.1
  have hWb : @LT.lt Nat _ b0 Wy := l29.2
  have hRb : @LT.lt Nat _ b0 R := l39
  refine' turns_list (σ := NeS) (fun c => (Sl, listO ws.toArray 0) :: NeLed Wy c) (fun _ => []) [Str.ofString "x", Str.ofString "kind", Str.ofString "number", Str.ofString "node", Str.ofString "word"] (fun i c => NeP Wy R i c ∧ ∀ p ∈ NeLed Wy c, p.1 ≠ Sl) ⟨R, b0, 0, tk0, 0, #[], 0, [], [], 0, []⟩ ?hh F1 ?hN (List.Mem.head _) ?hk ?hp ?turn ?hlc ?done
  case hh => rfl
  case hN =>
    intro p hp
    simp only [NeLed, NeX, lowLed, lowVals, List.reverse_nil, List.map_nil, List.nil_append, List.mem_cons, List.not_mem_nil, or_false] at hp
    rcases hp with rfl | rfl | rfl | rfl
    · exact N1 _ (List.Mem.head _)
    · exact N1 _ (List.Mem.tail _ (List.Mem.tail _ (List.Mem.tail _ (List.Mem.head _))))
    · exact N1 _ (List.Mem.tail _ (List.Mem.head _))
    · exact N1 _ (List.Mem.tail _ (List.Mem.tail _ (List.Mem.head _)))
  case hk => exact fun _ h => nomatch h
  case hp =>
    refine ⟨⟨?_, .nil, ⟨Nat.zero_le _, trivial⟩, (fun _ h => nomatch h), Nat.zero_le _, by (show Tr.sizes [] + 3 + 0 ≤ 3 * (0 + 1)); decide, rfl⟩, ?_⟩
    · intro x
      simp only [NeLed, NeX, lowLed, List.map_cons, List.map_nil, List.nil_append, List.count_cons, List.count_nil, beq_iff_eq]
      exact ne_start hWb hRb hWR x
    · intro p hp
      simp only [NeLed, NeX, lowLed, lowVals, List.reverse_nil, List.map_nil, List.nil_append, List.mem_cons, List.not_mem_nil, or_false] at hp
      rcases hp with rfl | rfl | rfl
      · exact Nat.ne_of_lt hSb
      · exact Nat.ne_of_lt hSW
      · exact Nat.ne_of_lt hSR
  case hlc => exact fun i c _ => List.Mem.head _
  case turn =>
    clear F1 N1
    rintro i v ⟨a, b, k, kt, na, vs, nb, ts, low, nw, cl⟩ u I oI h9 tk9 hv ⟨hP, hSl⟩ hap hlI F' N'
    obtain ⟨hbW, hba, hWa, hXb, hXW, hXa⟩ := hP.off
    dsimp only [NeLed, NeX] at hSl hap F' N' hbW hba hWa hXb hXW hXa ⊢
    generalize hX9 : lowLed low a ++ cl = X9 at hSl hap F' N' hXb hXW hXa
    generalize hW9 : (lowVals low).toArray = W9 at hSl hap F' N'
    have hSI := hap _ (List.Mem.head _)
    have hbI := hap _ (List.Mem.tail _ (List.Mem.head _))
    have hWI := hap _ (List.Mem.tail _ (List.Mem.tail _ (List.Mem.head _)))
    have haI := hap _ (List.Mem.tail _ (List.Mem.tail _ (List.Mem.tail _ (List.Mem.head _))))
    have hXI : ∀ p ∈ X9, p.1 ≠ I := fun p hp => hap p (List.Mem.tail _ (List.Mem.tail _ (List.Mem.tail _ (List.Mem.tail _ hp))))
    have hbS := hSl _ (List.Mem.head _)
    have hWS := hSl _ (List.Mem.tail _ (List.Mem.head _))
    have haS := hSl _ (List.Mem.tail _ (List.Mem.tail _ (List.Mem.head _)))
    have hXS : ∀ p ∈ X9, p.1 ≠ Sl := fun p hp => hSl p (List.Mem.tail _ (List.Mem.tail _ (List.Mem.tail _ hp)))
    dsimp only at hSI hbI hWI haI hbS hWS haS
    have hIS := Ne.symm hSI
    have hIb := Ne.symm hbI
    have hIW := Ne.symm hWI
    have hIa := Ne.symm haI
    have hSb := Ne.symm hbS
    have hSW := Ne.symm hWS
    have hSa := Ne.symm haS
    have hWb := Ne.symm hbW
    have hab := Ne.symm hba
    have haW := Ne.symm hWa
    have hlen : low.length ≤ 4 := hP.deep
    have hWz : W9.size = low.length := by rw [← hW9]; simp [lowVals]
    have hi12 : i < 12 := ne_lt12 hI1 hv
    have hvz : vs.size ≤ 1000 := by
      have e1 := hP.ts.len
      have e2 := sizes_len ts
      have e3 : Tr.sizes ts + 3 + lowSize low ≤ 3 * (i + 1) := hP.size
      rw [Array.length_toList] at e1
      dsimp only at e1
      (first | lia | omega)
    obtain ⟨xi, xt, rfl⟩ := ne_int hI1 hv
    repeat' (first | done | ((fail_if_success (show wpAny _ _ (exec (Stmt.If _ _ _ _) _) _ _ _)); (first | (k_unfold; (try dsimp only)) | ((with_reducible show Mine.KfPost ..); (dsimp only [KfPost])) | ((with_reducible show wpAny _ _ (call (Value.builtin "len") _) _ _ _); (with_reducible show wpAny _ _ (call (Value.builtin "len") [Value.ref _]) _ _ _); (rename News _ _ _ _ => lN); refine len_led2 lN (by repeat first | exact List.Mem.head _ | apply List.Mem.tail) (by (first | lia | omega)) ?_; intro _ _) | ((with_reducible show wpAny _ _ (exec (Stmt.While (Expr.Compare ..) ..) _) _ _ _); refine Hold.mk ?_) | ((with_reducible show KswEnd ..); (refine Hold.mk ?_)) | ((with_reducible show wpAny _ _ (exec (Stmt.For (Expr.Name ..) (Expr.Subscript ..) ..) _) _ _ _); k_dflt (refine' For_turns ?F ?_; (case F => k_asm); k_whole)) | ((with_reducible show wpAny _ _ (exec (Stmt.For ..) _) _ _ _); k_dflt (refine' For_turns ?F ?_; (case F => k_asm); k_whole)) | ((with_reducible show wpAny _ _ (PySem.isTrue _ _ _) _ _ _); (k_fold)) | ((with_reducible show wpAny _ _ (execs (_ :: _) _) _ _ _); (k_fold)) | walk1 | (dsimp only; first | ((with_reducible show Mine.KfPost ..); (dsimp only [KfPost])) | ((with_reducible show wpAny _ _ (call (Value.builtin "len") _) _ _ _); (with_reducible show wpAny _ _ (call (Value.builtin "len") [Value.ref _]) _ _ _); (rename News _ _ _ _ => lN); refine len_led2 lN (by repeat first | exact List.Mem.head _ | apply List.Mem.tail) (by (first | lia | omega)) ?_; intro _ _) | ((with_reducible show wpAny _ _ (exec (Stmt.While (Expr.Compare ..) ..) _) _ _ _); refine Hold.mk ?_) | ((with_reducible show KswEnd ..); (refine Hold.mk ?_)) | ((with_reducible show wpAny _ _ (exec (Stmt.For (Expr.Name ..) (Expr.Subscript ..) ..) _) _ _ _); k_dflt (refine' For_turns ?F ?_; (case F => k_asm); k_whole)) | ((with_reducible show wpAny _ _ (exec (Stmt.For ..) _) _ _ _); k_dflt (refine' For_turns ?F ?_; (case F => k_asm); k_whole)) | ((with_reducible show wpAny _ _ (PySem.isTrue _ _ _) _ _ _); (k_fold)) | ((with_reducible show wpAny _ _ (execs (_ :: _) _) _ _ _); (k_fold))) | (dsimp only; walk1))))
    rename Fr _ _ _ _ => F8
    rename News _ _ _ _ => N8
    dsimp only at F8 N8 ⊢
    obtain ⟨hk0, hk8, hn0, hn9⟩ := ne_nums xi
    generalize hkd : (xi.fmod 2687384).fmod 8 = kd at F8 hk0 hk8
    generalize hnm : (xi.fmod 2687384).fdiv 8 = nm at F8 hn0 hn9
    clear hkd hnm
    by_cases hA : kd < 2 ∧ low.length < 4
    · obtain ⟨hA1, hA2⟩ := hA
      (repeat' (first | (k_unfold; (try dsimp only)) | (k_end; wrow_close) | ((with_reducible show Mine.KfPost ..); (dsimp only [KfPost])) | ((with_reducible show wpAny _ _ (call (Value.builtin "len") _) _ _ _); (with_reducible show wpAny _ _ (call (Value.builtin "len") [Value.ref _]) _ _ _); (rename News _ _ _ _ => lN); refine len_led2 lN (by repeat first | exact List.Mem.head _ | apply List.Mem.tail) (by (first | lia | omega)) ?_; intro _ _) | ((with_reducible show wpAny _ _ (exec (Stmt.While (Expr.Compare ..) ..) _) _ _ _); refine Hold.mk ?_) | ((with_reducible show KswEnd ..); (refine Hold.mk ?_)) | ((with_reducible show wpAny _ _ (exec (Stmt.For (Expr.Name ..) (Expr.Subscript ..) ..) _) _ _ _); k_dflt (refine' For_turns ?F ?_; (case F => k_asm); k_whole)) | ((with_reducible show wpAny _ _ (exec (Stmt.For ..) _) _ _ _); k_dflt (refine' For_turns ?F ?_; (case F => k_asm); k_whole)) | ((with_reducible show wpAny _ _ (PySem.isTrue _ _ _) _ _ _); (k_fold)) | ((with_reducible show wpAny _ _ (execs (_ :: _) _) _ _ _); (k_fold)) | walk1 | (dsimp only; first | ((with_reducible show Mine.KfPost ..); (dsimp only [KfPost])) | ((with_reducible show wpAny _ _ (call (Value.builtin "len") _) _ _ _); (with_reducible show wpAny _ _ (call (Value.builtin "len") [Value.ref _]) _ _ _); (rename News _ _ _ _ => lN); refine len_led2 lN (by repeat first | exact List.Mem.head _ | apply List.Mem.tail) (by (first | lia | omega)) ?_; intro _ _) | ((with_reducible show wpAny _ _ (exec (Stmt.While (Expr.Compare ..) ..) _) _ _ _); refine Hold.mk ?_) | ((with_reducible show KswEnd ..); (refine Hold.mk ?_)) | ((with_reducible show wpAny _ _ (exec (Stmt.For (Expr.Name ..) (Expr.Subscript ..) ..) _) _ _ _); k_dflt (refine' For_turns ?F ?_; (case F => k_asm); k_whole)) | ((with_reducible show wpAny _ _ (exec (Stmt.For ..) _) _ _ _); k_dflt (refine' For_turns ?F ?_; (case F => k_asm); k_whole)) | ((with_reducible show wpAny _ _ (PySem.isTrue _ _ _) _ _ _); (k_fold)) | ((with_reducible show wpAny _ _ (execs (_ :: _) _) _ _ _); (k_fold))) | (dsimp only; walk1) | (leave1; walk_say "STEP leave1"; try dsimp only) | fail "no step"))
      (rename News _ _ _ _ => N7); (rename Fr _ _ _ _ => F7); (rename (_ < _ ∧ _ < _ ∧ _ < _ ∧ _ < _ ∧ _ < _ ∧ _ < _ ∧ AllLt _ X9) => l27); (rename (I < _ ∧ _ < _ ∧ _ < _ ∧ _ < _ ∧ _ < _ ∧ AllLt _ X9) => l17)
      exact nek_push hX9 hW9 F7 N7 l17 l27 hP hk0 hA1 hA2 hSl hap (by intro z h3; simp only [List.contains_cons, List.contains_nil, Bool.or_false, Bool.or_eq_false_iff, beq_eq_false_iff_ne, ne_eq] at h3; simp [h3, kstB])
    by_cases hC : kd = 3
    · subst hC
      (repeat' (first | (k_unfold; (try dsimp only)) | (k_end; wrow_close) | ((with_reducible show Mine.KfPost ..); (dsimp only [KfPost])) | ((with_reducible show wpAny _ _ (call (Value.builtin "len") _) _ _ _); (with_reducible show wpAny _ _ (call (Value.builtin "len") [Value.ref _]) _ _ _); (rename News _ _ _ _ => lN); refine len_led2 lN (by repeat first | exact List.Mem.head _ | apply List.Mem.tail) (by (first | lia | omega)) ?_; intro _ _) | ((with_reducible show wpAny _ _ (exec (Stmt.While (Expr.Compare ..) ..) _) _ _ _); refine Hold.mk ?_) | ((with_reducible show KswEnd ..); (refine Hold.mk ?_)) | ((with_reducible show wpAny _ _ (exec (Stmt.For (Expr.Name ..) (Expr.Subscript ..) ..) _) _ _ _); k_dflt (refine' For_turns ?F ?_; (case F => k_asm); k_whole)) | ((with_reducible show wpAny _ _ (exec (Stmt.For ..) _) _ _ _); k_dflt (refine' For_turns ?F ?_; (case F => k_asm); k_whole)) | ((with_reducible show wpAny _ _ (PySem.isTrue _ _ _) _ _ _); (k_fold)) | ((with_reducible show wpAny _ _ (execs (_ :: _) _) _ _ _); (k_fold)) | walk1 | (dsimp only; first | ((with_reducible show Mine.KfPost ..); (dsimp only [KfPost])) | ((with_reducible show wpAny _ _ (call (Value.builtin "len") _) _ _ _); (with_reducible show wpAny _ _ (call (Value.builtin "len") [Value.ref _]) _ _ _); (rename News _ _ _ _ => lN); refine len_led2 lN (by repeat first | exact List.Mem.head _ | apply List.Mem.tail) (by (first | lia | omega)) ?_; intro _ _) | ((with_reducible show wpAny _ _ (exec (Stmt.While (Expr.Compare ..) ..) _) _ _ _); refine Hold.mk ?_) | ((with_reducible show KswEnd ..); (refine Hold.mk ?_)) | ((with_reducible show wpAny _ _ (exec (Stmt.For (Expr.Name ..) (Expr.Subscript ..) ..) _) _ _ _); k_dflt (refine' For_turns ?F ?_; (case F => k_asm); k_whole)) | ((with_reducible show wpAny _ _ (exec (Stmt.For ..) _) _ _ _); k_dflt (refine' For_turns ?F ?_; (case F => k_asm); k_whole)) | ((with_reducible show wpAny _ _ (PySem.isTrue _ _ _) _ _ _); (k_fold)) | ((with_reducible show wpAny _ _ (execs (_ :: _) _) _ _ _); (k_fold))) | (dsimp only; walk1) | (leave1; walk_say "STEP leave1"; try dsimp only) | fail "no step"))
      (rename News _ _ _ _ => N7); (rename Fr _ _ _ _ => F7)
      exact nek_leaf hX9 hW9 F7 N7 hP .int (ne_int3 hn0) rfl hSl hap (by intro z h3; simp only [List.contains_cons, List.contains_nil, Bool.or_false, Bool.or_eq_false_iff, beq_eq_false_iff_ne, ne_eq] at h3; simp [h3, kstB])
    by_cases hB : kd = 2 ∧ low ≠ []
    · obtain ⟨rfl, hne⟩ := hB
      obtain ⟨f, r, rfl⟩ := List.exists_cons_of_ne_nil hne
      simp only [List.length_cons] at hWz hlen
      have hv9 := lowVals_cons f r
      (repeat' (first | (k_unfold; (try dsimp only)) | (k_end; wrow_close) | ((with_reducible show Mine.KfPost ..); (dsimp only [KfPost])) | ((with_reducible show wpAny _ _ (call (Value.builtin "len") _) _ _ _); (with_reducible show wpAny _ _ (call (Value.builtin "len") [Value.ref _]) _ _ _); (rename News _ _ _ _ => lN); refine len_led2 lN (by repeat first | exact List.Mem.head _ | apply List.Mem.tail) (by (first | lia | omega)) ?_; intro _ _) | ((with_reducible show wpAny _ _ (exec (Stmt.While (Expr.Compare ..) ..) _) _ _ _); refine Hold.mk ?_) | ((with_reducible show KswEnd ..); (refine Hold.mk ?_)) | ((with_reducible show wpAny _ _ (exec (Stmt.For (Expr.Name ..) (Expr.Subscript ..) ..) _) _ _ _); k_dflt (refine' For_turns ?F ?_; (case F => k_asm); k_whole)) | ((with_reducible show wpAny _ _ (exec (Stmt.For ..) _) _ _ _); k_dflt (refine' For_turns ?F ?_; (case F => k_asm); k_whole)) | ((with_reducible show wpAny _ _ (PySem.isTrue _ _ _) _ _ _); (k_fold)) | ((with_reducible show wpAny _ _ (execs (_ :: _) _) _ _ _); (k_fold)) | walk1 | (dsimp only; first | ((with_reducible show Mine.KfPost ..); (dsimp only [KfPost])) | ((with_reducible show wpAny _ _ (call (Value.builtin "len") _) _ _ _); (with_reducible show wpAny _ _ (call (Value.builtin "len") [Value.ref _]) _ _ _); (rename News _ _ _ _ => lN); refine len_led2 lN (by repeat first | exact List.Mem.head _ | apply List.Mem.tail) (by (first | lia | omega)) ?_; intro _ _) | ((with_reducible show wpAny _ _ (exec (Stmt.While (Expr.Compare ..) ..) _) _ _ _); refine Hold.mk ?_) | ((with_reducible show KswEnd ..); (refine Hold.mk ?_)) | ((with_reducible show wpAny _ _ (exec (Stmt.For (Expr.Name ..) (Expr.Subscript ..) ..) _) _ _ _); k_dflt (refine' For_turns ?F ?_; (case F => k_asm); k_whole)) | ((with_reducible show wpAny _ _ (exec (Stmt.For ..) _) _ _ _); k_dflt (refine' For_turns ?F ?_; (case F => k_asm); k_whole)) | ((with_reducible show wpAny _ _ (PySem.isTrue _ _ _) _ _ _); (k_fold)) | ((with_reducible show wpAny _ _ (execs (_ :: _) _) _ _ _); (k_fold))) | (dsimp only; walk1) | (leave1; walk_say "STEP leave1"; try dsimp only) | fail "no step"))
      (rename News _ _ _ _ => N7); (rename Fr _ _ _ _ => F7)
      refine' kl_pop (D := Wy) (its := W9.push (.ref a)) (n := nw) (p := W9.toList) (y := .ref a) ?pF ?pN ?pe ?pU ?pz ?_
      case pF => exact F7
      case pN => exact N7
      case pe => rw [Array.toList_push]; exact kl_last_snoc _ _
      case pU => k_upd
      case pz => rw [sizeLine_eq, Array.toList_push, List.length_append, Array.length_toList]; simp only [List.length_cons, List.length_nil]; (first | lia | omega)
      intro h7 F6 N6
      rw [Array.toArray_toList] at N6
      clear F7 N7
      (repeat' (first | (k_unfold; (try dsimp only)) | (k_end; wrow_close) | ((with_reducible show Mine.KfPost ..); (dsimp only [KfPost])) | ((with_reducible show wpAny _ _ (call (Value.builtin "len") _) _ _ _); (with_reducible show wpAny _ _ (call (Value.builtin "len") [Value.ref _]) _ _ _); (rename News _ _ _ _ => lN); refine len_led2 lN (by repeat first | exact List.Mem.head _ | apply List.Mem.tail) (by (first | lia | omega)) ?_; intro _ _) | ((with_reducible show wpAny _ _ (exec (Stmt.While (Expr.Compare ..) ..) _) _ _ _); refine Hold.mk ?_) | ((with_reducible show KswEnd ..); (refine Hold.mk ?_)) | ((with_reducible show wpAny _ _ (exec (Stmt.For (Expr.Name ..) (Expr.Subscript ..) ..) _) _ _ _); k_dflt (refine' For_turns ?F ?_; (case F => k_asm); k_whole)) | ((with_reducible show wpAny _ _ (exec (Stmt.For ..) _) _ _ _); k_dflt (refine' For_turns ?F ?_; (case F => k_asm); k_whole)) | ((with_reducible show wpAny _ _ (PySem.isTrue _ _ _) _ _ _); (k_fold)) | ((with_reducible show wpAny _ _ (execs (_ :: _) _) _ _ _); (k_fold)) | walk1 | (dsimp only; first | ((with_reducible show Mine.KfPost ..); (dsimp only [KfPost])) | ((with_reducible show wpAny _ _ (call (Value.builtin "len") _) _ _ _); (with_reducible show wpAny _ _ (call (Value.builtin "len") [Value.ref _]) _ _ _); (rename News _ _ _ _ => lN); refine len_led2 lN (by repeat first | exact List.Mem.head _ | apply List.Mem.tail) (by (first | lia | omega)) ?_; intro _ _) | ((with_reducible show wpAny _ _ (exec (Stmt.While (Expr.Compare ..) ..) _) _ _ _); refine Hold.mk ?_) | ((with_reducible show KswEnd ..); (refine Hold.mk ?_)) | ((with_reducible show wpAny _ _ (exec (Stmt.For (Expr.Name ..) (Expr.Subscript ..) ..) _) _ _ _); k_dflt (refine' For_turns ?F ?_; (case F => k_asm); k_whole)) | ((with_reducible show wpAny _ _ (exec (Stmt.For ..) _) _ _ _); k_dflt (refine' For_turns ?F ?_; (case F => k_asm); k_whole)) | ((with_reducible show wpAny _ _ (PySem.isTrue _ _ _) _ _ _); (k_fold)) | ((with_reducible show wpAny _ _ (execs (_ :: _) _) _ _ _); (k_fold))) | (dsimp only; walk1) | (leave1; walk_say "STEP leave1"; try dsimp only) | fail "no step"))
      exact nek_pop hX9 hW9 F6 N6 hP (by (first | lia | omega)) hSl hap (by intro z h3; simp only [List.contains_cons, List.contains_nil, Bool.or_false, Bool.or_eq_false_iff, beq_eq_false_iff_ne, ne_eq] at h3; simp [h3, kstB])
    have hD : 4 ≤ low.length ∧ kd < 2 ∨ kd = 2 ∧ low.length = 0 ∨ 3 < kd := by
      rcases Nat.lt_or_ge low.length 4 with h4 | h4
      · have : ¬ kd < 2 := fun h => hA ⟨h, h4⟩
        by_cases h2 : kd = 2
        · refine .inr (.inl ⟨h2, ?_⟩)
          cases low with
          | nil => rfl
          | cons f r => exact absurd ⟨h2, List.cons_ne_nil _ _⟩ hB
        · exact .inr (.inr (by (first | lia | omega)))
      · by_cases h2 : kd < 2
        · exact .inl ⟨h4, h2⟩
        · by_cases h3 : kd = 2
          · refine absurd ⟨h3, ?_⟩ hB
            rintro rfl
            simp at h4
          · exact .inr (.inr (by (first | lia | omega)))
    clear hA hB
    refine no_if ?_ fun tk81 => ?_
    · rcases hD with ⟨hD1, hD2⟩ | ⟨rfl, hD2⟩ | hD1
      · have g1 : ¬ (W9.size : Int) + 1 < 5 := by (first | lia | omega)
        (repeat' (first | (k_unfold; (try dsimp only)) | (k_end; wrow_close) | ((with_reducible show Mine.KfPost ..); (dsimp only [KfPost])) | ((with_reducible show wpAny _ _ (call (Value.builtin "len") _) _ _ _); (with_reducible show wpAny _ _ (call (Value.builtin "len") [Value.ref _]) _ _ _); (rename News _ _ _ _ => lN); refine len_led2 lN (by repeat first | exact List.Mem.head _ | apply List.Mem.tail) (by (first | lia | omega)) ?_; intro _ _) | ((with_reducible show wpAny _ _ (exec (Stmt.While (Expr.Compare ..) ..) _) _ _ _); refine Hold.mk ?_) | ((with_reducible show KswEnd ..); (refine Hold.mk ?_)) | ((with_reducible show wpAny _ _ (exec (Stmt.For (Expr.Name ..) (Expr.Subscript ..) ..) _) _ _ _); k_dflt (refine' For_turns ?F ?_; (case F => k_asm); k_whole)) | ((with_reducible show wpAny _ _ (exec (Stmt.For ..) _) _ _ _); k_dflt (refine' For_turns ?F ?_; (case F => k_asm); k_whole)) | ((with_reducible show wpAny _ _ (PySem.isTrue _ _ _) _ _ _); (k_fold)) | ((with_reducible show wpAny _ _ (execs (_ :: _) _) _ _ _); (k_fold)) | walk1 | (dsimp only; first | ((with_reducible show Mine.KfPost ..); (dsimp only [KfPost])) | ((with_reducible show wpAny _ _ (call (Value.builtin "len") _) _ _ _); (with_reducible show wpAny _ _ (call (Value.builtin "len") [Value.ref _]) _ _ _); (rename News _ _ _ _ => lN); refine len_led2 lN (by repeat first | exact List.Mem.head _ | apply List.Mem.tail) (by (first | lia | omega)) ?_; intro _ _) | ((with_reducible show wpAny _ _ (exec (Stmt.While (Expr.Compare ..) ..) _) _ _ _); refine Hold.mk ?_) | ((with_reducible show KswEnd ..); (refine Hold.mk ?_)) | ((with_reducible show wpAny _ _ (exec (Stmt.For (Expr.Name ..) (Expr.Subscript ..) ..) _) _ _ _); k_dflt (refine' For_turns ?F ?_; (case F => k_asm); k_whole)) | ((with_reducible show wpAny _ _ (exec (Stmt.For ..) _) _ _ _); k_dflt (refine' For_turns ?F ?_; (case F => k_asm); k_whole)) | ((with_reducible show wpAny _ _ (PySem.isTrue _ _ _) _ _ _); (k_fold)) | ((with_reducible show wpAny _ _ (execs (_ :: _) _) _ _ _); (k_fold))) | (dsimp only; walk1) | (leave1; walk_say "STEP leave1"; try dsimp only) | fail "no step"))
        all_goals exact ⟨rfl, _, rfl⟩
      · (repeat' (first | (k_unfold; (try dsimp only)) | (k_end; wrow_close) | ((with_reducible show Mine.KfPost ..); (dsimp only [KfPost])) | ((with_reducible show wpAny _ _ (call (Value.builtin "len") _) _ _ _); (with_reducible show wpAny _ _ (call (Value.builtin "len") [Value.ref _]) _ _ _); (rename News _ _ _ _ => lN); refine len_led2 lN (by repeat first | exact List.Mem.head _ | apply List.Mem.tail) (by (first | lia | omega)) ?_; intro _ _) | ((with_reducible show wpAny _ _ (exec (Stmt.While (Expr.Compare ..) ..) _) _ _ _); refine Hold.mk ?_) | ((with_reducible show KswEnd ..); (refine Hold.mk ?_)) | ((with_reducible show wpAny _ _ (exec (Stmt.For (Expr.Name ..) (Expr.Subscript ..) ..) _) _ _ _); k_dflt (refine' For_turns ?F ?_; (case F => k_asm); k_whole)) | ((with_reducible show wpAny _ _ (exec (Stmt.For ..) _) _ _ _); k_dflt (refine' For_turns ?F ?_; (case F => k_asm); k_whole)) | ((with_reducible show wpAny _ _ (PySem.isTrue _ _ _) _ _ _); (k_fold)) | ((with_reducible show wpAny _ _ (execs (_ :: _) _) _ _ _); (k_fold)) | walk1 | (dsimp only; first | ((with_reducible show Mine.KfPost ..); (dsimp only [KfPost])) | ((with_reducible show wpAny _ _ (call (Value.builtin "len") _) _ _ _); (with_reducible show wpAny _ _ (call (Value.builtin "len") [Value.ref _]) _ _ _); (rename News _ _ _ _ => lN); refine len_led2 lN (by repeat first | exact List.Mem.head _ | apply List.Mem.tail) (by (first | lia | omega)) ?_; intro _ _) | ((with_reducible show wpAny _ _ (exec (Stmt.While (Expr.Compare ..) ..) _) _ _ _); refine Hold.mk ?_) | ((with_reducible show KswEnd ..); (refine Hold.mk ?_)) | ((with_reducible show wpAny _ _ (exec (Stmt.For (Expr.Name ..) (Expr.Subscript ..) ..) _) _ _ _); k_dflt (refine' For_turns ?F ?_; (case F => k_asm); k_whole)) | ((with_reducible show wpAny _ _ (exec (Stmt.For ..) _) _ _ _); k_dflt (refine' For_turns ?F ?_; (case F => k_asm); k_whole)) | ((with_reducible show wpAny _ _ (PySem.isTrue _ _ _) _ _ _); (k_fold)) | ((with_reducible show wpAny _ _ (execs (_ :: _) _) _ _ _); (k_fold))) | (dsimp only; walk1) | (leave1; walk_say "STEP leave1"; try dsimp only) | fail "no step"))
        all_goals exact ⟨rfl, _, rfl⟩
      · have g1 : ¬ kd < 2 := by (first | lia | omega)
        (repeat' (first | (k_unfold; (try dsimp only)) | (k_end; wrow_close) | ((with_reducible show Mine.KfPost ..); (dsimp only [KfPost])) | ((with_reducible show wpAny _ _ (call (Value.builtin "len") _) _ _ _); (with_reducible show wpAny _ _ (call (Value.builtin "len") [Value.ref _]) _ _ _); (rename News _ _ _ _ => lN); refine len_led2 lN (by repeat first | exact List.Mem.head _ | apply List.Mem.tail) (by (first | lia | omega)) ?_; intro _ _) | ((with_reducible show wpAny _ _ (exec (Stmt.While (Expr.Compare ..) ..) _) _ _ _); refine Hold.mk ?_) | ((with_reducible show KswEnd ..); (refine Hold.mk ?_)) | ((with_reducible show wpAny _ _ (exec (Stmt.For (Expr.Name ..) (Expr.Subscript ..) ..) _) _ _ _); k_dflt (refine' For_turns ?F ?_; (case F => k_asm); k_whole)) | ((with_reducible show wpAny _ _ (exec (Stmt.For ..) _) _ _ _); k_dflt (refine' For_turns ?F ?_; (case F => k_asm); k_whole)) | ((with_reducible show wpAny _ _ (PySem.isTrue _ _ _) _ _ _); (k_fold)) | ((with_reducible show wpAny _ _ (execs (_ :: _) _) _ _ _); (k_fold)) | walk1 | (dsimp only; first | ((with_reducible show Mine.KfPost ..); (dsimp only [KfPost])) | ((with_reducible show wpAny _ _ (call (Value.builtin "len") _) _ _ _); (with_reducible show wpAny _ _ (call (Value.builtin "len") [Value.ref _]) _ _ _); (rename News _ _ _ _ => lN); refine len_led2 lN (by repeat first | exact List.Mem.head _ | apply List.Mem.tail) (by (first | lia | omega)) ?_; intro _ _) | ((with_reducible show wpAny _ _ (exec (Stmt.While (Expr.Compare ..) ..) _) _ _ _); refine Hold.mk ?_) | ((with_reducible show KswEnd ..); (refine Hold.mk ?_)) | ((with_reducible show wpAny _ _ (exec (Stmt.For (Expr.Name ..) (Expr.Subscript ..) ..) _) _ _ _); k_dflt (refine' For_turns ?F ?_; (case F => k_asm); k_whole)) | ((with_reducible show wpAny _ _ (exec (Stmt.For ..) _) _ _ _); k_dflt (refine' For_turns ?F ?_; (case F => k_asm); k_whole)) | ((with_reducible show wpAny _ _ (PySem.isTrue _ _ _) _ _ _); (k_fold)) | ((with_reducible show wpAny _ _ (execs (_ :: _) _) _ _ _); (k_fold))) | (dsimp only; walk1) | (leave1; walk_say "STEP leave1"; try dsimp only) | fail "no step"))
        all_goals exact ⟨rfl, _, rfl⟩
    refine wpAny_execs_cons ?_
    refine no_if ?_ fun tk82 => ?_
    · rcases hD with ⟨hD1, hD2⟩ | ⟨rfl, hD2⟩ | hD1
      · have g2 : (kd == 2) = false := by simp; (first | lia | omega)
        (repeat' (first | (k_unfold; (try dsimp only)) | (k_end; wrow_close) | ((with_reducible show Mine.KfPost ..); (dsimp only [KfPost])) | ((with_reducible show wpAny _ _ (call (Value.builtin "len") _) _ _ _); (with_reducible show wpAny _ _ (call (Value.builtin "len") [Value.ref _]) _ _ _); (rename News _ _ _ _ => lN); refine len_led2 lN (by repeat first | exact List.Mem.head _ | apply List.Mem.tail) (by (first | lia | omega)) ?_; intro _ _) | ((with_reducible show wpAny _ _ (exec (Stmt.While (Expr.Compare ..) ..) _) _ _ _); refine Hold.mk ?_) | ((with_reducible show KswEnd ..); (refine Hold.mk ?_)) | ((with_reducible show wpAny _ _ (exec (Stmt.For (Expr.Name ..) (Expr.Subscript ..) ..) _) _ _ _); k_dflt (refine' For_turns ?F ?_; (case F => k_asm); k_whole)) | ((with_reducible show wpAny _ _ (exec (Stmt.For ..) _) _ _ _); k_dflt (refine' For_turns ?F ?_; (case F => k_asm); k_whole)) | ((with_reducible show wpAny _ _ (PySem.isTrue _ _ _) _ _ _); (k_fold)) | ((with_reducible show wpAny _ _ (execs (_ :: _) _) _ _ _); (k_fold)) | walk1 | (dsimp only; first | ((with_reducible show Mine.KfPost ..); (dsimp only [KfPost])) | ((with_reducible show wpAny _ _ (call (Value.builtin "len") _) _ _ _); (with_reducible show wpAny _ _ (call (Value.builtin "len") [Value.ref _]) _ _ _); (rename News _ _ _ _ => lN); refine len_led2 lN (by repeat first | exact List.Mem.head _ | apply List.Mem.tail) (by (first | lia | omega)) ?_; intro _ _) | ((with_reducible show wpAny _ _ (exec (Stmt.While (Expr.Compare ..) ..) _) _ _ _); refine Hold.mk ?_) | ((with_reducible show KswEnd ..); (refine Hold.mk ?_)) | ((with_reducible show wpAny _ _ (exec (Stmt.For (Expr.Name ..) (Expr.Subscript ..) ..) _) _ _ _); k_dflt (refine' For_turns ?F ?_; (case F => k_asm); k_whole)) | ((with_reducible show wpAny _ _ (exec (Stmt.For ..) _) _ _ _); k_dflt (refine' For_turns ?F ?_; (case F => k_asm); k_whole)) | ((with_reducible show wpAny _ _ (PySem.isTrue _ _ _) _ _ _); (k_fold)) | ((with_reducible show wpAny _ _ (execs (_ :: _) _) _ _ _); (k_fold))) | (dsimp only; walk1) | (leave1; walk_say "STEP leave1"; try dsimp only) | fail "no step"))
        all_goals exact ⟨rfl, _, rfl⟩
      · have g1 : ¬ (W9.size : Int) + 1 > 1 := by (first | lia | omega)
        have g2 : ¬ 1 < (W9.size : Int) + 1 := by (first | lia | omega)
        (repeat' (first | (k_unfold; (try dsimp only)) | (k_end; wrow_close) | ((with_reducible show Mine.KfPost ..); (dsimp only [KfPost])) | ((with_reducible show wpAny _ _ (call (Value.builtin "len") _) _ _ _); (with_reducible show wpAny _ _ (call (Value.builtin "len") [Value.ref _]) _ _ _); (rename News _ _ _ _ => lN); refine len_led2 lN (by repeat first | exact List.Mem.head _ | apply List.Mem.tail) (by (first | lia | omega)) ?_; intro _ _) | ((with_reducible show wpAny _ _ (exec (Stmt.While (Expr.Compare ..) ..) _) _ _ _); refine Hold.mk ?_) | ((with_reducible show KswEnd ..); (refine Hold.mk ?_)) | ((with_reducible show wpAny _ _ (exec (Stmt.For (Expr.Name ..) (Expr.Subscript ..) ..) _) _ _ _); k_dflt (refine' For_turns ?F ?_; (case F => k_asm); k_whole)) | ((with_reducible show wpAny _ _ (exec (Stmt.For ..) _) _ _ _); k_dflt (refine' For_turns ?F ?_; (case F => k_asm); k_whole)) | ((with_reducible show wpAny _ _ (PySem.isTrue _ _ _) _ _ _); (k_fold)) | ((with_reducible show wpAny _ _ (execs (_ :: _) _) _ _ _); (k_fold)) | walk1 | (dsimp only; first | ((with_reducible show Mine.KfPost ..); (dsimp only [KfPost])) | ((with_reducible show wpAny _ _ (call (Value.builtin "len") _) _ _ _); (with_reducible show wpAny _ _ (call (Value.builtin "len") [Value.ref _]) _ _ _); (rename News _ _ _ _ => lN); refine len_led2 lN (by repeat first | exact List.Mem.head _ | apply List.Mem.tail) (by (first | lia | omega)) ?_; intro _ _) | ((with_reducible show wpAny _ _ (exec (Stmt.While (Expr.Compare ..) ..) _) _ _ _); refine Hold.mk ?_) | ((with_reducible show KswEnd ..); (refine Hold.mk ?_)) | ((with_reducible show wpAny _ _ (exec (Stmt.For (Expr.Name ..) (Expr.Subscript ..) ..) _) _ _ _); k_dflt (refine' For_turns ?F ?_; (case F => k_asm); k_whole)) | ((with_reducible show wpAny _ _ (exec (Stmt.For ..) _) _ _ _); k_dflt (refine' For_turns ?F ?_; (case F => k_asm); k_whole)) | ((with_reducible show wpAny _ _ (PySem.isTrue _ _ _) _ _ _); (k_fold)) | ((with_reducible show wpAny _ _ (execs (_ :: _) _) _ _ _); (k_fold))) | (dsimp only; walk1) | (leave1; walk_say "STEP leave1"; try dsimp only) | fail "no step"))
        all_goals exact ⟨rfl, _, rfl⟩
      · have g2 : (kd == 2) = false := by simp; (first | lia | omega)
        (repeat' (first | (k_unfold; (try dsimp only)) | (k_end; wrow_close) | ((with_reducible show Mine.KfPost ..); (dsimp only [KfPost])) | ((with_reducible show wpAny _ _ (call (Value.builtin "len") _) _ _ _); (with_reducible show wpAny _ _ (call (Value.builtin "len") [Value.ref _]) _ _ _); (rename News _ _ _ _ => lN); refine len_led2 lN (by repeat first | exact List.Mem.head _ | apply List.Mem.tail) (by (first | lia | omega)) ?_; intro _ _) | ((with_reducible show wpAny _ _ (exec (Stmt.While (Expr.Compare ..) ..) _) _ _ _); refine Hold.mk ?_) | ((with_reducible show KswEnd ..); (refine Hold.mk ?_)) | ((with_reducible show wpAny _ _ (exec (Stmt.For (Expr.Name ..) (Expr.Subscript ..) ..) _) _ _ _); k_dflt (refine' For_turns ?F ?_; (case F => k_asm); k_whole)) | ((with_reducible show wpAny _ _ (exec (Stmt.For ..) _) _ _ _); k_dflt (refine' For_turns ?F ?_; (case F => k_asm); k_whole)) | ((with_reducible show wpAny _ _ (PySem.isTrue _ _ _) _ _ _); (k_fold)) | ((with_reducible show wpAny _ _ (execs (_ :: _) _) _ _ _); (k_fold)) | walk1 | (dsimp only; first | ((with_reducible show Mine.KfPost ..); (dsimp only [KfPost])) | ((with_reducible show wpAny _ _ (call (Value.builtin "len") _) _ _ _); (with_reducible show wpAny _ _ (call (Value.builtin "len") [Value.ref _]) _ _ _); (rename News _ _ _ _ => lN); refine len_led2 lN (by repeat first | exact List.Mem.head _ | apply List.Mem.tail) (by (first | lia | omega)) ?_; intro _ _) | ((with_reducible show wpAny _ _ (exec (Stmt.While (Expr.Compare ..) ..) _) _ _ _); refine Hold.mk ?_) | ((with_reducible show KswEnd ..); (refine Hold.mk ?_)) | ((with_reducible show wpAny _ _ (exec (Stmt.For (Expr.Name ..) (Expr.Subscript ..) ..) _) _ _ _); k_dflt (refine' For_turns ?F ?_; (case F => k_asm); k_whole)) | ((with_reducible show wpAny _ _ (exec (Stmt.For ..) _) _ _ _); k_dflt (refine' For_turns ?F ?_; (case F => k_asm); k_whole)) | ((with_reducible show wpAny _ _ (PySem.isTrue _ _ _) _ _ _); (k_fold)) | ((with_reducible show wpAny _ _ (execs (_ :: _) _) _ _ _); (k_fold))) | (dsimp only; walk1) | (leave1; walk_say "STEP leave1"; try dsimp only) | fail "no step"))
        all_goals exact ⟨rfl, _, rfl⟩
    have g3 : (kd == 3) = false := by simp; (first | lia | omega)
    clear hD
    (repeat' (first | (k_unfold; (try dsimp only)) | (k_end; wrow_close) | ((with_reducible show Mine.KfPost ..); (dsimp only [KfPost])) | ((with_reducible show wpAny _ _ (call (Value.builtin "len") _) _ _ _); (with_reducible show wpAny _ _ (call (Value.builtin "len") [Value.ref _]) _ _ _); (rename News _ _ _ _ => lN); refine len_led2 lN (by repeat first | exact List.Mem.head _ | apply List.Mem.tail) (by (first | lia | omega)) ?_; intro _ _) | ((with_reducible show wpAny _ _ (exec (Stmt.While (Expr.Compare ..) ..) _) _ _ _); refine Hold.mk ?_) | ((with_reducible show KswEnd ..); (refine Hold.mk ?_)) | ((with_reducible show wpAny _ _ (exec (Stmt.For (Expr.Name ..) (Expr.Subscript ..) ..) _) _ _ _); k_dflt (refine' For_turns ?F ?_; (case F => k_asm); k_whole)) | ((with_reducible show wpAny _ _ (exec (Stmt.For ..) _) _ _ _); k_dflt (refine' For_turns ?F ?_; (case F => k_asm); k_whole)) | ((with_reducible show wpAny _ _ (PySem.isTrue _ _ _) _ _ _); (k_fold)) | ((with_reducible show wpAny _ _ (execs (_ :: _) _) _ _ _); (k_fold)) | walk1 | (dsimp only; first | ((with_reducible show Mine.KfPost ..); (dsimp only [KfPost])) | ((with_reducible show wpAny _ _ (call (Value.builtin "len") _) _ _ _); (with_reducible show wpAny _ _ (call (Value.builtin "len") [Value.ref _]) _ _ _); (rename News _ _ _ _ => lN); refine len_led2 lN (by repeat first | exact List.Mem.head _ | apply List.Mem.tail) (by (first | lia | omega)) ?_; intro _ _) | ((with_reducible show wpAny _ _ (exec (Stmt.While (Expr.Compare ..) ..) _) _ _ _); refine Hold.mk ?_) | ((with_reducible show KswEnd ..); (refine Hold.mk ?_)) | ((with_reducible show wpAny _ _ (exec (Stmt.For (Expr.Name ..) (Expr.Subscript ..) ..) _) _ _ _); k_dflt (refine' For_turns ?F ?_; (case F => k_asm); k_whole)) | ((with_reducible show wpAny _ _ (exec (Stmt.For ..) _) _ _ _); k_dflt (refine' For_turns ?F ?_; (case F => k_asm); k_whole)) | ((with_reducible show wpAny _ _ (PySem.isTrue _ _ _) _ _ _); (k_fold)) | ((with_reducible show wpAny _ _ (execs (_ :: _) _) _ _ _); (k_fold))) | (dsimp only; walk1) | (leave1; walk_say "STEP leave1"; try dsimp only) | fail "no step"))
    refine Hold.of ?_
    (rename News _ _ _ _ => N5); (rename Fr _ _ _ _ => F5)
    refine wo_toks F5 rfl rfl fun t51 t52 hw51 hw52 => ?_
    refine' ksw_while (σ := WoS) (fun _ => (I, oI) :: (Sl, listO ws.toArray 0) :: (b, listO vs nb) :: (Wy, listO (W9.push (.ref a)) nw) :: (a, listO #[.int k kt, .ref b] na) :: X9) (fun c => [(Str.ofString "word", Value.str c.w c.wt), (Str.ofString "number", Value.int c.n c.nt)]) (fun _ => True) [] WoP (fun c => c.n.toNat) ⟨Str.ofString "", t51, nm, t52⟩ F5 N5 trivial ?hk2 ?hp2 ?turn2
    case hk2 =>
      intro q hq
      rcases List.mem_cons.mp hq with rfl | hq
      · exact hw51
      · rw [List.mem_singleton.mp hq]; exact hw52
    case hp2 => exact wo_start hn0 hn9
    case turn2 =>
      clear F5 N5
      rintro ⟨wd, wt, wn, wnt⟩ u5 h5 tk5 - hW5 F' N'
      have hz5 := hW5.len
      dsimp only at hz5 F' N' ⊢
      (repeat' (first | (k_unfold; (try dsimp only)) | (k_end; wrow_close) | ((with_reducible show Mine.KfPost ..); (dsimp only [KfPost])) | ((with_reducible show wpAny _ _ (call (Value.builtin "len") _) _ _ _); (with_reducible show wpAny _ _ (call (Value.builtin "len") [Value.ref _]) _ _ _); (rename News _ _ _ _ => lN); refine len_led2 lN (by repeat first | exact List.Mem.head _ | apply List.Mem.tail) (by (first | lia | omega)) ?_; intro _ _) | ((with_reducible show wpAny _ _ (exec (Stmt.While (Expr.Compare ..) ..) _) _ _ _); refine Hold.mk ?_) | ((with_reducible show KswEnd ..); (refine Hold.mk ?_)) | ((with_reducible show wpAny _ _ (exec (Stmt.For (Expr.Name ..) (Expr.Subscript ..) ..) _) _ _ _); k_dflt (refine' For_turns ?F ?_; (case F => k_asm); k_whole)) | ((with_reducible show wpAny _ _ (exec (Stmt.For ..) _) _ _ _); k_dflt (refine' For_turns ?F ?_; (case F => k_asm); k_whole)) | ((with_reducible show wpAny _ _ (PySem.isTrue _ _ _) _ _ _); (k_fold)) | ((with_reducible show wpAny _ _ (execs (_ :: _) _) _ _ _); (k_fold)) | walk1 | (dsimp only; first | ((with_reducible show Mine.KfPost ..); (dsimp only [KfPost])) | ((with_reducible show wpAny _ _ (call (Value.builtin "len") _) _ _ _); (with_reducible show wpAny _ _ (call (Value.builtin "len") [Value.ref _]) _ _ _); (rename News _ _ _ _ => lN); refine len_led2 lN (by repeat first | exact List.Mem.head _ | apply List.Mem.tail) (by (first | lia | omega)) ?_; intro _ _) | ((with_reducible show wpAny _ _ (exec (Stmt.While (Expr.Compare ..) ..) _) _ _ _); refine Hold.mk ?_) | ((with_reducible show KswEnd ..); (refine Hold.mk ?_)) | ((with_reducible show wpAny _ _ (exec (Stmt.For (Expr.Name ..) (Expr.Subscript ..) ..) _) _ _ _); k_dflt (refine' For_turns ?F ?_; (case F => k_asm); k_whole)) | ((with_reducible show wpAny _ _ (exec (Stmt.For ..) _) _ _ _); k_dflt (refine' For_turns ?F ?_; (case F => k_asm); k_whole)) | ((with_reducible show wpAny _ _ (PySem.isTrue _ _ _) _ _ _); (k_fold)) | ((with_reducible show wpAny _ _ (execs (_ :: _) _) _ _ _); (k_fold))) | (dsimp only; walk1) | (leave1; walk_say "STEP leave1"; try dsimp only) | fail "no step"))
      · (rename News _ _ _ _ => N7); (rename Fr _ _ _ _ => F7)
        (rename (0 < wn) => hpos)
        exact ksw_end ⟨wd ++ Txt.item (Str.ofString "ab '()") ((wn - 1).fmod 6), _, (wn - 1).fdiv 6, _⟩ F7 N7 (fun _ z => z) trivial (by (intro q9 hq9; simp only [List.mem_cons, List.not_mem_nil, or_false] at hq9; rcases hq9 with rfl | rfl <;> rfl)) (by (intro z h2 h3; simp only [List.forall_mem_cons, List.not_mem_nil, false_implies, implies_true, and_true, ne_eq] at h2; simp [h2, kstB])) (hW5.step hpos _ _).1 (hW5.step hpos 0 0).2
      · (rename News _ _ _ _ => N7); (rename Fr _ _ _ _ => F7)
        exact nek_leaf hX9 hW9 F7 N7 hP .str ⟨hW5.len, hW5.signs⟩ rfl hSl hap (by intro z h3; simp only [List.contains_cons, List.contains_nil, Bool.or_false, Bool.or_eq_false_iff, beq_eq_false_iff_ne, ne_eq] at h3; simp [h3, kstB])
  case done =>
    clear F1 N1
    rintro ⟨a, b, k, kt, na, vs, nb, ts, low, nw, cl⟩ u h9 tk9 ⟨hP, hSl⟩ F' N'
    obtain ⟨kk, tts, g1, g2, g3⟩ := hP.whole (by
      have h1 := hI1.length
      rw [List.length_take] at h1
      rw [List.size_toArray]; (first | lia | omega))
    (repeat' (first | (k_unfold; (try dsimp only)) | (k_end; wrow_close) | ((with_reducible show Mine.KfPost ..); (dsimp only [KfPost])) | ((with_reducible show wpAny _ _ (call (Value.builtin "len") _) _ _ _); (with_reducible show wpAny _ _ (call (Value.builtin "len") [Value.ref _]) _ _ _); (rename News _ _ _ _ => lN); refine len_led2 lN (by repeat first | exact List.Mem.head _ | apply List.Mem.tail) (by (first | lia | omega)) ?_; intro _ _) | ((with_reducible show wpAny _ _ (exec (Stmt.While (Expr.Compare ..) ..) _) _ _ _); refine Hold.mk ?_) | ((with_reducible show KswEnd ..); (refine Hold.mk ?_)) | ((with_reducible show wpAny _ _ (exec (Stmt.For (Expr.Name ..) (Expr.Subscript ..) ..) _) _ _ _); k_dflt (refine' For_turns ?F ?_; (case F => k_asm); k_whole)) | ((with_reducible show wpAny _ _ (exec (Stmt.For ..) _) _ _ _); k_dflt (refine' For_turns ?F ?_; (case F => k_asm); k_whole)) | ((with_reducible show wpAny _ _ (PySem.isTrue _ _ _) _ _ _); (k_fold)) | ((with_reducible show wpAny _ _ (execs (_ :: _) _) _ _ _); (k_fold)) | walk1 | (dsimp only; first | ((with_reducible show Mine.KfPost ..); (dsimp only [KfPost])) | ((with_reducible show wpAny _ _ (call (Value.builtin "len") _) _ _ _); (with_reducible show wpAny _ _ (call (Value.builtin "len") [Value.ref _]) _ _ _); (rename News _ _ _ _ => lN); refine len_led2 lN (by repeat first | exact List.Mem.head _ | apply List.Mem.tail) (by (first | lia | omega)) ?_; intro _ _) | ((with_reducible show wpAny _ _ (exec (Stmt.While (Expr.Compare ..) ..) _) _ _ _); refine Hold.mk ?_) | ((with_reducible show KswEnd ..); (refine Hold.mk ?_)) | ((with_reducible show wpAny _ _ (exec (Stmt.For (Expr.Name ..) (Expr.Subscript ..) ..) _) _ _ _); k_dflt (refine' For_turns ?F ?_; (case F => k_asm); k_whole)) | ((with_reducible show wpAny _ _ (exec (Stmt.For ..) _) _ _ _); k_dflt (refine' For_turns ?F ?_; (case F => k_asm); k_whole)) | ((with_reducible show wpAny _ _ (PySem.isTrue _ _ _) _ _ _); (k_fold)) | ((with_reducible show wpAny _ _ (execs (_ :: _) _) _ _ _); (k_fold))) | (dsimp only; walk1) | (leave1; walk_say "STEP leave1"; try dsimp only) | fail "no step"))
    (show Q _ _); (rename News h₀ L _ _ => kN9); (rename Fr h₀ L _ m => kF9)
    exact ret _ _ _ _ _ _ (g1.mono fun p hp => List.Mem.tail _ hp) g2 g3 kF9 kN9
end Mine
end
end
section
open PySem PySem.W PyProof.Rows PySem.Calls
open PyProof.Rows.LCg PyProof.Rows.LCp
set_option maxHeartbeats 1000000
namespace Mine
theorem fr_same {h₀ h h' : Heap} {L : Addr} {m m' : Str → Option Value} (F : Fr h₀ L h m) (hL : h₀.get? L = none) (hs : Heap.SameBut L h h') (hn : h'.Ns L m') : Fr h₀ L h' m' :=
  ⟨hn, fun b o e => hs.extBut b o (fun q => by rw [q, hL] at e; cases e) (F.keep b o e), F.above⟩
theorem enterG {prog : Program} {w : World} {A : Around} {h₀ : Heap} {s : Shared} {K : Frag} {p : Program} {loose : List Str} {mean : ExcName → Option Value} {mg mb : Str → Option Value} {L : Addr} {m : Str → Option Value}
    {R : Result → Shared → Prop} {name qual : Str} {params : Arguments} {body : List Stmt} {scope : Scope} {dV kV doc pm cdv ct oc : Value} {an od : Option Addr} {osl : Array (Option Value)} {f : Addr} {args : Args} {binds : List (Str × Value)}
    (F : Fr h₀ L s.heap m) (X : K.In h₀) (T : Top p loose mean mg mb h₀)
    (ho : K.lookup f = some ⟨oc, od, .func (fnOf name qual params body scope dV kV doc pm an cdv ct), osl⟩) (hcd : codeIn K cdv qual = true) (hroom : A.depth < recursionLimit)
    (hbind : BindsTo s (fnOf name qual params body scope dV kV doc pm an cdv ct) args binds) (hloc : ∀ y ∈ binds, scope.names.lookup y.1 = some .local)
    (h : ∀ C h₁ tk nm qn, Fr h₀ C h₁ (fun y => binds.reverse.lookup y) → s.heap.objs.size ≤ C → (∀ b o, s.heap.get? b = some o → h₁.get? b = some o) →
      R (.ok (.ret (.ref h₁.objs.size))) { s with gens := s.gens.push (.fresh (.func body (envOf qual scope C f cdv))), toks := tk, heap := h₁.push { cls := .type "generator", data := .fields #[.int s.gens.size 0, nm, qn] } })
    (hco : scope.isCoroutine = false) (hgen : scope.isGenerator = true) (hk : scope.kind = .function)
    (hcell : ∀ x ∈ scope.names, x.2 ≠ .cell) : codeAny (model prog w) A (.call (.ref f) args) R s := by
  have X' : K.In s.heap := Frag.In.keeps X F.keep
  refine codeAny_call_generator (fd := fnOf name qual params body scope dV kV doc pm an cdv ct) (body := body) hroom (X' _ _ ho) rfl hco hgen rfl (codeRec_of X' hcd) (hbind _ _ _ _ ?_)
  refine wpAny_newFunctionEnv hcell hloc (fun h₁ hns hsb => ?_) hk
  have up : ∀ b o, s.heap.get? b = some o → h₁.get? b = some o := fun b o e => hsb.extBut b o (Nat.ne_of_lt (Heap.lt_size e)) (Heap.get?_push_of_some _ e)
  refine ⟨(T.nolimit.keeps F.keep).fresh _ hsb, ?_⟩
  exact h s.heap.objs.size h₁ _ _ _ ⟨hns, fun b o e => up b o (F.keep b o e), Nat.le_trans F.above (Nat.le_of_lt F.ns.lt)⟩ (Nat.le_refl _) up
set_option maxHeartbeats 4000000 in
theorem c_gen {w : World} {mean : ExcName → Option Value} {mg mb : Str → Option Value}
  {dp un : Nat} {gd : Option (List Code)} {cn : Str} {cs : Scope} {a : Addr} {ccd : Value} {cl : List (Str × Addr)} {outer : List Env} {h₀ : Heap} {L : Addr} {m : Str → Option Value} {rest : List (Addr × Obj)} {s : Shared}
    {Q E : Value → Shared → Prop} {x : Str} {t : Tok}
    (F : Fr h₀ L s.heap m) (X : (Mine.hd.heap_1_39 w.params).In h₀)
    (N : News h₀ L s.heap rest)
    (T : Top Mine.hd.view_1_40 LO mean mg mb h₀) (hdp : dp + 10 < recursionLimit)
    (hx : 92 ∉ x.cps.toList) (hbr : AllBare s.gens)
    (ret : ∀ ag gg C h' tk gs, GWalk PySem.Challenge.rw_ny0347_01.row.prog w (ktrTop dp un gd cn cs L a ccd cl outer) h₀ ag x.cps.size (fun i vals => ∃ c t u, x.cps[i]? = some c ∧ vals = #[.int ((i : Nat) : Int) t, .str ⟨#[c]⟩ u]) (GSt PySem.Challenge.rw_ny0347_01.row.prog w (ktrTop dp un gd cn cs L a ccd cl outer) h₀ x ag gg) →
      GSt PySem.Challenge.rw_ny0347_01.row.prog w (ktrTop dp un gd cn cs L a ccd cl outer) h₀ x ag gg 0 [ag, C] { s with heap := h', toks := tk, gens := gs } → L ∉ [ag, C] → (∀ p ∈ rest, p.1 ∉ [ag, C]) → Fr h₀ L h' m → News h₀ L h' rest → Q (.ref ag) { s with heap := h', toks := tk, gens := gs })
    : wpAny (model PySem.Challenge.rw_ny0347_01.row.prog w) (ktrTop dp un gd cn cs L a ccd cl outer) (call (.ref 46) [.str x t]) Q E s := by
  w_top off
  revert X; k_fill; intro X
  refine wpAny_call ?_
  refine' enterG F ?kX ?kT ?k6 ?k7 ?k8 ?k9 ?kB ?_ ?c2 ?c3 ?c4 ?c5
  case kX => exact X
  case kT => exact T
  case k6 => k_is
  case k7 => k_is
  case k8 => ktr_room
  case k9 => exact BindsTo.of_eq rfl
  case kB => exact locs rfl
  case c2 => rfl
  case c3 => rfl
  case c4 => rfl
  case c5 => decide
  intro C h₁ tk nm qn FC hC up
  have hLC : L < s.heap.objs.size := F.ns.lt
  have hCs : C < h₁.objs.size := FC.ns.lt
  have hCn : h₀.get? C = none := by
    cases e : h₀.get? C with
    | none => rfl
    | some o => exact absurd (Heap.lt_size (F.keep _ _ e)) (Nat.not_lt.mpr hC)
  refine ret h₁.objs.size s.gens.size C _ tk _ (gen_gwalk rfl T.nolimit (by ktr_room)) (gen_start rfl rfl ?body FC hCn hbr) ?_ ?_ ?_ ?_
  case body =>
    intro A s'' hh F''
    obtain ⟨St₀, D, hst0⟩ : ∃ St₀ : Nat → Heap → Prop, (∀ A' : Around, A'.handled = none → Draws PySem.Challenge.rw_ny0347_01.row.prog w A' s''.heap.objs.size [s''.heap.objs.size] x.cps.size (SignAt x) St₀) ∧ (∀ h : Heap, h.IsStrIter s''.heap.objs.size (strIterType x) x t 0 → St₀ 0 h) := by
      cases ha : x.cps.all (· < 128)
      · exact ⟨_, fun A' hA => Draws.strWide hA _ x t, fun h hs => by simpa [strIterType, ha] using hs⟩
      · exact ⟨_, fun A' hA => Draws.strAscii hA _ x t, fun h hs => by simpa [strIterType, ha] using hs⟩
    refine ⟨[C, s''.heap.objs.size + 1, s''.heap.objs.size], ?_, ?_, ?_⟩
    · intro b hb
      simp only [List.mem_cons, List.not_mem_nil, or_false] at hb
      rcases hb with rfl | rfl | rfl
      · exact .inl rfl
      · exact .inr (Nat.le_succ _)
      · exact .inr (Nat.le_refl _)
    · intro b hb
      have big : ∀ b, s''.heap.objs.size ≤ b → h₀.get? b = none := fun b hb => by
        cases e : h₀.get? b with
        | none => rfl
        | some o => exact absurd (Heap.lt_size (F''.keep _ _ e)) (Nat.not_lt.mpr hb)
      simp only [List.mem_cons, List.not_mem_nil, or_false] at hb
      rcases hb with rfl | rfl | rfl
      · exact hCn
      · exact big _ (Nat.le_succ _)
      · exact big _ (Nat.le_refl _)
    refine seg_func ?_
    refine seg_execs_cons (seg_stmt (wpAny_Assign_Name (wpAny_Constant_int (wpAny_storeName_local rfl F''.ns (fun h2 hn2 hs2 => ?_)))))
    refine seg_execs_cons (seg_stmt (wpAny_Assign_Name (wpAny_Constant_bool (wpAny_storeName_local rfl hn2 (fun h3 hn3 hs3 => ?_)))))
    refine seg_execs_cons (seg_For ?_)
    have F3 := fr_same (fr_same F'' hCn hs2 hn2) hCn hs3 hn3
    have hz3 : h3.objs.size = s''.heap.objs.size := hs3.1.trans hs2.1
    have N3 : News h₀ C h3 [] := fun _ h => nomatch h
    clear F FC
    (repeat' (first | (k_unfold; (try dsimp only)) | (k_end; wrow_close) | ((with_reducible show wpAny _ _ (call (Value.type "enumerate") _) _ _ _); refine Hold.mk ?_) | walk1 | (dsimp only; first | ((with_reducible show wpAny _ _ (call (Value.type "enumerate") _) _ _ _); refine Hold.mk ?_)) | (dsimp only; walk1) | (leave1; walk_say "STEP leave1"; try dsimp only) | fail "no step"))
    refine Hold.of (call_enumerate_str fun h4 he hit hsz4 hk4 => ?_)
    have hk4' : ∀ b o, h3.get? b = some o → h4.get? b = some o := hk4
    have he' : IsEnum h4 (s''.heap.objs.size + 1) s''.heap.objs.size 0 .none := by rw [← hz3]; exact he
    have hit' : h4.IsStrIter s''.heap.objs.size (strIterType x) x t 0 := by rw [← hz3]; exact hit
    dsimp only
    rw [hz3]
    refine wpAny_pyIter_enum he' fun p => ?_
    refine gen_loopSeg rfl rfl rfl rfl (Nat.lt_of_lt_of_le F''.ns.lt (Nat.le_refl _)) hCn ?hz0 ?hF D hx ?turn ?fin x.cps.size 0 s'' _ _ rfl (Nat.zero_le _) ⟨_, he'⟩ (hst0 _ hit') (hn3.keeps hk4') rfl ?since
    case hF => exact hh
    case hz0 =>
      intro b hb
      cases e : h₀.get? b with
      | none => rfl
      | some o => exact absurd (Heap.lt_size (F''.keep _ _ e)) (Nat.not_lt.mpr hb)
    case since =>
      refine ⟨⟨h4, _, rfl⟩, fun b o hb e => hk4' b o (hs3.extBut b o (fun q => hb (q ▸ List.mem_cons_self ..)) (hs2.extBut b o (fun q => hb (q ▸ List.mem_cons_self ..)) e))⟩
    case turn =>
      intro K H n s₀ s m v1 c' u hn he h1 h2 h92 hy
      refine seg_execs_cons (seg_If (isTrue_plain (wpAny_Name (wpAny_loadName_local rfl rfl hn he (wpAny_truthy_bool ?_)))))
      rw [if_neg (by decide)]
      refine seg_execs_cons (seg_If (wpAny_isTrue_Compare1 (wpAny_Name (wpAny_loadName_local rfl rfl hn h2 (wpAny_Constant_str (eq_str (wpAny_truthy_bool ?_)))))))
      have hf : ((⟨#[c']⟩ : Str) == Str.ofString "\\") = false := by
        rw [show Str.ofString "\\" = (⟨#[92]⟩ : Str) from by decide +kernel]
        simpa using h92
      rw [if_neg (by rw [hf]; decide)]
      refine seg_execs_cons (seg_Expr_Yield rfl rfl rfl (wpAny_Tuple (spliced_more (wpAny_Name (wpAny_loadName_local rfl rfl hn h1 (spliced_more (wpAny_Name (wpAny_loadName_local rfl rfl hn h2 (spliced_none ⟨by size_fits, ?_⟩)))))))))
      intro kap hkap
      exact hy _ kap fun s'' hs => hkap .none s'' hs
    case fin =>
      intro s₀ s m hn he hsince
      refine seg_loopEnd ?_
      refine seg_execs_cons (seg_If (isTrue_plain (wpAny_Name (wpAny_loadName_local rfl rfl hn he (wpAny_truthy_bool ?_)))))
      rw [if_neg (by decide)]
      exact seg_end (.ok (.ret .none)) ⟨rfl, rfl, hsince⟩
  · intro hm
    rcases List.mem_cons.mp hm with e | hm
    · exact absurd (Nat.lt_of_lt_of_le hLC (Nat.le_trans hC (Nat.le_of_lt hCs))) (e ▸ Nat.lt_irrefl _)
    · exact absurd (Nat.lt_of_lt_of_le hLC hC) (List.mem_singleton.mp hm ▸ Nat.lt_irrefl _)
  · intro p hp hm
    have hps : p.1 < s.heap.objs.size := Heap.lt_size (N p hp).1
    rcases List.mem_cons.mp hm with e | hm
    · exact absurd (Nat.lt_of_lt_of_le hps (Nat.le_trans hC (Nat.le_of_lt hCs))) (e ▸ Nat.lt_irrefl _)
    · exact absurd (Nat.lt_of_lt_of_le hps hC) (List.mem_singleton.mp hm ▸ Nat.lt_irrefl _)
  · exact F.keeps fun b o e => Heap.get?_push_of_some _ (up b o e)
  · exact N.keepsAll fun b o e => Heap.get?_push_of_some _ (up b o e)
end Mine
end
section
open PySem PySem.W PyProof.Rows PySem.Calls
open PyProof.Rows.LCg PyProof.Rows.LCp
set_option maxHeartbeats 1000000
namespace Mine
structure SpS where
  st : Int
  stt : Tok
  op : Option Int
  ot : Tok
  acc : Array Value
  n : Nat
  accs : List Str
noncomputable def opV (ot : Tok) : Option Int → Value
  | none => .none
  | some o => .int o ot
structure SpP (x : Str) (i : Nat) (c : SpS) : Prop where
  sts : StrsAre c.acc.toList c.accs
  eq : spS x (x.cps.toList.drop i) (i : Int) c.st c.op c.accs = spS x x.cps.toList 0 0 none []
  st : 0 ≤ c.st ∧ c.st ≤ i
  size : c.acc.size ≤ i
  len : ∀ p ∈ c.accs, p.length ≤ 1000
theorem at_drop {l : List Nat} {i c : Nat} (h : l[i]? = some c) : l.drop i = c :: l.drop (i + 1) := by
  obtain ⟨hi, e⟩ := List.getElem?_eq_some_iff.mp h
  rw [List.drop_eq_getElem_cons hi, e]
theorem at_cps {x : Str} {i c : Nat} (h : x.cps[i]? = some c) : x.cps.toList.drop i = c :: x.cps.toList.drop (i + 1) := at_drop (by rw [Array.getElem?_toList]; exact h)
theorem quote_yes {c : Nat} (h : ((⟨#[c]⟩ : Str) == Str.ofString "\"") = true) : c = 34 := by
  rw [show Str.ofString "\"" = (⟨#[34]⟩ : Str) from by decide +kernel] at h
  simpa using h
theorem quote_no {c : Nat} (h : ((⟨#[c]⟩ : Str) == Str.ofString "\"") = false) : c ≠ 34 := by
  intro e
  subst e
  rw [show Str.ofString "\"" = (⟨#[34]⟩ : Str) from by decide +kernel] at h
  simp at h
section
variable {x : Str} {i n : Nat} {c9 : Nat} {st : Int} {stt ot t : Tok} {acc : Array Value} {accs : List Str}
theorem sp_skip {op : Option Int} (h : SpP x i ⟨st, stt, op, ot, acc, n, accs⟩) (hc : x.cps[i]? = some c9) (hq : ((⟨#[c9]⟩ : Str) == Str.ofString "\"") = false) : SpP x (i + 1) ⟨st, stt, op, ot, acc, n, accs⟩ := by
  obtain ⟨hs, he, hst, hsz, hl⟩ := h
  refine ⟨hs, ?_, ⟨hst.1, by have := hst.2; show st ≤ ((i + 1 : Nat) : Int); dsimp only at this; (first | lia | omega)⟩, Nat.le_succ_of_le hsz, hl⟩
  rw [at_cps hc] at he
  rw [← he]
  simp only [spS, quote_no hq, if_false]
  rfl
theorem sp_open (h : SpP x i ⟨st, stt, none, ot, acc, n, accs⟩) (hc : x.cps[i]? = some c9) (hq : ((⟨#[c9]⟩ : Str) == Str.ofString "\"") = true) : SpP x (i + 1) ⟨st, stt, some (i : Int), t, acc, n, accs⟩ := by
  obtain ⟨hs, he, hst, hsz, hl⟩ := h
  refine ⟨hs, ?_, ⟨hst.1, by have := hst.2; show st ≤ ((i + 1 : Nat) : Int); dsimp only at this; (first | lia | omega)⟩, Nat.le_succ_of_le hsz, hl⟩
  rw [at_cps hc] at he
  rw [← he]
  simp only [spS, quote_yes hq, if_true]
  rfl
theorem sp_shut {o : Int} (h : SpP x i ⟨st, stt, some o, ot, acc, n, accs⟩) (hc : x.cps[i]? = some c9) (hq : ((⟨#[c9]⟩ : Str) == Str.ofString "\"") = true) (he2 : st = o) : SpP x (i + 1) ⟨(i : Int) + 1, t, none, ot, acc, n, accs⟩ := by
  obtain ⟨hs, he, hst, hsz, hl⟩ := h
  refine ⟨hs, ?_, ⟨by show (0:Int) ≤ (i:Int) + 1; (first | lia | omega), by show (i:Int) + 1 ≤ ((i + 1 : Nat) : Int); (first | lia | omega)⟩, Nat.le_succ_of_le hsz, hl⟩
  rw [at_cps hc] at he
  rw [← he]
  simp only [spS, quote_yes hq, if_true, he2, ne_eq, not_true, if_false]
  rfl
theorem sp_take {o : Int} {t2 : Tok} {n2 : Nat} (h : SpP x i ⟨st, stt, some o, ot, acc, n, accs⟩) (hc : x.cps[i]? = some c9) (hq : ((⟨#[c9]⟩ : Str) == Str.ofString "\"") = true) (he2 : st ≠ o) (hsl : (Txt.slice x (some st) (some o)).length ≤ x.length) (hxl : x.length ≤ 1000) :
    SpP x (i + 1) ⟨(i : Int) + 1, t, none, ot, acc.push (.str (Txt.slice x (some st) (some o)) t2), n2, accs ++ [Txt.slice x (some st) (some o)]⟩ := by
  obtain ⟨hs, he, hst, hsz, hl⟩ := h
  refine ⟨by simp only [Array.toList_push]; exact StrsAre.snoc hs _ _, ?_, ⟨by show (0:Int) ≤ (i:Int) + 1; (first | lia | omega), by show (i:Int) + 1 ≤ ((i + 1 : Nat) : Int); (first | lia | omega)⟩, by simp only [Array.size_push]; exact Nat.succ_le_succ hsz, ?_⟩
  · rw [at_cps hc] at he
    rw [← he]
    simp only [spS, quote_yes hq, if_true, he2, ne_eq, not_false_eq_true]
    rfl
  · intro p hp
    rcases List.mem_append.mp hp with hp | hp
    · exact hl p hp
    · rw [List.mem_singleton.mp hp]; (first | lia | omega)
end
theorem sp_end {h₀ h' : Heap} {L R T9 : Addr} {s : Shared} {tk : Nat} {o0 o9 : Obj} {own rest X9 : List (Addr × Obj)} {stored : List Str} {m' m₀ : Str → Option Value} {P : SpS → Prop} {st : Int} {stt ot : Tok} {op : Option Int} {acc : Array Value} {n : Nat} {accs : List Str} (hp : P ⟨st, stt, op, ot, acc, n, accs⟩) (hX : X9 = rest ++ own) (hap : ∀ p ∈ own, ∀ q ∈ (R, o0) :: rest, p.1 ≠ q.1)
    (F : Fr h₀ L h' m') (N : News h₀ L h' ((T9, o9) :: (R, listO acc n) :: X9)) (hk : m' (Str.ofString "start") = some (.int st stt)) (hk2 : m' (Str.ofString "open_pos") = some (opV ot op))
    (hr : ∀ z, z ≠ Str.ofString "start" → z ≠ Str.ofString "open_pos" → stored.contains z = false → m' z = m₀ z) :
    KfEnd h₀ L s own (own.map (·.1)) (fun c => (R, listO c.acc c.n) :: rest) (fun c => [(Str.ofString "start", Value.int c.st c.stt), (Str.ofString "open_pos", opV c.ot c.op)]) stored m₀ P { s with heap := h', toks := tk } := by
  subst hX
  refine kf_end ⟨st, stt, op, ot, acc, n, accs⟩ F N (fun p hp => ?_) (fun p hp => ⟨?_, fun hm => ?_⟩) (fun q hq => ?_) (fun z h2 h3 => ?_) hp
  · exact List.mem_cons_of_mem _ (List.mem_cons_of_mem _ (List.mem_append_right _ hp))
  · rcases List.mem_cons.mp hp with rfl | hp
    · exact List.mem_cons_of_mem _ (List.mem_cons_self ..)
    · exact List.mem_cons_of_mem _ (List.mem_cons_of_mem _ (List.mem_append_left _ hp))
  · obtain ⟨q, hq, e⟩ := List.mem_map.mp hm
    rcases List.mem_cons.mp hp with rfl | hp
    · exact hap q hq (R, o0) (List.mem_cons_self ..) e
    · exact hap q hq p (List.mem_cons_of_mem _ hp) e
  · rcases List.mem_cons.mp hq with rfl | hq
    · exact hk
    · rw [List.mem_singleton.mp hq]; exact hk2
  · exact hr z (fun e => h2 (Str.ofString "start", Value.int st stt) (List.mem_cons_self ..) e) (fun e => h2 (Str.ofString "open_pos", opV ot op) (List.mem_cons_of_mem _ (List.mem_cons_self ..)) e) h3
theorem sp_joins {x : Str} {i : Nat} {st : Int} {stt ot : Tok} {op : Option Int} {acc : Array Value} {n : Nat} {accs : List Str} (h : SpP x i ⟨st, stt, op, ot, acc, n, accs⟩) (hi : i ≤ 1000) {e : List Str} (he : e.length ≤ 1 ∧ ∀ p ∈ e, p.length ≤ 1000) : (((accs ++ e)).map (·.length)).sum + (accs ++ e).length * (Str.ofString "").length ≤ 16777216 := by
  obtain ⟨hs, _, _, hsz, hl⟩ := h
  have h0 : accs.length ≤ i := by dsimp only at hs hsz; have := StrsAre.len hs; rw [Array.length_toList] at this; (first | lia | omega)
  have h1 : ((accs ++ e).map (·.length)).sum ≤ ((accs ++ e).map (·.length)).length * 1000 := sum_le_mul (by
    intro y hy
    obtain ⟨q, hq, rfl⟩ := List.mem_map.mp hy
    rcases List.mem_append.mp hq with hq | hq
    · exact hl q hq
    · exact he.2 q hq)
  have h2 : (Str.ofString "").length = 0 := by decide +kernel
  rw [h2]
  simp only [List.length_map, List.length_append] at h1 ⊢
  have := he.1
  (first | lia | omega)
theorem q34 : Str.ofString "\"" = ⟨#[34]⟩ := by decide +kernel
theorem strip_no {x : Str} (h : (Builtin.Str.occurrences x (Str.ofString "\"") 0 x.length 1).isEmpty = true) : stripS x = x := by
  unfold stripS
  rw [if_neg]
  intro hm
  have := yes_in hm
  rw [q34] at h; rw [h] at this; cases this
theorem strip_yes {x : Str} (h : (Builtin.Str.occurrences x (Str.ofString "\"") 0 x.length 1).isEmpty = false) : stripS x = spEnd x (spS x x.cps.toList 0 0 none []) := by
  unfold stripS
  rw [if_pos]
  refine Classical.byContradiction fun hm => ?_
  have := no_in hm
  rw [q34] at h; rw [h] at this; cases this
theorem sp_tok {h₀ h : Heap} {L : Addr} {m : Str → Option Value} {t : Tok} {G : Prop} (_F : Fr h₀ L h m) (h1 : m (Str.ofString "start") = some (.int 0 t)) (h2 : m (Str.ofString "open_pos") = some .none)
    (f : ∀ t, m (Str.ofString "start") = some (.int 0 t) → m (Str.ofString "open_pos") = some .none → G) : G := f t h1 h2
theorem sp_ret {x y : Str} {st : Int} {stt ot : Tok} {op : Option Int} {acc : Array Value} {n : Nat} {accs : List Str} {G : Prop} (h : SpP x x.cps.size ⟨st, stt, op, ot, acc, n, accs⟩) (hq : (Builtin.Str.occurrences x (Str.ofString "\"") 0 x.length 1).isEmpty = false) (hy : spEnd x (st, accs) = y) (f : stripS x = y → G) : G := by
  refine f ?_
  rw [strip_yes hq, ← h.eq, ← hy, List.drop_eq_nil_of_le (by rw [Array.length_toList]; exact Nat.le_refl _)]
  rfl
set_option maxHeartbeats 4000000 in
theorem c_strip {w : World} {mean : ExcName → Option Value} {mg mb : Str → Option Value}
  {dp un : Nat} {gd : Option (List Code)} {cn : Str} {cs : Scope} {a : Addr} {ccd : Value} {cl : List (Str × Addr)} {outer : List Env} {A₀ : Around} {base h₀ : Heap} {L : Addr} {m : Str → Option Value} {rest : List (Addr × Obj)} {s : Shared}
    {Q E : Value → Shared → Prop} {x : Str} {t : Tok}
    (B : Below A₀ base outer h₀) (F : Fr h₀ L s.heap m) (X : (Mine.hd.heap_1_39 w.params).In h₀)
    (N : News h₀ L s.heap rest)
    (T : Top Mine.hd.view_1_40 LO mean mg mb h₀) (hk : cs.kind = .function) (hdp : dp + 20 < recursionLimit) (hun : un + 100 < cLine)
    (hx : 92 ∉ x.cps.toList) (hxl : x.length ≤ 1000) (hbr : AllBare s.gens)
    (ret : ∀ t h' tk' gs, AllBare gs → Fr h₀ L h' m → News h₀ L h' rest → Q (.str (stripS x) t) { s with heap := h', toks := tk', gens := gs })
    : wpAny (model PySem.Challenge.rw_ny0347_01.row.prog w) (ktrTop dp un gd cn cs L a ccd cl outer) (call (.ref 53) [.str x t]) Q E s := by
  w_top off
  revert N X; k_fill; intro X N
  refine wpAny_call ?_
  k_dflt ((refine' code_def ?k1 ?k2 ?k3 ?k4 ?k5 ?kA ?kF ?kK ?k6 ?k7 ?k8 ?k9 ?kB ?_ ?c2 ?c3 ?c4 ?c5; (case kA => exact rfl); (case kF => exact rfl); (case kK => assumption); (case k1 => k_asm); (case k2 => k_asm); (case k3 => k_asm); (case k4 => k_asm); (case k5 => k_asm); (case k6 => k_is); (case k7 => k_is); (case k8 => ktr_room); (case k9 => first | exact BindsTo.of_eq rfl | exact binds_K (by k_in) rfl (by k_is) rfl rfl rfl); (case c5 => decide); (case kB => exact locs rfl); (case c2 => exact rfl); (case c3 => exact rfl); (case c4 => exact rfl); k_whole; intro g' L' h' FG' F' N' B' X' T'; (try dsimp only); (try k_fold)))
  (repeat' (first | (k_unfold; (try dsimp only)) | (k_end; wrow_close) | ((with_reducible show Mine.KfPost ..); (dsimp only [KfPost])) | ((with_reducible show wpAny _ _ (call (Value.ref _) _) _ _ _); (show wpAny _ _ (call (Value.ref 46) [_]) _ _ _); refine Hold.mk ?_) | ((with_reducible show wpAny _ _ (exec (Stmt.For ..) _) _ _ _); k_dflt (refine' wpAny_For ?_; k_whole)) | walk1 | (dsimp only; first | ((with_reducible show Mine.KfPost ..); (dsimp only [KfPost])) | ((with_reducible show wpAny _ _ (call (Value.ref _) _) _ _ _); (show wpAny _ _ (call (Value.ref 46) [_]) _ _ _); refine Hold.mk ?_) | ((with_reducible show wpAny _ _ (exec (Stmt.For ..) _) _ _ _); k_dflt (refine' wpAny_For ?_; k_whole))) | (dsimp only; walk1) | (leave1; walk_say "STEP leave1"; try dsimp only) | fail "no step"))
  · (show Q _ _); (rename News h₀ L _ _ => kN9); (rename Fr h₀ L _ m => kF9)
    have e9 := strip_no (x := x) (by assumption)
    have r9 := fun t' tk' => ret t' _ tk' s.gens hbr kF9 kN9
    rw [e9] at r9
    exact r9 _ _
  · rename News _ _ _ _ => N1
    rename Fr _ _ _ _ => F1
    skip
    rename Top _ _ _ _ _ _ => T1
    rename Frag.In _ _ => X1
    rename (∀ p ∈ rest, p.1 < _) => l19
    rename ((Builtin.Str.occurrences _ _ _ _ _).isEmpty = false) => hE9
    refine Hold.of (c_gen F1 X1 N1 T1 (by ktr_room) hx hbr fun ag gg C h9 tk9 gs W9 hst9 hL9 hoff9 F9 N9 => ?_)
    clear F1 N1
    refine name_head N9 fun R hR9 => ?_
    subst hR9
    refine sp_tok F9 rfl rfl fun t0 ht0 hop0 => ?_
    dsimp only
    refine wpAny_pyIter_gen hst9.gen ?_
    refine gen_loop (σ := SpS) (fun c => (R, listO c.acc c.n) :: rest) (fun c => [(Str.ofString "start", Value.int c.st c.stt), (Str.ofString "open_pos", opV c.ot c.op)]) [Str.ofString "pos", Str.ofString "ch"] (SpP x) ⟨0, t0, none, 0, #[], 0, []⟩ W9 hst9 hL9 hoff9 F9 N9 ?hk ?hp ?turn ?done
    case hk =>
      intro q hq
      rcases List.mem_cons.mp hq with rfl | hq
      · exact ht0
      · rw [List.mem_singleton.mp hq]; exact hop0
    case hp => exact ⟨.nil, rfl, ⟨Int.le_refl _, Int.le_refl _⟩, Nat.le_refl _, (fun _ h => nomatch h)⟩
    case turn =>
      clear F9 N9
      rintro i T9 vals ⟨st, stt, op, ot, acc, n, accs⟩ u own h8 tk8 gs8 hi ⟨c9, t9, u9, hc9, rfl⟩ hP hbr8 hap hT9 F' N'
      dsimp only at hap hT9 F' N' ⊢
      have hacc : acc.size ≤ 1000 := Nat.le_trans hP.size (Nat.le_trans (Nat.le_of_lt hi) hxl)
      have hXX : ∀ X9, X9 = rest ++ own → ∀ p ∈ X9, p.1 ≠ R := by
        intro X9 e p hp
        subst e
        rcases List.mem_append.mp hp with hp | hp
        · exact Nat.ne_of_lt (l19 p hp)
        · exact hap p hp _ (List.Mem.head _)
      have hRT : R ≠ T9 := hT9 _ (List.Mem.head _)
      have hTR : T9 ≠ R := Ne.symm hRT
      have eX : (R, listO acc n) :: rest ++ own = (R, listO acc n) :: (rest ++ own) := rfl
      rw [eX] at N'
      clear eX hT9
      generalize hX9 : rest ++ own = X9 at N'
      have hX8 := hXX X9 hX9.symm
      clear hXX
      cases op with
      | none =>
        dsimp only [opV] at F' N' ⊢
        (repeat' (first | (k_unfold; (try dsimp only)) | (k_end; wrow_close) | ((with_reducible show Mine.KfPost ..); (dsimp only [KfPost])) | ((with_reducible show wpAny _ _ (call (Value.ref _) _) _ _ _); (show wpAny _ _ (call (Value.ref 46) [_]) _ _ _); refine Hold.mk ?_) | ((with_reducible show wpAny _ _ (exec (Stmt.For ..) _) _ _ _); k_dflt (refine' wpAny_For ?_; k_whole)) | walk1 | (dsimp only; first | ((with_reducible show Mine.KfPost ..); (dsimp only [KfPost])) | ((with_reducible show wpAny _ _ (call (Value.ref _) _) _ _ _); (show wpAny _ _ (call (Value.ref 46) [_]) _ _ _); refine Hold.mk ?_) | ((with_reducible show wpAny _ _ (exec (Stmt.For ..) _) _ _ _); k_dflt (refine' wpAny_For ?_; k_whole))) | (dsimp only; walk1) | (leave1; walk_say "STEP leave1"; try dsimp only) | fail "no step"))
        all_goals (rename ((_ == Str.ofString "\"") = _) => hq9)
        all_goals (rename News _ _ _ _ => kN9)
        all_goals (rename Fr _ _ _ _ => kF9)
        · exact sp_end (sp_open hP hc9 hq9) hX9.symm hap kF9 kN9 rfl rfl (by (intro z h1 h2 h3; simp only [List.contains_cons, List.contains_nil, Bool.or_false, Bool.or_eq_false_iff, beq_eq_false_iff_ne, ne_eq] at h1 h2 h3; simp [h1, h2, h3, kstB]))
        · exact sp_end (sp_skip hP hc9 hq9) hX9.symm hap kF9 kN9 rfl rfl (by (intro z h1 h2 h3; simp only [List.contains_cons, List.contains_nil, Bool.or_false, Bool.or_eq_false_iff, beq_eq_false_iff_ne, ne_eq] at h1 h2 h3; simp [h1, h2, h3, kstB]))
      | some o =>
        dsimp only [opV] at F' N' ⊢
        (repeat' (first | (k_unfold; (try dsimp only)) | (k_end; wrow_close) | ((with_reducible show Mine.KfPost ..); (dsimp only [KfPost])) | ((with_reducible show wpAny _ _ (call (Value.ref _) _) _ _ _); (show wpAny _ _ (call (Value.ref 46) [_]) _ _ _); refine Hold.mk ?_) | ((with_reducible show wpAny _ _ (exec (Stmt.For ..) _) _ _ _); k_dflt (refine' wpAny_For ?_; k_whole)) | walk1 | (dsimp only; first | ((with_reducible show Mine.KfPost ..); (dsimp only [KfPost])) | ((with_reducible show wpAny _ _ (call (Value.ref _) _) _ _ _); (show wpAny _ _ (call (Value.ref 46) [_]) _ _ _); refine Hold.mk ?_) | ((with_reducible show wpAny _ _ (exec (Stmt.For ..) _) _ _ _); k_dflt (refine' wpAny_For ?_; k_whole))) | (dsimp only; walk1) | (leave1; walk_say "STEP leave1"; try dsimp only) | fail "no step"))
        all_goals (rename ((_ == Str.ofString "\"") = _) => hq9)
        all_goals (rename News _ _ _ _ => kN9)
        all_goals (rename Fr _ _ _ _ => kF9)
        · (rename (Txt.slice x _ _).length ≤ _ => hsl9)
          exact sp_end (sp_take hP hc9 hq9 (by assumption) hsl9 hxl) hX9.symm hap kF9 kN9 rfl rfl (by (intro z h1 h2 h3; simp only [List.contains_cons, List.contains_nil, Bool.or_false, Bool.or_eq_false_iff, beq_eq_false_iff_ne, ne_eq] at h1 h2 h3; simp [h1, h2, h3, kstB]))
        · exact sp_end (sp_shut hP hc9 hq9 (by assumption)) hX9.symm hap kF9 kN9 rfl rfl (by (intro z h1 h2 h3; simp only [List.contains_cons, List.contains_nil, Bool.or_false, Bool.or_eq_false_iff, beq_eq_false_iff_ne, ne_eq] at h1 h2 h3; simp [h1, h2, h3, kstB]))
        · exact sp_end (sp_skip hP hc9 hq9) hX9.symm hap kF9 kN9 rfl rfl (by (intro z h1 h2 h3; simp only [List.contains_cons, List.contains_nil, Bool.or_false, Bool.or_eq_false_iff, beq_eq_false_iff_ne, ne_eq] at h1 h2 h3; simp [h1, h2, h3, kstB]))
    case done =>
      clear F9 N9
      rintro ⟨st, stt, op, ot, acc, n, accs⟩ u h8 tk8 gs8 hbr8 hP F' N'
      have hacc : acc.size ≤ 1000 := Nat.le_trans hP.size hxl
      have hX8 : ∀ p ∈ rest, p.1 ≠ R := fun p hp => Nat.ne_of_lt (l19 p hp)
      have hst0 := hP.st.1
      dsimp only at hst0 F' N' ⊢
      (repeat' (first | (k_unfold; (try dsimp only)) | (k_end; wrow_close) | ((with_reducible show Mine.KfPost ..); (dsimp only [KfPost])) | ((with_reducible show wpAny _ _ (call (Value.ref _) _) _ _ _); (show wpAny _ _ (call (Value.ref 46) [_]) _ _ _); refine Hold.mk ?_) | ((with_reducible show wpAny _ _ (exec (Stmt.For ..) _) _ _ _); k_dflt (refine' wpAny_For ?_; k_whole)) | walk1 | (dsimp only; first | ((with_reducible show Mine.KfPost ..); (dsimp only [KfPost])) | ((with_reducible show wpAny _ _ (call (Value.ref _) _) _ _ _); (show wpAny _ _ (call (Value.ref 46) [_]) _ _ _); refine Hold.mk ?_) | ((with_reducible show wpAny _ _ (exec (Stmt.For ..) _) _ _ _); k_dflt (refine' wpAny_For ?_; k_whole))) | (dsimp only; walk1) | (leave1; walk_say "STEP leave1"; try dsimp only) | fail "no step"))
      all_goals (rename News _ _ _ _ => kN9)
      · (rename (Txt.slice x _ _).length ≤ _ => hsl9)
        refine join_list (News.isList kN9 (List.Mem.head _)) (by simp only [Array.toList_push]; exact StrsAre.snoc hP.sts _ _) (sp_joins hP hxl ⟨Nat.le_refl _, fun p hp => by rw [List.mem_singleton.mp hp]; (first | lia | omega)⟩) fun t9 k9 => ?_
        (repeat' (first | (k_unfold; (try dsimp only)) | (k_end; wrow_close) | ((with_reducible show Mine.KfPost ..); (dsimp only [KfPost])) | ((with_reducible show wpAny _ _ (call (Value.ref _) _) _ _ _); (show wpAny _ _ (call (Value.ref 46) [_]) _ _ _); refine Hold.mk ?_) | ((with_reducible show wpAny _ _ (exec (Stmt.For ..) _) _ _ _); k_dflt (refine' wpAny_For ?_; k_whole)) | walk1 | (dsimp only; first | ((with_reducible show Mine.KfPost ..); (dsimp only [KfPost])) | ((with_reducible show wpAny _ _ (call (Value.ref _) _) _ _ _); (show wpAny _ _ (call (Value.ref 46) [_]) _ _ _); refine Hold.mk ?_) | ((with_reducible show wpAny _ _ (exec (Stmt.For ..) _) _ _ _); k_dflt (refine' wpAny_For ?_; k_whole))) | (dsimp only; walk1) | (leave1; walk_say "STEP leave1"; try dsimp only) | fail "no step"))
        (show Q _ _); (rename News h₀ L _ _ => kN8); (rename Fr h₀ L _ m => kF8)
        exact sp_ret hP hE9 (by unfold spEnd; rw [if_pos (by assumption)]) fun e => by have r9 := fun t' tk' => ret t' _ tk' gs8 hbr8 kF8 (fun p hp => kN8 p (List.Mem.tail _ hp)); rw [e] at r9; exact r9 _ _
      · refine join_list (News.isList kN9 (List.Mem.head _)) hP.sts (by have := sp_joins (e := []) hP hxl ⟨Nat.zero_le _, fun p hp => nomatch hp⟩; rwa [List.append_nil] at this) fun t9 k9 => ?_
        (repeat' (first | (k_unfold; (try dsimp only)) | (k_end; wrow_close) | ((with_reducible show Mine.KfPost ..); (dsimp only [KfPost])) | ((with_reducible show wpAny _ _ (call (Value.ref _) _) _ _ _); (show wpAny _ _ (call (Value.ref 46) [_]) _ _ _); refine Hold.mk ?_) | ((with_reducible show wpAny _ _ (exec (Stmt.For ..) _) _ _ _); k_dflt (refine' wpAny_For ?_; k_whole)) | walk1 | (dsimp only; first | ((with_reducible show Mine.KfPost ..); (dsimp only [KfPost])) | ((with_reducible show wpAny _ _ (call (Value.ref _) _) _ _ _); (show wpAny _ _ (call (Value.ref 46) [_]) _ _ _); refine Hold.mk ?_) | ((with_reducible show wpAny _ _ (exec (Stmt.For ..) _) _ _ _); k_dflt (refine' wpAny_For ?_; k_whole))) | (dsimp only; walk1) | (leave1; walk_say "STEP leave1"; try dsimp only) | fail "no step"))
        (show Q _ _); (rename News h₀ L _ _ => kN8); (rename Fr h₀ L _ m => kF8)
        exact sp_ret hP hE9 (by unfold spEnd; rw [if_neg (by assumption)]) fun e => by have r9 := fun t' tk' => ret t' _ tk' gs8 hbr8 kF8 (fun p hp => kN8 p (List.Mem.tail _ hp)); rw [e] at r9; exact r9 _ _
end Mine
end
section
open PySem PySem.W PyProof.Rows PySem.Calls
open PyProof.Rows.LCg PyProof.Rows.LCp
set_option maxHeartbeats 1000000
namespace Mine
structure CkS where
  o : Int
  ot : Tok
structure CkP (y : Str) (i : Nat) (c : CkS) : Prop where
  eq : bst (y.cps.toList.drop i) c.o = bst y.cps.toList 0
  o : 0 ≤ c.o ∧ c.o ≤ i
theorem is_yes {c k : Nat} {q : Str} (e : q = ⟨#[k]⟩) (h : ((⟨#[c]⟩ : Str) == q) = true) : c = k := by
  rw [e] at h
  simpa using h
theorem is_no {c k : Nat} {q : Str} (e : q = ⟨#[k]⟩) (h : ((⟨#[c]⟩ : Str) == q) = false) : c ≠ k := by
  intro e2
  subst e2
  rw [e] at h
  simp at h
theorem q40 : Str.ofString "(" = ⟨#[40]⟩ := by decide +kernel
theorem q41 : Str.ofString ")" = ⟨#[41]⟩ := by decide +kernel
section
variable {y : Str} {i : Nat} {c9 : Nat} {o : Int} {ot t : Tok}
theorem ck_open (h : CkP y i ⟨o, ot⟩) (hc : y.cps[i]? = some c9) (h1 : ((⟨#[c9]⟩ : Str) == Str.ofString "(") = true) : CkP y (i + 1) ⟨o + 1, t⟩ := by
  obtain ⟨he, ho⟩ := h
  dsimp only at ho he
  refine ⟨?_, by show (0:Int) ≤ o + 1; (first | lia | omega), by show o + 1 ≤ ((i + 1 : Nat) : Int); (first | lia | omega)⟩
  rw [at_cps hc, is_yes q40 h1] at he
  rw [← he]
  simp only [bst, if_true]
theorem ck_shut (h : CkP y i ⟨o, ot⟩) (hc : y.cps[i]? = some c9) (h1 : ((⟨#[c9]⟩ : Str) == Str.ofString ")") = true) (h2 : ¬ o - 1 < 0) : CkP y (i + 1) ⟨o - 1, t⟩ := by
  obtain ⟨he, ho⟩ := h
  dsimp only at ho he
  refine ⟨?_, by show (0:Int) ≤ o - 1; (first | lia | omega), by show o - 1 ≤ ((i + 1 : Nat) : Int); (first | lia | omega)⟩
  rw [at_cps hc, is_yes q41 h1] at he
  rw [← he]
  simp only [bst, show ¬ (41 = 40) from by decide, if_false, if_true, h2]
theorem ck_low (h : CkP y i ⟨o, ot⟩) (hc : y.cps[i]? = some c9) (h1 : ((⟨#[c9]⟩ : Str) == Str.ofString ")") = true) (h2 : o - 1 < 0) : bst y.cps.toList 0 = none := by
  obtain ⟨he, ho⟩ := h
  rw [at_cps hc, is_yes q41 h1] at he
  rw [← he]
  simp only [bst, show ¬ (41 = 40) from by decide, if_false, if_true, h2]
theorem ck_skip (h : CkP y i ⟨o, ot⟩) (hc : y.cps[i]? = some c9) (h1 : ((⟨#[c9]⟩ : Str) == Str.ofString "(") = false) (h2 : ((⟨#[c9]⟩ : Str) == Str.ofString ")") = false) : CkP y (i + 1) ⟨o, ot⟩ := by
  obtain ⟨he, ho⟩ := h
  dsimp only at ho he
  refine ⟨?_, ho.1, by show o ≤ ((i + 1 : Nat) : Int); (first | lia | omega)⟩
  rw [at_cps hc] at he
  rw [← he]
  simp only [bst, is_no q40 h1, is_no q41 h2, if_false]
theorem ck_all (h : CkP y y.cps.size ⟨o, ot⟩) : (o == 0) = true ↔ bst y.cps.toList 0 = some 0 := by
  obtain ⟨he, _⟩ := h
  rw [← he, List.drop_eq_nil_of_le (by rw [Array.length_toList]; exact Nat.le_refl _)]
  simp [bst]
end
theorem ck_end {h₀ h' : Heap} {L T9 : Addr} {s : Shared} {tk : Nat} {o9 : Obj} {own rest : List (Addr × Obj)} {stored : List Str} {m' m₀ : Str → Option Value} {P : CkS → Prop} {o : Int} {ot : Tok} (hp : P ⟨o, ot⟩) (hap : ∀ p ∈ own, ∀ q ∈ rest, p.1 ≠ q.1)
    (F : Fr h₀ L h' m') (N : News h₀ L h' ((T9, o9) :: (rest ++ own))) (hk : m' (Str.ofString "opens") = some (.int o ot))
    (hr : ∀ z, z ≠ Str.ofString "opens" → stored.contains z = false → m' z = m₀ z) :
    KfEnd h₀ L s own (own.map (·.1)) (fun _ => rest) (fun c : CkS => [(Str.ofString "opens", Value.int c.o c.ot)]) stored m₀ P { s with heap := h', toks := tk } := by
  refine kf_end ⟨o, ot⟩ F N (fun p hp => ?_) (fun p hp => ⟨?_, fun hm => ?_⟩) (fun q hq => ?_) (fun z h2 h3 => ?_) hp
  · exact List.mem_cons_of_mem _ (List.mem_append_right _ hp)
  · exact List.mem_cons_of_mem _ (List.mem_append_left _ hp)
  · obtain ⟨q, hq, e⟩ := List.mem_map.mp hm
    exact hap q hq p hp e
  · rw [List.mem_singleton.mp hq]; exact hk
  · exact hr z (fun e => h2 (Str.ofString "opens", Value.int o ot) (List.mem_cons_self ..) e) h3
theorem ck_tok {h₀ h : Heap} {L : Addr} {m : Str → Option Value} {t : Tok} {G : Prop} (_F : Fr h₀ L h m) (h1 : m (Str.ofString "opens") = some (.int 0 t))
    (f : ∀ t, m (Str.ofString "opens") = some (.int 0 t) → G) : G := f t h1
set_option maxHeartbeats 4000000 in
theorem c_check {w : World} {mean : ExcName → Option Value} {mg mb : Str → Option Value}
  {dp un : Nat} {gd : Option (List Code)} {cn : Str} {cs : Scope} {a : Addr} {ccd : Value} {cl : List (Str × Addr)} {outer : List Env} {A₀ : Around} {base h₀ : Heap} {L : Addr} {m : Str → Option Value} {rest : List (Addr × Obj)} {s : Shared}
    {Q E : Value → Shared → Prop} {x : Str} {t : Tok}
    (B : Below A₀ base outer h₀) (F : Fr h₀ L s.heap m) (X : (Mine.hd.heap_1_39 w.params).In h₀)
    (N : News h₀ L s.heap rest)
    (T : Top Mine.hd.view_1_40 LO mean mg mb h₀) (hk : cs.kind = .function) (hdp : dp + 30 < recursionLimit) (hun : un + 200 < cLine)
    (hx : 92 ∉ x.cps.toList) (hxl : x.length ≤ 1000) (hx2 : 92 ∉ (stripS x).cps.toList) (hxl2 : (stripS x).length ≤ 1000) (hbr : AllBare s.gens)
    (ret : ∀ b h' tk' gs, AllBare gs → (b = true ↔ bst (stripS x).cps.toList 0 = some 0) → Fr h₀ L h' m → News h₀ L h' rest → Q (.bool b) { s with heap := h', toks := tk', gens := gs })
    : wpAny (model PySem.Challenge.rw_ny0347_01.row.prog w) (ktrTop dp un gd cn cs L a ccd cl outer) (call (.ref 60) [.str x t]) Q E s := by
  w_top off
  revert N X; k_fill; intro X N
  refine wpAny_call ?_
  k_dflt ((refine' code_def ?k1 ?k2 ?k3 ?k4 ?k5 ?kA ?kF ?kK ?k6 ?k7 ?k8 ?k9 ?kB ?_ ?c2 ?c3 ?c4 ?c5; (case kA => exact rfl); (case kF => exact rfl); (case kK => assumption); (case k1 => k_asm); (case k2 => k_asm); (case k3 => k_asm); (case k4 => k_asm); (case k5 => k_asm); (case k6 => k_is); (case k7 => k_is); (case k8 => ktr_room); (case k9 => first | exact BindsTo.of_eq rfl | exact binds_K (by k_in) rfl (by k_is) rfl rfl rfl); (case c5 => decide); (case kB => exact locs rfl); (case c2 => exact rfl); (case c3 => exact rfl); (case c4 => exact rfl); k_whole; intro g' L' h' FG' F' N' B' X' T'; (try dsimp only); (try k_fold)))
  (repeat' (first | (k_unfold; (try dsimp only)) | (k_end; wrow_close) | ((with_reducible show Mine.KfPost ..); (dsimp only [KfPost])) | ((with_reducible show wpAny _ _ (call (Value.ref _) _) _ _ _); (show wpAny _ _ (call (Value.ref _) [_]) _ _ _); refine Hold.mk ?_) | ((with_reducible show wpAny _ _ (exec (Stmt.For ..) _) _ _ _); k_dflt (refine' wpAny_For ?_; k_whole)) | walk1 | (dsimp only; first | ((with_reducible show Mine.KfPost ..); (dsimp only [KfPost])) | ((with_reducible show wpAny _ _ (call (Value.ref _) _) _ _ _); (show wpAny _ _ (call (Value.ref _) [_]) _ _ _); refine Hold.mk ?_) | ((with_reducible show wpAny _ _ (exec (Stmt.For ..) _) _ _ _); k_dflt (refine' wpAny_For ?_; k_whole))) | (dsimp only; walk1) | (leave1; walk_say "STEP leave1"; try dsimp only) | fail "no step"))
  rename News _ _ _ _ => N1
  rename Fr _ _ _ _ => F1
  rename Top _ _ _ _ _ _ => T1
  rename Frag.In _ _ => X1
  rename Below _ _ _ _ => B1
  refine Hold.of (c_strip B1 F1 X1 N1 T1 rfl (by ktr_room) (by ktr_room) hx hxl hbr fun t9 h9 tk9 gs hbr9 F9 N9 => ?_)
  clear F1 N1
  (repeat' (first | (k_unfold; (try dsimp only)) | (k_end; wrow_close) | ((with_reducible show Mine.KfPost ..); (dsimp only [KfPost])) | ((with_reducible show wpAny _ _ (call (Value.ref _) _) _ _ _); (show wpAny _ _ (call (Value.ref _) [_]) _ _ _); refine Hold.mk ?_) | ((with_reducible show wpAny _ _ (exec (Stmt.For ..) _) _ _ _); k_dflt (refine' wpAny_For ?_; k_whole)) | walk1 | (dsimp only; first | ((with_reducible show Mine.KfPost ..); (dsimp only [KfPost])) | ((with_reducible show wpAny _ _ (call (Value.ref _) _) _ _ _); (show wpAny _ _ (call (Value.ref _) [_]) _ _ _); refine Hold.mk ?_) | ((with_reducible show wpAny _ _ (exec (Stmt.For ..) _) _ _ _); k_dflt (refine' wpAny_For ?_; k_whole))) | (dsimp only; walk1) | (leave1; walk_say "STEP leave1"; try dsimp only) | fail "no step"))
  rename News _ _ _ _ => N2
  rename Fr _ _ _ _ => F2
  refine Hold.of (c_gen F2 X1 N2 T1 (by ktr_room) hx2 hbr9 fun ag gg C h9 tk9 gs W9 hst9 hL9 hoff9 F9 N9 => ?_)
  clear F2 N2
  refine ck_tok F9 rfl fun t0 ht0 => ?_
  dsimp only
  refine wpAny_pyIter_gen hst9.gen ?_
  refine gen_loop (σ := CkS) (fun _ => rest) (fun c => [(Str.ofString "opens", Value.int c.o c.ot)]) [Str.ofString "pos", Str.ofString "ch"] (CkP (stripS x)) ⟨0, t0⟩ W9 hst9 hL9 hoff9 F9 N9 ?hk ?hp ?turn ?done
  case hk =>
    intro q hq
    rw [List.mem_singleton.mp hq]; exact ht0
  case hp => exact ⟨rfl, Int.le_refl _, Int.le_refl _⟩
  case turn =>
    clear F9 N9
    rintro i T9 vals ⟨o, ot⟩ u own h8 tk8 gs8 hi ⟨c9, t9, u9, hc9, rfl⟩ hP hbr8 hap hT9 F' N'
    dsimp only at hap hT9 F' N' ⊢
    have ho1 := hP.o.1
    have ho2 : o ≤ 1000 := by have := hP.o.2; dsimp only at this; have h3 : (stripS x).cps.size ≤ 1000 := hxl2; (first | lia | omega)
    (repeat' (first | (k_unfold; (try dsimp only)) | (k_end; wrow_close) | ((with_reducible show Mine.KfPost ..); (dsimp only [KfPost])) | ((with_reducible show wpAny _ _ (call (Value.ref _) _) _ _ _); (show wpAny _ _ (call (Value.ref _) [_]) _ _ _); refine Hold.mk ?_) | ((with_reducible show wpAny _ _ (exec (Stmt.For ..) _) _ _ _); k_dflt (refine' wpAny_For ?_; k_whole)) | walk1 | (dsimp only; first | ((with_reducible show Mine.KfPost ..); (dsimp only [KfPost])) | ((with_reducible show wpAny _ _ (call (Value.ref _) _) _ _ _); (show wpAny _ _ (call (Value.ref _) [_]) _ _ _); refine Hold.mk ?_) | ((with_reducible show wpAny _ _ (exec (Stmt.For ..) _) _ _ _); k_dflt (refine' wpAny_For ?_; k_whole))) | (dsimp only; walk1) | (leave1; walk_say "STEP leave1"; try dsimp only) | fail "no step"))
    · rename News _ _ _ _ => kN9
      rename Fr _ _ _ _ => kF9
      exact ck_end (ck_open hP hc9 (by assumption)) hap kF9 kN9 rfl (by (intro z h1 h3; simp only [List.contains_cons, List.contains_nil, Bool.or_false, Bool.or_eq_false_iff, beq_eq_false_iff_ne, ne_eq] at h1 h3; simp [h1, h3, kstB]))
    · (show Q _ _); (rename News h₀ L _ _ => kN9); (rename Fr h₀ L _ m => kF9)
      refine ret _ _ _ _ hbr8 ⟨(fun e => nomatch e), fun e => ?_⟩ kF9 fun p hp => kN9 p (List.mem_cons_of_mem _ (List.mem_append_left _ hp))
      rw [ck_low hP hc9 (by assumption) (by assumption)] at e; cases e
    · rename News _ _ _ _ => kN9
      rename Fr _ _ _ _ => kF9
      exact ck_end (ck_shut hP hc9 (by assumption) (by assumption)) hap kF9 kN9 rfl (by (intro z h1 h3; simp only [List.contains_cons, List.contains_nil, Bool.or_false, Bool.or_eq_false_iff, beq_eq_false_iff_ne, ne_eq] at h1 h3; simp [h1, h3, kstB]))
    · rename News _ _ _ _ => kN9
      rename Fr _ _ _ _ => kF9
      exact ck_end (ck_skip hP hc9 (by assumption) (by assumption)) hap kF9 kN9 rfl (by (intro z h1 h3; simp only [List.contains_cons, List.contains_nil, Bool.or_false, Bool.or_eq_false_iff, beq_eq_false_iff_ne, ne_eq] at h1 h3; simp [h1, h3, kstB]))
  case done =>
    clear F9 N9
    rintro ⟨o, ot⟩ u h8 tk8 gs8 hbr8 hP F' N'
    dsimp only at F' N' ⊢
    (repeat' (first | (k_unfold; (try dsimp only)) | (k_end; wrow_close) | ((with_reducible show Mine.KfPost ..); (dsimp only [KfPost])) | ((with_reducible show wpAny _ _ (call (Value.ref _) _) _ _ _); (show wpAny _ _ (call (Value.ref _) [_]) _ _ _); refine Hold.mk ?_) | ((with_reducible show wpAny _ _ (exec (Stmt.For ..) _) _ _ _); k_dflt (refine' wpAny_For ?_; k_whole)) | walk1 | (dsimp only; first | ((with_reducible show Mine.KfPost ..); (dsimp only [KfPost])) | ((with_reducible show wpAny _ _ (call (Value.ref _) _) _ _ _); (show wpAny _ _ (call (Value.ref _) [_]) _ _ _); refine Hold.mk ?_) | ((with_reducible show wpAny _ _ (exec (Stmt.For ..) _) _ _ _); k_dflt (refine' wpAny_For ?_; k_whole))) | (dsimp only; walk1) | (leave1; walk_say "STEP leave1"; try dsimp only) | fail "no step"))
    (show Q _ _); (rename News h₀ L _ _ => kN9); (rename Fr h₀ L _ m => kF9)
    exact ret _ _ _ _ hbr8 (ck_all hP) kF9 kN9
end Mine
end
section
open PySem PySem.W PyProof.Rows PySem.Calls
namespace Mine
mutual
theorem dep_size : ∀ t : Tr, t.dep ≤ t.size
  | .int _ => by simp [Tr.dep]
  | .str _ => by simp [Tr.dep]
  | .node k ts => by have := deps_sizes ts; simp only [Tr.dep, Tr.size]; (first | lia | omega)
theorem deps_sizes : ∀ ts : List Tr, Tr.deps ts ≤ Tr.sizes ts
  | [] => by simp [Tr.deps]
  | t :: r => by have := dep_size t; have := deps_sizes r; simp only [Tr.deps, Tr.sizes]; (first | lia | omega)
end
theorem commaP_len (i : Nat) : (commaP i).length ≤ 1 := by unfold commaP; split <;> simp
theorem shutP_len (k n : Nat) : (shutP k n).length ≤ 2 := by unfold shutP; split <;> simp
mutual
theorem pieces_len : ∀ t : Tr, (piecesOf t).length ≤ 2 * t.size
  | .int _ => by simp [piecesOf, Tr.size]
  | .str _ => by simp [piecesOf, Tr.size]
  | .node k ts => by
    have := piecess_len ts 0; have := shutP_len k ts.length
    simp only [piecesOf, Tr.size, List.length_cons, List.length_append]; (first | lia | omega)
theorem piecess_len : ∀ (ts : List Tr) (i : Nat), (piecesOfs ts i).length ≤ 2 * Tr.sizes ts
  | [], _ => by simp [piecesOfs]
  | t :: r, i => by
    have := pieces_len t; have := piecess_len r (i + 1); have := commaP_len i
    simp only [piecesOfs, Tr.sizes, List.length_append]; (first | lia | omega)
end
/-- the signs outside of marks -/
noncomputable def plainL (c : Nat) : Bool := c == 32 || c == 40 || c == 41 || c == 44 || c == 45 || c == 91 || c == 93 || (48 ≤ c && c ≤ 57)
/-- a piece as the law makes it -/
noncomputable def PcOk (q : Piece) : Prop := (q.1 = Str.ofString "" ∧ (∀ c ∈ q.2.cps.toList, plainL c = true) ∧ q.2.length ≤ 5) ∨ (q.1 = qmark q.2 ∧ (∀ c ∈ q.2.cps.toList, c ∈ letters) ∧ q.2.length ≤ 7)
theorem digs_plain {n : Nat} (h : n ≤ 1000) : (∀ c ∈ (Nat.toDigits 10 n).map Char.toNat, plainL c = true) ∧ ((Nat.toDigits 10 n).map Char.toNat).length ≤ 4 := by
  refine ⟨fun c hc => ?_, ?_⟩
  · obtain ⟨ch, h1, rfl⟩ := List.mem_map.mp hc
    have h2 := Nat.isDigit_of_mem_toDigits (by decide) (by decide) h1
    simp only [Char.isDigit, Bool.and_eq_true, decide_eq_true_eq] at h2
    have h3 : 48 ≤ ch.toNat := h2.1
    have h4 : ch.toNat ≤ 57 := h2.2
    simp only [plainL, Bool.or_eq_true, Bool.and_eq_true, decide_eq_true_eq]
    exact .inr ⟨h3, h4⟩
  · rw [List.length_map]
    exact (Nat.length_toDigits_le_iff (by decide) (by decide)).mpr (Nat.lt_of_le_of_lt h (by decide))
theorem int_plain {i : Int} (h : -1000 ≤ i ∧ i ≤ 1000) : PcOk (Str.ofString "", Str.ofString (toString i)) := by
  refine .inl ⟨rfl, ?_⟩
  cases i with
  | ofNat n =>
    have h9 : (n : Int) ≤ 1000 := h.2
    obtain ⟨h1, h2⟩ := digs_plain (n := n) (by (first | lia | omega))
    have e : Str.ofString (toString (Int.ofNat n)) = ⟨((Nat.toDigits 10 n).map Char.toNat).toArray⟩ := by
      rw [show toString (Int.ofNat n) = String.ofList (Nat.toDigits 10 n) from Nat.toString_eq_ofList_toDigits]
      exact PySem.W.Fast.ofString_ofList _
    rw [e]
    exact ⟨fun c hc => h1 c (by simpa using hc), by show (((Nat.toDigits 10 n).map Char.toNat).toArray).size ≤ 5; rw [List.size_toArray]; (first | lia | omega)⟩
  | negSucc n =>
    obtain ⟨h1, h2⟩ := digs_plain (n := n + 1) (by (first | lia | omega))
    have e : Str.ofString (toString (Int.negSucc n)) = ⟨(45 :: (Nat.toDigits 10 (n + 1)).map Char.toNat).toArray⟩ := by
      rw [show toString (Int.negSucc n) = String.ofList ('-' :: Nat.toDigits 10 (n + 1)) from by
        show "-" ++ toString (n + 1) = _
        rw [Nat.toString_eq_ofList_toDigits]
        exact (String.ofList_append (l₁ := ['-'])).symm]
      exact PySem.W.Fast.ofString_ofList _
    rw [e]
    refine ⟨fun c hc => ?_, by show ((45 :: (Nat.toDigits 10 (n + 1)).map Char.toNat).toArray).size ≤ 5; rw [List.size_toArray, List.length_cons]; (first | lia | omega)⟩
    rcases List.mem_cons.mp (by simpa using hc : c ∈ 45 :: (Nat.toDigits 10 (n + 1)).map Char.toNat) with rfl | hc
    · rfl
    · exact h1 c hc
theorem const_plain {s : Str} (h : (s.cps.toList.all plainL && decide (s.length ≤ 5)) = true) : PcOk (Str.ofString "", s) := by
  simp only [Bool.and_eq_true, List.all_eq_true, decide_eq_true_eq] at h
  exact .inl ⟨rfl, h.1, h.2⟩
theorem openP_good (k : Nat) : PcOk (openP k) := by
  unfold openP
  split
  · exact const_plain (by decide +kernel)
  · exact const_plain (by decide +kernel)
theorem shutP_good (k n : Nat) : ∀ q ∈ shutP k n, PcOk q := by
  intro q hq
  unfold shutP at hq
  rcases List.mem_append.mp hq with hq | hq
  · split at hq
    · rw [List.mem_singleton.mp hq]; exact const_plain (by decide +kernel)
    · cases hq
  · rw [List.mem_singleton.mp hq]
    split
    · exact const_plain (by decide +kernel)
    · exact const_plain (by decide +kernel)
theorem commaP_good (i : Nat) : ∀ q ∈ commaP i, PcOk q := by
  intro q hq
  unfold commaP at hq
  split at hq
  · cases hq
  · rw [List.mem_singleton.mp hq]; exact const_plain (by decide +kernel)
mutual
theorem pieces_good : ∀ (t : Tr), t.wide → ∀ q ∈ piecesOf t, PcOk q
  | .int i, h, q, hq => by
    simp only [piecesOf, List.mem_singleton] at hq
    rw [hq]; exact int_plain h
  | .str x, h, q, hq => by
    simp only [piecesOf, List.mem_singleton] at hq
    rw [hq]; exact .inr ⟨rfl, h.2, h.1⟩
  | .node k ts, h, q, hq => by
    simp only [piecesOf] at hq
    rcases List.mem_cons.mp hq with rfl | hq
    · exact openP_good k
    rcases List.mem_append.mp hq with hq | hq
    · exact piecess_good ts h.2.2 0 q hq
    · exact shutP_good _ _ q hq
theorem piecess_good : ∀ (ts : List Tr), Tr.wides ts → ∀ i, ∀ q ∈ piecesOfs ts i, PcOk q
  | [], _, _, q, hq => by simp [piecesOfs] at hq
  | t :: r, h, i, q, hq => by
    simp only [piecesOfs] at hq
    rcases List.mem_append.mp hq with hq | hq
    · exact commaP_good _ q hq
    rcases List.mem_append.mp hq with hq | hq
    · exact pieces_good t h.1 q hq
    · exact piecess_good r h.2 _ q hq
end
theorem qmark_len (x : Str) : (qmark x).length = 1 := by unfold qmark; split <;> decide +kernel
theorem PcOk.size {q : Piece} (h : PcOk q) : q.1.length ≤ 1 ∧ q.2.length ≤ 7 := by
  rcases h with ⟨h1, _, h2⟩ | ⟨h1, _, h2⟩
  · rw [h1]; exact ⟨by decide +kernel, by (first | lia | omega)⟩
  · rw [h1]; exact ⟨Nat.le_of_eq (qmark_len _), h2⟩
theorem plain_small {c : Nat} (h : plainL c = true) : c < 128 ∧ c ≠ 34 ∧ c ≠ 39 ∧ c ≠ 92 := by
  have hc : c < 128 := by
    simp only [plainL, Bool.or_eq_true, Bool.and_eq_true, beq_iff_eq, decide_eq_true_eq] at h
    (first | omega)
  exact (by decide +kernel : ∀ c < 128, plainL c = true → c < 128 ∧ c ≠ 34 ∧ c ≠ 39 ∧ c ≠ 92) c hc h
theorem letter_small {c : Nat} (h : c ∈ letters) : c < 128 ∧ c ≠ 34 ∧ c ≠ 92 :=
  (by decide +kernel : ∀ c ∈ letters, c < 128 ∧ c ≠ 34 ∧ c ≠ 92) c h
theorem PcOk.cp {q : Piece} (h : PcOk q) : ∀ c ∈ q.2.cps.toList, c < 128 ∧ c ≠ 34 ∧ c ≠ 92 := by
  intro c hc
  rcases h with ⟨_, h1, _⟩ | ⟨_, h1, _⟩
  · have := plain_small (h1 c hc); exact ⟨this.1, this.2.1, this.2.2.2⟩
  · exact letter_small (h1 c hc)
theorem PcOk.strOk {q : Piece} (h : PcOk q) : PyData.strOk q.2 = true := by
  unfold PyData.strOk
  rw [← Array.all_toList, List.all_eq_true]
  intro c hc
  have := (h.cp c hc).1
  simp only [decide_eq_true_eq]
  (first | lia | omega)
theorem remP_le : ∀ {ps : List Piece}, (∀ q ∈ ps, PcOk q) → remP ps ≤ 15 * ps.length
  | [], _ => by simp [remP]
  | q :: r, h => by
    have h1 := (h q (List.mem_cons_self ..)).size.2
    have h2 := remP_le (ps := r) fun p hp => h p (List.mem_cons_of_mem _ hp)
    simp only [remP, List.map_cons, List.sum_cons, List.length_cons] at h2 ⊢
    (first | lia | omega)
end Mine
end
section
open PySem PySem.W PyProof.Rows PySem.Calls
namespace Mine
section
variable {h₀ h : Heap} {L : Addr} {news : List (Addr × Obj)}
theorem th_reads (N : News h₀ L h news) {v : Value} {t : Tr} (H : ThIn news v t) : ∃ as, Reads h v (dataOf t) as :=
  ThIn.rec (motive_1 := fun v t _ => ∃ as, Reads h v (dataOf t) as) (motive_2 := fun vs ts _ => ∃ as, ReadsAll h vs (datasOf ts) as) ⟨_, .int _ _⟩ ⟨_, .str _ _⟩
    (fun hm _ ih => ih.elim fun _ hr => ⟨_, .list (N _ hm).1 rfl rfl hr⟩) (fun hm _ ih => ih.elim fun _ hr => ⟨_, .tuple (N _ hm).1 rfl rfl hr⟩)
    ⟨_, .nil⟩ (fun _ _ a b => a.elim fun _ r1 => b.elim fun _ r2 => ⟨_, .cons r1 r2⟩) H
end
mutual
theorem data_showable : ∀ t : Tr, t.wide → (dataOf t).showable = true
  | .int i, h => by simp only [dataOf, PyData.showable, decide_eq_true_eq]; exact log_small h
  | .str x, _ => by simp only [dataOf, PyData.showable]
  | .node k ts, h => by
    have := datas_showable ts h.2.2
    simp only [dataOf]
    split <;> simpa only [PyData.showable] using this
theorem datas_showable : ∀ ts : List Tr, Tr.wides ts → PyData.showableAll (datasOf ts) = true
  | [], _ => by simp only [datasOf, PyData.showableAll]
  | t :: r, h => by simp only [datasOf, PyData.showableAll, data_showable t h.1, datas_showable r h.2, Bool.and_self]
end
mutual
theorem data_nodict : ∀ t : Tr, (dataOf t).hasDict = false
  | .int i => by simp only [dataOf, PyData.hasDict]
  | .str x => by simp only [dataOf, PyData.hasDict]
  | .node k ts => by
    have := datas_nodict ts
    simp only [dataOf]
    split <;> simpa only [PyData.hasDict] using this
theorem datas_nodict : ∀ ts : List Tr, PyData.hasDictAll (datasOf ts) = false
  | [] => by simp only [datasOf, PyData.hasDictAll]
  | t :: r => by simp only [datasOf, PyData.hasDictAll, data_nodict t, datas_nodict r, Bool.or_self]
end
mutual
theorem data_depth : ∀ t : Tr, (dataOf t).depth = t.dep
  | .int i => by simp only [dataOf, PyData.depth, Tr.dep]
  | .str x => by simp only [dataOf, PyData.depth, Tr.dep]
  | .node k ts => by
    have := datas_depth ts
    simp only [dataOf]
    split <;> simp only [PyData.depth, Tr.dep, this]
theorem datas_depth : ∀ ts : List Tr, PyData.depthAll (datasOf ts) = Tr.deps ts
  | [] => by simp only [datasOf, PyData.depthAll, Tr.deps]
  | t :: r => by simp only [datasOf, PyData.depthAll, Tr.deps, data_depth t, datas_depth r]
end
theorem written_cps (ps : List Piece) : (writtenP ps).cps.toList = ps.flatMap wrL := by
  unfold writtenP
  rw [join_cps]
  induction ps with
  | nil => rfl
  | cons q r ih => rw [List.map_cons, List.flatMap_cons, List.flatMap_cons, wrL_eq, ih]
theorem str_ext {x y : Str} (h : x.cps.toList = y.cps.toList) : x = y := by
  cases x; cases y
  simp only at h
  rw [Array.toList_inj.mp h]
theorem shown_written {t : Tr} (h : t.wide) : (dataOf t).shown = writtenP (piecesOf t) := str_ext (by rw [shown_tree t h, written_cps])
theorem wrL_len {q : Piece} (h : PcOk q) : (wrL q).length ≤ 9 := by
  have := h.size
  simp only [wrL, List.length_append, Array.length_toList, Str.length] at this ⊢
  (first | lia | omega)
theorem written_len {ps : List Piece} (h : ∀ q ∈ ps, PcOk q) : (writtenP ps).length ≤ 9 * ps.length := by
  show (writtenP ps).cps.size ≤ _
  rw [← Array.length_toList, written_cps]
  induction ps with
  | nil => simp
  | cons q r ih =>
    have h1 := wrL_len (h q (List.mem_cons_self ..))
    have h2 := ih fun p hp => h p (List.mem_cons_of_mem _ hp)
    simp only [List.flatMap_cons, List.length_append, List.length_cons] at h2 ⊢
    (first | lia | omega)
end Mine
end
section
open PySem PySem.W PyProof.Rows PySem.Calls
namespace Mine
theorem slice_head_cps {x : Str} {j : Nat} (h : j ≤ x.cps.toList.length) : (Txt.slice x none (some (j : Int))).cps.toList = x.cps.toList.take j := by
  have := slice_cps (x := x) (i := 0) (j := j) ⟨Nat.zero_le _, h⟩
  simp only [List.drop_zero, Nat.sub_zero] at this
  rw [← this]
  rfl
theorem trunc_cps : truncT.cps.toList = [32, 91, 116, 114, 117, 110, 99, 97, 116, 101, 100, 93, 46, 46, 46] := by decide +kernel
theorem empty_cps : (Str.ofString "").cps.toList = [] := by decide +kernel
/-- the text of a cut: the first signs and the truncation -/
theorem cut_text : ∀ (ps : List Piece) (r : Nat) (acc : List Piece), (cutP ps r acc).1.flatMap wrL ++ (cutP ps r acc).2.cps.toList = acc.flatMap wrL ++ (ps.flatMap wrL).take r ++ truncT.cps.toList
  | [], r, acc => by simp [cutP, wrL, empty_cps]
  | q :: ps, r, acc => by
    have hl : (writingOf q).length = (wrL q).length := by rw [← wrL_eq, Array.length_toList]; rfl
    simp only [cutP]
    split
    · rename_i h
      have h' : (wrL q).length ≤ r := by (first | lia | omega)
      have e : (r : Int) - (writingOf q).length = ((r - (wrL q).length : Nat) : Int) := by (first | lia | omega)
      rw [e, cut_text ps _ _]
      simp only [List.flatMap_append, List.flatMap_cons, List.flatMap_nil, List.append_nil, List.append_assoc, List.take_append, List.take_of_length_le h']
    · rename_i h
      have h' : r < (wrL q).length := by (first | lia | omega)
      split
      · rename_i h2
        rcases h2 with h2 | h2
        · have e : wrL q = q.2.cps.toList := by simp [wrL, h2, empty_cps]
          rw [e] at h'
          simp [wrL, empty_cps, Str.cps_append, slice_head_cps (Nat.le_of_lt h'), List.take_append, h2]
          exact .inl (by rw [Array.length_toList] at h'; (first | lia | omega))
        · have h0 : r = 0 := by (first | lia | omega)
          subst h0
          have e0 : (Txt.slice q.2 none (some 0)).cps = #[] := Array.toList_inj.mp ((slice_head_cps (x := q.2) (j := 0) (Nat.zero_le _)).trans rfl)
          simp [wrL, empty_cps, Str.cps_append, e0]
      · simp [Str.cps_append, slice_head_cps (x := writingOf q) (j := r) (by rw [wrL_eq]; exact Nat.le_of_lt h'), wrL_eq, List.take_append, Nat.sub_eq_zero_of_le (Nat.le_of_lt h')]
theorem slice_head_len {x : Str} {r : Nat} (h : r ≤ x.cps.toList.length) : (Txt.slice x none (some (r : Int))).length ≤ x.length := by
  show (Txt.slice x none _).cps.size ≤ x.cps.size
  rw [← Array.length_toList, slice_head_cps h, ← Array.length_toList, List.length_take]
  exact Nat.min_le_right _ _
theorem remP_app (a b : List Piece) : remP (a ++ b) = remP a + remP b := by simp [remP]
theorem trunc_len : truncT.length = 15 := by decide +kernel
theorem remP_one (q : Piece) : remP [q] = 2 * q.2.length + 1 := by simp [remP]
theorem remP_cons (q : Piece) (r : List Piece) : remP (q :: r) = (2 * q.2.length + 1) + remP r := by simp [remP]
theorem cut_rem : ∀ (ps : List Piece) (r : Nat) (acc : List Piece), remP (cutP ps r acc).1 ≤ remP acc + remP ps + 31
  | [], r, acc => by simp only [cutP, remP_app, remP_one, trunc_len]; (first | lia | omega)
  | q :: ps, r, acc => by
    have hl : (writingOf q).length = (wrL q).length := by rw [← wrL_eq, Array.length_toList]; rfl
    have hw : q.2.cps.toList.length ≤ (wrL q).length := by simp only [wrL, List.length_append]; (first | lia | omega)
    rw [remP_cons]
    simp only [cutP]
    split
    · rename_i h
      have e : (r : Int) - (writingOf q).length = ((r - (wrL q).length : Nat) : Int) := by (first | lia | omega)
      rw [e]
      have := cut_rem ps (r - (wrL q).length) (acc ++ [q])
      rw [remP_app, remP_one] at this
      (first | lia | omega)
    · rename_i h
      split
      · rename_i h2
        have hr : r ≤ q.2.cps.toList.length := by
          rcases h2 with h2 | h2
          · have e : wrL q = q.2.cps.toList := by simp [wrL, h2, empty_cps]
            rw [← e]; (first | lia | omega)
          · (first | lia | omega)
        have h3 := slice_head_len (x := q.2) hr
        simp only [remP_app, remP_one, Str.length_append, trunc_len]
        (first | lia | omega)
      · simp only []
        (first | lia | omega)
theorem cut_signs {G : Nat → Prop} (ht : ∀ c ∈ truncT.cps.toList, G c) : ∀ (ps : List Piece) (r : Nat) (acc : List Piece), (∀ q ∈ ps, ∀ c ∈ q.2.cps.toList, G c) → (∀ q ∈ acc, ∀ c ∈ q.2.cps.toList, G c) → ∀ q ∈ (cutP ps r acc).1, ∀ c ∈ q.2.cps.toList, G c
  | [], r, acc, _, ha, p, hp => by
    simp only [cutP] at hp
    rcases List.mem_append.mp hp with hp | hp
    · exact ha p hp
    · rw [List.mem_singleton.mp hp]; exact ht
  | q :: ps, r, acc, hq, ha, p, hp => by
    have hl : (writingOf q).length = (wrL q).length := by rw [← wrL_eq, Array.length_toList]; rfl
    simp only [cutP] at hp
    split at hp
    · rename_i h
      have e : (r : Int) - (writingOf q).length = ((r - (wrL q).length : Nat) : Int) := by (first | lia | omega)
      rw [e] at hp
      refine cut_signs ht ps _ _ (fun p hp => hq p (List.mem_cons_of_mem _ hp)) (fun p hp => ?_) p hp
      rcases List.mem_append.mp hp with hp | hp
      · exact ha p hp
      · rw [List.mem_singleton.mp hp]; exact hq q (List.mem_cons_self ..)
    · rename_i h
      split at hp
      · rename_i h2
        have hr : r ≤ q.2.cps.toList.length := by
          rcases h2 with h2 | h2
          · have e : wrL q = q.2.cps.toList := by simp [wrL, h2, empty_cps]
            rw [← e]; (first | lia | omega)
          · (first | lia | omega)
        rcases List.mem_append.mp hp with hp | hp
        · exact ha p hp
        · rw [List.mem_singleton.mp hp]
          intro c hc
          simp only [Str.cps_append, Array.toList_append, slice_head_cps hr] at hc
          rcases List.mem_append.mp hc with hc | hc
          · exact hq q (List.mem_cons_self ..) c (List.mem_of_mem_take hc)
          · exact ht c hc
      · exact ha p hp
theorem cutI_rem {ps : List Piece} {cut : List Piece × Str} (h : cut = if 80 ≤ (writtenP ps).length then cutP ps 80 [] else (ps, Str.ofString "")) (hg : ∀ q ∈ ps, PcOk q) (hl : ps.length ≤ 120) : remP cut.1 ≤ 3000 ∧ ∀ q ∈ cut.1, PyData.strOk q.2 = true := by
  have h1 := remP_le hg
  subst h
  split
  · refine ⟨?_, fun q hq => ?_⟩
    · have h2 := cut_rem ps 80 []
      have h3 : remP ([] : List Piece) = 0 := rfl
      show remP (cutP ps ((80 : Nat) : Int) []).1 ≤ 3000
      (first | lia | omega)
    · have := cut_signs (G := fun c => c < 128) (by rw [trunc_cps]; decide) ps 80 [] (fun q hq c hc => ((hg q hq).cp c hc).1) (fun q hq => nomatch hq) q hq
      unfold PyData.strOk
      rw [← Array.all_toList, List.all_eq_true]
      intro c hc
      have := this c hc
      simp only [decide_eq_true_eq]
      (first | lia | omega)
  · exact ⟨by show remP ps ≤ 3000; (first | lia | omega), fun q hq => (hg q hq).strOk⟩
end Mine
end
section
open PySem PySem.W PyProof.Rows PySem.Calls
open PyProof.Rows.LCg PyProof.Rows.LCp PySem.Builtin.Str
set_option maxHeartbeats 1000000

namespace Mine
theorem piece_test {prog : Program} {w : World} {A : Around} {s : Shared} {h₀ : Heap} {L : Addr} {news : List (Addr × Obj)} {C : Addr} {oC : Obj} {m₂ : Str → Option Value} {av : Addr} {cl : List (Str × Addr)} {env : Env} {mk pt : Str} {tk1 tk2 : Tok} {p1 p3 p5 p6 p7 : Pos} {p2 p4 : Nat} {whole : Sem Value} {Q : Bool → Shared → Prop} {E : Value → Shared → Prop}
    (hC : NsObj oC m₂) (hx : m₂ (Str.ofString "piece") = some (.ref av)) (N' : News h₀ L s.heap news) (hCn : (C, oC) ∈ news)
    (hTup : (av, tupO #[.str mk tk1, .str pt tk2]) ∈ news)
    (h : ∀ t, Q (mk != Str.ofString "\"") { s with toks := t }) :
    wpAny (model prog w) A (PySem.isTrue (.Compare (.Subscript (.Name (Str.ofString "piece") p1) (.Constant (.int 0) p2 p6) p3) [.NotEq] [.Constant (.str (Str.ofString "\"")) p4 p7] p5) (compEnvC { kind := .function, names := [(Str.ofString ".0", .local), (Str.ofString "piece", .local)], isGenerator := false, isCoroutine := false, more := [] } cl C env) whole) Q E s := by
  w_top off
  have hT := News.isTup N' hTup
  iterate 2 walk1
  refine LCgL.ld_own N' hCn hC hx ?_
  k_steps
  exact h _
noncomputable def inPar (c : Nat) : Bool := c == 40 || c == 41
theorem par_one (c : Nat) : (!(Builtin.Str.occurrences (Str.ofString "()") ⟨#[c]⟩ 0 (Str.ofString "()").length 1).isEmpty) = inPar c := by
  rw [StrLaws.found_one, show (Str.ofString "()").cps.toList = [40, 41] from by decide +kernel]
  simp only [List.mem_cons, List.not_mem_nil, or_false, inPar]
  by_cases h1 : c = 40 <;> by_cases h2 : c = 41 <;> simp [h1, h2]
theorem sign_test {prog : Program} {w : World} {A : Around} {s : Shared} {h₀ : Heap} {L : Addr} {news : List (Addr × Obj)} {C : Addr} {oC : Obj} {m₂ : Str → Option Value} {cl : List (Str × Addr)} {env : Env} {c : Nat} {tk1 : Tok} {p1 p5 p7 : Pos} {p4 : Nat} {whole : Sem Value} {Q : Bool → Shared → Prop} {E : Value → Shared → Prop}
    (hC : NsObj oC m₂) (hx : m₂ (Str.ofString "sign") = some (.str ⟨#[c]⟩ tk1)) (N' : News h₀ L s.heap news) (hCn : (C, oC) ∈ news)
    (h : ∀ t, Q (inPar c) { s with toks := t }) :
    wpAny (model prog w) A (PySem.isTrue (.Compare (.Name (Str.ofString "sign") p1) [.In] [.Constant (.str (Str.ofString "()")) p4 p7] p5) (compEnvC { kind := .function, names := [(Str.ofString ".0", .local), (Str.ofString "sign", .local)], isGenerator := false, isCoroutine := false, more := [] } cl C env) whole) Q E s := by
  iterate 1 walk1
  refine LCgL.ld_own N' hCn hC hx ?_
  k_steps
  rw [par_one]
  exact h _
theorem take_cp {x : Str} {i c : Nat} (h : x.cps[i]? = some c) : x.cps.toList.take (i + 1) = x.cps.toList.take i ++ [c] := by
  rw [List.take_add_one, Array.getElem?_toList, h]; rfl
noncomputable def signsOf (l : List Nat) : List Str := (l.filter inPar).map fun c => (⟨#[c]⟩ : Str)
theorem signs_snoc (l : List Nat) (c : Nat) : signsOf (l ++ [c]) = if inPar c then signsOf l ++ [⟨#[c]⟩] else signsOf l := by
  unfold signsOf
  rw [List.filter_append, List.map_append]
  by_cases h : inPar c <;> simp [h]
theorem signs_join (l : List Nat) : (Txt.join (Str.ofString "") (signsOf l)).cps.toList = l.filter inPar := by
  rw [join_cps]
  unfold signsOf
  induction l.filter inPar with
  | nil => rfl
  | cons a r ih => simpa using ih
theorem signs_len (l : List Nat) : (signsOf l).length ≤ l.length := by
  unfold signsOf; rw [List.length_map]; exact List.length_filter_le ..
theorem signs_sum (l : List Nat) : ((signsOf l).map (·.length)).sum = (signsOf l).length := by
  unfold signsOf
  induction l.filter inPar with
  | nil => rfl
  | cons a r ih => simp only [List.map_cons, List.sum_cons, List.length_cons, ih]; show 1 + _ = _; (first | lia | omega)
theorem signs_ok {x : Str} (h : x.length ≤ 95) : ((signsOf x.cps.toList).map (·.length)).sum + (signsOf x.cps.toList).length * (Str.ofString "").length ≤ 16777216 := by
  have h1 := signs_len x.cps.toList
  have h2 : (Str.ofString "").length = 0 := by decide +kernel
  have h3 : x.cps.toList.length = x.length := by rw [Array.length_toList]; rfl
  rw [signs_sum, h2]
  (first | lia | omega)
theorem signs_room {x : Str} (h : x.length ≤ 95) : x.length + (x.length + 1) * (Str.ofString "").length ≤ 16777216 := by
  rw [show (Str.ofString "").length = 0 from by decide +kernel]
  (first | lia | omega)
theorem call_unpair {prog : Program} {w : World} {A : Around} {E : Value → Shared → Prop} {s : Shared} {g : Str} {tg k : Tok} {Q : Value → Shared → Prop} (h : g.length ≤ 95) (hq : ∀ t' k', Q (.str (unpair g) t') { s with toks := k' }) :
    wpAny (model prog w) A (call (.builtin "str.replace") ([.str g tg] ++ [.str (Str.ofString "()") (k + 1), .str (Str.ofString "") (k + 1 + 1)])) Q E s := by
  have h1 : (Str.ofString "()" == Str.ofString "") = false := by decide +kernel
  exact SC.replace (Nat.succ_ne_zero k) (Nat.succ_ne_zero (k + 1)) (Nat.ne_of_lt (Nat.lt_succ_self (k + 1))) h1 (signs_room h) hq
end Mine
end
section
open PySem PySem.W PyProof.Rows PySem.Calls
namespace Mine
/-- the signs of a plain piece after the cut -/
noncomputable def plainC (c : Nat) : Prop := c < 128 ∧ c ≠ 34 ∧ c ≠ 39 ∧ okc c = true
noncomputable def CutOk (q : Piece) : Prop := (q.1 = Str.ofString "" ∧ ∀ c ∈ q.2.cps.toList, plainC c) ∨ (q.1 = qmark q.2 ∧ ∀ c ∈ q.2.cps.toList, c ∈ letters)
noncomputable def signC (c : Nat) : Prop := c < 128 ∧ c ≠ 34 ∧ okc c = true
noncomputable def BrokenOk (b : Str) : Prop := b = Str.ofString "" ∨ ∃ k x, b.cps.toList = k :: x ∧ (k = 39 ∨ k = 34) ∧ k ∉ x ∧ ∀ c ∈ x, signC c
theorem okc_small {c : Nat} (h1 : c ≠ 92) (h2 : 32 ≤ c) : okc c = true := by
  simp only [okc, Bool.and_eq_true, bne_iff_ne, ne_eq]
  (first | lia | omega)
theorem plain_okc {c : Nat} (h : plainL c = true) : plainC c := by
  have h1 := plain_small h
  refine ⟨h1.1, h1.2.1, h1.2.2.1, okc_small h1.2.2.2 ?_⟩
  simp only [plainL, Bool.or_eq_true, Bool.and_eq_true, beq_iff_eq, decide_eq_true_eq] at h
  (first | lia | omega)
theorem letter_okc {c : Nat} (h : c ∈ letters) : signC c := by
  have h1 := letter_small h
  refine ⟨h1.1, h1.2.1, okc_small h1.2.2 ?_⟩
  simp only [letters, List.mem_cons, List.not_mem_nil, or_false] at h
  (first | lia | omega)
theorem trunc_plain : ∀ c ∈ truncT.cps.toList, plainC c := by
  rw [trunc_cps]
  intro c hc
  have h9 : ∀ c ∈ [32, 91, 116, 114, 117, 110, 99, 97, 116, 101, 100, 93, 46, 46, 46], c < 128 ∧ c ≠ 34 ∧ c ≠ 39 ∧ okc c = true := by decide
  exact h9 c hc
theorem plainC.sign {c : Nat} (h : plainC c) : signC c := ⟨h.1, h.2.1, h.2.2.2⟩
theorem PcOk.cut {q : Piece} (h : PcOk q) : CutOk q := by
  rcases h with ⟨h1, h2, _⟩ | ⟨h1, h2, _⟩
  · exact .inl ⟨h1, fun c hc => plain_okc (h2 c hc)⟩
  · exact .inr ⟨h1, h2⟩
theorem qmark_cps (x : Str) : (qmark x).cps.toList = [if 39 ∈ x.cps.toList then 34 else 39] := by
  unfold qmark; split <;> decide +kernel
noncomputable def markC (q : Piece) : Nat := if 39 ∈ q.2.cps.toList then 34 else 39
theorem mark_free {q : Piece} (h : ∀ c ∈ q.2.cps.toList, c ∈ letters) : markC q ∉ q.2.cps.toList ∧ 34 ∉ q.2.cps.toList := by
  have h34 : 34 ∉ q.2.cps.toList := fun hc => (letter_small (h _ hc)).2.1 rfl
  refine ⟨?_, h34⟩
  unfold markC
  split
  · exact h34
  · assumption
theorem cut_ok : ∀ (ps : List Piece) (r : Nat) (acc : List Piece), (∀ q ∈ ps, PcOk q) → (∀ q ∈ acc, CutOk q) → (∀ q ∈ (cutP ps r acc).1, CutOk q) ∧ BrokenOk (cutP ps r acc).2
  | [], r, acc, _, ha => by
    refine ⟨fun p hp => ?_, .inl rfl⟩
    simp only [cutP] at hp
    rcases List.mem_append.mp hp with hp | hp
    · exact ha p hp
    · rw [List.mem_singleton.mp hp]; exact .inl ⟨rfl, trunc_plain⟩
  | q :: ps, r, acc, hq, ha => by
    have hl : (writingOf q).length = (wrL q).length := by rw [← wrL_eq, Array.length_toList]; rfl
    have hq1 := hq q (List.mem_cons_self ..)
    simp only [cutP]
    split
    · rename_i h
      have e : (r : Int) - (writingOf q).length = ((r - (wrL q).length : Nat) : Int) := by (first | lia | omega)
      rw [e]
      refine cut_ok ps _ _ (fun p hp => hq p (List.mem_cons_of_mem _ hp)) fun p hp => ?_
      rcases List.mem_append.mp hp with hp | hp
      · exact ha p hp
      · rw [List.mem_singleton.mp hp]; exact hq1.cut
    · rename_i h
      have hlt : r < (wrL q).length := by (first | lia | omega)
      split
      · rename_i h2
        have hr : r ≤ q.2.cps.toList.length := by
          rcases h2 with h2 | h2
          · have e : wrL q = q.2.cps.toList := by simp [wrL, h2, empty_cps]
            rw [← e]; (first | lia | omega)
          · (first | lia | omega)
        refine ⟨fun p hp => ?_, .inl rfl⟩
        rcases List.mem_append.mp hp with hp | hp
        · exact ha p hp
        · rw [List.mem_singleton.mp hp]
          refine .inl ⟨rfl, fun c hc => ?_⟩
          simp only [Str.cps_append, Array.toList_append, slice_head_cps hr] at hc
          rcases List.mem_append.mp hc with hc | hc
          · rcases h2 with h2 | h2
            · rcases hq1 with ⟨_, h3, _⟩ | ⟨h3, _, _⟩
              · exact plain_okc (h3 c (List.mem_of_mem_take hc))
              · have := congrArg (·.length) (h3.symm.trans h2)
                simp only [qmark_len] at this
                exact absurd this (by decide +kernel)
            · have h0 : r = 0 := by (first | lia | omega)
              rw [h0] at hc; cases hc
          · exact trunc_plain c hc
      · rename_i h2
        refine ⟨ha, .inr ?_⟩
        have h3 : q.1 ≠ Str.ofString "" := fun e => h2 (.inl e)
        have h4 : 0 < r := Nat.pos_of_ne_zero fun e => h2 (.inr (by (first | lia | omega)))
        rcases hq1 with ⟨h5, _, _⟩ | ⟨h5, h6, _⟩
        · exact absurd h5 h3
        · have ew : wrL q = markC q :: (q.2.cps.toList ++ [markC q]) := by unfold wrL; rw [h5, qmark_cps]; rfl
          have et : (wrL q).take r = markC q :: q.2.cps.toList.take (r - 1) := by
            obtain ⟨r', rfl⟩ : ∃ r', r = r' + 1 := ⟨r - 1, by (first | lia | omega)⟩
            rw [ew] at hlt ⊢
            simp only [List.length_cons, List.length_append, List.length_nil] at hlt
            rw [List.take_succ_cons, List.take_append_of_le_length (by (first | lia | omega))]
            rfl
          obtain ⟨h7, h8⟩ := mark_free h6
          refine ⟨markC q, q.2.cps.toList.take (r - 1) ++ truncT.cps.toList, ?_, by unfold markC; split <;> simp, ?_, ?_⟩
          · rw [Str.cps_append, Array.toList_append, slice_head_cps (by rw [wrL_eq]; (first | lia | omega)), wrL_eq, et]; rfl
          · intro hc
            rcases List.mem_append.mp hc with hc | hc
            · exact h7 (List.mem_of_mem_take hc)
            · have := trunc_plain _ hc
              revert this; unfold markC; split
              · exact fun h => h.2.1 rfl
              · exact fun h => h.2.2.1 rfl
          · intro c hc
            rcases List.mem_append.mp hc with hc | hc
            · exact letter_okc (h6 c (List.mem_of_mem_take hc))
            · exact (trunc_plain c hc).sign
/-- what the law knows of the cut -/
structure CutFacts (W : Str) (cut : List Piece × Str) : Prop where
  ok : ∀ q ∈ cut.1, CutOk q
  br : BrokenOk cut.2
  text : cut.1.flatMap wrL ++ cut.2.cps.toList = (shortOf true W).cps.toList
  len : (shortOf true W).length ≤ 95
theorem cut_facts {ps : List Piece} {cut : List Piece × Str} (h : cut = if 80 ≤ (writtenP ps).length then cutP ps 80 [] else (ps, Str.ofString "")) (hg : ∀ q ∈ ps, PcOk q) : CutFacts (writtenP ps) cut := by
  have hw := written_cps ps
  subst h
  by_cases h80 : 80 ≤ (writtenP ps).length
  · rw [if_pos h80]
    obtain ⟨h1, h2⟩ := cut_ok ps 80 [] hg fun _ h => nomatch h
    have h3 := cut_text ps 80 []
    have hl : 80 ≤ (writtenP ps).cps.toList.length := by rw [Array.length_toList]; exact h80
    have e : (shortOf true (writtenP ps)).cps.toList = (ps.flatMap wrL).take 80 ++ truncT.cps.toList := by
      unfold shortOf
      rw [if_pos ⟨rfl, h80⟩, Str.cps_append, Array.toList_append]
      have := slice_head_cps (x := writtenP ps) (j := 80) hl
      rw [hw] at this
      exact congrArg (· ++ truncT.cps.toList) this
    refine ⟨h1, h2, ?_, ?_⟩
    · rw [e]; exact h3
    · show (shortOf true _).cps.size ≤ 95
      rw [← Array.length_toList, e, trunc_cps]
      simp only [List.length_append, List.length_take, List.length_cons, List.length_nil]
      (first | lia | omega)
  · rw [if_neg h80]
    have e : shortOf true (writtenP ps) = writtenP ps := by unfold shortOf; rw [if_neg fun h => h80 h.2]
    exact ⟨fun q hq => (hg q hq).cut, .inl rfl, by rw [e, hw, empty_cps, List.append_nil], by rw [e]; (first | lia | omega)⟩
end Mine
end
section
open PySem PySem.W PyProof.Rows PySem.Calls
namespace Mine
/-- the items of a piece -/
noncomputable def itP (q : Piece) : List It := if q.1 = Str.ofString "" then q.2.cps.toList.map .ch else [.qu (markC q) q.2.cps.toList]
noncomputable def itsP (ps : List Piece) : List It := ps.flatMap itP
theorem flatI_app : ∀ a b : List It, flatI (a ++ b) = flatI a ++ flatI b
  | [], _ => rfl
  | i :: r, b => by simp only [List.cons_append, flatI, flatI_app r b, List.append_assoc]
theorem flatI_ch : ∀ l : List Nat, flatI (l.map .ch) = l
  | [] => rfl
  | c :: r => by simp only [List.map_cons, flatI, It.flat, flatI_ch r]; rfl
theorem qmark_ne (x : Str) : qmark x ≠ Str.ofString "" := fun e => by
  have := congrArg (·.length) e
  simp only [qmark_len] at this
  exact absurd this (by decide +kernel)
theorem CutOk.flat {q : Piece} (h : CutOk q) : flatI (itP q) = wrL q := by
  unfold itP
  rcases h with ⟨h1, _⟩ | ⟨h1, _⟩
  · rw [if_pos h1, flatI_ch]; simp [wrL, h1, empty_cps]
  · rw [if_neg (by rw [h1]; exact qmark_ne _)]
    unfold wrL; rw [h1, qmark_cps]
    simp [flatI, It.flat, markC]
theorem its_flat : ∀ {ps : List Piece}, (∀ q ∈ ps, CutOk q) → flatI (itsP ps) = ps.flatMap wrL
  | [], _ => rfl
  | q :: r, h => by
    unfold itsP
    rw [List.flatMap_cons, flatI_app, (h q (List.mem_cons_self ..)).flat, List.flatMap_cons]
    exact congrArg _ (its_flat fun p hp => h p (List.mem_cons_of_mem _ hp))
theorem CutOk.plain {q : Piece} (h : CutOk q) : ∀ i ∈ itP q, i.plainQ := by
  intro i hi
  unfold itP at hi
  rcases h with ⟨h1, h2⟩ | ⟨h1, h2⟩
  · rw [if_pos h1] at hi
    obtain ⟨c, hc, rfl⟩ := List.mem_map.mp hi
    have := h2 c hc
    exact ⟨this.2.2.1, this.2.1⟩
  · rw [if_neg (by rw [h1]; exact qmark_ne _)] at hi
    rw [List.mem_singleton.mp hi]
    obtain ⟨h7, h8⟩ := mark_free h2
    exact ⟨by unfold markC; split <;> simp, h7, h8⟩
theorem plainQ_ok : ∀ {i : It}, i.plainQ → i.ok
  | .ch _, h => h
  | .qu _ _, h => ⟨h.1, h.2.1⟩
theorem its_plain {ps : List Piece} (h : ∀ q ∈ ps, CutOk q) : ∀ i ∈ itsP ps, i.plainQ := by
  intro i hi
  obtain ⟨q, hq, hi⟩ := List.mem_flatMap.mp hi
  exact (h q hq).plain i hi
theorem mark_34 {q : Piece} (h : q.1 = qmark q.2) : (q.1 = Str.ofString "\"" ↔ markC q = 34) := by
  rw [h]; unfold qmark markC
  split
  · simp
  · simp only [show (39 : Nat) ≠ 34 from by decide, iff_false]; decide +kernel
theorem CutOk.shown {q : Piece} (h : CutOk q) : (itP q).filter It.shown = if q.1 != Str.ofString "\"" then itP q else [] := by
  unfold itP
  rcases h with ⟨h1, h2⟩ | ⟨h1, h2⟩
  · rw [if_pos h1, h1, if_pos (by decide +kernel)]
    rw [List.filter_eq_self]
    intro i hi
    obtain ⟨c, _, rfl⟩ := List.mem_map.mp hi
    rfl
  · rw [if_neg (by rw [h1]; exact qmark_ne _)]
    have h3 := mark_34 h1
    by_cases h4 : markC q = 34
    · rw [if_neg (by rw [h3.mpr h4]; simp), h4]; rfl
    · rw [if_pos (by simpa using fun e => h4 (h3.mp e))]
      simp [It.shown, h4]
theorem its_shown : ∀ {ps : List Piece}, (∀ q ∈ ps, CutOk q) → itsP (ps.filter fun q => q.1 != Str.ofString "\"") = (itsP ps).filter It.shown
  | [], _ => rfl
  | q :: r, h => by
    have h1 := (h q (List.mem_cons_self ..)).shown
    have ih := its_shown fun p hp => h p (List.mem_cons_of_mem _ hp)
    unfold itsP at ih ⊢
    rw [List.flatMap_cons, List.filter_append, h1, ← ih, List.filter_cons]
    cases hc : (q.1 != Str.ofString "\"") with
    | true => simp
    | false => simp
/-- the row under way as an open word -/
noncomputable def ofRow (c : List Str) : Option Str := if c = [] then none else some (Txt.join (Str.ofString "") c)
noncomputable def ofRows (d : List (List Str)) : List Str := (d.filter (· ≠ [])).map (Txt.join (Str.ofString ""))
theorem join_snoc (c : List Str) (x : Str) : Txt.join (Str.ofString "") (c ++ [x]) = Txt.join (Str.ofString "") c ++ x := by
  apply str_ext
  rw [join_cps, Str.cps_append, Array.toList_append, join_cps]
  simp
theorem ofRow_snoc (c : List Str) (x : Str) : ofRow (c ++ [x]) = some ((ofRow c).getD (Str.ofString "") ++ x) := by
  unfold ofRow
  rw [if_neg (by simp), join_snoc]
  by_cases h : c = []
  · subst h; rw [if_pos rfl]; rfl
  · rw [if_neg h]; rfl
theorem ofRows_snoc (d : List (List Str)) (c : List Str) : ofRows (d ++ [c]) = ofRows d ++ (match ofRow c with | none => [] | some t => [t]) := by
  unfold ofRows ofRow
  rw [List.filter_append, List.map_append]
  by_cases h : c = []
  · subst h; simp
  · simp [h]
theorem rows_signs (r : List Piece) (hid : Str) (V : List It) (ih : ∀ d c, ofRows (rwP r hid d c) = ofRows d ++ wdI V (ofRow c)) : ∀ (l : List Nat) (d : List (List Str)) (c : List Str), ofRows (rwC l r hid d c) = ofRows d ++ wdI (l.map .ch ++ V) (ofRow c)
  | [], d, c => by rw [rwC_nil, ih]; rfl
  | x :: l, d, c => by
    by_cases hx : x = 32
    · subst hx
      rw [rwC_b, rows_signs r hid V ih l, ofRows_snoc, List.append_assoc]
      simp only [List.map_cons, List.cons_append, wdI, if_true]
      cases h : ofRow c <;> rfl
    · rw [rwC_s hx, rows_signs r hid V ih l, ofRow_snoc]
      simp only [List.map_cons, List.cons_append, wdI, hx, if_false]
theorem rows_items (hid : Str) : ∀ (ps : List Piece) (d : List (List Str)) (c : List Str), ofRows (rwP ps hid d c) = ofRows d ++ wdI (itsP (ps.filter fun q => decide (q.1 = Str.ofString "") || q.1 != hid)) (ofRow c)
  | [], d, c => by
    show ofRows (d ++ [c]) = _
    rw [ofRows_snoc]
    show _ = ofRows d ++ wdI [] (ofRow c)
    cases ofRow c <;> rfl
  | q :: r, d, c => by
    by_cases h : q.1 = Str.ofString ""
    · have e1 : rwP (q :: r) hid d c = rwC q.2.cps.toList r hid d c := by simp only [rwP, if_pos h]; rfl
      rw [e1, rows_signs r hid _ (rows_items hid r), List.filter_cons, if_pos (by simp [h])]
      unfold itsP
      rw [List.flatMap_cons]
      simp only [itP, if_pos h]
    · by_cases h2 : q.1 = hid
      · have e1 : rwP (q :: r) hid d c = rwP r hid d c := by rw [rwP, if_neg h, if_neg (by simpa using h2)]
        rw [e1, rows_items hid r, List.filter_cons, if_neg (by simp only [Bool.or_eq_true, decide_eq_true_eq, bne_iff_ne, ne_eq]; intro hh; rcases hh with hh | hh; exact h hh; exact hh h2)]
      · have e1 : rwP (q :: r) hid d c = rwP r hid d (c ++ [q.2]) := by rw [rwP, if_neg h, if_pos h2]
        rw [e1, rows_items hid r, List.filter_cons, if_pos (by simp only [Bool.or_eq_true, decide_eq_true_eq, bne_iff_ne, ne_eq]; exact .inr h2), ofRow_snoc]
        unfold itsP
        rw [List.flatMap_cons]
        simp only [itP, if_neg h]
        rfl
theorem words_all (ps : List Piece) : wordsP ps (Str.ofString "") = wdI (itsP ps) none := by
  have h := rows_items (Str.ofString "") ps [] []
  have e : ps.filter (fun q => decide (q.1 = Str.ofString "") || q.1 != Str.ofString "") = ps := by
    rw [List.filter_eq_self]; intro q _
    by_cases h : q.1 = Str.ofString "" <;> simp [h]
  rw [e] at h
  exact h
theorem words_hid (ps : List Piece) : wordsP ps (Str.ofString "\"") = wdI (itsP (ps.filter fun q => q.1 != Str.ofString "\"")) none := by
  have h := rows_items (Str.ofString "\"") ps [] []
  have e : ps.filter (fun q => decide (q.1 = Str.ofString "") || q.1 != Str.ofString "\"") = ps.filter fun q => q.1 != Str.ofString "\"" := by
    apply List.filter_congr; intro q _
    by_cases h : q.1 = Str.ofString ""
    · rw [h]; decide +kernel
    · simp [h]
  rw [e] at h
  exact h
end Mine
end
section
open PySem PySem.W PyProof.Rows PySem.Calls
namespace Mine
noncomputable def unhid (q : Piece) : Bool := q.1 != Str.ofString "\""
theorem BrokenOk.tail {b : Str} (h : BrokenOk b) : Tail b.cps.toList := by
  rcases h with rfl | ⟨k, x, e, hk, _, h2⟩
  · exact .inl empty_cps
  · exact .inr ⟨k, x, e, hk, fun hc => (h2 _ hc).2.1 rfl⟩
theorem BrokenOk.okc {b : Str} (h : BrokenOk b) : ∀ c ∈ b.cps.toList, okc c = true := by
  intro c hc
  rcases h with rfl | ⟨k, x, e, hk, _, h2⟩
  · rw [empty_cps] at hc; cases hc
  · rw [e] at hc
    rcases List.mem_cons.mp hc with rfl | hc
    · rcases hk with rfl | rfl <;> rfl
    · exact (h2 c hc).2.2
theorem CutOk.okc {q : Piece} (h : CutOk q) : ∀ c ∈ wrL q, okc c = true := by
  intro c hc
  unfold wrL at hc
  have hm : ∀ c ∈ q.1.cps.toList, Mine.okc c = true := by
    intro c hc
    rcases h with ⟨h1, _⟩ | ⟨h1, _⟩
    · rw [h1, empty_cps] at hc; cases hc
    · rw [h1, qmark_cps, List.mem_singleton] at hc
      rw [hc]; split <;> rfl
  rcases List.mem_append.mp hc with hc | hc
  · rcases List.mem_append.mp hc with hc | hc
    · exact hm c hc
    · rcases h with ⟨_, h2⟩ | ⟨_, h2⟩
      · exact (h2 c hc).2.2.2
      · exact (letter_okc (h2 c hc)).2.2
  · exact hm c hc
theorem written_okc {ps : List Piece} (h : ∀ q ∈ ps, CutOk q) : ∀ c ∈ ps.flatMap wrL, okc c = true := by
  intro c hc
  obtain ⟨q, hq, hc⟩ := List.mem_flatMap.mp hc
  exact (h q hq).okc c hc
theorem filter_len (f : Piece → Bool) : ∀ ps : List Piece, ((ps.filter f).flatMap wrL).length ≤ (ps.flatMap wrL).length
  | [] => Nat.le_refl _
  | q :: r => by
    have ih := filter_len f r
    rw [List.filter_cons]
    split
    · simp only [List.flatMap_cons, List.length_append]; (first | lia | omega)
    · simp only [List.flatMap_cons, List.length_append]; (first | lia | omega)
theorem piece_len {ps : List Piece} {q : Piece} (h : q ∈ ps) : (wrL q).length ≤ (ps.flatMap wrL).length := by
  induction ps with
  | nil => cases h
  | cons p r ih =>
    simp only [List.flatMap_cons, List.length_append]
    rcases List.mem_cons.mp h with rfl | h
    · (first | lia | omega)
    · have := ih h; (first | lia | omega)
/-- the text that is left -/
noncomputable def leftOf (cut : List Piece × Str) : Str := writtenP (cut.1.filter fun q => q.1 != Str.ofString "\"") ++ cut.2
theorem left_cps (cut : List Piece × Str) : (leftOf cut).cps.toList = (cut.1.filter fun q => q.1 != Str.ofString "\"").flatMap wrL ++ cut.2.cps.toList := by
  unfold leftOf; rw [Str.cps_append, Array.toList_append, written_cps]
section
variable {W : Str} {cut : List Piece × Str}
theorem CutFacts.tlen (h : CutFacts W cut) : (cut.1.flatMap wrL).length + cut.2.cps.toList.length ≤ 95 := by
  have h1 := h.len
  have h2 : (shortOf true W).cps.toList.length ≤ 95 := by rw [Array.length_toList]; exact h1
  rw [← h.text, List.length_append] at h2
  exact h2
theorem CutFacts.sz (h : CutFacts W cut) : ∀ q ∈ cut.1, q.1.length ≤ 1 ∧ q.2.length ≤ 1000 := by
  intro q hq
  have h1 := h.tlen
  have h2 := piece_len hq
  have h3 : q.2.length = q.2.cps.toList.length := by rw [Array.length_toList]; rfl
  refine ⟨?_, ?_⟩
  · rcases h.ok q hq with ⟨e, _⟩ | ⟨e, _⟩
    · rw [e]; decide +kernel
    · rw [e, qmark_len]; (first | lia | omega)
  · rw [h3]
    simp only [wrL, List.length_append] at h2
    (first | lia | omega)
theorem CutFacts.whole (h : CutFacts W cut) : writtenP cut.1 ++ cut.2 = shortOf true W := by
  apply str_ext
  rw [Str.cps_append, Array.toList_append, written_cps, h.text]
theorem CutFacts.wlen (h : CutFacts W cut) : (writtenP cut.1).length + cut.2.length ≤ 95 := by
  have := h.tlen
  rw [← written_cps, Array.length_toList, Array.length_toList] at this
  exact this
theorem CutFacts.llen (h : CutFacts W cut) : (writtenP (cut.1.filter fun q => q.1 != Str.ofString "\"")).length + cut.2.length ≤ 95 := by
  have h1 := h.tlen
  have h2 := filter_len (fun q => q.1 != Str.ofString "\"") cut.1
  have h3 : cut.2.length = cut.2.cps.toList.length := by rw [Array.length_toList]; rfl
  have h4 : (writtenP (cut.1.filter fun q => q.1 != Str.ofString "\"")).length = ((cut.1.filter fun q => q.1 != Str.ofString "\"").flatMap wrL).length := by rw [← written_cps, Array.length_toList]; rfl
  (first | lia | omega)
theorem CutFacts.left_len (h : CutFacts W cut) : (leftOf cut).length ≤ 95 := by
  have := h.llen
  unfold leftOf; rw [Str.length_append]; exact this
theorem CutFacts.okS (h : CutFacts W cut) : ∀ c ∈ (shortOf true W).cps.toList, okc c = true := by
  intro c hc
  rw [← h.text] at hc
  rcases List.mem_append.mp hc with hc | hc
  · exact written_okc h.ok c hc
  · exact h.br.okc c hc
theorem CutFacts.okL (h : CutFacts W cut) : ∀ c ∈ (leftOf cut).cps.toList, okc c = true := by
  intro c hc
  rw [left_cps] at hc
  rcases List.mem_append.mp hc with hc | hc
  · exact written_okc (fun q hq => h.ok q (List.mem_filter.mp hq).1) c hc
  · exact h.br.okc c hc
theorem CutFacts.noS (h : CutFacts W cut) : 92 ∉ (shortOf true W).cps.toList := fun hc => absurd (h.okS _ hc) (by decide)
theorem CutFacts.noL (h : CutFacts W cut) : 92 ∉ (leftOf cut).cps.toList := fun hc => absurd (h.okL _ hc) (by decide)
theorem CutFacts.strip (h : CutFacts W cut) : stripS (shortOf true W) = leftOf cut := by
  apply str_ext
  rw [strip_law (is := itsP cut.1) (tail := cut.2.cps.toList) (by rw [its_flat h.ok]; exact h.text.symm) (its_plain h.ok) h.br.tail, ← its_shown h.ok, its_flat fun q hq => h.ok q (List.mem_filter.mp hq).1, left_cps]
theorem its_len {ps : List Piece} (h : ∀ q ∈ ps, CutOk q) : (itsP ps).length ≤ (ps.flatMap wrL).length := by
  induction ps with
  | nil => exact Nat.le_refl _
  | cons q r ih =>
    have h1 := ih fun p hp => h p (List.mem_cons_of_mem _ hp)
    have h2 : (itP q).length ≤ (wrL q).length := by
      unfold itP wrL
      rcases h q (List.mem_cons_self ..) with ⟨e, _⟩ | ⟨e, _⟩
      · rw [if_pos e]; simp only [List.length_map, List.length_append]; (first | lia | omega)
      · rw [if_neg (by rw [e]; exact qmark_ne _), e, qmark_cps]; simp only [List.length_append, List.length_cons, List.length_nil]; (first | lia | omega)
    unfold itsP at h1 ⊢
    simp only [List.flatMap_cons, List.length_append]; (first | lia | omega)
/-- the outcome of a text of pieces and a broken end -/
theorem out_law {x : Str} {ps : List Piece} {b : Str} (hx : x.cps.toList = ps.flatMap wrL ++ b.cps.toList) (h : ∀ q ∈ ps, CutOk q) (hb : BrokenOk b) (hl : (ps.flatMap wrL).length ≤ 95) :
    ∃ ws ok, Lx .ws x.cps.toList ws ok ∧ ws.length ≤ 10000 ∧ (b = Str.ofString "" → ok = true ∧ ws = wdI (itsP ps) none) ∧ (b ≠ Str.ofString "" → ok = false) := by
  have hi : ∀ i ∈ itsP ps, i.ok := fun i hi => plainQ_ok (its_plain h i hi)
  have hn := its_len h
  rw [← its_flat h] at hx
  by_cases e : b = Str.ofString ""
  · rw [e, empty_cps, List.append_nil] at hx
    refine ⟨_, true, hx ▸ lex_whole hi, ?_, fun _ => ⟨rfl, rfl⟩, fun h => absurd e h⟩
    have := wdI_len (itsP ps) none
    (first | lia | omega)
  · rcases hb with hb | ⟨k, y, e2, hk, hy, _⟩
    · exact absurd hb e
    · rw [e2] at hx
      obtain ⟨ws, h1, h2⟩ := lex_broken hi hk hy
      exact ⟨ws, false, hx ▸ h1, by (first | lia | omega), fun h => absurd h e, fun _ => rfl⟩
theorem CutFacts.outS (h : CutFacts W cut) : ∃ ws ok, Lx .ws (shortOf true W).cps.toList ws ok ∧ ws.length ≤ 10000 ∧ (cut.2 = Str.ofString "" → ok = true ∧ ws = wordsP cut.1 (Str.ofString "")) ∧ (cut.2 ≠ Str.ofString "" → ok = false) := by
  have h1 := h.tlen
  obtain ⟨ws, ok, a, b, c, d⟩ := out_law h.text.symm h.ok h.br (by (first | lia | omega))
  exact ⟨ws, ok, a, b, by rw [words_all]; exact c, d⟩
theorem CutFacts.outL (h : CutFacts W cut) : ∃ ws ok, Lx .ws (leftOf cut).cps.toList ws ok ∧ ws.length ≤ 10000 ∧ (cut.2 = Str.ofString "" → ok = true ∧ ws = wordsP cut.1 (Str.ofString "\"")) ∧ (cut.2 ≠ Str.ofString "" → ok = false) := by
  have h1 := h.tlen
  have h2 := filter_len (fun q => q.1 != Str.ofString "\"") cut.1
  obtain ⟨ws, ok, a, b, c, d⟩ := out_law (left_cps cut) (fun q hq => h.ok q (List.mem_filter.mp hq).1) h.br (by (first | lia | omega))
  exact ⟨ws, ok, a, b, by rw [words_hid]; exact c, d⟩
end
end Mine
end
section
open PySem PySem.W PyProof.Rows PySem.Calls PyProof.V PySem.Spec
namespace Mine
theorem getD_signs {G : Nat → Prop} {o : Option Str} (h : ∀ t, o = some t → ∀ c ∈ t.cps.toList, G c) (x : Str) (hx : ∀ c ∈ x.cps.toList, G c) : ∀ t, some (o.getD (Str.ofString "") ++ x) = some t → ∀ c ∈ t.cps.toList, G c := by
  intro t e c hc
  rw [← Option.some.inj e, Str.cps_append, Array.toList_append] at hc
  rcases List.mem_append.mp hc with hc | hc
  · cases o with
    | none => rw [Option.getD_none, empty_cps] at hc; cases hc
    | some y => exact h y rfl c hc
  · exact hx c hc
theorem wd_signs (G : Nat → Prop) : ∀ (is : List It) (o : Option Str), (∀ c ∈ flatI is, G c) → (∀ t, o = some t → ∀ c ∈ t.cps.toList, G c) → ∀ w ∈ wdI is o, ∀ c ∈ w.cps.toList, G c
  | [], none, _, _, w, hw => by simp [wdI] at hw
  | [], some t, _, ho, w, hw => by
    simp only [wdI, List.mem_singleton] at hw
    rw [hw]; exact ho t rfl
  | .ch c :: r, o, h, ho, w, hw => by
    have hr : ∀ c ∈ flatI r, G c := fun c hc => h c (List.mem_append_right _ hc)
    have hc0 : G c := h c (List.mem_append_left _ (List.mem_singleton.mpr rfl))
    simp only [wdI] at hw
    split at hw
    · cases o with
      | none => exact wd_signs G r none hr (fun _ e => nomatch e) w hw
      | some t =>
        rcases List.mem_cons.mp hw with rfl | hw
        · exact ho _ rfl
        · exact wd_signs G r none hr (fun _ e => nomatch e) w hw
    · exact wd_signs G r _ hr (getD_signs ho ⟨#[c]⟩ (fun d hd => by have : d = c := List.mem_singleton.mp hd; rw [this]; exact hc0)) w hw
  | .qu k x :: r, o, h, ho, w, hw => by
    have hr : ∀ c ∈ flatI r, G c := fun c hc => h c (List.mem_append_right _ hc)
    simp only [wdI] at hw
    exact wd_signs G r _ hr (getD_signs ho ⟨x.toArray⟩ (fun d hd => h d (List.mem_append_left _ (List.mem_cons_of_mem _ (List.mem_append_left _ (by simpa using hd)))))) w hw
theorem CutOk.lt {q : Piece} (h : CutOk q) : ∀ c ∈ wrL q, c < 128 := by
  intro c hc
  unfold wrL at hc
  have hm : ∀ c ∈ q.1.cps.toList, c < 128 := by
    intro c hc
    rcases h with ⟨h1, _⟩ | ⟨h1, _⟩
    · rw [h1, empty_cps] at hc; cases hc
    · rw [h1, qmark_cps, List.mem_singleton] at hc
      rw [hc]; split <;> decide
  rcases List.mem_append.mp hc with hc | hc
  · rcases List.mem_append.mp hc with hc | hc
    · exact hm c hc
    · rcases h with ⟨_, h2⟩ | ⟨_, h2⟩
      · exact (h2 c hc).1
      · exact (letter_okc (h2 c hc)).1
  · exact hm c hc
theorem items_ok {ps : List Piece} (h : ∀ q ∈ ps, CutOk q) : ∀ w ∈ wdI (itsP ps) none, PyData.strOk w = true := by
  intro w hw
  have h1 := wd_signs (· < 128) (itsP ps) none (fun c hc => by
    rw [its_flat h] at hc
    obtain ⟨q, hq, hc⟩ := List.mem_flatMap.mp hc
    exact (h q hq).lt c hc) (fun _ e => nomatch e) w hw
  unfold PyData.strOk
  rw [← Array.all_toList, List.all_eq_true]
  intro c hc
  have := h1 c hc
  simp only [decide_eq_true_eq]
  (first | lia | omega)
section
variable {W : Str} {cut : List Piece × Str}
theorem CutFacts.wdS (h : CutFacts W cut) : ∀ w ∈ wordsP cut.1 (Str.ofString ""), PyData.strOk w = true := by rw [words_all]; exact items_ok h.ok
theorem CutFacts.wdL (h : CutFacts W cut) : ∀ w ∈ wordsP cut.1 (Str.ofString "\""), PyData.strOk w = true := by rw [words_hid]; exact items_ok fun q hq => h.ok q (List.mem_filter.mp hq).1
end
/-- two lists of two that say the same -/
theorem two_eq {prog : Program} {w : World} {A : Around} {E : Value → Shared → Prop} {s : Shared} {h₀ : Heap} {L a b : Addr} {news : List (Addr × Obj)} {v1 v2 u1 u2 : Value} {n k : Nat} {d1 d2 : PyData} {Q : Value → Shared → Prop}
    (N : News h₀ L s.heap news) (ha : (a, listO #[v1, v2] n) ∈ news) (hb : (b, listO #[u1, u2] k) ∈ news)
    (h1 : ∃ as, Reads s.heap v1 d1 as) (h2 : ∃ as, Reads s.heap v2 d2 as) (h3 : ∃ as, Reads s.heap u1 d1 as) (h4 : ∃ as, Reads s.heap u2 d2 as)
    (hs : SeqAt.shaped (.list [d1, d2]) = true) (hu : A.units + 64 < cLine) (h : Q (.bool true) s) :
    wpAny (model prog w) A (compareOp .Eq (.ref a) (.ref b)) Q E s := by
  obtain ⟨a1, r1⟩ := h1
  obtain ⟨a2, r2⟩ := h2
  obtain ⟨a3, r3⟩ := h3
  obtain ⟨a4, r4⟩ := h4
  refine eq_dataH (.list (N _ ha).1 rfl rfl (.cons r1 (.cons r2 .nil))) (.list (N _ hb).1 rfl rfl (.cons r3 (.cons r4 .nil))) hs hs hu ?_
  rw [SeqAt.eqv_refl _ (SeqAt.canLay_of_shaped hs)]
  exact h
theorem strs_reads {h₀ h : Heap} {L a : Addr} {news : List (Addr × Obj)} {us : Array Value} {n : Nat} {row : List Str} (N : News h₀ L h news) (ha : (a, listO us n) ∈ news) (hr : StrsAre us.toList row) : ∃ as, Reads h (.ref a) (.list (row.map PyData.str)) as := by
  have ha' : h.IsList a us.toList.toArray := by rw [Array.toArray_toList]; exact News.isList N ha
  exact ⟨_, reads_newData ha' (strs_carried hr)⟩
theorem two_shaped {x y : List Str} (hx : ∀ w ∈ x, PyData.strOk w = true) (hy : ∀ w ∈ y, PyData.strOk w = true) : SeqAt.shaped (.list [.list (x.map PyData.str), .list (y.map PyData.str)]) = true := by
  simp [SeqAt.shaped, PyData.canLay0, PyData.canLayAll0, PyData.depth, PyData.depthAll, strs_lay hx, strs_lay hy, strs_depth]
end Mine
end
section
open PySem PySem.W PyProof.Rows PySem.Calls
namespace Mine
theorem law_post (l : OpenLaw) (args : List WData) : l.row.claim.post args (.bool true) args = true := by
  exact postW_of (r := l.row.toRowW) (by rfl) (by wtm_val) (by w_fin)
theorem law_raises (l : OpenLaw) (args : List WData) : ∀ cls, l.row.claim.raises args cls = false := fun _ => rfl
theorem law_end {l : OpenLaw} {cl : Str → Option Addr} {mean : ExcName → Option Value} {args : List WData} {s₁ : Shared} {h : Heap} {g : Array GenState} {d : Drawn} {t : Nat}
    (hk : ∀ a o, s₁.heap.get? a = some o → h.get? a = some o) (hb : AllBare g) : GoodWG l.row.claim cl mean args s₁ (.ok (.ret (.bool true))) ⟨h, g, d, t, s₁.os⟩ :=
  ⟨.inl ⟨_, _, [], rfl, law_raises l args, ReadsW.bool true, law_post l args, fun _ => ⟨List.nodup_nil, fun _ hm => (nomatch hm)⟩⟩, .of_keep hk, rfl, hb⟩
end Mine
end
section
open PySem PySem.W PyProof.Rows PySem.Calls
section
open PySem PySem.W PyProof.Rows PySem.Calls
open PyProof.Rows.LCg PyProof.Rows.LCp
set_option maxHeartbeats 1000000
namespace Mine
structure StopIf : Prop where
noncomputable def cutI (ps : List Piece) : List Piece × Str := if 80 ≤ (writtenP ps).length then cutP ps 80 [] else (ps, Str.ofString "")
/-- the state after the cut -/
noncomputable def CutSt (h₀ : Heap) (L : Addr) (s : Shared) (ps : List Piece) (m : Str → Option Value) (tl : List (Addr × Obj)) (s' : Shared) : Prop :=
  ∃ h' tk' m' P' pvs' pn' tb tl', s' = { s with heap := h', toks := tk' } ∧ Fr h₀ L h' m' ∧ News h₀ L h' tl' ∧ (∀ p ∈ tl, p ∈ tl') ∧ (P', listO pvs' pn') ∈ tl' ∧ PcsIn tl' pvs'.toList (cutI ps).1 ∧
    m' (Str.ofString "pieces") = some (.ref P') ∧ m' (Str.ofString "broken") = some (.str (cutI ps).2 tb) ∧ ∀ z, z ≠ Str.ofString "pieces" → z ≠ Str.ofString "broken" → m' z = m z
theorem CutSt.of {h₀ : Heap} {L : Addr} {s : Shared} {ps : List Piece} {m : Str → Option Value} {tl : List (Addr × Obj)} {h' : Heap} {tk' : Nat} {m' : Str → Option Value} {P' : Addr} {pvs' : Array Value} {pn' : Nat} {b : Str} {tb : Tok} {tl' : List (Addr × Obj)} (F : Fr h₀ L h' m') (N : News h₀ L h' tl') (hs : ∀ p ∈ tl, p ∈ tl') (hP : (P', listO pvs' pn') ∈ tl') (hc : PcsIn tl' pvs'.toList (cutI ps).1) (hb : b = (cutI ps).2)
    (k1 : m' (Str.ofString "pieces") = some (.ref P')) (k2 : m' (Str.ofString "broken") = some (.str b tb)) (k3 : ∀ z, z ≠ Str.ofString "pieces" → z ≠ Str.ofString "broken" → m' z = m z) : CutSt h₀ L s ps m tl { s with heap := h', toks := tk' } := by
  subst hb
  exact ⟨h', tk', m', P', pvs', pn', tb, tl', rfl, F, N, hs, hP, hc, k1, k2, k3⟩
noncomputable def ncqT : Str := Str.ofString "No closing quotation"
/-- the state after due is settled -/
noncomputable def DueSt (h₀ : Heap) (L : Addr) (s : Shared) (b : Str) (W1 W2 : Addr) (m : Str → Option Value) (tl : List (Addr × Obj)) (s' : Shared) : Prop :=
  ∃ h' tk' m' D a1 a2 dn tl', s' = { s with heap := h', toks := tk' } ∧ Fr h₀ L h' m' ∧ News h₀ L h' tl' ∧ (∀ p ∈ tl, p ∈ tl') ∧ (D, listO #[a1, a2] dn) ∈ tl' ∧ (b = Str.ofString "" → a1 = .ref W1 ∧ a2 = .ref W2) ∧ (b ≠ Str.ofString "" → ∃ t1 t2, a1 = .str ncqT t1 ∧ a2 = .str ncqT t2) ∧
    m' (Str.ofString "due") = some (.ref D) ∧ ∀ z, z ≠ Str.ofString "due" → m' z = m z
theorem DueSt.of {h₀ : Heap} {L : Addr} {s : Shared} {b : Str} {W1 W2 D : Addr} {m : Str → Option Value} {tl : List (Addr × Obj)} {h' : Heap} {tk' : Nat} {m' : Str → Option Value} {a1 a2 : Value} {dn : Nat} {tl' : List (Addr × Obj)} (F : Fr h₀ L h' m') (N : News h₀ L h' tl') (hs : ∀ p ∈ tl, p ∈ tl') (hD : (D, listO #[a1, a2] dn) ∈ tl') (e1 : b = Str.ofString "" → a1 = .ref W1 ∧ a2 = .ref W2) (e2 : b ≠ Str.ofString "" → ∃ t1 t2, a1 = .str ncqT t1 ∧ a2 = .str ncqT t2)
    (k1 : m' (Str.ofString "due") = some (.ref D)) (k3 : ∀ z, z ≠ Str.ofString "due" → m' z = m z) : DueSt h₀ L s b W1 W2 m tl { s with heap := h', toks := tk' } :=
  ⟨h', tk', m', D, a1, a2, dn, tl', rfl, F, N, hs, hD, e1, e2, k1, k3⟩
theorem due_if {M : Model} {A : Around} {t : Sem Flow} {Q : Flow → Shared → Prop} {E : Value → Shared → Prop} {s : Shared} {h₀ : Heap} {L : Addr} {m : Str → Option Value} {tl : List (Addr × Obj)} (b : Str) (W1 W2 : Addr) (_F : Fr h₀ L s.heap m) (_N : News h₀ L s.heap tl)
    (h1 : wpAny M A t (fun f s' => f = .next ∧ DueSt h₀ L s b W1 W2 m tl s') E s) (h2 : ∀ s', DueSt h₀ L s b W1 W2 m tl s' → Q .next s') : wpAny M A t Q E s :=
  wpAny_mono h1 (fun f s' h => by obtain ⟨rfl, h⟩ := h; exact h2 s' h) fun _ _ e => e
theorem remP_ge : ∀ ps : List Piece, ps.length ≤ remP ps
  | [] => Nat.zero_le _
  | q :: r => by have := remP_ge r; rw [remP_cons]; simp only [List.length_cons]; (first | lia | omega)
theorem cut_if {M : Model} {A : Around} {t : Sem Flow} {Q : Flow → Shared → Prop} {E : Value → Shared → Prop} {s : Shared} {h₀ : Heap} {L : Addr} {m : Str → Option Value} {tl : List (Addr × Obj)} (ps : List Piece) (_F : Fr h₀ L s.heap m) (_N : News h₀ L s.heap tl)
    (h1 : wpAny M A t (fun f s' => f = .next ∧ CutSt h₀ L s ps m tl s') E s) (h2 : ∀ s', CutSt h₀ L s ps m tl s' → Q .next s') : wpAny M A t Q E s :=
  wpAny_mono h1 (fun f s' h => by obtain ⟨rfl, h⟩ := h; exact h2 s' h) fun _ _ e => e
theorem th_ref {news : List (Addr × Obj)} {v : Value} {k : Nat} {ts : List Tr} (h : ThIn news v (.node k ts)) : ∃ a, v = .ref a := by
  cases h
  · exact ⟨_, rfl⟩
  · exact ⟨_, rfl⟩
theorem fr_keys {h₀ h : Heap} {L : Addr} {m₁ : Str → Option Value} (ps : List (Str × Value)) (h1 : ∀ p ∈ ps, m₁ p.1 = some p.2) (F : Fr h₀ L h m₁) : Fr h₀ L h (kstB m₁ ps) := by
  rw [show kstB m₁ ps = m₁ from funext fun _ => kstB_eq h1 fun _ => rfl]
  exact F
theorem keys3 {m₁ : Str → Option Value} {a b c : Str × Value} (h1 : m₁ a.1 = some a.2) (h2 : m₁ b.1 = some b.2) (h3 : m₁ c.1 = some c.2) : ∀ p ∈ [a, b, c], m₁ p.1 = some p.2 := by
  intro p hp
  simp only [List.mem_cons, List.not_mem_nil, or_false] at hp
  rcases hp with rfl | rfl | rfl <;> assumption
theorem keys4 {m₁ : Str → Option Value} {a b c d : Str × Value} (h1 : m₁ a.1 = some a.2) (h2 : m₁ b.1 = some b.2) (h3 : m₁ c.1 = some c.2) (h4 : m₁ d.1 = some d.2) : ∀ p ∈ [a, b, c, d], m₁ p.1 = some p.2 := by
  intro p hp
  simp only [List.mem_cons, List.not_mem_nil, or_false] at hp
  rcases hp with rfl | rfl | rfl | rfl <;> assumption
set_option maxHeartbeats 16000000 in
theorem law_holds : PySem.Challenge.rw_ny0347_01.Holds := by
  w_top off
  refine Mine.hd.main ?_
  k_fill
  intro w s₀ s₁ mg mb G Y fa o pm cd doc dV kV ho hd hcd hD hmg hg args vals as hpre hlay hrd hwl hlo
  have KX := kIn_of Y
  have X := (Ground.X G).1
  have V := (Ground.X G).2
  refine Ground.open G ?_
  intro T B D TE TW
  have TA := at_of_top T
  try (obtain ⟨_, _, he, B0⟩ := based_of_top T rfl hmg ho hd; have he' : cd = _ := he; subst he'; clear he)
  clear hmg
  wrow_args hpre hlay hrd hwl hlo
  refine enter_call ?_
  w_top on
  have K0 := below_caller (Top.heap T)
  w_call any ho hd hcd hD T F
  clear hd TA
  k_drop
  try k_fold
  clear G Y X V B D TE TW ho
  try clear hcd
  try clear hD
  try clear hlay hrd hwl hlo
  (repeat' (first | (k_unfold; (try dsimp only)) | (k_end; wrow_close) | ((with_reducible show LCt.CompSrcT ..); refine Hold.mk ?_) | ((with_reducible show wpAny _ _ (compareOp CmpOp.Eq (Value.ref _) (Value.ref _)) _ _ _); refine Hold.mk ?_) | ((with_reducible show wpAny _ _ (binaryOp Operator.Add (Value.str _ _) (Value.str _ _)) _ _ _); refine Hold.mk ?_) | ((with_reducible show KswEnd ..); (refine Hold.mk ?_)) | ((with_reducible show wpAny _ _ (call (Value.builtin "str.replace") _) _ _ _); (refine call_unpair (by assumption) ?_; intro t7 k7)) | ((with_reducible show wpAny _ _ (exec (Stmt.While ..) _) _ _ _); ((rename StopIf => sI); clear sI; refine Hold.mk ?_)) | ((with_reducible show wpAny _ _ (eval (Expr.ListComp ..) _) _ _ _); ((rename StopIf => sI); clear sI; refine Hold.mk ?_)) | ((with_reducible show wpAny _ _ (exec (Stmt.If ..) _) _ _ _); ((rename StopIf => sI); clear sI; refine Hold.mk ?_)) | ((with_reducible show wpAny _ _ (call (Value.ref _) _) _ _ _); (show wpAny _ _ (call (Value.ref _) _) _ _ _); refine Hold.mk ?_) | ((with_reducible show wpAny _ _ (PySem.isTrue _ _ _) _ _ _); (k_fold)) | ((with_reducible show wpAny _ _ (execs (_ :: _) _) _ _ _); (k_fold)) | walk1 | (dsimp only; first | ((with_reducible show LCt.CompSrcT ..); refine Hold.mk ?_) | ((with_reducible show wpAny _ _ (compareOp CmpOp.Eq (Value.ref _) (Value.ref _)) _ _ _); refine Hold.mk ?_) | ((with_reducible show wpAny _ _ (binaryOp Operator.Add (Value.str _ _) (Value.str _ _)) _ _ _); refine Hold.mk ?_) | ((with_reducible show KswEnd ..); (refine Hold.mk ?_)) | ((with_reducible show wpAny _ _ (call (Value.builtin "str.replace") _) _ _ _); (refine call_unpair (by assumption) ?_; intro t7 k7)) | ((with_reducible show wpAny _ _ (exec (Stmt.While ..) _) _ _ _); ((rename StopIf => sI); clear sI; refine Hold.mk ?_)) | ((with_reducible show wpAny _ _ (eval (Expr.ListComp ..) _) _ _ _); ((rename StopIf => sI); clear sI; refine Hold.mk ?_)) | ((with_reducible show wpAny _ _ (exec (Stmt.If ..) _) _ _ _); ((rename StopIf => sI); clear sI; refine Hold.mk ?_)) | ((with_reducible show wpAny _ _ (call (Value.ref _) _) _ _ _); (show wpAny _ _ (call (Value.ref _) _) _ _ _); refine Hold.mk ?_) | ((with_reducible show wpAny _ _ (PySem.isTrue _ _ _) _ _ _); (k_fold)) | ((with_reducible show wpAny _ _ (execs (_ :: _) _) _ _ _); (k_fold))) | (dsimp only; walk1) | (leave1; walk_say "STEP leave1"; try dsimp only) | fail "no step"))
  rename IntsAre _ _ => hIA
  rename (Heap.IsList _ _ _) => hIL
  rename (¬ _ < ((_ : Nat) : Int)) => hln
  rename News _ _ _ _ => N1
  rename Fr _ _ _ _ => F1
  refine Hold.of (c_nest K0 F1 KX N1 T rfl (by ktr_room) (by ktr_room) hIL hIA (by (first | lia | omega)) fun R k ts tl h1 tk1 hTr hw hsz F2 N2 => ?_)
  clear F1 N1
  have hdep : (Tr.node k ts).dep ≤ 60 := Nat.le_trans (dep_size _) hsz
  have hpl : (piecesOf (Tr.node k ts)).length ≤ 120 := Nat.le_trans (pieces_len _) (by (first | lia | omega))
  have hpg := pieces_good _ hw
  have hnode : ∃ k ts, Tr.node k ts = Tr.node k ts := ⟨k, ts, rfl⟩
  generalize hd9 : Tr.node k ts = d at hTr hw hsz hdep hpl hpg
  clear hnode
  (repeat' (first | (k_unfold; (try dsimp only)) | (k_end; wrow_close) | ((with_reducible show LCt.CompSrcT ..); refine Hold.mk ?_) | ((with_reducible show wpAny _ _ (compareOp CmpOp.Eq (Value.ref _) (Value.ref _)) _ _ _); refine Hold.mk ?_) | ((with_reducible show wpAny _ _ (binaryOp Operator.Add (Value.str _ _) (Value.str _ _)) _ _ _); refine Hold.mk ?_) | ((with_reducible show KswEnd ..); (refine Hold.mk ?_)) | ((with_reducible show wpAny _ _ (call (Value.builtin "str.replace") _) _ _ _); (refine call_unpair (by assumption) ?_; intro t7 k7)) | ((with_reducible show wpAny _ _ (exec (Stmt.While ..) _) _ _ _); ((rename StopIf => sI); clear sI; refine Hold.mk ?_)) | ((with_reducible show wpAny _ _ (eval (Expr.ListComp ..) _) _ _ _); ((rename StopIf => sI); clear sI; refine Hold.mk ?_)) | ((with_reducible show wpAny _ _ (exec (Stmt.If ..) _) _ _ _); ((rename StopIf => sI); clear sI; refine Hold.mk ?_)) | ((with_reducible show wpAny _ _ (call (Value.ref _) _) _ _ _); (show wpAny _ _ (call (Value.ref _) _) _ _ _); refine Hold.mk ?_) | ((with_reducible show wpAny _ _ (PySem.isTrue _ _ _) _ _ _); (k_fold)) | ((with_reducible show wpAny _ _ (execs (_ :: _) _) _ _ _); (k_fold)) | walk1 | (dsimp only; first | ((with_reducible show LCt.CompSrcT ..); refine Hold.mk ?_) | ((with_reducible show wpAny _ _ (compareOp CmpOp.Eq (Value.ref _) (Value.ref _)) _ _ _); refine Hold.mk ?_) | ((with_reducible show wpAny _ _ (binaryOp Operator.Add (Value.str _ _) (Value.str _ _)) _ _ _); refine Hold.mk ?_) | ((with_reducible show KswEnd ..); (refine Hold.mk ?_)) | ((with_reducible show wpAny _ _ (call (Value.builtin "str.replace") _) _ _ _); (refine call_unpair (by assumption) ?_; intro t7 k7)) | ((with_reducible show wpAny _ _ (exec (Stmt.While ..) _) _ _ _); ((rename StopIf => sI); clear sI; refine Hold.mk ?_)) | ((with_reducible show wpAny _ _ (eval (Expr.ListComp ..) _) _ _ _); ((rename StopIf => sI); clear sI; refine Hold.mk ?_)) | ((with_reducible show wpAny _ _ (exec (Stmt.If ..) _) _ _ _); ((rename StopIf => sI); clear sI; refine Hold.mk ?_)) | ((with_reducible show wpAny _ _ (call (Value.ref _) _) _ _ _); (show wpAny _ _ (call (Value.ref _) _) _ _ _); refine Hold.mk ?_) | ((with_reducible show wpAny _ _ (PySem.isTrue _ _ _) _ _ _); (k_fold)) | ((with_reducible show wpAny _ _ (execs (_ :: _) _) _ _ _); (k_fold))) | (dsimp only; walk1) | (leave1; walk_say "STEP leave1"; try dsimp only) | fail "no step"))
  rename News _ _ _ _ => N3
  rename Fr _ _ _ _ => F3
  refine Hold.of ((c_thing d) _ _ _ _ _ _ _ _ _ _ _ _ _ _ _ _ _ _ _ K0 F3 KX N3 T rfl hTr hw (by show 1 + claimMargin + 1 + 2 * d.dep + 10 < recursionLimit; (have : (300 + claimMargin : Nat) < recursionLimit := by decide); (first | lia | omega)) (by show (4 + 3 : Nat) + 20 * d.dep + 100 < cLine; (have hc9 := cLine_is); (first | lia | omega)) fun r tl2 h2 tk2 F4 N4 ha2 hTh => ?_)
  clear F3 N3
  obtain ⟨A9, rfl⟩ := th_ref (hd9 ▸ hTh)
  (repeat' (first | (k_unfold; (try dsimp only)) | (k_end; wrow_close) | ((with_reducible show LCt.CompSrcT ..); refine Hold.mk ?_) | ((with_reducible show wpAny _ _ (compareOp CmpOp.Eq (Value.ref _) (Value.ref _)) _ _ _); refine Hold.mk ?_) | ((with_reducible show wpAny _ _ (binaryOp Operator.Add (Value.str _ _) (Value.str _ _)) _ _ _); refine Hold.mk ?_) | ((with_reducible show KswEnd ..); (refine Hold.mk ?_)) | ((with_reducible show wpAny _ _ (call (Value.builtin "str.replace") _) _ _ _); (refine call_unpair (by assumption) ?_; intro t7 k7)) | ((with_reducible show wpAny _ _ (exec (Stmt.While ..) _) _ _ _); ((rename StopIf => sI); clear sI; refine Hold.mk ?_)) | ((with_reducible show wpAny _ _ (eval (Expr.ListComp ..) _) _ _ _); ((rename StopIf => sI); clear sI; refine Hold.mk ?_)) | ((with_reducible show wpAny _ _ (exec (Stmt.If ..) _) _ _ _); ((rename StopIf => sI); clear sI; refine Hold.mk ?_)) | ((with_reducible show wpAny _ _ (call (Value.ref _) _) _ _ _); (show wpAny _ _ (call (Value.ref _) _) _ _ _); refine Hold.mk ?_) | ((with_reducible show wpAny _ _ (PySem.isTrue _ _ _) _ _ _); (k_fold)) | ((with_reducible show wpAny _ _ (execs (_ :: _) _) _ _ _); (k_fold)) | walk1 | (dsimp only; first | ((with_reducible show LCt.CompSrcT ..); refine Hold.mk ?_) | ((with_reducible show wpAny _ _ (compareOp CmpOp.Eq (Value.ref _) (Value.ref _)) _ _ _); refine Hold.mk ?_) | ((with_reducible show wpAny _ _ (binaryOp Operator.Add (Value.str _ _) (Value.str _ _)) _ _ _); refine Hold.mk ?_) | ((with_reducible show KswEnd ..); (refine Hold.mk ?_)) | ((with_reducible show wpAny _ _ (call (Value.builtin "str.replace") _) _ _ _); (refine call_unpair (by assumption) ?_; intro t7 k7)) | ((with_reducible show wpAny _ _ (exec (Stmt.While ..) _) _ _ _); ((rename StopIf => sI); clear sI; refine Hold.mk ?_)) | ((with_reducible show wpAny _ _ (eval (Expr.ListComp ..) _) _ _ _); ((rename StopIf => sI); clear sI; refine Hold.mk ?_)) | ((with_reducible show wpAny _ _ (exec (Stmt.If ..) _) _ _ _); ((rename StopIf => sI); clear sI; refine Hold.mk ?_)) | ((with_reducible show wpAny _ _ (call (Value.ref _) _) _ _ _); (show wpAny _ _ (call (Value.ref _) _) _ _ _); refine Hold.mk ?_) | ((with_reducible show wpAny _ _ (PySem.isTrue _ _ _) _ _ _); (k_fold)) | ((with_reducible show wpAny _ _ (execs (_ :: _) _) _ _ _); (k_fold))) | (dsimp only; walk1) | (leave1; walk_say "STEP leave1"; try dsimp only) | fail "no step"))
  rename News _ _ _ _ => N5
  rename Fr _ _ _ _ => F5
  refine Hold.of ((c_pieces d) _ _ _ _ _ _ _ _ _ _ _ _ _ _ _ _ _ _ _ K0 F5 KX N5 T rfl (hTr.mono fun p hp => List.mem_append_right _ hp) hw (by (first | lia | omega)) (by show 1 + claimMargin + 1 + 2 * d.dep + 10 < recursionLimit; (have : (300 + claimMargin : Nat) < recursionLimit := by decide); (first | lia | omega)) (by show (4 + 3 : Nat) + 20 * d.dep + 100 < cLine; (have hc9 := cLine_is); (first | lia | omega)) fun P pvs pn tl3 h3 tk3 F6 N6 ha3 hP hPc => ?_)
  clear F5 N5
  have hps9 : ∀ q ∈ piecesOf d, q.1.length ≤ 1 ∧ q.2.length ≤ 1000 := fun q hq => ⟨(hpg q hq).size.1, Nat.le_trans (hpg q hq).size.2 (by decide)⟩
  have hPl : pvs.size ≤ 120 := by have := hPc.len; rw [Array.length_toList] at this; (first | lia | omega)
  (repeat' (first | (k_unfold; (try dsimp only)) | (k_end; wrow_close) | ((with_reducible show LCt.CompSrcT ..); refine Hold.mk ?_) | ((with_reducible show wpAny _ _ (compareOp CmpOp.Eq (Value.ref _) (Value.ref _)) _ _ _); refine Hold.mk ?_) | ((with_reducible show wpAny _ _ (binaryOp Operator.Add (Value.str _ _) (Value.str _ _)) _ _ _); refine Hold.mk ?_) | ((with_reducible show KswEnd ..); (refine Hold.mk ?_)) | ((with_reducible show wpAny _ _ (call (Value.builtin "str.replace") _) _ _ _); (refine call_unpair (by assumption) ?_; intro t7 k7)) | ((with_reducible show wpAny _ _ (exec (Stmt.While ..) _) _ _ _); ((rename StopIf => sI); clear sI; refine Hold.mk ?_)) | ((with_reducible show wpAny _ _ (eval (Expr.ListComp ..) _) _ _ _); ((rename StopIf => sI); clear sI; refine Hold.mk ?_)) | ((with_reducible show wpAny _ _ (exec (Stmt.If ..) _) _ _ _); ((rename StopIf => sI); clear sI; refine Hold.mk ?_)) | ((with_reducible show wpAny _ _ (call (Value.ref _) _) _ _ _); (show wpAny _ _ (call (Value.ref _) _) _ _ _); refine Hold.mk ?_) | ((with_reducible show wpAny _ _ (PySem.isTrue _ _ _) _ _ _); (k_fold)) | ((with_reducible show wpAny _ _ (execs (_ :: _) _) _ _ _); (k_fold)) | walk1 | (dsimp only; first | ((with_reducible show LCt.CompSrcT ..); refine Hold.mk ?_) | ((with_reducible show wpAny _ _ (compareOp CmpOp.Eq (Value.ref _) (Value.ref _)) _ _ _); refine Hold.mk ?_) | ((with_reducible show wpAny _ _ (binaryOp Operator.Add (Value.str _ _) (Value.str _ _)) _ _ _); refine Hold.mk ?_) | ((with_reducible show KswEnd ..); (refine Hold.mk ?_)) | ((with_reducible show wpAny _ _ (call (Value.builtin "str.replace") _) _ _ _); (refine call_unpair (by assumption) ?_; intro t7 k7)) | ((with_reducible show wpAny _ _ (exec (Stmt.While ..) _) _ _ _); ((rename StopIf => sI); clear sI; refine Hold.mk ?_)) | ((with_reducible show wpAny _ _ (eval (Expr.ListComp ..) _) _ _ _); ((rename StopIf => sI); clear sI; refine Hold.mk ?_)) | ((with_reducible show wpAny _ _ (exec (Stmt.If ..) _) _ _ _); ((rename StopIf => sI); clear sI; refine Hold.mk ?_)) | ((with_reducible show wpAny _ _ (call (Value.ref _) _) _ _ _); (show wpAny _ _ (call (Value.ref _) _) _ _ _); refine Hold.mk ?_) | ((with_reducible show wpAny _ _ (PySem.isTrue _ _ _) _ _ _); (k_fold)) | ((with_reducible show wpAny _ _ (execs (_ :: _) _) _ _ _); (k_fold))) | (dsimp only; walk1) | (leave1; walk_say "STEP leave1"; try dsimp only) | fail "no step"))
  rename News _ _ _ _ => N7
  rename Fr _ _ _ _ => F7
  refine Hold.of (c_written K0 F7 KX N7 T rfl (by ktr_room) (by ktr_room) (List.mem_append_left _ hP) (hPc.mono fun p hp => List.mem_append_left _ hp) hps9 (by (first | lia | omega)) fun wt tl4 h4 tk4 hs4 F8 N8 => ?_)
  clear F7 N7
  (repeat' (first | (k_unfold; (try dsimp only)) | (k_end; wrow_close) | ((with_reducible show LCt.CompSrcT ..); refine Hold.mk ?_) | ((with_reducible show wpAny _ _ (compareOp CmpOp.Eq (Value.ref _) (Value.ref _)) _ _ _); refine Hold.mk ?_) | ((with_reducible show wpAny _ _ (binaryOp Operator.Add (Value.str _ _) (Value.str _ _)) _ _ _); refine Hold.mk ?_) | ((with_reducible show KswEnd ..); (refine Hold.mk ?_)) | ((with_reducible show wpAny _ _ (call (Value.builtin "str.replace") _) _ _ _); (refine call_unpair (by assumption) ?_; intro t7 k7)) | ((with_reducible show wpAny _ _ (exec (Stmt.While ..) _) _ _ _); ((rename StopIf => sI); clear sI; refine Hold.mk ?_)) | ((with_reducible show wpAny _ _ (eval (Expr.ListComp ..) _) _ _ _); ((rename StopIf => sI); clear sI; refine Hold.mk ?_)) | ((with_reducible show wpAny _ _ (exec (Stmt.If ..) _) _ _ _); ((rename StopIf => sI); clear sI; refine Hold.mk ?_)) | ((with_reducible show wpAny _ _ (call (Value.ref _) _) _ _ _); (show wpAny _ _ (call (Value.ref _) _) _ _ _); refine Hold.mk ?_) | ((with_reducible show wpAny _ _ (PySem.isTrue _ _ _) _ _ _); (k_fold)) | ((with_reducible show wpAny _ _ (execs (_ :: _) _) _ _ _); (k_fold)) | walk1 | (dsimp only; first | ((with_reducible show LCt.CompSrcT ..); refine Hold.mk ?_) | ((with_reducible show wpAny _ _ (compareOp CmpOp.Eq (Value.ref _) (Value.ref _)) _ _ _); refine Hold.mk ?_) | ((with_reducible show wpAny _ _ (binaryOp Operator.Add (Value.str _ _) (Value.str _ _)) _ _ _); refine Hold.mk ?_) | ((with_reducible show KswEnd ..); (refine Hold.mk ?_)) | ((with_reducible show wpAny _ _ (call (Value.builtin "str.replace") _) _ _ _); (refine call_unpair (by assumption) ?_; intro t7 k7)) | ((with_reducible show wpAny _ _ (exec (Stmt.While ..) _) _ _ _); ((rename StopIf => sI); clear sI; refine Hold.mk ?_)) | ((with_reducible show wpAny _ _ (eval (Expr.ListComp ..) _) _ _ _); ((rename StopIf => sI); clear sI; refine Hold.mk ?_)) | ((with_reducible show wpAny _ _ (exec (Stmt.If ..) _) _ _ _); ((rename StopIf => sI); clear sI; refine Hold.mk ?_)) | ((with_reducible show wpAny _ _ (call (Value.ref _) _) _ _ _); (show wpAny _ _ (call (Value.ref _) _) _ _ _); refine Hold.mk ?_) | ((with_reducible show wpAny _ _ (PySem.isTrue _ _ _) _ _ _); (k_fold)) | ((with_reducible show wpAny _ _ (execs (_ :: _) _) _ _ _); (k_fold))) | (dsimp only; walk1) | (leave1; walk_say "STEP leave1"; try dsimp only) | fail "no step"))
  rename News _ _ _ _ => N9
  rename Fr _ _ _ _ => F9
  obtain ⟨as9, hrd9⟩ := th_reads N9 (hTh.mono fun p hp => hs4 p (List.mem_append_right _ (List.mem_append_left _ hp)))
  refine Hold.of (c_safe_repr0 (below_push K0 F9 rfl) (KX.keeps F9.keep) (T.keeps F9.keep) (by show 1 + claimMargin + 1 + 300 < recursionLimit; decide) (by show (4 + 3 : Nat) + 1000 < cLine; (have hc9 := cLine_is); (first | lia | omega)) hrd9 (data_showable _ hw) (data_nodict _) (by rw [data_depth]; (first | lia | omega)) (by rw [shown_written hw]; have := written_len hpg; (first | lia | omega)) fun h5 tk5 t5 keep5 => ?_)
  have F10 := Fr.keeps F9 keep5
  have N10 := N9.keepsAll keep5
  clear F9 N9
  have e9 := shown_written hw
  rw [e9]
  clear e9 hrd9
  dsimp only at F10 N10
  have hWl : (writtenP (piecesOf d)).length ≤ 1080 := by have := written_len hpg; (first | lia | omega)
  generalize hW9 : writtenP (piecesOf d) = W at F10 hWl ⊢
  have hWW : (W != W) = false := by simp
  have sI : StopIf := ⟨⟩
  (repeat' (first | (k_unfold; (try dsimp only)) | (k_end; wrow_close) | ((with_reducible show LCt.CompSrcT ..); refine Hold.mk ?_) | ((with_reducible show wpAny _ _ (compareOp CmpOp.Eq (Value.ref _) (Value.ref _)) _ _ _); refine Hold.mk ?_) | ((with_reducible show wpAny _ _ (binaryOp Operator.Add (Value.str _ _) (Value.str _ _)) _ _ _); refine Hold.mk ?_) | ((with_reducible show KswEnd ..); (refine Hold.mk ?_)) | ((with_reducible show wpAny _ _ (call (Value.builtin "str.replace") _) _ _ _); (refine call_unpair (by assumption) ?_; intro t7 k7)) | ((with_reducible show wpAny _ _ (exec (Stmt.While ..) _) _ _ _); ((rename StopIf => sI); clear sI; refine Hold.mk ?_)) | ((with_reducible show wpAny _ _ (eval (Expr.ListComp ..) _) _ _ _); ((rename StopIf => sI); clear sI; refine Hold.mk ?_)) | ((with_reducible show wpAny _ _ (exec (Stmt.If ..) _) _ _ _); ((rename StopIf => sI); clear sI; refine Hold.mk ?_)) | ((with_reducible show wpAny _ _ (call (Value.ref _) _) _ _ _); (show wpAny _ _ (call (Value.ref _) _) _ _ _); refine Hold.mk ?_) | ((with_reducible show wpAny _ _ (PySem.isTrue _ _ _) _ _ _); (k_fold)) | ((with_reducible show wpAny _ _ (execs (_ :: _) _) _ _ _); (k_fold)) | walk1 | (dsimp only; first | ((with_reducible show LCt.CompSrcT ..); refine Hold.mk ?_) | ((with_reducible show wpAny _ _ (compareOp CmpOp.Eq (Value.ref _) (Value.ref _)) _ _ _); refine Hold.mk ?_) | ((with_reducible show wpAny _ _ (binaryOp Operator.Add (Value.str _ _) (Value.str _ _)) _ _ _); refine Hold.mk ?_) | ((with_reducible show KswEnd ..); (refine Hold.mk ?_)) | ((with_reducible show wpAny _ _ (call (Value.builtin "str.replace") _) _ _ _); (refine call_unpair (by assumption) ?_; intro t7 k7)) | ((with_reducible show wpAny _ _ (exec (Stmt.While ..) _) _ _ _); ((rename StopIf => sI); clear sI; refine Hold.mk ?_)) | ((with_reducible show wpAny _ _ (eval (Expr.ListComp ..) _) _ _ _); ((rename StopIf => sI); clear sI; refine Hold.mk ?_)) | ((with_reducible show wpAny _ _ (exec (Stmt.If ..) _) _ _ _); ((rename StopIf => sI); clear sI; refine Hold.mk ?_)) | ((with_reducible show wpAny _ _ (call (Value.ref _) _) _ _ _); (show wpAny _ _ (call (Value.ref _) _) _ _ _); refine Hold.mk ?_) | ((with_reducible show wpAny _ _ (PySem.isTrue _ _ _) _ _ _); (k_fold)) | ((with_reducible show wpAny _ _ (execs (_ :: _) _) _ _ _); (k_fold))) | (dsimp only; walk1) | (leave1; walk_say "STEP leave1"; try dsimp only) | fail "no step"))
  rename News _ _ _ _ => N11
  rename Fr _ _ _ _ => F11
  refine Hold.of (cut_if (piecesOf d) F11 N11 ?_ fun s' h => ?_)
  · (repeat' (first | (k_unfold; (try dsimp only)) | (k_end; wrow_close) | ((with_reducible show LCt.CompSrcT ..); refine Hold.mk ?_) | ((with_reducible show wpAny _ _ (compareOp CmpOp.Eq (Value.ref _) (Value.ref _)) _ _ _); refine Hold.mk ?_) | ((with_reducible show wpAny _ _ (binaryOp Operator.Add (Value.str _ _) (Value.str _ _)) _ _ _); refine Hold.mk ?_) | ((with_reducible show KswEnd ..); (refine Hold.mk ?_)) | ((with_reducible show wpAny _ _ (call (Value.builtin "str.replace") _) _ _ _); (refine call_unpair (by assumption) ?_; intro t7 k7)) | ((with_reducible show wpAny _ _ (exec (Stmt.While ..) _) _ _ _); ((rename StopIf => sI); clear sI; refine Hold.mk ?_)) | ((with_reducible show wpAny _ _ (eval (Expr.ListComp ..) _) _ _ _); ((rename StopIf => sI); clear sI; refine Hold.mk ?_)) | ((with_reducible show wpAny _ _ (exec (Stmt.If ..) _) _ _ _); ((rename StopIf => sI); clear sI; refine Hold.mk ?_)) | ((with_reducible show wpAny _ _ (call (Value.ref _) _) _ _ _); (show wpAny _ _ (call (Value.ref _) _) _ _ _); refine Hold.mk ?_) | ((with_reducible show wpAny _ _ (PySem.isTrue _ _ _) _ _ _); (k_fold)) | ((with_reducible show wpAny _ _ (execs (_ :: _) _) _ _ _); (k_fold)) | walk1 | (dsimp only; first | ((with_reducible show LCt.CompSrcT ..); refine Hold.mk ?_) | ((with_reducible show wpAny _ _ (compareOp CmpOp.Eq (Value.ref _) (Value.ref _)) _ _ _); refine Hold.mk ?_) | ((with_reducible show wpAny _ _ (binaryOp Operator.Add (Value.str _ _) (Value.str _ _)) _ _ _); refine Hold.mk ?_) | ((with_reducible show KswEnd ..); (refine Hold.mk ?_)) | ((with_reducible show wpAny _ _ (call (Value.builtin "str.replace") _) _ _ _); (refine call_unpair (by assumption) ?_; intro t7 k7)) | ((with_reducible show wpAny _ _ (exec (Stmt.While ..) _) _ _ _); ((rename StopIf => sI); clear sI; refine Hold.mk ?_)) | ((with_reducible show wpAny _ _ (eval (Expr.ListComp ..) _) _ _ _); ((rename StopIf => sI); clear sI; refine Hold.mk ?_)) | ((with_reducible show wpAny _ _ (exec (Stmt.If ..) _) _ _ _); ((rename StopIf => sI); clear sI; refine Hold.mk ?_)) | ((with_reducible show wpAny _ _ (call (Value.ref _) _) _ _ _); (show wpAny _ _ (call (Value.ref _) _) _ _ _); refine Hold.mk ?_) | ((with_reducible show wpAny _ _ (PySem.isTrue _ _ _) _ _ _); (k_fold)) | ((with_reducible show wpAny _ _ (execs (_ :: _) _) _ _ _); (k_fold))) | (dsimp only; walk1) | (leave1; walk_say "STEP leave1"; try dsimp only) | fail "no step"))
    · rename (80 ≤ ((_ : Nat) : Int)) => hc80
      have ec : cutI (piecesOf d) = cutP (piecesOf d) 80 [] := if_pos (by rw [hW9]; (first | lia | omega))
      rename News _ _ _ _ => N13
      rename Fr _ _ _ _ => F13
      refine Hold.of (c_cut K0 F13 KX N13 T rfl (by ktr_room) (by ktr_room) (hs4 _ (List.mem_append_left _ hP)) (hPc.mono fun p hp => hs4 _ (List.mem_append_left _ hp)) ⟨by decide, by decide⟩ hps9 (by (first | lia | omega)) fun v tl9 h9 tk9 hC F14 N14 => ?_)
      clear F13 N13
      obtain ⟨D, K, kvs, n9, bt, rfl, hD, hK, hPc2⟩ := hC.ex
      have hTup := News.isTup N14 hD
      (repeat' (first | (k_unfold; (try dsimp only)) | (k_end; wrow_close) | ((with_reducible show LCt.CompSrcT ..); refine Hold.mk ?_) | ((with_reducible show wpAny _ _ (compareOp CmpOp.Eq (Value.ref _) (Value.ref _)) _ _ _); refine Hold.mk ?_) | ((with_reducible show wpAny _ _ (binaryOp Operator.Add (Value.str _ _) (Value.str _ _)) _ _ _); refine Hold.mk ?_) | ((with_reducible show KswEnd ..); (refine Hold.mk ?_)) | ((with_reducible show wpAny _ _ (call (Value.builtin "str.replace") _) _ _ _); (refine call_unpair (by assumption) ?_; intro t7 k7)) | ((with_reducible show wpAny _ _ (exec (Stmt.While ..) _) _ _ _); ((rename StopIf => sI); clear sI; refine Hold.mk ?_)) | ((with_reducible show wpAny _ _ (eval (Expr.ListComp ..) _) _ _ _); ((rename StopIf => sI); clear sI; refine Hold.mk ?_)) | ((with_reducible show wpAny _ _ (exec (Stmt.If ..) _) _ _ _); ((rename StopIf => sI); clear sI; refine Hold.mk ?_)) | ((with_reducible show wpAny _ _ (call (Value.ref _) _) _ _ _); (show wpAny _ _ (call (Value.ref _) _) _ _ _); refine Hold.mk ?_) | ((with_reducible show wpAny _ _ (PySem.isTrue _ _ _) _ _ _); (k_fold)) | ((with_reducible show wpAny _ _ (execs (_ :: _) _) _ _ _); (k_fold)) | walk1 | (dsimp only; first | ((with_reducible show LCt.CompSrcT ..); refine Hold.mk ?_) | ((with_reducible show wpAny _ _ (compareOp CmpOp.Eq (Value.ref _) (Value.ref _)) _ _ _); refine Hold.mk ?_) | ((with_reducible show wpAny _ _ (binaryOp Operator.Add (Value.str _ _) (Value.str _ _)) _ _ _); refine Hold.mk ?_) | ((with_reducible show KswEnd ..); (refine Hold.mk ?_)) | ((with_reducible show wpAny _ _ (call (Value.builtin "str.replace") _) _ _ _); (refine call_unpair (by assumption) ?_; intro t7 k7)) | ((with_reducible show wpAny _ _ (exec (Stmt.While ..) _) _ _ _); ((rename StopIf => sI); clear sI; refine Hold.mk ?_)) | ((with_reducible show wpAny _ _ (eval (Expr.ListComp ..) _) _ _ _); ((rename StopIf => sI); clear sI; refine Hold.mk ?_)) | ((with_reducible show wpAny _ _ (exec (Stmt.If ..) _) _ _ _); ((rename StopIf => sI); clear sI; refine Hold.mk ?_)) | ((with_reducible show wpAny _ _ (call (Value.ref _) _) _ _ _); (show wpAny _ _ (call (Value.ref _) _) _ _ _); refine Hold.mk ?_) | ((with_reducible show wpAny _ _ (PySem.isTrue _ _ _) _ _ _); (k_fold)) | ((with_reducible show wpAny _ _ (execs (_ :: _) _) _ _ _); (k_fold))) | (dsimp only; walk1) | (leave1; walk_say "STEP leave1"; try dsimp only) | fail "no step"))
      rename News _ _ _ _ => N15
      rename Fr _ _ _ _ => F15
      exact CutSt.of F15 N15 hC.sub hK (by rw [ec]; exact hPc2) (by rw [ec]) rfl rfl (fun z h1 h2 => by simp [h1, h2])
    · rename (¬ (80 ≤ ((_ : Nat) : Int))) => hc80
      have ec : cutI (piecesOf d) = (piecesOf d, Str.ofString "") := if_neg (by rw [hW9]; (first | lia | omega))
      rename News _ _ _ _ => N13
      rename Fr _ _ _ _ => F13
      exact CutSt.of F13 N13 (fun _ h => h) (hs4 _ (List.mem_append_left _ hP)) (by rw [ec]; exact hPc.mono fun p hp => hs4 _ (List.mem_append_left _ hp)) (by rw [ec]) rfl rfl (fun z h1 h2 => rfl)
  · clear F11 N11
    obtain ⟨h', tk', m', P', pvs', pn', tb, tlC, rfl, F', N', hsC, hP', hPc', k1, k2, k3⟩ := h
    have F12 := fr_keys [(Str.ofString "pieces", Value.ref P'), (Str.ofString "broken", Value.str (cutI (piecesOf d)).2 tb), (Str.ofString "thing", Value.ref A9)] (keys3 k1 k2 ((k3 (Str.ofString "thing") (by decide) (by decide)).trans rfl)) F'
    clear F' k1 k2 k3
    generalize hcut : cutI (piecesOf d) = cut at hPc' F12
    obtain ⟨hcr, hco⟩ := cutI_rem (cut := cut) (by rw [← hcut]; rfl) hpg hpl
    have hCF : CutFacts W cut := by rw [← hW9]; exact cut_facts (by rw [← hcut]; rfl) hpg
    dsimp only
    (repeat' (first | (k_unfold; (try dsimp only)) | (k_end; wrow_close) | ((with_reducible show LCt.CompSrcT ..); refine Hold.mk ?_) | ((with_reducible show wpAny _ _ (compareOp CmpOp.Eq (Value.ref _) (Value.ref _)) _ _ _); refine Hold.mk ?_) | ((with_reducible show wpAny _ _ (binaryOp Operator.Add (Value.str _ _) (Value.str _ _)) _ _ _); refine Hold.mk ?_) | ((with_reducible show KswEnd ..); (refine Hold.mk ?_)) | ((with_reducible show wpAny _ _ (call (Value.builtin "str.replace") _) _ _ _); (refine call_unpair (by assumption) ?_; intro t7 k7)) | ((with_reducible show wpAny _ _ (exec (Stmt.While ..) _) _ _ _); ((rename StopIf => sI); clear sI; refine Hold.mk ?_)) | ((with_reducible show wpAny _ _ (eval (Expr.ListComp ..) _) _ _ _); ((rename StopIf => sI); clear sI; refine Hold.mk ?_)) | ((with_reducible show wpAny _ _ (exec (Stmt.If ..) _) _ _ _); ((rename StopIf => sI); clear sI; refine Hold.mk ?_)) | ((with_reducible show wpAny _ _ (call (Value.ref _) _) _ _ _); (show wpAny _ _ (call (Value.ref _) _) _ _ _); refine Hold.mk ?_) | ((with_reducible show wpAny _ _ (PySem.isTrue _ _ _) _ _ _); (k_fold)) | ((with_reducible show wpAny _ _ (execs (_ :: _) _) _ _ _); (k_fold)) | walk1 | (dsimp only; first | ((with_reducible show LCt.CompSrcT ..); refine Hold.mk ?_) | ((with_reducible show wpAny _ _ (compareOp CmpOp.Eq (Value.ref _) (Value.ref _)) _ _ _); refine Hold.mk ?_) | ((with_reducible show wpAny _ _ (binaryOp Operator.Add (Value.str _ _) (Value.str _ _)) _ _ _); refine Hold.mk ?_) | ((with_reducible show KswEnd ..); (refine Hold.mk ?_)) | ((with_reducible show wpAny _ _ (call (Value.builtin "str.replace") _) _ _ _); (refine call_unpair (by assumption) ?_; intro t7 k7)) | ((with_reducible show wpAny _ _ (exec (Stmt.While ..) _) _ _ _); ((rename StopIf => sI); clear sI; refine Hold.mk ?_)) | ((with_reducible show wpAny _ _ (eval (Expr.ListComp ..) _) _ _ _); ((rename StopIf => sI); clear sI; refine Hold.mk ?_)) | ((with_reducible show wpAny _ _ (exec (Stmt.If ..) _) _ _ _); ((rename StopIf => sI); clear sI; refine Hold.mk ?_)) | ((with_reducible show wpAny _ _ (call (Value.ref _) _) _ _ _); (show wpAny _ _ (call (Value.ref _) _) _ _ _); refine Hold.mk ?_) | ((with_reducible show wpAny _ _ (PySem.isTrue _ _ _) _ _ _); (k_fold)) | ((with_reducible show wpAny _ _ (execs (_ :: _) _) _ _ _); (k_fold))) | (dsimp only; walk1) | (leave1; walk_say "STEP leave1"; try dsimp only) | fail "no step"))
    rename News _ _ _ _ => N16
    rename Fr _ _ _ _ => F16
    refine Hold.of (c_words K0 F16 KX N16 T rfl (by ktr_room) (by ktr_room) hP' hPc' hcr hco fun W1 w1s n1 tl5 h6 tk6 hW1 hW1s hs5 F17 N17 => ?_)
    clear F16 N16
    (repeat' (first | (k_unfold; (try dsimp only)) | (k_end; wrow_close) | ((with_reducible show LCt.CompSrcT ..); refine Hold.mk ?_) | ((with_reducible show wpAny _ _ (compareOp CmpOp.Eq (Value.ref _) (Value.ref _)) _ _ _); refine Hold.mk ?_) | ((with_reducible show wpAny _ _ (binaryOp Operator.Add (Value.str _ _) (Value.str _ _)) _ _ _); refine Hold.mk ?_) | ((with_reducible show KswEnd ..); (refine Hold.mk ?_)) | ((with_reducible show wpAny _ _ (call (Value.builtin "str.replace") _) _ _ _); (refine call_unpair (by assumption) ?_; intro t7 k7)) | ((with_reducible show wpAny _ _ (exec (Stmt.While ..) _) _ _ _); ((rename StopIf => sI); clear sI; refine Hold.mk ?_)) | ((with_reducible show wpAny _ _ (eval (Expr.ListComp ..) _) _ _ _); ((rename StopIf => sI); clear sI; refine Hold.mk ?_)) | ((with_reducible show wpAny _ _ (exec (Stmt.If ..) _) _ _ _); ((rename StopIf => sI); clear sI; refine Hold.mk ?_)) | ((with_reducible show wpAny _ _ (call (Value.ref _) _) _ _ _); (show wpAny _ _ (call (Value.ref _) _) _ _ _); refine Hold.mk ?_) | ((with_reducible show wpAny _ _ (PySem.isTrue _ _ _) _ _ _); (k_fold)) | ((with_reducible show wpAny _ _ (execs (_ :: _) _) _ _ _); (k_fold)) | walk1 | (dsimp only; first | ((with_reducible show LCt.CompSrcT ..); refine Hold.mk ?_) | ((with_reducible show wpAny _ _ (compareOp CmpOp.Eq (Value.ref _) (Value.ref _)) _ _ _); refine Hold.mk ?_) | ((with_reducible show wpAny _ _ (binaryOp Operator.Add (Value.str _ _) (Value.str _ _)) _ _ _); refine Hold.mk ?_) | ((with_reducible show KswEnd ..); (refine Hold.mk ?_)) | ((with_reducible show wpAny _ _ (call (Value.builtin "str.replace") _) _ _ _); (refine call_unpair (by assumption) ?_; intro t7 k7)) | ((with_reducible show wpAny _ _ (exec (Stmt.While ..) _) _ _ _); ((rename StopIf => sI); clear sI; refine Hold.mk ?_)) | ((with_reducible show wpAny _ _ (eval (Expr.ListComp ..) _) _ _ _); ((rename StopIf => sI); clear sI; refine Hold.mk ?_)) | ((with_reducible show wpAny _ _ (exec (Stmt.If ..) _) _ _ _); ((rename StopIf => sI); clear sI; refine Hold.mk ?_)) | ((with_reducible show wpAny _ _ (call (Value.ref _) _) _ _ _); (show wpAny _ _ (call (Value.ref _) _) _ _ _); refine Hold.mk ?_) | ((with_reducible show wpAny _ _ (PySem.isTrue _ _ _) _ _ _); (k_fold)) | ((with_reducible show wpAny _ _ (execs (_ :: _) _) _ _ _); (k_fold))) | (dsimp only; walk1) | (leave1; walk_say "STEP leave1"; try dsimp only) | fail "no step"))
    rename News _ _ _ _ => N18
    rename Fr _ _ _ _ => F18
    refine Hold.of (c_words K0 F18 KX N18 T rfl (by ktr_room) (by ktr_room) (hs5 _ hP') (hPc'.mono hs5) hcr hco fun W2 w2s n2 tl6 h7 tk7 hW2 hW2s hs6 F19 N19 => ?_)
    clear F18 N18
    have sI : StopIf := ⟨⟩
    (repeat' (first | (k_unfold; (try dsimp only)) | (k_end; wrow_close) | ((with_reducible show LCt.CompSrcT ..); refine Hold.mk ?_) | ((with_reducible show wpAny _ _ (compareOp CmpOp.Eq (Value.ref _) (Value.ref _)) _ _ _); refine Hold.mk ?_) | ((with_reducible show wpAny _ _ (binaryOp Operator.Add (Value.str _ _) (Value.str _ _)) _ _ _); refine Hold.mk ?_) | ((with_reducible show KswEnd ..); (refine Hold.mk ?_)) | ((with_reducible show wpAny _ _ (call (Value.builtin "str.replace") _) _ _ _); (refine call_unpair (by assumption) ?_; intro t7 k7)) | ((with_reducible show wpAny _ _ (exec (Stmt.While ..) _) _ _ _); ((rename StopIf => sI); clear sI; refine Hold.mk ?_)) | ((with_reducible show wpAny _ _ (eval (Expr.ListComp ..) _) _ _ _); ((rename StopIf => sI); clear sI; refine Hold.mk ?_)) | ((with_reducible show wpAny _ _ (exec (Stmt.If ..) _) _ _ _); ((rename StopIf => sI); clear sI; refine Hold.mk ?_)) | ((with_reducible show wpAny _ _ (call (Value.ref _) _) _ _ _); (show wpAny _ _ (call (Value.ref _) _) _ _ _); refine Hold.mk ?_) | ((with_reducible show wpAny _ _ (PySem.isTrue _ _ _) _ _ _); (k_fold)) | ((with_reducible show wpAny _ _ (execs (_ :: _) _) _ _ _); (k_fold)) | walk1 | (dsimp only; first | ((with_reducible show LCt.CompSrcT ..); refine Hold.mk ?_) | ((with_reducible show wpAny _ _ (compareOp CmpOp.Eq (Value.ref _) (Value.ref _)) _ _ _); refine Hold.mk ?_) | ((with_reducible show wpAny _ _ (binaryOp Operator.Add (Value.str _ _) (Value.str _ _)) _ _ _); refine Hold.mk ?_) | ((with_reducible show KswEnd ..); (refine Hold.mk ?_)) | ((with_reducible show wpAny _ _ (call (Value.builtin "str.replace") _) _ _ _); (refine call_unpair (by assumption) ?_; intro t7 k7)) | ((with_reducible show wpAny _ _ (exec (Stmt.While ..) _) _ _ _); ((rename StopIf => sI); clear sI; refine Hold.mk ?_)) | ((with_reducible show wpAny _ _ (eval (Expr.ListComp ..) _) _ _ _); ((rename StopIf => sI); clear sI; refine Hold.mk ?_)) | ((with_reducible show wpAny _ _ (exec (Stmt.If ..) _) _ _ _); ((rename StopIf => sI); clear sI; refine Hold.mk ?_)) | ((with_reducible show wpAny _ _ (call (Value.ref _) _) _ _ _); (show wpAny _ _ (call (Value.ref _) _) _ _ _); refine Hold.mk ?_) | ((with_reducible show wpAny _ _ (PySem.isTrue _ _ _) _ _ _); (k_fold)) | ((with_reducible show wpAny _ _ (execs (_ :: _) _) _ _ _); (k_fold))) | (dsimp only; walk1) | (leave1; walk_say "STEP leave1"; try dsimp only) | fail "no step"))
    rename News _ _ _ _ => N20
    rename Fr _ _ _ _ => F20
    refine Hold.of (due_if cut.2 W1 W2 F20 N20 ?_ fun s' h => ?_)
    · (repeat' (first | (k_unfold; (try dsimp only)) | (k_end; wrow_close) | ((with_reducible show LCt.CompSrcT ..); refine Hold.mk ?_) | ((with_reducible show wpAny _ _ (compareOp CmpOp.Eq (Value.ref _) (Value.ref _)) _ _ _); refine Hold.mk ?_) | ((with_reducible show wpAny _ _ (binaryOp Operator.Add (Value.str _ _) (Value.str _ _)) _ _ _); refine Hold.mk ?_) | ((with_reducible show KswEnd ..); (refine Hold.mk ?_)) | ((with_reducible show wpAny _ _ (call (Value.builtin "str.replace") _) _ _ _); (refine call_unpair (by assumption) ?_; intro t7 k7)) | ((with_reducible show wpAny _ _ (exec (Stmt.While ..) _) _ _ _); ((rename StopIf => sI); clear sI; refine Hold.mk ?_)) | ((with_reducible show wpAny _ _ (eval (Expr.ListComp ..) _) _ _ _); ((rename StopIf => sI); clear sI; refine Hold.mk ?_)) | ((with_reducible show wpAny _ _ (exec (Stmt.If ..) _) _ _ _); ((rename StopIf => sI); clear sI; refine Hold.mk ?_)) | ((with_reducible show wpAny _ _ (call (Value.ref _) _) _ _ _); (show wpAny _ _ (call (Value.ref _) _) _ _ _); refine Hold.mk ?_) | ((with_reducible show wpAny _ _ (PySem.isTrue _ _ _) _ _ _); (k_fold)) | ((with_reducible show wpAny _ _ (execs (_ :: _) _) _ _ _); (k_fold)) | walk1 | (dsimp only; first | ((with_reducible show LCt.CompSrcT ..); refine Hold.mk ?_) | ((with_reducible show wpAny _ _ (compareOp CmpOp.Eq (Value.ref _) (Value.ref _)) _ _ _); refine Hold.mk ?_) | ((with_reducible show wpAny _ _ (binaryOp Operator.Add (Value.str _ _) (Value.str _ _)) _ _ _); refine Hold.mk ?_) | ((with_reducible show KswEnd ..); (refine Hold.mk ?_)) | ((with_reducible show wpAny _ _ (call (Value.builtin "str.replace") _) _ _ _); (refine call_unpair (by assumption) ?_; intro t7 k7)) | ((with_reducible show wpAny _ _ (exec (Stmt.While ..) _) _ _ _); ((rename StopIf => sI); clear sI; refine Hold.mk ?_)) | ((with_reducible show wpAny _ _ (eval (Expr.ListComp ..) _) _ _ _); ((rename StopIf => sI); clear sI; refine Hold.mk ?_)) | ((with_reducible show wpAny _ _ (exec (Stmt.If ..) _) _ _ _); ((rename StopIf => sI); clear sI; refine Hold.mk ?_)) | ((with_reducible show wpAny _ _ (call (Value.ref _) _) _ _ _); (show wpAny _ _ (call (Value.ref _) _) _ _ _); refine Hold.mk ?_) | ((with_reducible show wpAny _ _ (PySem.isTrue _ _ _) _ _ _); (k_fold)) | ((with_reducible show wpAny _ _ (execs (_ :: _) _) _ _ _); (k_fold))) | (dsimp only; walk1) | (leave1; walk_say "STEP leave1"; try dsimp only) | fail "no step"))
      · rename ((_ != _) = true) => hb9
        rename News _ _ _ _ => N22
        rename Fr _ _ _ _ => F22
        exact DueSt.of F22 N22 (fun _ h => List.mem_cons_of_mem _ h) (List.mem_cons_self ..) (fun e => by rw [e] at hb9; simp at hb9) (fun _ => ⟨_, _, rfl, rfl⟩) rfl (fun z h1 => by simp [h1])
      · rename ((_ != _) = false) => hb9
        rename News _ _ _ _ => N22
        rename Fr _ _ _ _ => F22
        exact DueSt.of F22 N22 (fun _ h => h) (List.mem_cons_self ..) (fun _ => ⟨rfl, rfl⟩) (fun e => absurd (by simpa using hb9) e) rfl (fun z _ => rfl)
    · clear F20 N20
      obtain ⟨h', tk', m', Du, a1, a2, dn, tlD, rfl, F', N', hsD, hDu, e1, e2, k1, k3⟩ := h
      have F21 := fr_keys [(Str.ofString "due", Value.ref Du), (Str.ofString "broken", Value.str cut.2 tb), (Str.ofString "pieces", Value.ref P'), (Str.ofString "thing", Value.ref A9)] (keys4 k1 ((k3 (Str.ofString "broken") (by decide)).trans rfl) ((k3 (Str.ofString "pieces") (by decide)).trans rfl) ((k3 (Str.ofString "thing") (by decide)).trans rfl)) F'
      clear F' k1 k3
      have hsP : ∀ p ∈ tlC, p ∈ tlD := fun p hp => hsD p (List.mem_cons_of_mem _ (hs6 p (hs5 p hp)))
      dsimp only
      have sI : StopIf := ⟨⟩
      (repeat' (first | (k_unfold; (try dsimp only)) | (k_end; wrow_close) | ((with_reducible show LCt.CompSrcT ..); refine Hold.mk ?_) | ((with_reducible show wpAny _ _ (compareOp CmpOp.Eq (Value.ref _) (Value.ref _)) _ _ _); refine Hold.mk ?_) | ((with_reducible show wpAny _ _ (binaryOp Operator.Add (Value.str _ _) (Value.str _ _)) _ _ _); refine Hold.mk ?_) | ((with_reducible show KswEnd ..); (refine Hold.mk ?_)) | ((with_reducible show wpAny _ _ (call (Value.builtin "str.replace") _) _ _ _); (refine call_unpair (by assumption) ?_; intro t7 k7)) | ((with_reducible show wpAny _ _ (exec (Stmt.While ..) _) _ _ _); ((rename StopIf => sI); clear sI; refine Hold.mk ?_)) | ((with_reducible show wpAny _ _ (eval (Expr.ListComp ..) _) _ _ _); ((rename StopIf => sI); clear sI; refine Hold.mk ?_)) | ((with_reducible show wpAny _ _ (exec (Stmt.If ..) _) _ _ _); ((rename StopIf => sI); clear sI; refine Hold.mk ?_)) | ((with_reducible show wpAny _ _ (call (Value.ref _) _) _ _ _); (show wpAny _ _ (call (Value.ref _) _) _ _ _); refine Hold.mk ?_) | ((with_reducible show wpAny _ _ (PySem.isTrue _ _ _) _ _ _); (k_fold)) | ((with_reducible show wpAny _ _ (execs (_ :: _) _) _ _ _); (k_fold)) | walk1 | (dsimp only; first | ((with_reducible show LCt.CompSrcT ..); refine Hold.mk ?_) | ((with_reducible show wpAny _ _ (compareOp CmpOp.Eq (Value.ref _) (Value.ref _)) _ _ _); refine Hold.mk ?_) | ((with_reducible show wpAny _ _ (binaryOp Operator.Add (Value.str _ _) (Value.str _ _)) _ _ _); refine Hold.mk ?_) | ((with_reducible show KswEnd ..); (refine Hold.mk ?_)) | ((with_reducible show wpAny _ _ (call (Value.builtin "str.replace") _) _ _ _); (refine call_unpair (by assumption) ?_; intro t7 k7)) | ((with_reducible show wpAny _ _ (exec (Stmt.While ..) _) _ _ _); ((rename StopIf => sI); clear sI; refine Hold.mk ?_)) | ((with_reducible show wpAny _ _ (eval (Expr.ListComp ..) _) _ _ _); ((rename StopIf => sI); clear sI; refine Hold.mk ?_)) | ((with_reducible show wpAny _ _ (exec (Stmt.If ..) _) _ _ _); ((rename StopIf => sI); clear sI; refine Hold.mk ?_)) | ((with_reducible show wpAny _ _ (call (Value.ref _) _) _ _ _); (show wpAny _ _ (call (Value.ref _) _) _ _ _); refine Hold.mk ?_) | ((with_reducible show wpAny _ _ (PySem.isTrue _ _ _) _ _ _); (k_fold)) | ((with_reducible show wpAny _ _ (execs (_ :: _) _) _ _ _); (k_fold))) | (dsimp only; walk1) | (leave1; walk_say "STEP leave1"; try dsimp only) | fail "no step"))
      rename News _ _ _ _ => N23
      rename Fr _ _ _ _ => F23
      refine Hold.of (LCt.ListComp_T F23 (by rfl) (by decide) rfl (by decide) rfl ?_)
      (repeat' (first | (k_unfold; (try dsimp only)) | (k_end; wrow_close) | ((with_reducible show LCt.CompSrcT ..); refine Hold.mk ?_) | ((with_reducible show wpAny _ _ (compareOp CmpOp.Eq (Value.ref _) (Value.ref _)) _ _ _); refine Hold.mk ?_) | ((with_reducible show wpAny _ _ (binaryOp Operator.Add (Value.str _ _) (Value.str _ _)) _ _ _); refine Hold.mk ?_) | ((with_reducible show KswEnd ..); (refine Hold.mk ?_)) | ((with_reducible show wpAny _ _ (call (Value.builtin "str.replace") _) _ _ _); (refine call_unpair (by assumption) ?_; intro t7 k7)) | ((with_reducible show wpAny _ _ (exec (Stmt.While ..) _) _ _ _); ((rename StopIf => sI); clear sI; refine Hold.mk ?_)) | ((with_reducible show wpAny _ _ (eval (Expr.ListComp ..) _) _ _ _); ((rename StopIf => sI); clear sI; refine Hold.mk ?_)) | ((with_reducible show wpAny _ _ (exec (Stmt.If ..) _) _ _ _); ((rename StopIf => sI); clear sI; refine Hold.mk ?_)) | ((with_reducible show wpAny _ _ (call (Value.ref _) _) _ _ _); (show wpAny _ _ (call (Value.ref _) _) _ _ _); refine Hold.mk ?_) | ((with_reducible show wpAny _ _ (PySem.isTrue _ _ _) _ _ _); (k_fold)) | ((with_reducible show wpAny _ _ (execs (_ :: _) _) _ _ _); (k_fold)) | walk1 | (dsimp only; first | ((with_reducible show LCt.CompSrcT ..); refine Hold.mk ?_) | ((with_reducible show wpAny _ _ (compareOp CmpOp.Eq (Value.ref _) (Value.ref _)) _ _ _); refine Hold.mk ?_) | ((with_reducible show wpAny _ _ (binaryOp Operator.Add (Value.str _ _) (Value.str _ _)) _ _ _); refine Hold.mk ?_) | ((with_reducible show KswEnd ..); (refine Hold.mk ?_)) | ((with_reducible show wpAny _ _ (call (Value.builtin "str.replace") _) _ _ _); (refine call_unpair (by assumption) ?_; intro t7 k7)) | ((with_reducible show wpAny _ _ (exec (Stmt.While ..) _) _ _ _); ((rename StopIf => sI); clear sI; refine Hold.mk ?_)) | ((with_reducible show wpAny _ _ (eval (Expr.ListComp ..) _) _ _ _); ((rename StopIf => sI); clear sI; refine Hold.mk ?_)) | ((with_reducible show wpAny _ _ (exec (Stmt.If ..) _) _ _ _); ((rename StopIf => sI); clear sI; refine Hold.mk ?_)) | ((with_reducible show wpAny _ _ (call (Value.ref _) _) _ _ _); (show wpAny _ _ (call (Value.ref _) _) _ _ _); refine Hold.mk ?_) | ((with_reducible show wpAny _ _ (PySem.isTrue _ _ _) _ _ _); (k_fold)) | ((with_reducible show wpAny _ _ (execs (_ :: _) _) _ _ _); (k_fold))) | (dsimp only; walk1) | (leave1; walk_say "STEP leave1"; try dsimp only) | fail "no step"))
      have hps' : pvs'.size ≤ 3000 := by have h1 := hPc'.len; have h2 := remP_ge cut.1; rw [Array.length_toList] at h1; (first | lia | omega)
      refine Hold.of (LCt.CompSrcT.ledger rfl F23 N23 (hsP _ hP') (by rw [sizeLine_eq]; (first | lia | omega)) fun g9 => ?_)
      clear F23 N23
      refine compT_ind pvs'.size (fun i ys news => (∀ p ∈ tlD, p ∈ news) ∧ PcsIn news ys ((cut.1.take i).filter (fun q => q.1 != Str.ofString "\""))) ?step ?fin pvs'.size 0 [] _ (Nat.zero_add _) ⟨fun _ h => h, .nil⟩
      case step =>
        rintro i ys news v hi hv ⟨hsub, hst⟩
        obtain ⟨av, mk, pt, tk1, tk2, rfl, hav, hdr⟩ := PcsIn.at hPc' (by simpa using hv)
        have hav2 := hsub _ (hsP _ hav)
        intro I oI C oC D m₂ h9 tk9 E' hC hx F' N' hoff hne3
        refine piece_test hC hx N' (List.Mem.tail _ (List.Mem.head _)) (List.Mem.tail _ (List.Mem.tail _ (List.Mem.tail _ hav2))) fun t9 => ?_
        have et : (cut.1.take (i + 1)).filter (fun q => q.1 != Str.ofString "\"") = (cut.1.take i).filter (fun q => q.1 != Str.ofString "\"") ++ if mk != Str.ofString "\"" then [(mk, pt)] else [] := by
          rw [take_of_drop hdr, List.filter_append]; cases hc9 : (mk != Str.ofString "\"") <;> simp [List.filter, hc9]
        by_cases hm9 : (mk != Str.ofString "\"") = true
        · rw [if_pos hm9]
          rw [if_pos hm9] at et
          refine LCgL.ld_own N' (List.Mem.tail _ (List.Mem.head _)) hC hx ?_
          exact CompEnd.intro F' N' news (fun _ z => z) hoff (.inr ⟨_, hsub _ (hsP _ hP'), rfl, _, rfl⟩) ⟨hsub, by rw [et]; exact PcsIn.snoc hst hav2⟩
        · rw [if_neg hm9]
          rw [if_neg hm9, List.append_nil] at et
          exact CompEnd.intro F' N' news (fun _ z => z) hoff (.inr ⟨_, hsub _ (hsP _ hP'), rfl, _, rfl⟩) ⟨hsub, by rw [et]; exact hst⟩
      case fin =>
        rintro ys news ⟨hsub, hst⟩
        intro D h9 tk9 F' N' hoff
        have hpl9 : cut.1.length = pvs'.size := by have := hPc'.len; rw [Array.length_toList] at this; (first | lia | omega)
        rw [← hpl9, List.take_length] at hst
        (repeat' (first | (k_unfold; (try dsimp only)) | (k_end; wrow_close) | ((with_reducible show LCt.CompSrcT ..); refine Hold.mk ?_) | ((with_reducible show wpAny _ _ (compareOp CmpOp.Eq (Value.ref _) (Value.ref _)) _ _ _); refine Hold.mk ?_) | ((with_reducible show wpAny _ _ (binaryOp Operator.Add (Value.str _ _) (Value.str _ _)) _ _ _); refine Hold.mk ?_) | ((with_reducible show KswEnd ..); (refine Hold.mk ?_)) | ((with_reducible show wpAny _ _ (call (Value.builtin "str.replace") _) _ _ _); (refine call_unpair (by assumption) ?_; intro t7 k7)) | ((with_reducible show wpAny _ _ (exec (Stmt.While ..) _) _ _ _); ((rename StopIf => sI); clear sI; refine Hold.mk ?_)) | ((with_reducible show wpAny _ _ (eval (Expr.ListComp ..) _) _ _ _); ((rename StopIf => sI); clear sI; refine Hold.mk ?_)) | ((with_reducible show wpAny _ _ (exec (Stmt.If ..) _) _ _ _); ((rename StopIf => sI); clear sI; refine Hold.mk ?_)) | ((with_reducible show wpAny _ _ (call (Value.ref _) _) _ _ _); (show wpAny _ _ (call (Value.ref _) _) _ _ _); refine Hold.mk ?_) | ((with_reducible show wpAny _ _ (PySem.isTrue _ _ _) _ _ _); (k_fold)) | ((with_reducible show wpAny _ _ (execs (_ :: _) _) _ _ _); (k_fold)) | walk1 | (dsimp only; first | ((with_reducible show LCt.CompSrcT ..); refine Hold.mk ?_) | ((with_reducible show wpAny _ _ (compareOp CmpOp.Eq (Value.ref _) (Value.ref _)) _ _ _); refine Hold.mk ?_) | ((with_reducible show wpAny _ _ (binaryOp Operator.Add (Value.str _ _) (Value.str _ _)) _ _ _); refine Hold.mk ?_) | ((with_reducible show KswEnd ..); (refine Hold.mk ?_)) | ((with_reducible show wpAny _ _ (call (Value.builtin "str.replace") _) _ _ _); (refine call_unpair (by assumption) ?_; intro t7 k7)) | ((with_reducible show wpAny _ _ (exec (Stmt.While ..) _) _ _ _); ((rename StopIf => sI); clear sI; refine Hold.mk ?_)) | ((with_reducible show wpAny _ _ (eval (Expr.ListComp ..) _) _ _ _); ((rename StopIf => sI); clear sI; refine Hold.mk ?_)) | ((with_reducible show wpAny _ _ (exec (Stmt.If ..) _) _ _ _); ((rename StopIf => sI); clear sI; refine Hold.mk ?_)) | ((with_reducible show wpAny _ _ (call (Value.ref _) _) _ _ _); (show wpAny _ _ (call (Value.ref _) _) _ _ _); refine Hold.mk ?_) | ((with_reducible show wpAny _ _ (PySem.isTrue _ _ _) _ _ _); (k_fold)) | ((with_reducible show wpAny _ _ (execs (_ :: _) _) _ _ _); (k_fold))) | (dsimp only; walk1) | (leave1; walk_say "STEP leave1"; try dsimp only) | fail "no step"))
        rename News _ _ _ _ => N25
        rename Fr _ _ _ _ => F25
        refine Hold.of (c_written K0 F25 KX N25 T rfl (by ktr_room) (by ktr_room) (List.mem_cons_self ..) (hst.mono fun p hp => List.mem_cons_of_mem _ hp) (fun q hq => hCF.sz q (List.mem_filter.mp hq).1) (by have h1 := hst.len; have h2 := List.length_filter_le (fun q : Piece => q.1 != Str.ofString "\"") cut.1; simp only [List.size_toArray]; (first | lia | omega)) fun lt tl7 h8 tk8 hs7 F26 N26 => ?_)
        clear F25 N25
        have sI : StopIf := ⟨⟩
        (repeat' (first | (k_unfold; (try dsimp only)) | (k_end; wrow_close) | ((with_reducible show LCt.CompSrcT ..); refine Hold.mk ?_) | ((with_reducible show wpAny _ _ (compareOp CmpOp.Eq (Value.ref _) (Value.ref _)) _ _ _); refine Hold.mk ?_) | ((with_reducible show wpAny _ _ (binaryOp Operator.Add (Value.str _ _) (Value.str _ _)) _ _ _); refine Hold.mk ?_) | ((with_reducible show KswEnd ..); (refine Hold.mk ?_)) | ((with_reducible show wpAny _ _ (call (Value.builtin "str.replace") _) _ _ _); (refine call_unpair (by assumption) ?_; intro t7 k7)) | ((with_reducible show wpAny _ _ (exec (Stmt.While ..) _) _ _ _); ((rename StopIf => sI); clear sI; refine Hold.mk ?_)) | ((with_reducible show wpAny _ _ (eval (Expr.ListComp ..) _) _ _ _); ((rename StopIf => sI); clear sI; refine Hold.mk ?_)) | ((with_reducible show wpAny _ _ (exec (Stmt.If ..) _) _ _ _); ((rename StopIf => sI); clear sI; refine Hold.mk ?_)) | ((with_reducible show wpAny _ _ (call (Value.ref _) _) _ _ _); (show wpAny _ _ (call (Value.ref _) _) _ _ _); refine Hold.mk ?_) | ((with_reducible show wpAny _ _ (PySem.isTrue _ _ _) _ _ _); (k_fold)) | ((with_reducible show wpAny _ _ (execs (_ :: _) _) _ _ _); (k_fold)) | walk1 | (dsimp only; first | ((with_reducible show LCt.CompSrcT ..); refine Hold.mk ?_) | ((with_reducible show wpAny _ _ (compareOp CmpOp.Eq (Value.ref _) (Value.ref _)) _ _ _); refine Hold.mk ?_) | ((with_reducible show wpAny _ _ (binaryOp Operator.Add (Value.str _ _) (Value.str _ _)) _ _ _); refine Hold.mk ?_) | ((with_reducible show KswEnd ..); (refine Hold.mk ?_)) | ((with_reducible show wpAny _ _ (call (Value.builtin "str.replace") _) _ _ _); (refine call_unpair (by assumption) ?_; intro t7 k7)) | ((with_reducible show wpAny _ _ (exec (Stmt.While ..) _) _ _ _); ((rename StopIf => sI); clear sI; refine Hold.mk ?_)) | ((with_reducible show wpAny _ _ (eval (Expr.ListComp ..) _) _ _ _); ((rename StopIf => sI); clear sI; refine Hold.mk ?_)) | ((with_reducible show wpAny _ _ (exec (Stmt.If ..) _) _ _ _); ((rename StopIf => sI); clear sI; refine Hold.mk ?_)) | ((with_reducible show wpAny _ _ (call (Value.ref _) _) _ _ _); (show wpAny _ _ (call (Value.ref _) _) _ _ _); refine Hold.mk ?_) | ((with_reducible show wpAny _ _ (PySem.isTrue _ _ _) _ _ _); (k_fold)) | ((with_reducible show wpAny _ _ (execs (_ :: _) _) _ _ _); (k_fold))) | (dsimp only; walk1) | (leave1; walk_say "STEP leave1"; try dsimp only) | fail "no step"))
        refine Hold.of ?_
        dsimp only
        refine PyProof.Rows.add_str (fun t9 k9 => ?_) (by rw [sizeLine_eq]; have := hCF.llen; (first | lia | omega))
        have eL : writtenP (cut.1.filter fun q => q.1 != Str.ofString "\"") ++ cut.2 = leftOf cut := rfl
        rw [eL]
        have hLl := hCF.left_len
        generalize hLF : leftOf cut = LF at hLl ⊢
        (repeat' (first | (k_unfold; (try dsimp only)) | (k_end; wrow_close) | ((with_reducible show LCt.CompSrcT ..); refine Hold.mk ?_) | ((with_reducible show wpAny _ _ (compareOp CmpOp.Eq (Value.ref _) (Value.ref _)) _ _ _); refine Hold.mk ?_) | ((with_reducible show wpAny _ _ (binaryOp Operator.Add (Value.str _ _) (Value.str _ _)) _ _ _); refine Hold.mk ?_) | ((with_reducible show KswEnd ..); (refine Hold.mk ?_)) | ((with_reducible show wpAny _ _ (call (Value.builtin "str.replace") _) _ _ _); (refine call_unpair (by assumption) ?_; intro t7 k7)) | ((with_reducible show wpAny _ _ (exec (Stmt.While ..) _) _ _ _); ((rename StopIf => sI); clear sI; refine Hold.mk ?_)) | ((with_reducible show wpAny _ _ (eval (Expr.ListComp ..) _) _ _ _); ((rename StopIf => sI); clear sI; refine Hold.mk ?_)) | ((with_reducible show wpAny _ _ (exec (Stmt.If ..) _) _ _ _); ((rename StopIf => sI); clear sI; refine Hold.mk ?_)) | ((with_reducible show wpAny _ _ (call (Value.ref _) _) _ _ _); (show wpAny _ _ (call (Value.ref _) _) _ _ _); refine Hold.mk ?_) | ((with_reducible show wpAny _ _ (PySem.isTrue _ _ _) _ _ _); (k_fold)) | ((with_reducible show wpAny _ _ (execs (_ :: _) _) _ _ _); (k_fold)) | walk1 | (dsimp only; first | ((with_reducible show LCt.CompSrcT ..); refine Hold.mk ?_) | ((with_reducible show wpAny _ _ (compareOp CmpOp.Eq (Value.ref _) (Value.ref _)) _ _ _); refine Hold.mk ?_) | ((with_reducible show wpAny _ _ (binaryOp Operator.Add (Value.str _ _) (Value.str _ _)) _ _ _); refine Hold.mk ?_) | ((with_reducible show KswEnd ..); (refine Hold.mk ?_)) | ((with_reducible show wpAny _ _ (call (Value.builtin "str.replace") _) _ _ _); (refine call_unpair (by assumption) ?_; intro t7 k7)) | ((with_reducible show wpAny _ _ (exec (Stmt.While ..) _) _ _ _); ((rename StopIf => sI); clear sI; refine Hold.mk ?_)) | ((with_reducible show wpAny _ _ (eval (Expr.ListComp ..) _) _ _ _); ((rename StopIf => sI); clear sI; refine Hold.mk ?_)) | ((with_reducible show wpAny _ _ (exec (Stmt.If ..) _) _ _ _); ((rename StopIf => sI); clear sI; refine Hold.mk ?_)) | ((with_reducible show wpAny _ _ (call (Value.ref _) _) _ _ _); (show wpAny _ _ (call (Value.ref _) _) _ _ _); refine Hold.mk ?_) | ((with_reducible show wpAny _ _ (PySem.isTrue _ _ _) _ _ _); (k_fold)) | ((with_reducible show wpAny _ _ (execs (_ :: _) _) _ _ _); (k_fold))) | (dsimp only; walk1) | (leave1; walk_say "STEP leave1"; try dsimp only) | fail "no step"))
        rename News _ _ _ _ => N27
        rename Fr _ _ _ _ => F27
        refine Hold.of (ListComp_TS F27 (by rfl) (by decide) rfl (by decide) rfl ?_)
        (repeat' (first | (k_unfold; (try dsimp only)) | (k_end; wrow_close) | ((with_reducible show LCt.CompSrcT ..); refine Hold.mk ?_) | ((with_reducible show wpAny _ _ (compareOp CmpOp.Eq (Value.ref _) (Value.ref _)) _ _ _); refine Hold.mk ?_) | ((with_reducible show wpAny _ _ (binaryOp Operator.Add (Value.str _ _) (Value.str _ _)) _ _ _); refine Hold.mk ?_) | ((with_reducible show KswEnd ..); (refine Hold.mk ?_)) | ((with_reducible show wpAny _ _ (call (Value.builtin "str.replace") _) _ _ _); (refine call_unpair (by assumption) ?_; intro t7 k7)) | ((with_reducible show wpAny _ _ (exec (Stmt.While ..) _) _ _ _); ((rename StopIf => sI); clear sI; refine Hold.mk ?_)) | ((with_reducible show wpAny _ _ (eval (Expr.ListComp ..) _) _ _ _); ((rename StopIf => sI); clear sI; refine Hold.mk ?_)) | ((with_reducible show wpAny _ _ (exec (Stmt.If ..) _) _ _ _); ((rename StopIf => sI); clear sI; refine Hold.mk ?_)) | ((with_reducible show wpAny _ _ (call (Value.ref _) _) _ _ _); (show wpAny _ _ (call (Value.ref _) _) _ _ _); refine Hold.mk ?_) | ((with_reducible show wpAny _ _ (PySem.isTrue _ _ _) _ _ _); (k_fold)) | ((with_reducible show wpAny _ _ (execs (_ :: _) _) _ _ _); (k_fold)) | walk1 | (dsimp only; first | ((with_reducible show LCt.CompSrcT ..); refine Hold.mk ?_) | ((with_reducible show wpAny _ _ (compareOp CmpOp.Eq (Value.ref _) (Value.ref _)) _ _ _); refine Hold.mk ?_) | ((with_reducible show wpAny _ _ (binaryOp Operator.Add (Value.str _ _) (Value.str _ _)) _ _ _); refine Hold.mk ?_) | ((with_reducible show KswEnd ..); (refine Hold.mk ?_)) | ((with_reducible show wpAny _ _ (call (Value.builtin "str.replace") _) _ _ _); (refine call_unpair (by assumption) ?_; intro t7 k7)) | ((with_reducible show wpAny _ _ (exec (Stmt.While ..) _) _ _ _); ((rename StopIf => sI); clear sI; refine Hold.mk ?_)) | ((with_reducible show wpAny _ _ (eval (Expr.ListComp ..) _) _ _ _); ((rename StopIf => sI); clear sI; refine Hold.mk ?_)) | ((with_reducible show wpAny _ _ (exec (Stmt.If ..) _) _ _ _); ((rename StopIf => sI); clear sI; refine Hold.mk ?_)) | ((with_reducible show wpAny _ _ (call (Value.ref _) _) _ _ _); (show wpAny _ _ (call (Value.ref _) _) _ _ _); refine Hold.mk ?_) | ((with_reducible show wpAny _ _ (PySem.isTrue _ _ _) _ _ _); (k_fold)) | ((with_reducible show wpAny _ _ (execs (_ :: _) _) _ _ _); (k_fold))) | (dsimp only; walk1) | (leave1; walk_say "STEP leave1"; try dsimp only) | fail "no step"))
        refine ⟨LF, _, _, rfl, rfl, F27, N27, (show LF.length ≤ sizeLine by rw [sizeLine_eq]; (first | lia | omega)), fun g9 => ?_⟩
        clear F27 N27
        refine compT_ind LF.cps.size (fun i ys news => (∀ p ∈ tl7, p ∈ news) ∧ StrsAre ys (signsOf (LF.cps.toList.take i))) ?step2 ?fin2 LF.cps.size 0 [] _ (Nat.zero_add _) ⟨fun _ h => h, .nil⟩
        case step2 =>
          rintro i ys news v hi ⟨c, u, hc, rfl⟩ ⟨hsub9, hst9⟩
          intro I oI C oC D9 m₂ h9 tk9 E' hC hx F' N' hoff hne3
          refine sign_test hC hx N' (List.Mem.tail _ (List.Mem.head _)) fun t9 => ?_
          have et := signs_snoc (LF.cps.toList.take i) c
          rw [← take_cp hc] at et
          by_cases hm9 : inPar c = true
          · rw [if_pos hm9]
            rw [if_pos hm9] at et
            refine LCgL.ld_own N' (List.Mem.tail _ (List.Mem.head _)) hC hx ?_
            exact CompEnd.intro F' N' news (fun _ z => z) hoff trivial ⟨hsub9, by rw [et]; exact StrsAre.snoc hst9 _ _⟩
          · rw [if_neg hm9]
            rw [if_neg hm9] at et
            exact CompEnd.intro F' N' news (fun _ z => z) hoff trivial ⟨hsub9, by rw [et]; exact hst9⟩
        case fin2 =>
          rintro ys news ⟨hsub9, hst9⟩
          intro D9 h9 tk9 F' N' hoff
          have hst8 : StrsAre ys (signsOf LF.cps.toList) := by rw [show LF.cps.size = LF.cps.toList.length from Array.length_toList.symm, List.take_length] at hst9; exact hst9
          iterate 1 (first | (k_unfold; (try dsimp only)) | ((with_reducible show LCt.CompSrcT ..); refine Hold.mk ?_) | ((with_reducible show wpAny _ _ (compareOp CmpOp.Eq (Value.ref _) (Value.ref _)) _ _ _); refine Hold.mk ?_) | ((with_reducible show wpAny _ _ (binaryOp Operator.Add (Value.str _ _) (Value.str _ _)) _ _ _); refine Hold.mk ?_) | ((with_reducible show KswEnd ..); (refine Hold.mk ?_)) | ((with_reducible show wpAny _ _ (call (Value.builtin "str.replace") _) _ _ _); (refine call_unpair (by assumption) ?_; intro t7 k7)) | ((with_reducible show wpAny _ _ (exec (Stmt.While ..) _) _ _ _); ((rename StopIf => sI); clear sI; refine Hold.mk ?_)) | ((with_reducible show wpAny _ _ (eval (Expr.ListComp ..) _) _ _ _); ((rename StopIf => sI); clear sI; refine Hold.mk ?_)) | ((with_reducible show wpAny _ _ (exec (Stmt.If ..) _) _ _ _); ((rename StopIf => sI); clear sI; refine Hold.mk ?_)) | ((with_reducible show wpAny _ _ (call (Value.ref _) _) _ _ _); (show wpAny _ _ (call (Value.ref _) _) _ _ _); refine Hold.mk ?_) | ((with_reducible show wpAny _ _ (PySem.isTrue _ _ _) _ _ _); (k_fold)) | ((with_reducible show wpAny _ _ (execs (_ :: _) _) _ _ _); (k_fold)) | walk1 | (dsimp only; first | ((with_reducible show LCt.CompSrcT ..); refine Hold.mk ?_) | ((with_reducible show wpAny _ _ (compareOp CmpOp.Eq (Value.ref _) (Value.ref _)) _ _ _); refine Hold.mk ?_) | ((with_reducible show wpAny _ _ (binaryOp Operator.Add (Value.str _ _) (Value.str _ _)) _ _ _); refine Hold.mk ?_) | ((with_reducible show KswEnd ..); (refine Hold.mk ?_)) | ((with_reducible show wpAny _ _ (call (Value.builtin "str.replace") _) _ _ _); (refine call_unpair (by assumption) ?_; intro t7 k7)) | ((with_reducible show wpAny _ _ (exec (Stmt.While ..) _) _ _ _); ((rename StopIf => sI); clear sI; refine Hold.mk ?_)) | ((with_reducible show wpAny _ _ (eval (Expr.ListComp ..) _) _ _ _); ((rename StopIf => sI); clear sI; refine Hold.mk ?_)) | ((with_reducible show wpAny _ _ (exec (Stmt.If ..) _) _ _ _); ((rename StopIf => sI); clear sI; refine Hold.mk ?_)) | ((with_reducible show wpAny _ _ (call (Value.ref _) _) _ _ _); (show wpAny _ _ (call (Value.ref _) _) _ _ _); refine Hold.mk ?_) | ((with_reducible show wpAny _ _ (PySem.isTrue _ _ _) _ _ _); (k_fold)) | ((with_reducible show wpAny _ _ (execs (_ :: _) _) _ _ _); (k_fold))) | (dsimp only; walk1))
          refine join_list (News.isList N' (List.Mem.head _)) hst8 (signs_ok hLl) fun t8 k8 => ?_
          have eG := signs_join LF.cps.toList
          generalize Txt.join (Str.ofString "") (signsOf LF.cps.toList) = G at eG ⊢
          have hG1 : Pars G.cps.toList := by rw [eG]; intro c hc; have := (List.mem_filter.mp hc).2; simpa [inPar] using this
          have hG2 : bst G.cps.toList 0 = bst LF.cps.toList 0 := by rw [eG]; exact bst_filter _ _
          have hG3 : G.length ≤ 95 := by have h1 : G.cps.toList.length ≤ LF.cps.toList.length := by { rw [eG]; exact List.length_filter_le .. }; rw [Array.length_toList, Array.length_toList] at h1; exact Nat.le_trans h1 hLl
          clear eG
          have sI : StopIf := ⟨⟩
          (repeat' (first | (k_unfold; (try dsimp only)) | (k_end; wrow_close) | ((with_reducible show LCt.CompSrcT ..); refine Hold.mk ?_) | ((with_reducible show wpAny _ _ (compareOp CmpOp.Eq (Value.ref _) (Value.ref _)) _ _ _); refine Hold.mk ?_) | ((with_reducible show wpAny _ _ (binaryOp Operator.Add (Value.str _ _) (Value.str _ _)) _ _ _); refine Hold.mk ?_) | ((with_reducible show KswEnd ..); (refine Hold.mk ?_)) | ((with_reducible show wpAny _ _ (call (Value.builtin "str.replace") _) _ _ _); (refine call_unpair (by assumption) ?_; intro t7 k7)) | ((with_reducible show wpAny _ _ (exec (Stmt.While ..) _) _ _ _); ((rename StopIf => sI); clear sI; refine Hold.mk ?_)) | ((with_reducible show wpAny _ _ (eval (Expr.ListComp ..) _) _ _ _); ((rename StopIf => sI); clear sI; refine Hold.mk ?_)) | ((with_reducible show wpAny _ _ (exec (Stmt.If ..) _) _ _ _); ((rename StopIf => sI); clear sI; refine Hold.mk ?_)) | ((with_reducible show wpAny _ _ (call (Value.ref _) _) _ _ _); (show wpAny _ _ (call (Value.ref _) _) _ _ _); refine Hold.mk ?_) | ((with_reducible show wpAny _ _ (PySem.isTrue _ _ _) _ _ _); (k_fold)) | ((with_reducible show wpAny _ _ (execs (_ :: _) _) _ _ _); (k_fold)) | walk1 | (dsimp only; first | ((with_reducible show LCt.CompSrcT ..); refine Hold.mk ?_) | ((with_reducible show wpAny _ _ (compareOp CmpOp.Eq (Value.ref _) (Value.ref _)) _ _ _); refine Hold.mk ?_) | ((with_reducible show wpAny _ _ (binaryOp Operator.Add (Value.str _ _) (Value.str _ _)) _ _ _); refine Hold.mk ?_) | ((with_reducible show KswEnd ..); (refine Hold.mk ?_)) | ((with_reducible show wpAny _ _ (call (Value.builtin "str.replace") _) _ _ _); (refine call_unpair (by assumption) ?_; intro t7 k7)) | ((with_reducible show wpAny _ _ (exec (Stmt.While ..) _) _ _ _); ((rename StopIf => sI); clear sI; refine Hold.mk ?_)) | ((with_reducible show wpAny _ _ (eval (Expr.ListComp ..) _) _ _ _); ((rename StopIf => sI); clear sI; refine Hold.mk ?_)) | ((with_reducible show wpAny _ _ (exec (Stmt.If ..) _) _ _ _); ((rename StopIf => sI); clear sI; refine Hold.mk ?_)) | ((with_reducible show wpAny _ _ (call (Value.ref _) _) _ _ _); (show wpAny _ _ (call (Value.ref _) _) _ _ _); refine Hold.mk ?_) | ((with_reducible show wpAny _ _ (PySem.isTrue _ _ _) _ _ _); (k_fold)) | ((with_reducible show wpAny _ _ (execs (_ :: _) _) _ _ _); (k_fold))) | (dsimp only; walk1) | (leave1; walk_say "STEP leave1"; try dsimp only) | fail "no step"))
          rename News _ _ _ _ => N28
          rename Fr _ _ _ _ => F28
          obtain ⟨tlw, N29, hs8⟩ : ∃ tlw, News _ _ _ tlw ∧ ∀ p ∈ tl7, p ∈ tlw := ⟨_, N28, fun p hp => List.mem_cons_of_mem _ (hsub9 p hp)⟩
          clear N28
          refine Hold.of (ksw_while (σ := Str × Nat) (fun _ => tlw) (fun c => [(Str.ofString "signs", Value.str c.1 c.2)]) (fun _ => True) [] (fun c => Pars c.1.cps.toList ∧ bst c.1.cps.toList 0 = bst LF.cps.toList 0 ∧ c.1.length ≤ 95) (fun c => c.1.length) (G, t8) F28 N29 trivial ?hk3 ⟨hG1, hG2, hG3⟩ ?turn3)
          case hk3 =>
            intro p hp
            rw [List.mem_singleton.mp hp]; rfl
          case turn3 =>
            clear F28 N29
            rintro ⟨g, tg⟩ u h tk - ⟨hp1, hp2, hp3⟩ F' N'
            dsimp only at hp1 hp2 hp3 F'
            iterate 7 (first | (k_unfold; (try dsimp only)) | ((with_reducible show LCt.CompSrcT ..); refine Hold.mk ?_) | ((with_reducible show wpAny _ _ (compareOp CmpOp.Eq (Value.ref _) (Value.ref _)) _ _ _); refine Hold.mk ?_) | ((with_reducible show wpAny _ _ (binaryOp Operator.Add (Value.str _ _) (Value.str _ _)) _ _ _); refine Hold.mk ?_) | ((with_reducible show KswEnd ..); (refine Hold.mk ?_)) | ((with_reducible show wpAny _ _ (call (Value.builtin "str.replace") _) _ _ _); (refine call_unpair (by assumption) ?_; intro t7 k7)) | ((with_reducible show wpAny _ _ (exec (Stmt.While ..) _) _ _ _); ((rename StopIf => sI); clear sI; refine Hold.mk ?_)) | ((with_reducible show wpAny _ _ (eval (Expr.ListComp ..) _) _ _ _); ((rename StopIf => sI); clear sI; refine Hold.mk ?_)) | ((with_reducible show wpAny _ _ (exec (Stmt.If ..) _) _ _ _); ((rename StopIf => sI); clear sI; refine Hold.mk ?_)) | ((with_reducible show wpAny _ _ (call (Value.ref _) _) _ _ _); (show wpAny _ _ (call (Value.ref _) _) _ _ _); refine Hold.mk ?_) | ((with_reducible show wpAny _ _ (PySem.isTrue _ _ _) _ _ _); (k_fold)) | ((with_reducible show wpAny _ _ (execs (_ :: _) _) _ _ _); (k_fold)) | walk1 | (dsimp only; first | ((with_reducible show LCt.CompSrcT ..); refine Hold.mk ?_) | ((with_reducible show wpAny _ _ (compareOp CmpOp.Eq (Value.ref _) (Value.ref _)) _ _ _); refine Hold.mk ?_) | ((with_reducible show wpAny _ _ (binaryOp Operator.Add (Value.str _ _) (Value.str _ _)) _ _ _); refine Hold.mk ?_) | ((with_reducible show KswEnd ..); (refine Hold.mk ?_)) | ((with_reducible show wpAny _ _ (call (Value.builtin "str.replace") _) _ _ _); (refine call_unpair (by assumption) ?_; intro t7 k7)) | ((with_reducible show wpAny _ _ (exec (Stmt.While ..) _) _ _ _); ((rename StopIf => sI); clear sI; refine Hold.mk ?_)) | ((with_reducible show wpAny _ _ (eval (Expr.ListComp ..) _) _ _ _); ((rename StopIf => sI); clear sI; refine Hold.mk ?_)) | ((with_reducible show wpAny _ _ (exec (Stmt.If ..) _) _ _ _); ((rename StopIf => sI); clear sI; refine Hold.mk ?_)) | ((with_reducible show wpAny _ _ (call (Value.ref _) _) _ _ _); (show wpAny _ _ (call (Value.ref _) _) _ _ _); refine Hold.mk ?_) | ((with_reducible show wpAny _ _ (PySem.isTrue _ _ _) _ _ _); (k_fold)) | ((with_reducible show wpAny _ _ (execs (_ :: _) _) _ _ _); (k_fold))) | (dsimp only; walk1))
            cases hoc : (!(Builtin.Str.occurrences g (Str.ofString "()") 0 g.length 1).isEmpty) with
            | true =>
              rw [if_pos rfl]
              try dsimp only
              refine wpAny_execs_cons ?_
              (repeat' (first | (k_unfold; (try dsimp only)) | (k_end; wrow_close) | ((with_reducible show LCt.CompSrcT ..); refine Hold.mk ?_) | ((with_reducible show wpAny _ _ (compareOp CmpOp.Eq (Value.ref _) (Value.ref _)) _ _ _); refine Hold.mk ?_) | ((with_reducible show wpAny _ _ (binaryOp Operator.Add (Value.str _ _) (Value.str _ _)) _ _ _); refine Hold.mk ?_) | ((with_reducible show KswEnd ..); (refine Hold.mk ?_)) | ((with_reducible show wpAny _ _ (call (Value.builtin "str.replace") _) _ _ _); (refine call_unpair (by assumption) ?_; intro t7 k7)) | ((with_reducible show wpAny _ _ (exec (Stmt.While ..) _) _ _ _); ((rename StopIf => sI); clear sI; refine Hold.mk ?_)) | ((with_reducible show wpAny _ _ (eval (Expr.ListComp ..) _) _ _ _); ((rename StopIf => sI); clear sI; refine Hold.mk ?_)) | ((with_reducible show wpAny _ _ (exec (Stmt.If ..) _) _ _ _); ((rename StopIf => sI); clear sI; refine Hold.mk ?_)) | ((with_reducible show wpAny _ _ (call (Value.ref _) _) _ _ _); (show wpAny _ _ (call (Value.ref _) _) _ _ _); refine Hold.mk ?_) | ((with_reducible show wpAny _ _ (PySem.isTrue _ _ _) _ _ _); (k_fold)) | ((with_reducible show wpAny _ _ (execs (_ :: _) _) _ _ _); (k_fold)) | walk1 | (dsimp only; first | ((with_reducible show LCt.CompSrcT ..); refine Hold.mk ?_) | ((with_reducible show wpAny _ _ (compareOp CmpOp.Eq (Value.ref _) (Value.ref _)) _ _ _); refine Hold.mk ?_) | ((with_reducible show wpAny _ _ (binaryOp Operator.Add (Value.str _ _) (Value.str _ _)) _ _ _); refine Hold.mk ?_) | ((with_reducible show KswEnd ..); (refine Hold.mk ?_)) | ((with_reducible show wpAny _ _ (call (Value.builtin "str.replace") _) _ _ _); (refine call_unpair (by assumption) ?_; intro t7 k7)) | ((with_reducible show wpAny _ _ (exec (Stmt.While ..) _) _ _ _); ((rename StopIf => sI); clear sI; refine Hold.mk ?_)) | ((with_reducible show wpAny _ _ (eval (Expr.ListComp ..) _) _ _ _); ((rename StopIf => sI); clear sI; refine Hold.mk ?_)) | ((with_reducible show wpAny _ _ (exec (Stmt.If ..) _) _ _ _); ((rename StopIf => sI); clear sI; refine Hold.mk ?_)) | ((with_reducible show wpAny _ _ (call (Value.ref _) _) _ _ _); (show wpAny _ _ (call (Value.ref _) _) _ _ _); refine Hold.mk ?_) | ((with_reducible show wpAny _ _ (PySem.isTrue _ _ _) _ _ _); (k_fold)) | ((with_reducible show wpAny _ _ (execs (_ :: _) _) _ _ _); (k_fold))) | (dsimp only; walk1) | (leave1; walk_say "STEP leave1"; try dsimp only) | fail "no step"))
              rename News _ _ _ _ => kN9
              rename Fr _ _ _ _ => kF9
              refine Hold.of ?_
              refine' ksw_end (unpair g, _) kF9 kN9 (fun p h => h) trivial ?h1 ?h2 ⟨?h3, ?h4, ?h5⟩ ?h6
              case h1 => (intro p hp; rw [List.mem_singleton.mp hp]; exact rfl)
              case h2 => (intro z h1 _; (have h2 : z ≠ Str.ofString "signs" := h1 _ (List.mem_cons_self ..)); simp [kstB, h2])
              case h3 => exact fun c hc => hp1 c (unpair_mem hoc hc)
              case h4 => exact (unpair_bst hoc).trans hp2
              case h5 => exact Nat.le_trans (Nat.le_of_lt (unpair_len hoc)) hp3
              case h6 => exact unpair_len hoc
            | false =>
              rw [if_neg (by decide)]
              clear hp3
              have hb8 := bst_left hp1 hoc
              rw [hp2] at hb8
              clear hoc hp1 hp2
              (repeat' (first | (k_unfold; (try dsimp only)) | (k_end; wrow_close) | ((with_reducible show LCt.CompSrcT ..); refine Hold.mk ?_) | ((with_reducible show wpAny _ _ (compareOp CmpOp.Eq (Value.ref _) (Value.ref _)) _ _ _); refine Hold.mk ?_) | ((with_reducible show wpAny _ _ (binaryOp Operator.Add (Value.str _ _) (Value.str _ _)) _ _ _); refine Hold.mk ?_) | ((with_reducible show KswEnd ..); (refine Hold.mk ?_)) | ((with_reducible show wpAny _ _ (call (Value.builtin "str.replace") _) _ _ _); (refine call_unpair (by assumption) ?_; intro t7 k7)) | ((with_reducible show wpAny _ _ (exec (Stmt.While ..) _) _ _ _); ((rename StopIf => sI); clear sI; refine Hold.mk ?_)) | ((with_reducible show wpAny _ _ (eval (Expr.ListComp ..) _) _ _ _); ((rename StopIf => sI); clear sI; refine Hold.mk ?_)) | ((with_reducible show wpAny _ _ (exec (Stmt.If ..) _) _ _ _); ((rename StopIf => sI); clear sI; refine Hold.mk ?_)) | ((with_reducible show wpAny _ _ (call (Value.ref _) _) _ _ _); (show wpAny _ _ (call (Value.ref _) _) _ _ _); refine Hold.mk ?_) | ((with_reducible show wpAny _ _ (PySem.isTrue _ _ _) _ _ _); (k_fold)) | ((with_reducible show wpAny _ _ (execs (_ :: _) _) _ _ _); (k_fold)) | walk1 | (dsimp only; first | ((with_reducible show LCt.CompSrcT ..); refine Hold.mk ?_) | ((with_reducible show wpAny _ _ (compareOp CmpOp.Eq (Value.ref _) (Value.ref _)) _ _ _); refine Hold.mk ?_) | ((with_reducible show wpAny _ _ (binaryOp Operator.Add (Value.str _ _) (Value.str _ _)) _ _ _); refine Hold.mk ?_) | ((with_reducible show KswEnd ..); (refine Hold.mk ?_)) | ((with_reducible show wpAny _ _ (call (Value.builtin "str.replace") _) _ _ _); (refine call_unpair (by assumption) ?_; intro t7 k7)) | ((with_reducible show wpAny _ _ (exec (Stmt.While ..) _) _ _ _); ((rename StopIf => sI); clear sI; refine Hold.mk ?_)) | ((with_reducible show wpAny _ _ (eval (Expr.ListComp ..) _) _ _ _); ((rename StopIf => sI); clear sI; refine Hold.mk ?_)) | ((with_reducible show wpAny _ _ (exec (Stmt.If ..) _) _ _ _); ((rename StopIf => sI); clear sI; refine Hold.mk ?_)) | ((with_reducible show wpAny _ _ (call (Value.ref _) _) _ _ _); (show wpAny _ _ (call (Value.ref _) _) _ _ _); refine Hold.mk ?_) | ((with_reducible show wpAny _ _ (PySem.isTrue _ _ _) _ _ _); (k_fold)) | ((with_reducible show wpAny _ _ (execs (_ :: _) _) _ _ _); (k_fold))) | (dsimp only; walk1) | (leave1; walk_say "STEP leave1"; try dsimp only) | fail "no step"))
              have hsW : ∀ p ∈ tlD, p ∈ tlw := fun p hp => hs8 p (hs7 p (List.mem_cons_of_mem _ (hsub p hp)))
              rename News _ _ _ _ => N31
              rename Fr _ _ _ _ => F31
              obtain ⟨as8, hrd8⟩ := th_reads N31 (hTh.mono fun p hp => hsW p (hsP p (hsC p (hs4 p (List.mem_append_right _ (List.mem_append_left _ hp))))))
              refine Hold.of (c_safe_repr (b := true) (below_push K0 F31 rfl) (KX.keeps F31.keep) (T.keeps F31.keep) (by show 1 + claimMargin + 1 + 300 < recursionLimit; decide) (by show (4 + 3 : Nat) + 1000 < cLine; (have hc9 := cLine_is); (first | lia | omega)) hrd8 (data_showable _ hw) (data_nodict _) (by rw [data_depth]; (first | lia | omega)) (by rw [shown_written hw]; have := written_len hpg; (first | lia | omega)) fun h10 tk10 t10 keep10 => ?_)
              have F32 := Fr.keeps F31 keep10
              have N32 := N31.keepsAll keep10
              clear F31 N31 hrd8
              rw [shown_written hw, hW9]
              try dsimp only at F32 N32
              have hS1 := hCF.whole
              have hS2 := hCF.strip
              have hS3 := hCF.noS
              have hS4 := hCF.outS
              have hS5 := hCF.len
              have hS6 := hCF.okS
              generalize hS9 : shortOf true W = S at F32 N32 hS1 hS2 hS3 hS4 hS5 hS6 ⊢
              have hSS : (S != S) = false := by simp
              (repeat' (first | (k_unfold; (try dsimp only)) | (k_end; wrow_close) | ((with_reducible show LCt.CompSrcT ..); refine Hold.mk ?_) | ((with_reducible show wpAny _ _ (compareOp CmpOp.Eq (Value.ref _) (Value.ref _)) _ _ _); refine Hold.mk ?_) | ((with_reducible show wpAny _ _ (binaryOp Operator.Add (Value.str _ _) (Value.str _ _)) _ _ _); refine Hold.mk ?_) | ((with_reducible show KswEnd ..); (refine Hold.mk ?_)) | ((with_reducible show wpAny _ _ (call (Value.builtin "str.replace") _) _ _ _); (refine call_unpair (by assumption) ?_; intro t7 k7)) | ((with_reducible show wpAny _ _ (exec (Stmt.While ..) _) _ _ _); ((rename StopIf => sI); clear sI; refine Hold.mk ?_)) | ((with_reducible show wpAny _ _ (eval (Expr.ListComp ..) _) _ _ _); ((rename StopIf => sI); clear sI; refine Hold.mk ?_)) | ((with_reducible show wpAny _ _ (exec (Stmt.If ..) _) _ _ _); ((rename StopIf => sI); clear sI; refine Hold.mk ?_)) | ((with_reducible show wpAny _ _ (call (Value.ref _) _) _ _ _); (show wpAny _ _ (call (Value.ref _) _) _ _ _); refine Hold.mk ?_) | ((with_reducible show wpAny _ _ (PySem.isTrue _ _ _) _ _ _); (k_fold)) | ((with_reducible show wpAny _ _ (execs (_ :: _) _) _ _ _); (k_fold)) | walk1 | (dsimp only; first | ((with_reducible show LCt.CompSrcT ..); refine Hold.mk ?_) | ((with_reducible show wpAny _ _ (compareOp CmpOp.Eq (Value.ref _) (Value.ref _)) _ _ _); refine Hold.mk ?_) | ((with_reducible show wpAny _ _ (binaryOp Operator.Add (Value.str _ _) (Value.str _ _)) _ _ _); refine Hold.mk ?_) | ((with_reducible show KswEnd ..); (refine Hold.mk ?_)) | ((with_reducible show wpAny _ _ (call (Value.builtin "str.replace") _) _ _ _); (refine call_unpair (by assumption) ?_; intro t7 k7)) | ((with_reducible show wpAny _ _ (exec (Stmt.While ..) _) _ _ _); ((rename StopIf => sI); clear sI; refine Hold.mk ?_)) | ((with_reducible show wpAny _ _ (eval (Expr.ListComp ..) _) _ _ _); ((rename StopIf => sI); clear sI; refine Hold.mk ?_)) | ((with_reducible show wpAny _ _ (exec (Stmt.If ..) _) _ _ _); ((rename StopIf => sI); clear sI; refine Hold.mk ?_)) | ((with_reducible show wpAny _ _ (call (Value.ref _) _) _ _ _); (show wpAny _ _ (call (Value.ref _) _) _ _ _); refine Hold.mk ?_) | ((with_reducible show wpAny _ _ (PySem.isTrue _ _ _) _ _ _); (k_fold)) | ((with_reducible show wpAny _ _ (execs (_ :: _) _) _ _ _); (k_fold))) | (dsimp only; walk1) | (leave1; walk_say "STEP leave1"; try dsimp only) | fail "no step"))
              rename News _ _ _ _ => N33
              rename Fr _ _ _ _ => F33
              refine Hold.of (c_written K0 F33 KX N33 T rfl (by ktr_room) (by ktr_room) (hsW _ (hsP _ hP')) (hPc'.mono fun p hp => hsW p (hsP p hp)) hCF.sz (by have h1 := hPc'.len; have h2 := remP_ge cut.1; rw [Array.length_toList] at h1; (first | lia | omega)) fun wt2 tlx h11 tk11 hsX F34 N34 => ?_)
              clear F33 N33
              (repeat' (first | (k_unfold; (try dsimp only)) | (k_end; wrow_close) | ((with_reducible show LCt.CompSrcT ..); refine Hold.mk ?_) | ((with_reducible show wpAny _ _ (compareOp CmpOp.Eq (Value.ref _) (Value.ref _)) _ _ _); refine Hold.mk ?_) | ((with_reducible show wpAny _ _ (binaryOp Operator.Add (Value.str _ _) (Value.str _ _)) _ _ _); refine Hold.mk ?_) | ((with_reducible show KswEnd ..); (refine Hold.mk ?_)) | ((with_reducible show wpAny _ _ (call (Value.builtin "str.replace") _) _ _ _); (refine call_unpair (by assumption) ?_; intro t7 k7)) | ((with_reducible show wpAny _ _ (exec (Stmt.While ..) _) _ _ _); ((rename StopIf => sI); clear sI; refine Hold.mk ?_)) | ((with_reducible show wpAny _ _ (eval (Expr.ListComp ..) _) _ _ _); ((rename StopIf => sI); clear sI; refine Hold.mk ?_)) | ((with_reducible show wpAny _ _ (exec (Stmt.If ..) _) _ _ _); ((rename StopIf => sI); clear sI; refine Hold.mk ?_)) | ((with_reducible show wpAny _ _ (call (Value.ref _) _) _ _ _); (show wpAny _ _ (call (Value.ref _) _) _ _ _); refine Hold.mk ?_) | ((with_reducible show wpAny _ _ (PySem.isTrue _ _ _) _ _ _); (k_fold)) | ((with_reducible show wpAny _ _ (execs (_ :: _) _) _ _ _); (k_fold)) | walk1 | (dsimp only; first | ((with_reducible show LCt.CompSrcT ..); refine Hold.mk ?_) | ((with_reducible show wpAny _ _ (compareOp CmpOp.Eq (Value.ref _) (Value.ref _)) _ _ _); refine Hold.mk ?_) | ((with_reducible show wpAny _ _ (binaryOp Operator.Add (Value.str _ _) (Value.str _ _)) _ _ _); refine Hold.mk ?_) | ((with_reducible show KswEnd ..); (refine Hold.mk ?_)) | ((with_reducible show wpAny _ _ (call (Value.builtin "str.replace") _) _ _ _); (refine call_unpair (by assumption) ?_; intro t7 k7)) | ((with_reducible show wpAny _ _ (exec (Stmt.While ..) _) _ _ _); ((rename StopIf => sI); clear sI; refine Hold.mk ?_)) | ((with_reducible show wpAny _ _ (eval (Expr.ListComp ..) _) _ _ _); ((rename StopIf => sI); clear sI; refine Hold.mk ?_)) | ((with_reducible show wpAny _ _ (exec (Stmt.If ..) _) _ _ _); ((rename StopIf => sI); clear sI; refine Hold.mk ?_)) | ((with_reducible show wpAny _ _ (call (Value.ref _) _) _ _ _); (show wpAny _ _ (call (Value.ref _) _) _ _ _); refine Hold.mk ?_) | ((with_reducible show wpAny _ _ (PySem.isTrue _ _ _) _ _ _); (k_fold)) | ((with_reducible show wpAny _ _ (execs (_ :: _) _) _ _ _); (k_fold))) | (dsimp only; walk1) | (leave1; walk_say "STEP leave1"; try dsimp only) | fail "no step"))
              refine Hold.of ?_
              try dsimp only
              refine PyProof.Rows.add_str (fun t12 k12 => ?_) (by rw [sizeLine_eq]; have := hCF.wlen; (first | lia | omega))
              rw [hS1]
              (repeat' (first | (k_unfold; (try dsimp only)) | (k_end; wrow_close) | ((with_reducible show LCt.CompSrcT ..); refine Hold.mk ?_) | ((with_reducible show wpAny _ _ (compareOp CmpOp.Eq (Value.ref _) (Value.ref _)) _ _ _); refine Hold.mk ?_) | ((with_reducible show wpAny _ _ (binaryOp Operator.Add (Value.str _ _) (Value.str _ _)) _ _ _); refine Hold.mk ?_) | ((with_reducible show KswEnd ..); (refine Hold.mk ?_)) | ((with_reducible show wpAny _ _ (call (Value.builtin "str.replace") _) _ _ _); (refine call_unpair (by assumption) ?_; intro t7 k7)) | ((with_reducible show wpAny _ _ (exec (Stmt.While ..) _) _ _ _); ((rename StopIf => sI); clear sI; refine Hold.mk ?_)) | ((with_reducible show wpAny _ _ (eval (Expr.ListComp ..) _) _ _ _); ((rename StopIf => sI); clear sI; refine Hold.mk ?_)) | ((with_reducible show wpAny _ _ (exec (Stmt.If ..) _) _ _ _); ((rename StopIf => sI); clear sI; refine Hold.mk ?_)) | ((with_reducible show wpAny _ _ (call (Value.ref _) _) _ _ _); (show wpAny _ _ (call (Value.ref _) _) _ _ _); refine Hold.mk ?_) | ((with_reducible show wpAny _ _ (PySem.isTrue _ _ _) _ _ _); (k_fold)) | ((with_reducible show wpAny _ _ (execs (_ :: _) _) _ _ _); (k_fold)) | walk1 | (dsimp only; first | ((with_reducible show LCt.CompSrcT ..); refine Hold.mk ?_) | ((with_reducible show wpAny _ _ (compareOp CmpOp.Eq (Value.ref _) (Value.ref _)) _ _ _); refine Hold.mk ?_) | ((with_reducible show wpAny _ _ (binaryOp Operator.Add (Value.str _ _) (Value.str _ _)) _ _ _); refine Hold.mk ?_) | ((with_reducible show KswEnd ..); (refine Hold.mk ?_)) | ((with_reducible show wpAny _ _ (call (Value.builtin "str.replace") _) _ _ _); (refine call_unpair (by assumption) ?_; intro t7 k7)) | ((with_reducible show wpAny _ _ (exec (Stmt.While ..) _) _ _ _); ((rename StopIf => sI); clear sI; refine Hold.mk ?_)) | ((with_reducible show wpAny _ _ (eval (Expr.ListComp ..) _) _ _ _); ((rename StopIf => sI); clear sI; refine Hold.mk ?_)) | ((with_reducible show wpAny _ _ (exec (Stmt.If ..) _) _ _ _); ((rename StopIf => sI); clear sI; refine Hold.mk ?_)) | ((with_reducible show wpAny _ _ (call (Value.ref _) _) _ _ _); (show wpAny _ _ (call (Value.ref _) _) _ _ _); refine Hold.mk ?_) | ((with_reducible show wpAny _ _ (PySem.isTrue _ _ _) _ _ _); (k_fold)) | ((with_reducible show wpAny _ _ (execs (_ :: _) _) _ _ _); (k_fold))) | (dsimp only; walk1) | (leave1; walk_say "STEP leave1"; try dsimp only) | fail "no step"))
              rename News _ _ _ _ => N35
              rename Fr _ _ _ _ => F35
              have hbare : AllBare s₁.gens := by rw [hg]; exact AllBare.empty
              have hLL : (LF != LF) = false := by simp
              refine Hold.of (c_strip K0 F35 KX N35 T rfl (by ktr_room) (by ktr_room) hS3 (by (first | lia | omega)) hbare fun t13 h12 tk12 gs12 hb12 F36 N36 => ?_)
              clear F35 N35
              rw [hS2, hLF]
              (repeat' (first | (k_unfold; (try dsimp only)) | (k_end; wrow_close) | ((with_reducible show LCt.CompSrcT ..); refine Hold.mk ?_) | ((with_reducible show wpAny _ _ (compareOp CmpOp.Eq (Value.ref _) (Value.ref _)) _ _ _); refine Hold.mk ?_) | ((with_reducible show wpAny _ _ (binaryOp Operator.Add (Value.str _ _) (Value.str _ _)) _ _ _); refine Hold.mk ?_) | ((with_reducible show KswEnd ..); (refine Hold.mk ?_)) | ((with_reducible show wpAny _ _ (call (Value.builtin "str.replace") _) _ _ _); (refine call_unpair (by assumption) ?_; intro t7 k7)) | ((with_reducible show wpAny _ _ (exec (Stmt.While ..) _) _ _ _); ((rename StopIf => sI); clear sI; refine Hold.mk ?_)) | ((with_reducible show wpAny _ _ (eval (Expr.ListComp ..) _) _ _ _); ((rename StopIf => sI); clear sI; refine Hold.mk ?_)) | ((with_reducible show wpAny _ _ (exec (Stmt.If ..) _) _ _ _); ((rename StopIf => sI); clear sI; refine Hold.mk ?_)) | ((with_reducible show wpAny _ _ (call (Value.ref _) _) _ _ _); (show wpAny _ _ (call (Value.ref _) _) _ _ _); refine Hold.mk ?_) | ((with_reducible show wpAny _ _ (PySem.isTrue _ _ _) _ _ _); (k_fold)) | ((with_reducible show wpAny _ _ (execs (_ :: _) _) _ _ _); (k_fold)) | walk1 | (dsimp only; first | ((with_reducible show LCt.CompSrcT ..); refine Hold.mk ?_) | ((with_reducible show wpAny _ _ (compareOp CmpOp.Eq (Value.ref _) (Value.ref _)) _ _ _); refine Hold.mk ?_) | ((with_reducible show wpAny _ _ (binaryOp Operator.Add (Value.str _ _) (Value.str _ _)) _ _ _); refine Hold.mk ?_) | ((with_reducible show KswEnd ..); (refine Hold.mk ?_)) | ((with_reducible show wpAny _ _ (call (Value.builtin "str.replace") _) _ _ _); (refine call_unpair (by assumption) ?_; intro t7 k7)) | ((with_reducible show wpAny _ _ (exec (Stmt.While ..) _) _ _ _); ((rename StopIf => sI); clear sI; refine Hold.mk ?_)) | ((with_reducible show wpAny _ _ (eval (Expr.ListComp ..) _) _ _ _); ((rename StopIf => sI); clear sI; refine Hold.mk ?_)) | ((with_reducible show wpAny _ _ (exec (Stmt.If ..) _) _ _ _); ((rename StopIf => sI); clear sI; refine Hold.mk ?_)) | ((with_reducible show wpAny _ _ (call (Value.ref _) _) _ _ _); (show wpAny _ _ (call (Value.ref _) _) _ _ _); refine Hold.mk ?_) | ((with_reducible show wpAny _ _ (PySem.isTrue _ _ _) _ _ _); (k_fold)) | ((with_reducible show wpAny _ _ (execs (_ :: _) _) _ _ _); (k_fold))) | (dsimp only; walk1) | (leave1; walk_say "STEP leave1"; try dsimp only) | fail "no step"))
              rename News _ _ _ _ => N37
              rename Fr _ _ _ _ => F37
              refine Hold.of (c_check K0 F37 KX N37 T rfl (by ktr_room) (by ktr_room) hS3 (by (first | lia | omega)) (by rw [hS2]; exact hCF.noL) (by rw [hS2, hLF]; (first | lia | omega)) hb12 fun b9 h13 tk13 gs13 hb13 hbb F38 N38 => ?_)
              clear F37 N37
              rw [hS2, hLF] at hbb
              have hbe : b9 = (g == Str.ofString "") := by rw [Bool.eq_iff_iff, hbb, hb8, beq_iff_eq]
              subst hbe
              clear hbb hb8
              have hTT : ((if (g == Str.ofString "") = true then Str.ofString "True" else Str.ofString "False") != (if (g == Str.ofString "") = true then Str.ofString "True" else Str.ofString "False")) = false := by simp
              (repeat' (first | (k_unfold; (try dsimp only)) | (k_end; wrow_close) | ((with_reducible show LCt.CompSrcT ..); refine Hold.mk ?_) | ((with_reducible show wpAny _ _ (compareOp CmpOp.Eq (Value.ref _) (Value.ref _)) _ _ _); refine Hold.mk ?_) | ((with_reducible show wpAny _ _ (binaryOp Operator.Add (Value.str _ _) (Value.str _ _)) _ _ _); refine Hold.mk ?_) | ((with_reducible show KswEnd ..); (refine Hold.mk ?_)) | ((with_reducible show wpAny _ _ (call (Value.builtin "str.replace") _) _ _ _); (refine call_unpair (by assumption) ?_; intro t7 k7)) | ((with_reducible show wpAny _ _ (exec (Stmt.While ..) _) _ _ _); ((rename StopIf => sI); clear sI; refine Hold.mk ?_)) | ((with_reducible show wpAny _ _ (eval (Expr.ListComp ..) _) _ _ _); ((rename StopIf => sI); clear sI; refine Hold.mk ?_)) | ((with_reducible show wpAny _ _ (exec (Stmt.If ..) _) _ _ _); ((rename StopIf => sI); clear sI; refine Hold.mk ?_)) | ((with_reducible show wpAny _ _ (call (Value.ref _) _) _ _ _); (show wpAny _ _ (call (Value.ref _) _) _ _ _); refine Hold.mk ?_) | ((with_reducible show wpAny _ _ (PySem.isTrue _ _ _) _ _ _); (k_fold)) | ((with_reducible show wpAny _ _ (execs (_ :: _) _) _ _ _); (k_fold)) | walk1 | (dsimp only; first | ((with_reducible show LCt.CompSrcT ..); refine Hold.mk ?_) | ((with_reducible show wpAny _ _ (compareOp CmpOp.Eq (Value.ref _) (Value.ref _)) _ _ _); refine Hold.mk ?_) | ((with_reducible show wpAny _ _ (binaryOp Operator.Add (Value.str _ _) (Value.str _ _)) _ _ _); refine Hold.mk ?_) | ((with_reducible show KswEnd ..); (refine Hold.mk ?_)) | ((with_reducible show wpAny _ _ (call (Value.builtin "str.replace") _) _ _ _); (refine call_unpair (by assumption) ?_; intro t7 k7)) | ((with_reducible show wpAny _ _ (exec (Stmt.While ..) _) _ _ _); ((rename StopIf => sI); clear sI; refine Hold.mk ?_)) | ((with_reducible show wpAny _ _ (eval (Expr.ListComp ..) _) _ _ _); ((rename StopIf => sI); clear sI; refine Hold.mk ?_)) | ((with_reducible show wpAny _ _ (exec (Stmt.If ..) _) _ _ _); ((rename StopIf => sI); clear sI; refine Hold.mk ?_)) | ((with_reducible show wpAny _ _ (call (Value.ref _) _) _ _ _); (show wpAny _ _ (call (Value.ref _) _) _ _ _); refine Hold.mk ?_) | ((with_reducible show wpAny _ _ (PySem.isTrue _ _ _) _ _ _); (k_fold)) | ((with_reducible show wpAny _ _ (execs (_ :: _) _) _ _ _); (k_fold))) | (dsimp only; walk1) | (leave1; walk_say "STEP leave1"; try dsimp only) | fail "no step"))
              rename News _ _ _ _ => N39
              rename Fr _ _ _ _ => F39
              obtain ⟨ws1, ok1, hL1, hl1, hy1, hn1⟩ := hS4
              obtain ⟨ws2, ok2, hL2, hl2, hy2, hn2⟩ := hCF.outL
              rw [hLF] at hL2
              have hok2 := hCF.okL
              rw [hLF] at hok2
              by_cases hbk : cut.2 = Str.ofString ""
              · obtain ⟨ho1, hw1⟩ := hy1 hbk
                obtain ⟨ho2, hw2⟩ := hy2 hbk
                obtain ⟨ea1, ea2⟩ := e1 hbk
                refine Hold.of (c_outcome K0 F39 KX N39 T rfl (by ktr_room) (by ktr_room) (by (first | lia | omega)) hS6 hL1 hl1 (fun _ S1 acc1 n1 h14 tk14 hacc1 F40 N40 => ?_) (fun h => absurd (ho1.symm.trans h) (by decide)))
                clear F39 N39
                (repeat' (first | (k_unfold; (try dsimp only)) | (k_end; wrow_close) | ((with_reducible show LCt.CompSrcT ..); refine Hold.mk ?_) | ((with_reducible show wpAny _ _ (compareOp CmpOp.Eq (Value.ref _) (Value.ref _)) _ _ _); refine Hold.mk ?_) | ((with_reducible show wpAny _ _ (binaryOp Operator.Add (Value.str _ _) (Value.str _ _)) _ _ _); refine Hold.mk ?_) | ((with_reducible show KswEnd ..); (refine Hold.mk ?_)) | ((with_reducible show wpAny _ _ (call (Value.builtin "str.replace") _) _ _ _); (refine call_unpair (by assumption) ?_; intro t7 k7)) | ((with_reducible show wpAny _ _ (exec (Stmt.While ..) _) _ _ _); ((rename StopIf => sI); clear sI; refine Hold.mk ?_)) | ((with_reducible show wpAny _ _ (eval (Expr.ListComp ..) _) _ _ _); ((rename StopIf => sI); clear sI; refine Hold.mk ?_)) | ((with_reducible show wpAny _ _ (exec (Stmt.If ..) _) _ _ _); ((rename StopIf => sI); clear sI; refine Hold.mk ?_)) | ((with_reducible show wpAny _ _ (call (Value.ref _) _) _ _ _); (show wpAny _ _ (call (Value.ref _) _) _ _ _); refine Hold.mk ?_) | ((with_reducible show wpAny _ _ (PySem.isTrue _ _ _) _ _ _); (k_fold)) | ((with_reducible show wpAny _ _ (execs (_ :: _) _) _ _ _); (k_fold)) | walk1 | (dsimp only; first | ((with_reducible show LCt.CompSrcT ..); refine Hold.mk ?_) | ((with_reducible show wpAny _ _ (compareOp CmpOp.Eq (Value.ref _) (Value.ref _)) _ _ _); refine Hold.mk ?_) | ((with_reducible show wpAny _ _ (binaryOp Operator.Add (Value.str _ _) (Value.str _ _)) _ _ _); refine Hold.mk ?_) | ((with_reducible show KswEnd ..); (refine Hold.mk ?_)) | ((with_reducible show wpAny _ _ (call (Value.builtin "str.replace") _) _ _ _); (refine call_unpair (by assumption) ?_; intro t7 k7)) | ((with_reducible show wpAny _ _ (exec (Stmt.While ..) _) _ _ _); ((rename StopIf => sI); clear sI; refine Hold.mk ?_)) | ((with_reducible show wpAny _ _ (eval (Expr.ListComp ..) _) _ _ _); ((rename StopIf => sI); clear sI; refine Hold.mk ?_)) | ((with_reducible show wpAny _ _ (exec (Stmt.If ..) _) _ _ _); ((rename StopIf => sI); clear sI; refine Hold.mk ?_)) | ((with_reducible show wpAny _ _ (call (Value.ref _) _) _ _ _); (show wpAny _ _ (call (Value.ref _) _) _ _ _); refine Hold.mk ?_) | ((with_reducible show wpAny _ _ (PySem.isTrue _ _ _) _ _ _); (k_fold)) | ((with_reducible show wpAny _ _ (execs (_ :: _) _) _ _ _); (k_fold))) | (dsimp only; walk1) | (leave1; walk_say "STEP leave1"; try dsimp only) | fail "no step"))
                rename News _ _ _ _ => N41
                rename Fr _ _ _ _ => F41
                refine Hold.of (c_outcome K0 F41 KX N41 T rfl (by ktr_room) (by ktr_room) (by (first | lia | omega)) hok2 hL2 hl2 (fun _ S2 acc2 n2 h15 tk15 hacc2 F42 N42 => ?_) (fun h => absurd (ho2.symm.trans h) (by decide)))
                clear F41 N41
                (repeat' (first | (k_unfold; (try dsimp only)) | (k_end; wrow_close) | ((with_reducible show LCt.CompSrcT ..); refine Hold.mk ?_) | ((with_reducible show wpAny _ _ (compareOp CmpOp.Eq (Value.ref _) (Value.ref _)) _ _ _); refine Hold.mk ?_) | ((with_reducible show wpAny _ _ (binaryOp Operator.Add (Value.str _ _) (Value.str _ _)) _ _ _); refine Hold.mk ?_) | ((with_reducible show KswEnd ..); (refine Hold.mk ?_)) | ((with_reducible show wpAny _ _ (call (Value.builtin "str.replace") _) _ _ _); (refine call_unpair (by assumption) ?_; intro t7 k7)) | ((with_reducible show wpAny _ _ (exec (Stmt.While ..) _) _ _ _); ((rename StopIf => sI); clear sI; refine Hold.mk ?_)) | ((with_reducible show wpAny _ _ (eval (Expr.ListComp ..) _) _ _ _); ((rename StopIf => sI); clear sI; refine Hold.mk ?_)) | ((with_reducible show wpAny _ _ (exec (Stmt.If ..) _) _ _ _); ((rename StopIf => sI); clear sI; refine Hold.mk ?_)) | ((with_reducible show wpAny _ _ (call (Value.ref _) _) _ _ _); (show wpAny _ _ (call (Value.ref _) _) _ _ _); refine Hold.mk ?_) | ((with_reducible show wpAny _ _ (PySem.isTrue _ _ _) _ _ _); (k_fold)) | ((with_reducible show wpAny _ _ (execs (_ :: _) _) _ _ _); (k_fold)) | walk1 | (dsimp only; first | ((with_reducible show LCt.CompSrcT ..); refine Hold.mk ?_) | ((with_reducible show wpAny _ _ (compareOp CmpOp.Eq (Value.ref _) (Value.ref _)) _ _ _); refine Hold.mk ?_) | ((with_reducible show wpAny _ _ (binaryOp Operator.Add (Value.str _ _) (Value.str _ _)) _ _ _); refine Hold.mk ?_) | ((with_reducible show KswEnd ..); (refine Hold.mk ?_)) | ((with_reducible show wpAny _ _ (call (Value.builtin "str.replace") _) _ _ _); (refine call_unpair (by assumption) ?_; intro t7 k7)) | ((with_reducible show wpAny _ _ (exec (Stmt.While ..) _) _ _ _); ((rename StopIf => sI); clear sI; refine Hold.mk ?_)) | ((with_reducible show wpAny _ _ (eval (Expr.ListComp ..) _) _ _ _); ((rename StopIf => sI); clear sI; refine Hold.mk ?_)) | ((with_reducible show wpAny _ _ (exec (Stmt.If ..) _) _ _ _); ((rename StopIf => sI); clear sI; refine Hold.mk ?_)) | ((with_reducible show wpAny _ _ (call (Value.ref _) _) _ _ _); (show wpAny _ _ (call (Value.ref _) _) _ _ _); refine Hold.mk ?_) | ((with_reducible show wpAny _ _ (PySem.isTrue _ _ _) _ _ _); (k_fold)) | ((with_reducible show wpAny _ _ (execs (_ :: _) _) _ _ _); (k_fold))) | (dsimp only; walk1) | (leave1; walk_say "STEP leave1"; try dsimp only) | fail "no step"))
                rename News _ _ _ _ => N43
                rename Fr _ _ _ _ => F43
                rw [hw1] at hacc1
                rw [hw2] at hacc2
                rw [ea1, ea2] at hDu
                have hsZ : ∀ p ∈ tlD, p ∈ tlx := fun p hp => hsX p (hsW p hp)
                have hsY : ∀ p ∈ tl6, p ∈ tlD := fun p hp => hsD p (List.mem_cons_of_mem _ hp)
                refine Hold.of (two_eq N43 (List.mem_cons_self ..) (List.mem_cons_of_mem _ (List.mem_cons_of_mem _ (List.mem_cons_of_mem _ (hsZ _ hDu)))) (strs_reads N43 (List.mem_cons_of_mem _ (List.mem_cons_of_mem _ (List.mem_cons_self ..))) hacc1) (strs_reads N43 (List.mem_cons_of_mem _ (List.mem_cons_self ..)) hacc2) (strs_reads N43 (List.mem_cons_of_mem _ (List.mem_cons_of_mem _ (List.mem_cons_of_mem _ (hsZ _ (hsY _ (hs6 _ hW1)))))) hW1s) (strs_reads N43 (List.mem_cons_of_mem _ (List.mem_cons_of_mem _ (List.mem_cons_of_mem _ (hsZ _ (hsY _ hW2))))) hW2s) (two_shaped hCF.wdS hCF.wdL) (by show (4 + 3 : Nat) + 64 < cLine; (have hc9 := cLine_is); (first | lia | omega)) ?_)
                k_unfold
                dsimp only
                exact law_end (fun b o e => F43.keep b o e) hb13
              · refine Hold.of (c_outcome K0 F39 KX N39 T rfl (by ktr_room) (by ktr_room) (by (first | lia | omega)) hS6 hL1 hl1 (fun h => absurd ((hn1 hbk).symm.trans h) (by decide)) (fun _ t14 h14 tk14 F40 N40 => ?_))
                clear F39 N39
                (repeat' (first | (k_unfold; (try dsimp only)) | (k_end; wrow_close) | ((with_reducible show LCt.CompSrcT ..); refine Hold.mk ?_) | ((with_reducible show wpAny _ _ (compareOp CmpOp.Eq (Value.ref _) (Value.ref _)) _ _ _); refine Hold.mk ?_) | ((with_reducible show wpAny _ _ (binaryOp Operator.Add (Value.str _ _) (Value.str _ _)) _ _ _); refine Hold.mk ?_) | ((with_reducible show KswEnd ..); (refine Hold.mk ?_)) | ((with_reducible show wpAny _ _ (call (Value.builtin "str.replace") _) _ _ _); (refine call_unpair (by assumption) ?_; intro t7 k7)) | ((with_reducible show wpAny _ _ (exec (Stmt.While ..) _) _ _ _); ((rename StopIf => sI); clear sI; refine Hold.mk ?_)) | ((with_reducible show wpAny _ _ (eval (Expr.ListComp ..) _) _ _ _); ((rename StopIf => sI); clear sI; refine Hold.mk ?_)) | ((with_reducible show wpAny _ _ (exec (Stmt.If ..) _) _ _ _); ((rename StopIf => sI); clear sI; refine Hold.mk ?_)) | ((with_reducible show wpAny _ _ (call (Value.ref _) _) _ _ _); (show wpAny _ _ (call (Value.ref _) _) _ _ _); refine Hold.mk ?_) | ((with_reducible show wpAny _ _ (PySem.isTrue _ _ _) _ _ _); (k_fold)) | ((with_reducible show wpAny _ _ (execs (_ :: _) _) _ _ _); (k_fold)) | walk1 | (dsimp only; first | ((with_reducible show LCt.CompSrcT ..); refine Hold.mk ?_) | ((with_reducible show wpAny _ _ (compareOp CmpOp.Eq (Value.ref _) (Value.ref _)) _ _ _); refine Hold.mk ?_) | ((with_reducible show wpAny _ _ (binaryOp Operator.Add (Value.str _ _) (Value.str _ _)) _ _ _); refine Hold.mk ?_) | ((with_reducible show KswEnd ..); (refine Hold.mk ?_)) | ((with_reducible show wpAny _ _ (call (Value.builtin "str.replace") _) _ _ _); (refine call_unpair (by assumption) ?_; intro t7 k7)) | ((with_reducible show wpAny _ _ (exec (Stmt.While ..) _) _ _ _); ((rename StopIf => sI); clear sI; refine Hold.mk ?_)) | ((with_reducible show wpAny _ _ (eval (Expr.ListComp ..) _) _ _ _); ((rename StopIf => sI); clear sI; refine Hold.mk ?_)) | ((with_reducible show wpAny _ _ (exec (Stmt.If ..) _) _ _ _); ((rename StopIf => sI); clear sI; refine Hold.mk ?_)) | ((with_reducible show wpAny _ _ (call (Value.ref _) _) _ _ _); (show wpAny _ _ (call (Value.ref _) _) _ _ _); refine Hold.mk ?_) | ((with_reducible show wpAny _ _ (PySem.isTrue _ _ _) _ _ _); (k_fold)) | ((with_reducible show wpAny _ _ (execs (_ :: _) _) _ _ _); (k_fold))) | (dsimp only; walk1) | (leave1; walk_say "STEP leave1"; try dsimp only) | fail "no step"))
                rename News _ _ _ _ => N41
                rename Fr _ _ _ _ => F41
                refine Hold.of (c_outcome K0 F41 KX N41 T rfl (by ktr_room) (by ktr_room) (by (first | lia | omega)) hok2 hL2 hl2 (fun h => absurd ((hn2 hbk).symm.trans h) (by decide)) (fun _ t15 h15 tk15 F42 N42 => ?_))
                clear F41 N41
                (repeat' (first | (k_unfold; (try dsimp only)) | (k_end; wrow_close) | ((with_reducible show LCt.CompSrcT ..); refine Hold.mk ?_) | ((with_reducible show wpAny _ _ (compareOp CmpOp.Eq (Value.ref _) (Value.ref _)) _ _ _); refine Hold.mk ?_) | ((with_reducible show wpAny _ _ (binaryOp Operator.Add (Value.str _ _) (Value.str _ _)) _ _ _); refine Hold.mk ?_) | ((with_reducible show KswEnd ..); (refine Hold.mk ?_)) | ((with_reducible show wpAny _ _ (call (Value.builtin "str.replace") _) _ _ _); (refine call_unpair (by assumption) ?_; intro t7 k7)) | ((with_reducible show wpAny _ _ (exec (Stmt.While ..) _) _ _ _); ((rename StopIf => sI); clear sI; refine Hold.mk ?_)) | ((with_reducible show wpAny _ _ (eval (Expr.ListComp ..) _) _ _ _); ((rename StopIf => sI); clear sI; refine Hold.mk ?_)) | ((with_reducible show wpAny _ _ (exec (Stmt.If ..) _) _ _ _); ((rename StopIf => sI); clear sI; refine Hold.mk ?_)) | ((with_reducible show wpAny _ _ (call (Value.ref _) _) _ _ _); (show wpAny _ _ (call (Value.ref _) _) _ _ _); refine Hold.mk ?_) | ((with_reducible show wpAny _ _ (PySem.isTrue _ _ _) _ _ _); (k_fold)) | ((with_reducible show wpAny _ _ (execs (_ :: _) _) _ _ _); (k_fold)) | walk1 | (dsimp only; first | ((with_reducible show LCt.CompSrcT ..); refine Hold.mk ?_) | ((with_reducible show wpAny _ _ (compareOp CmpOp.Eq (Value.ref _) (Value.ref _)) _ _ _); refine Hold.mk ?_) | ((with_reducible show wpAny _ _ (binaryOp Operator.Add (Value.str _ _) (Value.str _ _)) _ _ _); refine Hold.mk ?_) | ((with_reducible show KswEnd ..); (refine Hold.mk ?_)) | ((with_reducible show wpAny _ _ (call (Value.builtin "str.replace") _) _ _ _); (refine call_unpair (by assumption) ?_; intro t7 k7)) | ((with_reducible show wpAny _ _ (exec (Stmt.While ..) _) _ _ _); ((rename StopIf => sI); clear sI; refine Hold.mk ?_)) | ((with_reducible show wpAny _ _ (eval (Expr.ListComp ..) _) _ _ _); ((rename StopIf => sI); clear sI; refine Hold.mk ?_)) | ((with_reducible show wpAny _ _ (exec (Stmt.If ..) _) _ _ _); ((rename StopIf => sI); clear sI; refine Hold.mk ?_)) | ((with_reducible show wpAny _ _ (call (Value.ref _) _) _ _ _); (show wpAny _ _ (call (Value.ref _) _) _ _ _); refine Hold.mk ?_) | ((with_reducible show wpAny _ _ (PySem.isTrue _ _ _) _ _ _); (k_fold)) | ((with_reducible show wpAny _ _ (execs (_ :: _) _) _ _ _); (k_fold))) | (dsimp only; walk1) | (leave1; walk_say "STEP leave1"; try dsimp only) | fail "no step"))
                rename News _ _ _ _ => N43
                rename Fr _ _ _ _ => F43
                obtain ⟨u1, u2, eu1, eu2⟩ := e2 hbk
                rw [eu1, eu2] at hDu
                refine Hold.of (two_eq N43 (List.mem_cons_self ..) (List.mem_cons_of_mem _ (hsX _ (hsW _ hDu))) ⟨_, .str _ _⟩ ⟨_, .str _ _⟩ ⟨_, .str _ _⟩ ⟨_, .str _ _⟩ (by decide +kernel) (by show (4 + 3 : Nat) + 64 < cLine; (have hc9 := cLine_is); (first | lia | omega)) ?_)
                k_unfold
                dsimp only
                exact law_end (fun b o e => F43.keep b o e) hb13
end Mine
end
end
end
theorem PySem.Challenge.cw_ny0347_01_holds : PySem.Challenge.rw_ny0347_01.Holds :=
  Mine.law_holds
