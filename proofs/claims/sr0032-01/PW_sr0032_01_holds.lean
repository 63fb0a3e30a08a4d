import PyProof.Rows.All
import Wide.All
import OpenK.AllK
import Wide.FinOn
import PySem.Challenge.RW_sr0032_01
set_option Elab.async false
section
open PySem PySem.W PyProof.Rows
namespace Mine
set_option maxRecDepth 100000 in
set_option maxHeartbeats 8000000 in
open_top hd for PySem.Challenge.rw_sr0032_01
end Mine
end

section
open PySem PySem.W PyProof.Rows
namespace Mine
noncomputable abbrev Pg : Program := PySem.Challenge.rw_sr0032_01.row.prog
theorem fillNow : PySem.Challenge.rw_sr0032_01.foot = 12 ∧ Mine.hd.heap_39 = Mine.hd.heap_39 := by
  k_fill
  exact ⟨rfl, rfl⟩
/-- a call of a def of the text's: in every frame, with this ledger, it comes back as told -/
noncomputable def Con (w : World) (p : Program) (loose : List Str) (mean : ExcName → Option Value) (mg mb : Str → Option Value) (k : Nat)
    (f : Addr) (pos : List Value) (kw : List (Str × Value)) (news : List (Addr × Obj)) (post : Value → List (Addr × Obj) → Prop) : Prop :=
  ∀ (dp un : Nat) (gd : Option (List Code)) (cn : Str) (cn' : List (Str × NameKind)) (cg cc : Bool) (cm : List (Str × Const)) (a : Addr) (ccd : Value) (cl : List (Str × Addr)) (outer : List Env) (A₀ : Around)
    (base h₀ : Heap) (L : Addr) (m : Str → Option Value) (s : Shared) (R : Result → Shared → Prop),
    Below A₀ base outer h₀ → Fr h₀ L s.heap m → (hd.heap_39 w.params).In h₀ → News h₀ L s.heap news → Top p loose mean mg mb h₀ →
    dp + k < recursionLimit → un + 20 * k < cLine →
    (∀ v news' h' tk', post v news' → Fr h₀ L h' m → News h₀ L h' news' → R (.ok (.ret v)) { s with heap := h', toks := tk' }) →
    codeAny (model Pg w) (ktrTop dp un gd cn ⟨.function, cn', cg, cc, cm⟩ L a ccd cl outer) (.call (.ref f) ⟨pos, kw⟩) R s
theorem Con.use {w : World} {p : Program} {loose : List Str} {mean : ExcName → Option Value} {mg mb : Str → Option Value} {k : Nat} {f : Addr} {pos : List Value} {kw : List (Str × Value)}
    {news : List (Addr × Obj)} {post : Value → List (Addr × Obj) → Prop} (C : Con w p loose mean mg mb k f pos kw news post)
    {dp un : Nat} {gd : Option (List Code)} {cn : Str} {cs : Scope} {a : Addr} {ccd : Value} {cl : List (Str × Addr)} {outer : List Env} {A₀ : Around}
    {base h₀ : Heap} {L : Addr} {m : Str → Option Value} {s : Shared} {R : Result → Shared → Prop}
    (B : Below A₀ base outer h₀) (F : Fr h₀ L s.heap m) (X : (hd.heap_39 w.params).In h₀) (N : News h₀ L s.heap news) (T : Top p loose mean mg mb h₀) (hk : cs.kind = .function)
    (hd : dp + k < recursionLimit) (hu : un + 20 * k < cLine)
    (ret : ∀ v news' h' tk', post v news' → Fr h₀ L h' m → News h₀ L h' news' → R (.ok (.ret v)) { s with heap := h', toks := tk' }) :
    codeAny (model Pg w) (ktrTop dp un gd cn cs L a ccd cl outer) (.call (.ref f) ⟨pos, kw⟩) R s :=
  by cases cs with | mk ck cn' cg cc cm => cases hk; exact C _ _ _ _ _ _ _ _ _ _ _ _ _ _ _ _ _ _ _ B F X N T hd hu ret
noncomputable def codesOf (l : List Nat) : Str := Str.mk l.toArray
noncomputable def markC (a : Nat) : Nat := match a with | 0 => 124 | 1 => 34 | 2 => 92 | _ => 32
noncomputable def portTxt (b : Nat) : List Nat := if b < 3 then [45, 48 + (3 - b)] else [48 + (b - 3)]
noncomputable def replyL (a b : Nat) : List Nat := [50, 50, 57, 40, markC a, markC a, markC a] ++ portTxt b ++ [markC a, 41]
noncomputable def replyAB (a b : Nat) : Str := codesOf (replyL a b)
noncomputable def mkN (n : Int) : Nat := (n / 7 % 4).toNat
noncomputable def ptN (n : Int) : Nat := (n % 7).toNat
noncomputable def portOf (n : Int) : Int := n % 7 - 3
noncomputable def replyS (n : Int) : Str := replyAB (mkN n) (ptN n)
noncomputable def markS (n : Int) : Str := codesOf [markC (mkN n)]
end Mine
namespace Mine
theorem sub_cons {α : Type} {x : α} {l A : List α} (h : x ∈ A) (hl : ∀ q ∈ l, q ∈ A) : ∀ q ∈ x :: l, q ∈ A := fun q hq => by
  rcases List.mem_cons.mp hq with rfl | hq
  · exact h
  · exact hl q hq
theorem mem_swap_app {α : Type} {A B T : List α} {q : α} (h : q ∈ A ++ (B ++ T)) : q ∈ B ++ (A ++ T) := by
  rcases List.mem_append.mp h with h | h
  · exact List.mem_append.mpr (.inr (List.mem_append.mpr (.inl h)))
  · rcases List.mem_append.mp h with h | h
    · exact List.mem_append.mpr (.inl h)
    · exact List.mem_append.mpr (.inr (List.mem_append.mpr (.inr h)))
theorem subM {h₀ h : Heap} {L : Addr} {A B : List (Addr × Obj)} (N : News h₀ L h A) (hs : ∀ q ∈ B, q ∈ A) : News h₀ L h B := fun q hq => N q (hs q hq)
theorem offM {A B : List (Addr × Obj)} {D : Addr} (o : ∀ q ∈ A, q.1 ≠ D) (hs : ∀ q ∈ B, q ∈ A) : ∀ q ∈ B, q.1 ≠ D := fun q hq => o q (hs q hq)
theorem subN {h₀ h : Heap} {L : Addr} {news news' : List (Addr × Obj)} (N : News h₀ L h news') (hs : news.Sublist news') : News h₀ L h news := fun p hp => N p (hs.subset hp)
end Mine
namespace Mine
theorem Con.mem {w : World} {p : Program} {loose : List Str} {mean : ExcName → Option Value} {mg mb : Str → Option Value} {k : Nat} {f : Addr} {pos : List Value} {kw : List (Str × Value)} {news : List (Addr × Obj)} {x : Addr × Obj} {P P' : Value → List (Addr × Obj) → Prop}
    (C : Con w p loose mean mg mb k f pos kw (x :: news) P) (hm : x ∈ news) (hP : ∀ r news', P r news' → ∃ news'', news''.Sublist news' ∧ P' r news'') : Con w p loose mean mg mb k f pos kw news P' := by
  intro dp un gd cn cn' cg cc cm a ccd cl outer A₀ base h₀ L m s R B F X N T hd hu hret
  refine C dp un gd cn cn' cg cc cm a ccd cl outer A₀ base h₀ L m s R B F X (fun q hq => ?_) T hd hu (fun v news' h' tk' hp F' N' => ?_)
  · rcases List.mem_cons.mp hq with rfl | hq
    · exact N _ hm
    · exact N q hq
  · obtain ⟨news'', hs, hp'⟩ := hP v news' hp
    exact hret v news'' h' tk' hp' F' (subN N' hs)
end Mine
namespace Mine
theorem execs_gQE {M : Model} {A : Around} {α : Type} {c : Sem α} {Q : α → Shared → Prop} {E : Value → Shared → Prop} {s : Shared} (h : ∀ Q' E', Q' = Q → E' = E → wpAny M A c Q' E' s) : wpAny M A c Q E s := h Q E rfl rfl
theorem execs_gQ {M : Model} {A : Around} {α : Type} {c : Sem α} {Q : α → Shared → Prop} {E : Value → Shared → Prop} {s : Shared} (h : ∀ Q', Q' = Q → wpAny M A c Q' E s) : wpAny M A c Q E s := h Q rfl
@[elab_as_elim] theorem ints_at {l : List Value} {ns : List Int} {i : Nat} {P : Value → Prop} {v : Value} (H : IntsAre l ns) (hv : l[i]? = some v) (k : ∀ n t, ns[i]? = some n → P (.int n t)) : P v := by
  obtain ⟨n, t, rfl, hn⟩ := IntsAre.at H i v hv
  exact k n t hn
theorem and9 {a b c d e f g h i P : Prop} (H : a ∧ b ∧ c ∧ d ∧ e ∧ f ∧ g ∧ h ∧ i) (k : a → b → c → d → e → f → g → h → i → P) : P := k H.1 H.2.1 H.2.2.1 H.2.2.2.1 H.2.2.2.2.1 H.2.2.2.2.2.1 H.2.2.2.2.2.2.1 H.2.2.2.2.2.2.2.1 H.2.2.2.2.2.2.2.2
theorem ex1e {α : Type} {P : α → Prop} {G : Prop} (h : ∃ a, P a) (k : ∀ a, P a → G) : G := by
  obtain ⟨a, h⟩ := h
  exact k a h
theorem ex2i {α β : Type} {P : α → β → Prop} (a : α) (b : β) (h : P a b) : ∃ a b, P a b := ⟨a, b, h⟩
theorem ex2e {α β : Type} {P : α → β → Prop} {G : Prop} (h : ∃ a b, P a b) (k : ∀ a b, P a b → G) : G := by
  obtain ⟨a, b, h⟩ := h
  exact k a b h
theorem ex3i {α β γ : Type} {P : α → β → γ → Prop} (a : α) (b : β) (c : γ) (h : P a b c) : ∃ a b c, P a b c := ⟨a, b, c, h⟩
theorem ex3e {α β γ : Type} {P : α → β → γ → Prop} {G : Prop} (h : ∃ a b c, P a b c) (k : ∀ a b c, P a b c → G) : G := by
  obtain ⟨a, b, c, h⟩ := h
  exact k a b c h
theorem ex4i {α β γ δ : Type} {P : α → β → γ → δ → Prop} (a : α) (b : β) (c : γ) (d : δ) (h : P a b c d) : ∃ a b c d, P a b c d := ⟨a, b, c, d, h⟩
theorem ex4e {α β γ δ : Type} {P : α → β → γ → δ → Prop} {G : Prop} (h : ∃ a b c d, P a b c d) (k : ∀ a b c d, P a b c d → G) : G := by
  obtain ⟨a, b, c, d, h⟩ := h
  exact k a b c d h
theorem ex5i {α β γ δ ε : Type} {P : α → β → γ → δ → ε → Prop} (a : α) (b : β) (c : γ) (d : δ) (e : ε) (h : P a b c d e) : ∃ a b c d e, P a b c d e := ⟨a, b, c, d, e, h⟩
theorem ex5e {α β γ δ ε : Type} {P : α → β → γ → δ → ε → Prop} {G : Prop} (h : ∃ a b c d e, P a b c d e) (k : ∀ a b c d e, P a b c d e → G) : G := by
  obtain ⟨a, b, c, d, e, h⟩ := h
  exact k a b c d e h
theorem lt0 {a c n k : Nat} (h : a + k < n) (hk : c ≤ k) : a + c < n := Nat.lt_of_le_of_lt (Nat.add_le_add_left hk a) h
theorem lt1 {a b c n k : Nat} (h : a + k < n) (hk : b + c ≤ k) : a + b + c < n := Nat.add_assoc a b c ▸ lt0 h hk
theorem lt2 {a b b' c n k : Nat} (h : a + k < n) (hk : b + b' + c ≤ k) : a + b + b' + c < n := Nat.add_assoc a b b' ▸ lt1 h hk
theorem lt3 {a b b' b'' c n k : Nat} (h : a + k < n) (hk : b + b' + b'' + c ≤ k) : a + b + b' + b'' + c < n := Nat.add_assoc a b b' ▸ lt2 h hk
theorem lt4 {a b b' b'' b₃ c n k : Nat} (h : a + k < n) (hk : b + b' + b'' + b₃ + c ≤ k) : a + b + b' + b'' + b₃ + c < n := Nat.add_assoc a b b' ▸ lt3 h hk
end Mine
end

open PySem PySem.W PyProof.Rows
local macro_rules | `(tactic| k_room) => `(tactic| first | exact Mine.lt1 (by assumption) (by decide) | ktr_room)

section
open PySem PySem.W PyProof.Rows
set_option maxRecDepth 100000
namespace Mine
theorem mkN_lt (n : Int) : mkN n < 4 := (Int.toNat_lt (Int.emod_nonneg (n / 7) (by decide))).mpr (Int.emod_lt_of_pos (n / 7) (by decide))
theorem ptN_lt (n : Int) : ptN n < 7 := (Int.toNat_lt (Int.emod_nonneg n (by decide))).mpr (Int.emod_lt_of_pos n (by decide))
noncomputable def dN (b : Nat) : Nat := if b < 3 then 2 else 1
noncomputable def qAt (b : Nat) : Nat := 8 + dN b
theorem rab_len : ∀ a < 4, ∀ b < 7, (replyAB a b).length = qAt b + 1 := by decide +kernel
theorem rab_slice3 : ∀ a < 4, ∀ b < 7, Txt.slice (replyAB a b) none (some 3) = Str.ofString "229" := by decide +kernel
theorem rab_find : ∀ a < 4, ∀ b < 7, Txt.find (replyAB a b) (Str.ofString "(") = 3 := by decide +kernel
theorem rab_find3 : ∀ a < 4, ∀ b < 7, Txt.find3 (replyAB a b) (Str.ofString ")") 4 = (qAt b : Int) := by decide +kernel
theorem rab_item4 : ∀ a < 4, ∀ b < 7, Txt.item (replyAB a b) 4 = codesOf [markC a] := by decide +kernel
theorem rab_itemq : ∀ a < 4, ∀ b < 7, Txt.item (replyAB a b) ((qAt b : Int) - 1) = codesOf [markC a] := by decide +kernel
theorem rab_split : ∀ a < 4, ∀ b < 7, Txt.split (Txt.slice (replyAB a b) (some 4) (some (qAt b : Int))) (codesOf [markC a]) = [Str.ofString "", Str.ofString "", Str.ofString "", codesOf (portTxt b), Str.ofString ""] := by decide +kernel
theorem rS_len (n : Int) : (replyS n).length = qAt (ptN n) + 1 := rab_len _ (mkN_lt n) _ (ptN_lt n)
theorem rS_slice3 (n : Int) : Txt.slice (replyS n) none (some 3) = Str.ofString "229" := rab_slice3 _ (mkN_lt n) _ (ptN_lt n)
theorem rS_find (n : Int) : Txt.find (replyS n) (Str.ofString "(") = 3 := rab_find _ (mkN_lt n) _ (ptN_lt n)
theorem rS_find3 (n : Int) : Txt.find3 (replyS n) (Str.ofString ")") 4 = (qAt (ptN n) : Int) := rab_find3 _ (mkN_lt n) _ (ptN_lt n)
theorem rS_item4 (n : Int) : Txt.item (replyS n) 4 = markS n := rab_item4 _ (mkN_lt n) _ (ptN_lt n)
theorem rS_itemq (n : Int) : Txt.item (replyS n) ((qAt (ptN n) : Int) - 1) = markS n := rab_itemq _ (mkN_lt n) _ (ptN_lt n)
theorem rS_split (n : Int) : Txt.split (Txt.slice (replyS n) (some 4) (some (qAt (ptN n) : Int))) (markS n) = [Str.ofString "", Str.ofString "", Str.ofString "", codesOf (portTxt (ptN n)), Str.ofString ""] := rab_split _ (mkN_lt n) _ (ptN_lt n)
theorem qAt_bd (b : Nat) : 9 ≤ qAt b ∧ qAt b ≤ 10 := by unfold qAt dN; split <;> omega
end Mine
namespace Mine
theorem split1 {l : List (Str × Tok)} {a : Str} {r : List Str} (h : l.map (·.1) = a :: r) : ∃ t l', l = (a, t) :: l' ∧ l'.map (·.1) = r := by
  cases l with
  | nil => exact nomatch h
  | cons p l =>
    have h1 : p.1 = a := (List.cons.inj h).1
    exact ⟨p.2, l, by rw [← h1], (List.cons.inj h).2⟩
theorem split5 {l : List (Str × Tok)} {a b c d e : Str} (h : l.map (·.1) = [a, b, c, d, e]) : ∃ t1 t2 t3 t4 t5, l = [(a, t1), (b, t2), (c, t3), (d, t4), (e, t5)] := by
  have ⟨t1, l1, e1, h⟩ := split1 h
  have ⟨t2, l2, e2, h⟩ := split1 h
  have ⟨t3, l3, e3, h⟩ := split1 h
  have ⟨t4, l4, e4, h⟩ := split1 h
  have ⟨t5, l5, e5, h⟩ := split1 h
  exact ⟨t1, t2, t3, t4, t5, by rw [e1, e2, e3, e4, e5, List.map_eq_nil_iff.mp h]⟩
theorem pt_int : ∀ b < 7, PySem.intText? (codesOf (portTxt b)) = some ((b : Int) - 3) := by decide +kernel
theorem rS_int (n : Int) : PySem.intText? (codesOf (portTxt (ptN n))) = some (portOf n) := by
  rw [pt_int _ (ptN_lt n)]
  congr 1
  unfold ptN portOf
  rw [Int.toNat_of_nonneg (Int.emod_nonneg n (by decide))]
theorem pt_len : ∀ b < 7, (codesOf (portTxt b)).length ≤ 640 := by decide +kernel
theorem rS_plen (n : Int) : (codesOf (portTxt (ptN n))).length ≤ 640 := pt_len _ (ptN_lt n)
end Mine
end

section
open PySem PySem.W PyProof.Rows
namespace Mine
theorem fill3 : PySem.Challenge.rw_sr0032_01.foot = 12 ∧ Mine.hd.heap_39 = Mine.hd.heap_39 := by
  k_fill
  exact ⟨rfl, rfl⟩
theorem rep_eqAB : ∀ a : Nat, a < 4 → ∀ b : Nat, b < 7 → Str.ofString "229(" ++ Txt.mul (Txt.item (Str.ofString "|\"\\ ") (a : Int)) 3 ++ Str.ofString (toString ((b : Int) - 3)) ++ Txt.item (Str.ofString "|\"\\ ") (a : Int) ++ Str.ofString ")" = replyAB a b := by decide +kernel
theorem rep_len : ∀ b : Nat, b < 7 → (Str.ofString (toString ((b : Int) - 3))).length ≤ 10 := by decide +kernel
theorem mk_cast {n : Int} (h : 0 ≤ n) : (n.fdiv 7).fmod 4 = (mkN n : Int) := by
  rw [Int.fdiv_eq_ediv_of_nonneg _ (by decide), Int.fmod_eq_emod_of_nonneg _ (by decide)]
  exact (Int.toNat_of_nonneg (Int.emod_nonneg (n / 7) (by decide))).symm
theorem pt_cast (n : Int) : n.fmod 7 = (ptN n : Int) := by
  rw [Int.fmod_eq_emod_of_nonneg _ (by decide)]
  exact (Int.toNat_of_nonneg (Int.emod_nonneg n (by decide))).symm
theorem rep_eq {n : Int} (h : 0 ≤ n) : Str.ofString "229(" ++ Txt.mul (Txt.item (Str.ofString "|\"\\ ") ((n.fdiv 7).fmod 4)) 3 ++ Str.ofString (toString (n.fmod 7 - 3)) ++ Txt.item (Str.ofString "|\"\\ ") ((n.fdiv 7).fmod 4) ++ Str.ofString ")" = replyS n := by
  rw [mk_cast h, pt_cast]
  exact rep_eqAB _ (mkN_lt n) _ (ptN_lt n)
set_option maxRecDepth 100000 in
set_option maxHeartbeats 8000000 in
theorem reply_c (w : World) (p : Program) (loose : List Str) (mean : ExcName → Option Value) (mg mb : Str → Option Value) (news : List (Addr × Obj)) (n : Int) (t : Tok) (h0 : 0 ≤ n) :
    Con w p loose mean mg mb 4 146 [.int n t] [] news (fun r news' => ∃ t3, r = .str (replyS n) t3 ∧ news' = news) := by
  w_on
  w_strict (
    unfold Con
    intro dp un gd cn cn' cg cc cm a ccd cl outer A₀ base h₀ L m s R B F X N T hd hu hret
    have hk : (Scope.mk .function cn' cg cc cm).kind = .function := rfl
    have hsz : (Str.ofString (toString (n.fmod 7 - 3))).length ≤ 10 := by rw [pt_cast]; exact rep_len _ (ptN_lt n)
    k_dflt cell_enter
    repeat' (first
      | (k_unfold; (try dsimp only))
      | (walk1 <;> (try dsimp only))
      | (dsimp only; walk1)
      | (leave1; try dsimp only)
      | fail "no step")
    rw [rep_eq h0]
    exact hret _ _ _ _ ⟨_, rfl, rfl⟩ (by assumption) (by assumption))
end Mine
end

section
open PySem PySem.W PyProof.Rows
namespace Mine
theorem keeps_refl (s : Shared) : Keeps s s := ⟨s.heap, s.toks, rfl, fun _ _ e => e⟩
theorem grown_with {h₀ h h' : Heap} {L D : Addr} {m : Str → Option Value} {news : List (Addr × Obj)} {ob : Obj} (F : Fr h₀ L h m) (N : News h₀ L h news)
    (hk : ∀ b o, h.get? b = some o → h'.get? b = some o) (hD : h.get? D = none) (hd : h'.get? D = some ob) :
    Fr h₀ L h' m ∧ News h₀ L h' ((D, ob) :: news) ∧ ∀ q ∈ news, q.1 ≠ D := by
  have hL : D ≠ L := by
    rintro rfl
    obtain ⟨o, _, _, ho, _⟩ := F.ns
    rw [hD] at ho; cases ho
  have h0 : h₀.get? D = none := by
    cases q : h₀.get? D with
    | none => rfl
    | some o => have := F.keep _ _ q; rw [hD] at this; cases this
  refine ⟨⟨F.ns.keeps hk, fun b o e => hk b o (F.keep b o e), F.above⟩, fun p hp => ?_, fun q hq e => ?_⟩
  · rcases List.mem_cons.mp hp with rfl | hp
    · exact ⟨hd, hL, h0⟩
    · exact ⟨hk _ _ (N p hp).1, (N p hp).2⟩
  · have := (N q hq).1
    rw [e, hD] at this; cases this
theorem push_keep {h h' : Heap} {o : Obj} (hk : ∀ b ob, b ∉ [h.objs.size] → (h.push o).get? b = some ob → h'.get? b = some ob) : ∀ b ob, h.get? b = some ob → h'.get? b = some ob :=
  fun b ob e => hk b ob (fun q => by rw [List.mem_singleton.mp q] at e; exact absurd (Heap.lt_size e) (Nat.lt_irrefl _)) (Heap.get?_push_of_some _ e)
theorem push_none {h : Heap} {o : Obj} {D : Addr} (hD : (h.push o).get? D = none) : h.get? D = none := by
  cases q : h.get? D with
  | none => rfl
  | some ob => rw [Heap.get?_push_of_some _ q] at hD; cases hD
theorem strs_of_paired (b : Str) {vs ys : List Value} (h : Paired (fun (v r : Value) => ∃ c u t', v = .str ⟨#[c]⟩ u ∧ r = .str (b ++ ⟨#[c]⟩) t') vs ys) : ∀ (cs : List Nat), (∀ (j : Nat) (v : Value), vs[j]? = some v → ∃ c u, cs[j]? = some c ∧ v = .str ⟨#[c]⟩ u) → vs.length = cs.length →
    StrsAre ys (cs.map fun c => b ++ ⟨#[c]⟩) := by
  induction h with
  | nil =>
    intro cs hP hl
    rw [List.eq_nil_of_length_eq_zero hl.symm]
    exact .nil
  | cons hF hr ih =>
    intro cs hP hl
    cases cs with
    | nil => exact nomatch hl
    | cons c cs =>
      have h1 := hP 0 _ rfl
      have ih := ih cs (fun j v hv => hP (j + 1) v hv) (Nat.succ.inj hl)
      clear hP hl hr
      obtain ⟨c₁, u₁, h1, h2⟩ := h1
      obtain ⟨c₂, u₂, t', h3, h4⟩ := hF
      have e1 : c = c₁ := Option.some.inj h1
      have e2 : c₂ = c₁ := by
        rw [h2] at h3
        injection h3 with h3
        injection h3 with h3
        exact (List.cons.inj (congrArg Array.toList h3)).1.symm
      rw [h4, e2, ← e1]
      exact .cons _ _ ih
section
variable {prog : Program} {w : World} {A : Around} {E : Value → Shared → Prop} {s : Shared} {h₀ : Heap} {L a : Addr} {m : Str → Option Value} {news : List (Addr × Obj)} {name : Str} {sc scope : Scope} {cd : Value} {Q : Value → Shared → Prop}
theorem comp_signs {b x y g : Str} {t : Tok} {k : Nat} {p1 p2 p3 px py pos : Pos}
    (hh : A.handled = none) (F : Fr h₀ L s.heap m) (N : News h₀ L s.heap news) (hv : m y = some (.str x t)) (hx : x.length ≤ 1000) (hb : b.length ≤ 10)
    (hk : sc.kind = .function) (hl : (envOf name sc L a cd).kindOf y = some .local) (hd : (y == ("__debug__" : Str)) = false)
    (hcell : ∀ z ∈ scope.names, z.2 ≠ .cell) (hfree : ∀ z ∈ scope.names, z.2 ≠ .free) (hkind : scope.kind = .function) (hnames : ∀ z ∈ scope.names, z.2 = .local → scope.names.lookup z.1 = some .local)
    (hg : scope.names.lookup g = some .local) (hdg : (g == ("__debug__" : Str)) = false)
    (h : ∀ D h' tk ys n, Fr h₀ L h' m → News h₀ L h' ((D, { cls := .type "list", data := .seq ys n }) :: news) → (∀ q ∈ news, q.1 ≠ D) → StrsAre ys.toList (x.cps.toList.map fun c => b ++ ⟨#[c]⟩) → Q (.ref D) { s with heap := h', toks := tk }) :
    wpAny (model prog w) A (eval (.ListComp (.BinOp (.Constant (.str b) k p1) .Add (.Name g p2) p3) [⟨.Name g px, .Name y py, [], 0⟩] scope pos) (envOf name sc L a cd)) Q E s := by
  refine wpAny_ListComp_free (cl := []) (fun _ => true) (fun v r => ∃ c u t', v = .str ⟨#[c]⟩ u ∧ r = .str (b ++ ⟨#[c]⟩) t') (closureFor_none hfree) hcell hkind hnames hg ?_ (by intro _; rfl)
  refine ld F hv ?_ hk hl hd
  refine wpAny_pyIter_str fun o St W st0 => ?_
  refine ⟨s.heap.objs.size, _, _, x.cps.size, SignAt x, St, rfl, W A hh, ?_, st0, ?_, ⟨?_, ?_⟩, ?_⟩
  · have : x.cps.size ≤ 1000 := hx
    rw [show sizeLine = 16777216 from rfl]; omega
  · intro c hc
    rw [List.mem_singleton.mp hc]
    show s.heap.objs.size < (s.heap.push o).objs.size
    rw [Heap.size_push]; exact Nat.lt_succ_self _
  · intro C i v s₃ m₃ E' _ _ _ _ _ _
    exact wpAny_tests_nil ⟨rfl, keeps_refl _⟩
  · intro C i v s₃ m₃ E' _ hP _ hns hmx hkeep _
    obtain ⟨c, u, hc, rfl⟩ := hP
    refine wpAny_BinOp (wpAny_Constant_str ?_)
    refine wpAny_Name (wpAny_loadName_local (by simp [compEnvC, relabel, hkind]) (lookup_relabel_local hg) hns hmx ?_) hdg
    refine add_str (fun t' tk => ?_) (by show b.length + 1 ≤ sizeLine; rw [show sizeLine = 16777216 from rfl]; omega)
    exact ⟨⟨c, u, t', rfl, rfl⟩, s₃.heap, tk, rfl, fun _ _ e => e⟩
  · intro D h' tk ys vs hD hL hpl hlen hP hF hkp
    obtain ⟨n, hpl⟩ := hpl
    obtain ⟨F', N', off⟩ := grown_with F N (push_keep hkp) (push_none hD) hpl
    refine h D h' tk ys n F' N' off ?_
    refine strs_of_paired b (vs := vs) (by rw [List.filter_eq_self.mpr (fun _ _ => rfl)] at hF; exact hF) _ (fun j v hv => ?_) (by rw [hlen]; simp)
    obtain ⟨c, u, hc, rfl⟩ := hP j v hv
    exact ⟨c, u, by simpa using hc, rfl⟩
end
end Mine
namespace Mine
section
open PySem.Builtin PySem.Builtin.Str
variable {prog : Program} {w : World} {A : Around} {E : Value → Shared → Prop} {s : Shared} {x y z : Str} {t u v : Tok} {Q : Value → Shared → Prop}
theorem replaceK (hu : @Ne Nat u 0) (hv : @Ne Nat v 0) (huv : @Ne Nat u v) (hyz : (y == z) = false) (hb : x.length + (x.length + 1) * z.length ≤ 16777216)
    (hq : ∀ (t' : Tok) (k : Nat), @LE.le Nat _ s.toks k → Q (.str (Txt.replace x y z) t') { s with toks := k }) : wpAny (model prog w) A (call (.builtin "str.replace") [.str x t, .str y u, .str z v]) Q E s := by
  have e : (2 : Nat) ^ 24 = 16777216 := by decide
  have hl : tooLong (x.length + (occurrences x y 0 x.length (x.length + 1)).length * z.length) = false := by
    have h1 := StrLaws.occ_length_le x y 0 x.length (x.length + 1)
    have h2 : (occurrences x y 0 x.length (x.length + 1)).length * z.length ≤ (x.length + 1) * z.length := Nat.mul_le_mul_right _ h1
    unfold tooLong sizeLine
    exact decide_eq_false (by omega)
  refine call_gives F.slot_str_replace (typeIs_str _ _ _) F.entry_str_replace (F.args_str_replace_3 _ _ _)
    (gives_str_replace x y z t u v fun _ => ⟨by simp [hu, hv], by simp [huv], hyz, hl⟩) ?_
  have hq' := hq
  unfold Txt.replace at hq'
  cases hc : ((occurrences x y 0 x.length (x.length + 1)).isEmpty || (y.length == 0 && z.length == 0))
  · rw [hc] at hq'
    simp only [Bool.false_eq_true, if_false] at hq' ⊢
    exact ⟨fits_replaced y hb, hq' _ _ (Nat.le_succ _)⟩
  · rw [hc] at hq'
    simp only [if_true] at hq' ⊢
    exact hq' t s.toks (Nat.le_refl _)
end
end Mine
end

section
open PySem PySem.W PyProof.Rows
namespace Mine
section
variable {prog : Program} {w : World} {A : Around} {E : Value → Shared → Prop} {Q : Flow → Shared → Prop} {s : Shared} {env : Env} {h₀ : Heap} {L : Addr} {m : Str → Option Value} {news : List (Addr × Obj)}

/-- what a loop's body ends in: on with the loop (Go), or out of it -/
noncomputable def TurnF (Q : Flow → Shared → Prop) (Go : Shared → Prop) (f : Flow) (s : Shared) : Prop := match f with
  | .next => Go s
  | .cont => Go s
  | .brk => Q .next s
  | .ret v => Q (.ret v) s
/-- a for over any iterator, by a measure -/
theorem for_any {x : Str} {px pos : Pos} {iter : PySem.Expr} {body : List Stmt}
    (h : wpAny (model prog w) A (eval iter env) (fun xv s₁ => wpAny (model prog w) A (pyIter xv) (fun it s₂ => ∃ (Inv : Nat → Shared → Prop) (n : Nat), Inv n s₂ ∧ ∀ k s', Inv k s' →
      wpAny (model prog w) A (pyNext it) (fun r s₃ => match r with
        | none => Q .next s₃
        | some v => wpAny (model prog w) A (storeName env x v) (fun _ s₄ => wpAny (model prog w) A (execs body env) (TurnF Q (fun s₅ => ∃ j, j < k ∧ Inv j s₅)) E s₄) E s₃) E s') E s₁) E s)
    (hs : ∀ x, foldedSetIterable iter env x = pure x) (hE : PassesOwn (model prog w) A env E) :
    wpAny (model prog w) A (exec (.For (.Name x px) iter body [] pos) env) Q E s := by
  refine wpAny_For (wpAny_mono h (fun xv s₁ h₁ => wpAny_mono h₁ (fun it s₂ h₂ => ?_) fun _ _ z => z) fun _ _ z => z) hs
  obtain ⟨Inv, n, h0, turn⟩ := h₂
  refine codeAny_forLoop (R := fun r s' => match r with | .ok f => Q f s' | .error e => cameBackBy (model prog w) A env E e s') Inv ?_ n h0
  intro k s' hk
  refine wpAny_passesOwn hE (wpAny_mono (turn k s' hk) (fun r s₁ hr => ?_) fun _ _ z => z)
  cases r with
  | none => exact wpAny_execs_nil hr
  | some y =>
    refine wpAny_passesOwn hE (wpAny_assign_Name (wpAny_mono hr (fun _ s₂ h₂ => ?_) fun _ _ z => z))
    refine wpAny_passesOwn hE (wpAny_mono h₂ (fun f s₃ h₃ => ?_) fun _ _ z => z)
    cases f with
    | next => exact h₃
    | cont => exact h₃
    | brk => exact h₃
    | ret _ => exact h₃

end
end Mine
namespace Mine
end Mine
namespace Mine
section
variable {prog : Program} {w : World} {A : Around} {E : Value → Shared → Prop} {Q : Flow → Shared → Prop} {s : Shared} {env : Env} {h₀ : Heap} {L : Addr} {m : Str → Option Value} {news : List (Addr × Obj)}
theorem kst_map {ps : List (Str × Value)} {stored : List Str} {m₀ m₁ : Str → Option Value} (h1 : ∀ p ∈ ps, m₁ p.1 = some p.2) (h2 : ∀ z, (∀ p ∈ ps, z ≠ p.1) → stored.contains z = false → m₁ z = m₀ z) :
    kstB (fun z => if stored.contains z then m₁ z else m₀ z) ps = m₁ := by
  funext y
  refine kstB_eq h1 fun hn => ?_
  show (if stored.contains y = true then m₁ y else m₀ y) = m₁ y
  cases h3 : stored.contains y with
  | true => simp
  | false => simp only [Bool.false_eq_true, if_false]; exact (h2 y hn h3).symm
noncomputable def ListEnd {σ : Type} (h₀ : Heap) (L : Addr) (s : Shared) (I : Addr) (oI : Obj) (Led : σ → List (Addr × Obj)) (ps : σ → List (Str × Value)) (stored : List Str) (m : Str → Option Value) (J : σ → Prop) (s' : Shared) : Prop :=
  ∃ c h' tk m', s' = { s with heap := h', toks := tk } ∧ Fr h₀ L h' m' ∧ News h₀ L h' ((I, oI) :: Led c) ∧ (∀ q ∈ Led c, q.1 ≠ I) ∧ (∀ p ∈ ps c, m' p.1 = some p.2) ∧ (∀ z, (∀ p ∈ ps c, z ≠ p.1) → stored.contains z = false → m' z = m z) ∧ J c
theorem ListEnd.intro {σ : Type} {I : Addr} {oI : Obj} {Led : σ → List (Addr × Obj)} {ps : σ → List (Str × Value)} {stored : List Str} {J : σ → Prop} {h' : Heap} {tk : Nat} {m' : Str → Option Value} (c : σ)
    (F : Fr h₀ L h' m') (N : News h₀ L h' ((I, oI) :: Led c)) (off : ∀ q ∈ Led c, q.1 ≠ I) (hk : ∀ p ∈ ps c, m' p.1 = some p.2) (hr : ∀ z, (∀ p ∈ ps c, z ≠ p.1) → stored.contains z = false → m' z = m z) (j : J c) :
    ListEnd h₀ L s I oI Led ps stored m J { s with heap := h', toks := tk } := ⟨c, h', tk, m', rfl, F, N, off, hk, hr, j⟩
theorem allLt_ne {D : Addr} : ∀ {l : List (Addr × Obj)}, AllLt D l → ∀ q ∈ l, q.1 ≠ D
  | [], _, _, hq => nomatch hq
  | p :: l, h, q, hq => by
    have ih := allLt_ne (l := l) h.2 q
    have h1 := h.1
    clear h
    cases hq with
    | head => exact Nat.ne_of_lt h1
    | tail _ hq => exact ih hq
theorem mem_cons_ne {D : Addr} {p : Addr × Obj} {l : List (Addr × Obj)} (h : @Ne Nat p.1 D) (hl : ∀ q ∈ l, q.1 ≠ D) : ∀ q ∈ p :: l, q.1 ≠ D := fun q hq => by
  cases hq with
  | head => exact h
  | tail _ hq => exact hl q hq
theorem swapN {h₀ h : Heap} {L : Addr} {a b : Addr × Obj} {news : List (Addr × Obj)} (N : News h₀ L h (a :: b :: news)) : News h₀ L h (b :: a :: news) := fun p hp => N p (by
  cases hp with
  | head => exact .tail _ (.head _)
  | tail _ hp => cases hp with
    | head => exact .head _
    | tail _ hp => exact .tail _ (.tail _ hp))
end
end Mine
namespace Mine
theorem Con.last {w : World} {p : Program} {loose : List Str} {mean : ExcName → Option Value} {mg mb : Str → Option Value} {k : Nat} {f : Addr} {pos : List Value} {kw : List (Str × Value)}
    {news : List (Addr × Obj)} {post : Value → List (Addr × Obj) → Prop}
    {dp un : Nat} {gd : Option (List Code)} {cn : Str} {cs : Scope} {a : Addr} {ccd : Value} {cl : List (Str × Addr)} {outer : List Env} {A₀ : Around}
    {base h₀ : Heap} {L : Addr} {m : Str → Option Value} {s : Shared} {R : Result → Shared → Prop}
    (B : Below A₀ base outer h₀) (F : Fr h₀ L s.heap m) (X : (hd.heap_39 w.params).In h₀) (N : News h₀ L s.heap news) (T : Top p loose mean mg mb h₀) (hk : cs.kind = .function)
    (C : Con w p loose mean mg mb k f pos kw news post)
    (hd : dp + k < recursionLimit) (hu : un + 20 * k < cLine)
    (ret : ∀ v news' h' tk', post v news' → Fr h₀ L h' m → News h₀ L h' news' → R (.ok (.ret v)) { s with heap := h', toks := tk' }) :
    codeAny (model Pg w) (ktrTop dp un gd cn cs L a ccd cl outer) (.call (.ref f) ⟨pos, kw⟩) R s := C.use B F X N T hk hd hu ret
end Mine
namespace Mine
end Mine
namespace Mine
theorem Con.l1 {w : World} {p : Program} {loose : List Str} {mean : ExcName → Option Value} {mg mb : Str → Option Value} {k : Nat} {f : Addr} {pos : List Value} {kw : List (Str × Value)}
    {news : List (Addr × Obj)} {τ0 : Type} {V : τ0 → Value} {NW : τ0 → List (Addr × Obj)}
    {dp un : Nat} {gd : Option (List Code)} {cn : Str} {cs : Scope} {a0 : Addr} {ccd : Value} {cl : List (Str × Addr)} {outer : List Env} {A₀ : Around}
    {base h₀ : Heap} {L : Addr} {m : Str → Option Value} {s : Shared} {R : Result → Shared → Prop}
    (B : Below A₀ base outer h₀) (F : Fr h₀ L s.heap m) (X : (hd.heap_39 w.params).In h₀) (N : News h₀ L s.heap news) (T : Top p loose mean mg mb h₀) (hk : cs.kind = .function)
    (C : Con w p loose mean mg mb k f pos kw news (fun v news' => ∃ a, v = V a ∧ news' = NW a))
    (hd : dp + k < recursionLimit) (hu : un + 20 * k < cLine)
    (ret : ∀ (a : τ0) h' tk', Fr h₀ L h' m → News h₀ L h' (NW a) → R (.ok (.ret (V a))) { s with heap := h', toks := tk' }) :
    codeAny (model Pg w) (ktrTop dp un gd cn cs L a0 ccd cl outer) (.call (.ref f) ⟨pos, kw⟩) R s :=
  Con.last B F X N T hk C hd hu fun _ _ _ _ hp F' N' => by
    obtain ⟨a, rfl, rfl⟩ := hp
    exact ret a _ _ F' N'
theorem Con.l2p {w : World} {p : Program} {loose : List Str} {mean : ExcName → Option Value} {mg mb : Str → Option Value} {k : Nat} {f : Addr} {pos : List Value} {kw : List (Str × Value)}
    {news : List (Addr × Obj)} {τ0 : Type} {τ1 : Type} {V : τ0 → τ1 → Value} {NW : τ0 → τ1 → List (Addr × Obj)} {P0 : τ0 → τ1 → Prop}
    {dp un : Nat} {gd : Option (List Code)} {cn : Str} {cs : Scope} {a0 : Addr} {ccd : Value} {cl : List (Str × Addr)} {outer : List Env} {A₀ : Around}
    {base h₀ : Heap} {L : Addr} {m : Str → Option Value} {s : Shared} {R : Result → Shared → Prop}
    (B : Below A₀ base outer h₀) (F : Fr h₀ L s.heap m) (X : (hd.heap_39 w.params).In h₀) (N : News h₀ L s.heap news) (T : Top p loose mean mg mb h₀) (hk : cs.kind = .function)
    (C : Con w p loose mean mg mb k f pos kw news (fun v news' => ∃ a b, v = V a b ∧ P0 a b ∧ news' = NW a b))
    (hd : dp + k < recursionLimit) (hu : un + 20 * k < cLine)
    (ret : ∀ (a : τ0) (b : τ1) h' tk', P0 a b → Fr h₀ L h' m → News h₀ L h' (NW a b) → R (.ok (.ret (V a b))) { s with heap := h', toks := tk' }) :
    codeAny (model Pg w) (ktrTop dp un gd cn cs L a0 ccd cl outer) (.call (.ref f) ⟨pos, kw⟩) R s :=
  Con.last B F X N T hk C hd hu fun _ _ _ _ hp F' N' => by
    obtain ⟨a, b, rfl, h0, rfl⟩ := hp
    exact ret a b _ _ h0 F' N'
theorem Con.l2pp {w : World} {p : Program} {loose : List Str} {mean : ExcName → Option Value} {mg mb : Str → Option Value} {k : Nat} {f : Addr} {pos : List Value} {kw : List (Str × Value)}
    {news : List (Addr × Obj)} {τ0 : Type} {τ1 : Type} {V : τ0 → τ1 → Value} {NW : τ0 → τ1 → List (Addr × Obj)} {P0 : τ0 → τ1 → Prop} {P1 : τ0 → τ1 → Prop}
    {dp un : Nat} {gd : Option (List Code)} {cn : Str} {cs : Scope} {a0 : Addr} {ccd : Value} {cl : List (Str × Addr)} {outer : List Env} {A₀ : Around}
    {base h₀ : Heap} {L : Addr} {m : Str → Option Value} {s : Shared} {R : Result → Shared → Prop}
    (B : Below A₀ base outer h₀) (F : Fr h₀ L s.heap m) (X : (hd.heap_39 w.params).In h₀) (N : News h₀ L s.heap news) (T : Top p loose mean mg mb h₀) (hk : cs.kind = .function)
    (C : Con w p loose mean mg mb k f pos kw news (fun v news' => ∃ a b, v = V a b ∧ P0 a b ∧ P1 a b ∧ news' = NW a b))
    (hd : dp + k < recursionLimit) (hu : un + 20 * k < cLine)
    (ret : ∀ (a : τ0) (b : τ1) h' tk', P0 a b → P1 a b → Fr h₀ L h' m → News h₀ L h' (NW a b) → R (.ok (.ret (V a b))) { s with heap := h', toks := tk' }) :
    codeAny (model Pg w) (ktrTop dp un gd cn cs L a0 ccd cl outer) (.call (.ref f) ⟨pos, kw⟩) R s :=
  Con.last B F X N T hk C hd hu fun _ _ _ _ hp F' N' => by
    obtain ⟨a, b, rfl, h0, h1, rfl⟩ := hp
    exact ret a b _ _ h0 h1 F' N'
theorem Con.l3pp {w : World} {p : Program} {loose : List Str} {mean : ExcName → Option Value} {mg mb : Str → Option Value} {k : Nat} {f : Addr} {pos : List Value} {kw : List (Str × Value)}
    {news : List (Addr × Obj)} {τ0 : Type} {τ1 : Type} {τ2 : Type} {V : τ0 → τ1 → τ2 → Value} {NW : τ0 → τ1 → τ2 → List (Addr × Obj)} {P0 : τ0 → τ1 → τ2 → Prop} {P1 : τ0 → τ1 → τ2 → Prop}
    {dp un : Nat} {gd : Option (List Code)} {cn : Str} {cs : Scope} {a0 : Addr} {ccd : Value} {cl : List (Str × Addr)} {outer : List Env} {A₀ : Around}
    {base h₀ : Heap} {L : Addr} {m : Str → Option Value} {s : Shared} {R : Result → Shared → Prop}
    (B : Below A₀ base outer h₀) (F : Fr h₀ L s.heap m) (X : (hd.heap_39 w.params).In h₀) (N : News h₀ L s.heap news) (T : Top p loose mean mg mb h₀) (hk : cs.kind = .function)
    (C : Con w p loose mean mg mb k f pos kw news (fun v news' => ∃ a b c, v = V a b c ∧ P0 a b c ∧ P1 a b c ∧ news' = NW a b c))
    (hd : dp + k < recursionLimit) (hu : un + 20 * k < cLine)
    (ret : ∀ (a : τ0) (b : τ1) (c : τ2) h' tk', P0 a b c → P1 a b c → Fr h₀ L h' m → News h₀ L h' (NW a b c) → R (.ok (.ret (V a b c))) { s with heap := h', toks := tk' }) :
    codeAny (model Pg w) (ktrTop dp un gd cn cs L a0 ccd cl outer) (.call (.ref f) ⟨pos, kw⟩) R s :=
  Con.last B F X N T hk C hd hu fun _ _ _ _ hp F' N' => by
    obtain ⟨a, b, c, rfl, h0, h1, rfl⟩ := hp
    exact ret a b c _ _ h0 h1 F' N'
theorem Con.l3 {w : World} {p : Program} {loose : List Str} {mean : ExcName → Option Value} {mg mb : Str → Option Value} {k : Nat} {f : Addr} {pos : List Value} {kw : List (Str × Value)}
    {news : List (Addr × Obj)} {τ0 : Type} {τ1 : Type} {τ2 : Type} {V : τ0 → τ1 → τ2 → Value} {NW : τ0 → τ1 → τ2 → List (Addr × Obj)}
    {dp un : Nat} {gd : Option (List Code)} {cn : Str} {cs : Scope} {a0 : Addr} {ccd : Value} {cl : List (Str × Addr)} {outer : List Env} {A₀ : Around}
    {base h₀ : Heap} {L : Addr} {m : Str → Option Value} {s : Shared} {R : Result → Shared → Prop}
    (B : Below A₀ base outer h₀) (F : Fr h₀ L s.heap m) (X : (hd.heap_39 w.params).In h₀) (N : News h₀ L s.heap news) (T : Top p loose mean mg mb h₀) (hk : cs.kind = .function)
    (C : Con w p loose mean mg mb k f pos kw news (fun v news' => ∃ a b c, v = V a b c ∧ news' = NW a b c))
    (hd : dp + k < recursionLimit) (hu : un + 20 * k < cLine)
    (ret : ∀ (a : τ0) (b : τ1) (c : τ2) h' tk', Fr h₀ L h' m → News h₀ L h' (NW a b c) → R (.ok (.ret (V a b c))) { s with heap := h', toks := tk' }) :
    codeAny (model Pg w) (ktrTop dp un gd cn cs L a0 ccd cl outer) (.call (.ref f) ⟨pos, kw⟩) R s :=
  Con.last B F X N T hk C hd hu fun _ _ _ _ hp F' N' => by
    obtain ⟨a, b, c, rfl, rfl⟩ := hp
    exact ret a b c _ _ F' N'
theorem Con.l4 {w : World} {p : Program} {loose : List Str} {mean : ExcName → Option Value} {mg mb : Str → Option Value} {k : Nat} {f : Addr} {pos : List Value} {kw : List (Str × Value)}
    {news : List (Addr × Obj)} {τ0 : Type} {τ1 : Type} {τ2 : Type} {τ3 : Type} {V : τ0 → τ1 → τ2 → τ3 → Value} {NW : τ0 → τ1 → τ2 → τ3 → List (Addr × Obj)}
    {dp un : Nat} {gd : Option (List Code)} {cn : Str} {cs : Scope} {a0 : Addr} {ccd : Value} {cl : List (Str × Addr)} {outer : List Env} {A₀ : Around}
    {base h₀ : Heap} {L : Addr} {m : Str → Option Value} {s : Shared} {R : Result → Shared → Prop}
    (B : Below A₀ base outer h₀) (F : Fr h₀ L s.heap m) (X : (hd.heap_39 w.params).In h₀) (N : News h₀ L s.heap news) (T : Top p loose mean mg mb h₀) (hk : cs.kind = .function)
    (C : Con w p loose mean mg mb k f pos kw news (fun v news' => ∃ a b c d, v = V a b c d ∧ news' = NW a b c d))
    (hd : dp + k < recursionLimit) (hu : un + 20 * k < cLine)
    (ret : ∀ (a : τ0) (b : τ1) (c : τ2) (d : τ3) h' tk', Fr h₀ L h' m → News h₀ L h' (NW a b c d) → R (.ok (.ret (V a b c d))) { s with heap := h', toks := tk' }) :
    codeAny (model Pg w) (ktrTop dp un gd cn cs L a0 ccd cl outer) (.call (.ref f) ⟨pos, kw⟩) R s :=
  Con.last B F X N T hk C hd hu fun _ _ _ _ hp F' N' => by
    obtain ⟨a, b, c, d, rfl, rfl⟩ := hp
    exact ret a b c d _ _ F' N'
theorem Con.l4pp {w : World} {p : Program} {loose : List Str} {mean : ExcName → Option Value} {mg mb : Str → Option Value} {k : Nat} {f : Addr} {pos : List Value} {kw : List (Str × Value)}
    {news : List (Addr × Obj)} {τ0 : Type} {τ1 : Type} {τ2 : Type} {τ3 : Type} {V : τ0 → τ1 → τ2 → τ3 → Value} {NW : τ0 → τ1 → τ2 → τ3 → List (Addr × Obj)} {P0 : τ0 → τ1 → τ2 → τ3 → Prop} {P1 : τ0 → τ1 → τ2 → τ3 → Prop}
    {dp un : Nat} {gd : Option (List Code)} {cn : Str} {cs : Scope} {a0 : Addr} {ccd : Value} {cl : List (Str × Addr)} {outer : List Env} {A₀ : Around}
    {base h₀ : Heap} {L : Addr} {m : Str → Option Value} {s : Shared} {R : Result → Shared → Prop}
    (B : Below A₀ base outer h₀) (F : Fr h₀ L s.heap m) (X : (hd.heap_39 w.params).In h₀) (N : News h₀ L s.heap news) (T : Top p loose mean mg mb h₀) (hk : cs.kind = .function)
    (C : Con w p loose mean mg mb k f pos kw news (fun v news' => ∃ a b c d, v = V a b c d ∧ P0 a b c d ∧ P1 a b c d ∧ news' = NW a b c d))
    (hd : dp + k < recursionLimit) (hu : un + 20 * k < cLine)
    (ret : ∀ (a : τ0) (b : τ1) (c : τ2) (d : τ3) h' tk', P0 a b c d → P1 a b c d → Fr h₀ L h' m → News h₀ L h' (NW a b c d) → R (.ok (.ret (V a b c d))) { s with heap := h', toks := tk' }) :
    codeAny (model Pg w) (ktrTop dp un gd cn cs L a0 ccd cl outer) (.call (.ref f) ⟨pos, kw⟩) R s :=
  Con.last B F X N T hk C hd hu fun _ _ _ _ hp F' N' => by
    obtain ⟨a, b, c, d, rfl, h0, h1, rfl⟩ := hp
    exact ret a b c d _ _ h0 h1 F' N'
theorem Con.l5pp {w : World} {p : Program} {loose : List Str} {mean : ExcName → Option Value} {mg mb : Str → Option Value} {k : Nat} {f : Addr} {pos : List Value} {kw : List (Str × Value)}
    {news : List (Addr × Obj)} {τ0 : Type} {τ1 : Type} {τ2 : Type} {τ3 : Type} {τ4 : Type} {V : τ0 → τ1 → τ2 → τ3 → τ4 → Value} {NW : τ0 → τ1 → τ2 → τ3 → τ4 → List (Addr × Obj)} {P0 : τ0 → τ1 → τ2 → τ3 → τ4 → Prop} {P1 : τ0 → τ1 → τ2 → τ3 → τ4 → Prop}
    {dp un : Nat} {gd : Option (List Code)} {cn : Str} {cs : Scope} {a0 : Addr} {ccd : Value} {cl : List (Str × Addr)} {outer : List Env} {A₀ : Around}
    {base h₀ : Heap} {L : Addr} {m : Str → Option Value} {s : Shared} {R : Result → Shared → Prop}
    (B : Below A₀ base outer h₀) (F : Fr h₀ L s.heap m) (X : (hd.heap_39 w.params).In h₀) (N : News h₀ L s.heap news) (T : Top p loose mean mg mb h₀) (hk : cs.kind = .function)
    (C : Con w p loose mean mg mb k f pos kw news (fun v news' => ∃ a b c d e, v = V a b c d e ∧ P0 a b c d e ∧ P1 a b c d e ∧ news' = NW a b c d e))
    (hd : dp + k < recursionLimit) (hu : un + 20 * k < cLine)
    (ret : ∀ (a : τ0) (b : τ1) (c : τ2) (d : τ3) (e : τ4) h' tk', P0 a b c d e → P1 a b c d e → Fr h₀ L h' m → News h₀ L h' (NW a b c d e) → R (.ok (.ret (V a b c d e))) { s with heap := h', toks := tk' }) :
    codeAny (model Pg w) (ktrTop dp un gd cn cs L a0 ccd cl outer) (.call (.ref f) ⟨pos, kw⟩) R s :=
  Con.last B F X N T hk C hd hu fun _ _ _ _ hp F' N' => by
    obtain ⟨a, b, c, d, e, rfl, h0, h1, rfl⟩ := hp
    exact ret a b c d e _ _ h0 h1 F' N'
theorem Con.l5ppp {w : World} {p : Program} {loose : List Str} {mean : ExcName → Option Value} {mg mb : Str → Option Value} {k : Nat} {f : Addr} {pos : List Value} {kw : List (Str × Value)}
    {news : List (Addr × Obj)} {τ0 : Type} {τ1 : Type} {τ2 : Type} {τ3 : Type} {τ4 : Type} {V : τ0 → τ1 → τ2 → τ3 → τ4 → Value} {NW : τ0 → τ1 → τ2 → τ3 → τ4 → List (Addr × Obj)} {P0 : τ0 → τ1 → τ2 → τ3 → τ4 → Prop} {P1 : τ0 → τ1 → τ2 → τ3 → τ4 → Prop} {P2 : τ0 → τ1 → τ2 → τ3 → τ4 → Prop}
    {dp un : Nat} {gd : Option (List Code)} {cn : Str} {cs : Scope} {a0 : Addr} {ccd : Value} {cl : List (Str × Addr)} {outer : List Env} {A₀ : Around}
    {base h₀ : Heap} {L : Addr} {m : Str → Option Value} {s : Shared} {R : Result → Shared → Prop}
    (B : Below A₀ base outer h₀) (F : Fr h₀ L s.heap m) (X : (hd.heap_39 w.params).In h₀) (N : News h₀ L s.heap news) (T : Top p loose mean mg mb h₀) (hk : cs.kind = .function)
    (C : Con w p loose mean mg mb k f pos kw news (fun v news' => ∃ a b c d e, v = V a b c d e ∧ P0 a b c d e ∧ P1 a b c d e ∧ P2 a b c d e ∧ news' = NW a b c d e))
    (hd : dp + k < recursionLimit) (hu : un + 20 * k < cLine)
    (ret : ∀ (a : τ0) (b : τ1) (c : τ2) (d : τ3) (e : τ4) h' tk', P0 a b c d e → P1 a b c d e → P2 a b c d e → Fr h₀ L h' m → News h₀ L h' (NW a b c d e) → R (.ok (.ret (V a b c d e))) { s with heap := h', toks := tk' }) :
    codeAny (model Pg w) (ktrTop dp un gd cn cs L a0 ccd cl outer) (.call (.ref f) ⟨pos, kw⟩) R s :=
  Con.last B F X N T hk C hd hu fun _ _ _ _ hp F' N' => by
    obtain ⟨a, b, c, d, e, rfl, h0, h1, h2, rfl⟩ := hp
    exact ret a b c d e _ _ h0 h1 h2 F' N'
end Mine
end

local macro_rules | `(tactic| k_all) => `(tactic| first | assumption | exact Mine.allLt_ne (by first | assumption | exact And.right (by assumption) | exact And.right (And.right (by assumption)) | exact And.right (And.right (And.right (by assumption)))))

section
open PySem PySem.W PyProof.Rows
namespace Mine
noncomputable def esc (c : Nat) : List Nat := if c = 92 then [92, 92] else if c = 34 then [92, 34] else [c]
noncomputable def bareL (a b : Nat) : List Nat := (replyL a b).flatMap (fun c => [92, c]) ++ [9]
noncomputable def quotL (a b : Nat) : List Nat := 34 :: (replyL a b).flatMap esc ++ [34, 10]
noncomputable def isBare (n : Int) : Bool := n / 28 % 2 == 1
noncomputable def spellL (n : Int) : List Nat := if isBare n then bareL (mkN n) (ptN n) else quotL (mkN n) (ptN n)
noncomputable def spellS (n : Int) : Str := codesOf (spellL n)
set_option maxRecDepth 100000 in
theorem bare_eqAB : ∀ a : Nat, a < 4 → ∀ b : Nat, b < 7 → Txt.join (Str.ofString "") ((replyAB a b).cps.toList.map fun c => Str.ofString "\\" ++ ⟨#[c]⟩) ++ Str.ofString "\t" = codesOf (bareL a b) := by decide +kernel
set_option maxRecDepth 100000 in
theorem quot_eqAB : ∀ a : Nat, a < 4 → ∀ b : Nat, b < 7 → Str.ofString "\"" ++ Txt.replace (Txt.replace (replyAB a b) (Str.ofString "\\") (Str.ofString "\\\\")) (Str.ofString "\"") (Str.ofString "\\\"") ++ Str.ofString "\"\n" = codesOf (quotL a b) := by decide +kernel
set_option maxRecDepth 100000 in
theorem repl_lenAB : ∀ a : Nat, a < 4 → ∀ b : Nat, b < 7 → (Txt.replace (replyAB a b) (Str.ofString "\\") (Str.ofString "\\\\")).length ≤ 30 ∧ (Txt.replace (Txt.replace (replyAB a b) (Str.ofString "\\") (Str.ofString "\\\\")) (Str.ofString "\"") (Str.ofString "\\\"")).length ≤ 30 := by decide +kernel
set_option maxRecDepth 100000 in
theorem sum_lenAB : ∀ a : Nat, a < 4 → ∀ b : Nat, b < 7 → ((((replyAB a b).cps.toList.map fun c => Str.ofString "\\" ++ ⟨#[c]⟩).map (·.length)).sum + ((replyAB a b).cps.toList.map fun c => Str.ofString "\\" ++ ⟨#[c]⟩).length ≤ 100) ∧ (Txt.join (Str.ofString "") ((replyAB a b).cps.toList.map fun c => Str.ofString "\\" ++ ⟨#[c]⟩)).length ≤ 30 := by decide +kernel
theorem spell_bare {n : Int} (h : (n.fdiv 28).fmod 2 = 1) : Txt.join (Str.ofString "") ((replyS n).cps.toList.map fun c => Str.ofString "\\" ++ ⟨#[c]⟩) ++ Str.ofString "\t" = spellS n := by
  have e : isBare n = true := by
    rw [Int.fdiv_eq_ediv_of_nonneg _ (by decide), Int.fmod_eq_emod_of_nonneg _ (by decide)] at h
    simp [isBare, h]
  unfold spellS spellL
  rw [if_pos e]
  exact bare_eqAB _ (mkN_lt n) _ (ptN_lt n)
theorem spell_quot {n : Int} (h : (n.fdiv 28).fmod 2 ≠ 1) : Str.ofString "\"" ++ Txt.replace (Txt.replace (replyS n) (Str.ofString "\\") (Str.ofString "\\\\")) (Str.ofString "\"") (Str.ofString "\\\"") ++ Str.ofString "\"\n" = spellS n := by
  have e : ¬ isBare n = true := by
    rw [Int.fdiv_eq_ediv_of_nonneg _ (by decide), Int.fmod_eq_emod_of_nonneg _ (by decide)] at h
    simp [isBare, h]
  unfold spellS spellL
  rw [if_neg e]
  exact quot_eqAB _ (mkN_lt n) _ (ptN_lt n)
theorem fill4 : PySem.Challenge.rw_sr0032_01.foot = 12 ∧ Mine.hd.heap_39 = Mine.hd.heap_39 := by
  k_fill
  exact ⟨rfl, rfl⟩
theorem rep_sz {n : Nat} (h : n ≤ 1000) : n + (n + 1) * 2 ≤ 16777216 := Nat.le_trans (Nat.add_le_add h (Nat.mul_le_mul_right 2 (Nat.succ_le_succ h))) (by decide)
set_option maxRecDepth 100000 in
set_option maxHeartbeats 8000000 in
theorem spell_c (w : World) (p : Program) (loose : List Str) (mean : ExcName → Option Value) (mg mb : Str → Option Value) (news : List (Addr × Obj)) (n : Int) (t : Tok) (h0 : 0 ≤ n) :
    Con w p loose mean mg mb 8 151 [.int n t] [] news (fun r news' => ∃ t3, r = .str (spellS n) t3 ∧ news' = news) := by
  w_on
  w_strict (
    unfold Con
    intro dp un gd cn cn' cg cc cm a ccd cl outer A₀ base h₀ L m s R B F X N T hd hu hret
    have hk : (Scope.mk .function cn' cg cc cm).kind = .function := rfl
    have hlen : (replyS n).length ≤ 11 := by rw [rS_len]; exact Nat.succ_le_succ (qAt_bd (ptN n)).2
    have hr := repl_lenAB _ (mkN_lt n) _ (ptN_lt n)
    have hr1 : (Txt.replace (replyS n) (Str.ofString "\\") (Str.ofString "\\\\")).length ≤ 30 := hr.1
    have hr2 : (Txt.replace (Txt.replace (replyS n) (Str.ofString "\\") (Str.ofString "\\\\")) (Str.ofString "\"") (Str.ofString "\\\"")).length ≤ 30 := hr.2
    have hs := sum_lenAB _ (mkN_lt n) _ (ptN_lt n)
    have hs1 : (((replyS n).cps.toList.map fun c => Str.ofString "\\" ++ ⟨#[c]⟩).map (·.length)).sum + ((replyS n).cps.toList.map fun c => Str.ofString "\\" ++ ⟨#[c]⟩).length ≤ 1048576 := Nat.le_trans hs.1 (by decide)
    have hs2 : (Txt.join (Str.ofString "") ((replyS n).cps.toList.map fun c => Str.ofString "\\" ++ ⟨#[c]⟩)).length ≤ 30 := hs.2
    have e1 := spell_bare (n := n)
    have e2 := spell_quot (n := n)
    clear hr hs
    generalize spellS n = sp at *
    (k_dflt cell_enter)
    repeat' (first
      | ((with_reducible show wpAny _ _ (call (Value.ref 146) _) _ _ _); k_dflt (refine wpAny_call (Con.l1 (by k_asm) (by k_asm) (by k_asm) (by k_asm) (by k_asm) rfl (reply_c _ _ _ _ _ _ _ _ _ h0) (by first | exact lt0 (by assumption) (by decide) | exact lt1 (by assumption) (by decide) | exact lt2 (by assumption) (by decide) | exact lt3 (by assumption) (by decide) | exact lt4 (by assumption) (by decide) | ktr_room) (by first | exact lt0 (by assumption) (by decide) | exact lt1 (by assumption) (by decide) | exact lt2 (by assumption) (by decide) | exact lt3 (by assumption) (by decide) | exact lt4 (by assumption) (by decide) | ktr_units) ?_)); intro t3 h' tk' F' N'; (try dsimp only))
      | ((with_reducible show wpAny _ _ (eval (PySem.Expr.ListComp _ _ _ _) _) _ _ _); k_dflt (refine' comp_signs rfl ?k1 ?k2 ?k3 ?k4 ?k5 ?k6 ?k7 ?k8 ?k9 ?k10 ?k11 ?k12 ?k13 ?k14 ?_; (case k1 => k_asm); (case k2 => k_asm); (case k3 => exact rfl); (case k4 => omega); (case k5 => decide); (case k6 => rfl); (case k7 => rfl); (case k8 => decide); (case k9 => decide); (case k10 => decide); (case k11 => rfl); (case k12 => decide); (case k13 => rfl); (case k14 => decide); intro D' h' tk' ys' n' F' N' off' hS'; (try dsimp only)))
      | ((with_reducible show wpAny _ _ (call (Value.builtin "str.join") _) _ _ _); (with_reducible rename StrsAre _ _ => hS9); k_dflt (refine join_listW (News.isList (by k_asm) (by k_mem)) hS9 (by decide) hs1 ?_); intro t' tk')
      | ((with_reducible show wpAny _ _ (call (Value.builtin "str.replace") _) _ _ _); k_dflt (refine replaceK (by first | exact Nat.le_trans (by assumption) (by decide) | ((try dsimp only); omega)) (by first | exact Nat.le_trans (by assumption) (by decide) | ((try dsimp only); omega)) (by first | exact Nat.le_trans (by assumption) (by decide) | ((try dsimp only); omega)) (by decide) (by rw [show (Str.ofString "\\\\").length = 2 from rfl]; first | exact rep_sz (Nat.le_trans (by assumption) (by decide)) | omega) ?_); intro t' k' hk'; (try dsimp only at hk'))
      | ((with_reducible show wpAny _ _ (call (Value.builtin "str.replace") _) _ _ _); k_dflt (refine replaceK (by first | exact Nat.le_trans (by assumption) (by decide) | ((try dsimp only); omega)) (by first | exact Nat.le_trans (by assumption) (by decide) | ((try dsimp only); omega)) (by first | exact Nat.le_trans (by assumption) (by decide) | ((try dsimp only); omega)) (by decide) (by rw [show (Str.ofString "\\\"").length = 2 from rfl]; first | exact rep_sz (Nat.le_trans (by assumption) (by decide)) | omega) ?_); intro t' k' hk'; (try dsimp only at hk'))
      | (k_unfold; (try dsimp only))
      | (walk1 <;> (try dsimp only))
      | (dsimp only; walk1)
      | (leave1; try dsimp only)
      | fail "no step")
    all_goals first
      | (rw [e1 (by assumption)]; exact hret _ _ _ _ ⟨_, rfl, rfl⟩ (by assumption) (subN (by assumption) (by repeat (first | exact List.Sublist.refl _ | refine List.Sublist.cons _ ?_))))
      | (rw [e2 (by assumption)]; exact hret _ _ _ _ ⟨_, rfl, rfl⟩ (by assumption) (subN (by assumption) (by repeat (first | exact List.Sublist.refl _ | refine List.Sublist.cons _ ?_))))
      )
end Mine
end

section
set_option maxRecDepth 100000
open PySem PySem.W PyProof.Rows PySem.Calls Builtin Builtin.ObjectAttr
namespace Mine
theorem slot_fn_sa : Slot "function" "__setattr__" "object.__setattr__" := .of (owner := "object") (n := "__setattr__") (by rw [typeLookup_type, builtinLookup_eq_fast]; kernel_rfl) (by decide +kernel) (by decide +kernel) (by decide +kernel)
  (by first | exact .inl (by decide +kernel) | exact .inr (by decide +kernel)) (by rw [isSubtype_type]; kernel_rfl)
theorem entry_sa : entryFor table "object.__setattr__" = some Builtin.«object.__setattr__» := entryFor_of_tree (by kernel_rfl)
theorem args_sa (a b c : Value) : argsOk "object.__setattr__" ⟨[a, b, c], []⟩ := by unfold argsOk; kernel_rfl
theorem fn_read_none : typeLookup (.type "function") "read" = pure none := by rw [typeLookup_type, builtinLookup_eq_fast]; kernel_rfl
theorem fn_mro : mroOf (.type "function") = pure [.type "function", .type "object"] := by kernel_rfl
theorem fn_passes (self : Value) : refuseLoop self "__setattr__" [.type "function", .type "object"] = pure () := by
  unfold refuseLoop
  kernel_rfl
section
variable {prog : Program} {w : World} {A : Around} {E : Value → Shared → Prop} {h : Heap} {g : Array GenState} {d : Drawn} {t : Nat} {os : OsState} {x : Addr} {o : Obj} {v : Value}
theorem setattr_fn {Q : Unit → Shared → Prop} (hx : h.get? x = some o) (hc : o.cls = .type "function") (hdn : o.dict = none) (hnc : ∀ c, o.data ≠ .cls c) (hfr : ({ o with dict := some h.objs.size } : Obj).isFreed = false)
    (hq : ∀ h' tk, h'.get? x = some { o with dict := some h.objs.size } → h'.Ns1 h.objs.size (fun y => if y = "read" then some v else none) → (∀ b ob, b ≠ x → h.get? b = some ob → h'.get? b = some ob) → Q () ⟨h', g, d, tk, os⟩) :
    wpAny (model prog w) A (setAttr (.ref x) "read" v) Q E ⟨h, g, d, t, os⟩ := by
  have hT : (⟨h, g, d, t, os⟩ : Shared).TypeIs (.ref x) "function" := ⟨o, hx, hc⟩
  unfold setAttr
  refine wpAny_bind (wpAny_mkText (wpAny_bind ?_))
  have hT1 : (⟨h, g, d, t + 1, os⟩ : Shared).TypeIs (.ref x) "function" := ⟨o, hx, hc⟩
  refine wpAny_callSpecial?_slot hT1 slot_fn_sa (wpAny_call_entry slot_fn_sa hT1 entry_sa ?_ (args_sa _ _ _))
  have hR := fn_read_none
  have hP := fn_passes (.ref x)
  unfold Builtin.«object.__setattr__»
  repeat (first | rw [refuse_eq] | rw [fn_mro] | rw [hP] | rw [hR] | (with_reducible refine wpAny_loadPart_at hx ?_; rw [hc]) | wp_step)
  have hTD : typeHasDict (.type "function") = true := by decide +kernel
  have hFC : finalisedInACycleAlone "function" = false := by decide +kernel
  rw [hdn, hTD]
  dsimp only
  rw [if_neg (by decide)]
  split
  · rename_i c hcd
    exact absurd hcd (hnc c)
  have hx₁ : (h.push { cls := .type "dict", data := .dict #[] }).get? x = some o := Heap.get?_push_of_some _ hx
  have hxs : x ≠ h.objs.size := Nat.ne_of_lt (Heap.lt_size hx)
  refine wpAny_bind (wpAny_alloc' ?_)
  refine wpAny_bind (wpAny_update' hx₁ ?_)
  have hgd : ((h.push { cls := .type "dict", data := .dict #[] }).update x fun o => { cls := o.cls, dict := some h.objs.size, data := o.data, slots := o.slots }).get? h.objs.size
      = some { cls := .type "dict", data := .dict #[] } :=
    (Heap.get?_update_ne _ _ _ _ hxs.symm).trans (Heap.get?_push_at rfl rfl)
  have hnd : ((h.push { cls := .type "dict", data := .dict #[] }).update x fun o => { cls := o.cls, dict := some h.objs.size, data := o.data, slots := o.slots }).Ns h.objs.size (fun _ => none) :=
    ⟨_, #[], _, hgd, rfl, fun e he => absurd he (by simp), fun _ => rfl⟩
  have hself := Heap.get?_update_self (fun o => { cls := o.cls, dict := some h.objs.size, data := o.data, slots := o.slots }) hx₁ hfr
  have hkeep : ∀ b ob, b ≠ x → h.get? b = some ob → ((h.push { cls := .type "dict", data := .dict #[] }).update x fun o => { cls := o.cls, dict := some h.objs.size, data := o.data, slots := o.slots }).get? b = some ob := fun b ob hb e => (Heap.get?_update_ne _ _ _ _ hb).trans (Heap.get?_push_of_some _ e)
  generalize ((h.push { cls := .type "dict", data := .dict #[] }).update x fun o => { cls := o.cls, dict := some h.objs.size, data := o.data, slots := o.slots }) = H2 at hnd hself hkeep ⊢
  clear hgd
  unfold dictMade
  dsimp only
  rw [hFC]
  simp only [Bool.false_eq_true, if_false]
  refine wpAny_pure ?_
  show wpAny _ _ (storeInDict h.objs.size (.str "read" t) "read" v) _ _ _
  unfold storeInDict newKeyGuard
  refine wpAny_bind (wpAny_pure (wpAny_bind (wpAny_nsSet1 (Heap.Ns1.of_empty hnd) fun h' hn' hs => ?_)))
  obtain ⟨oD, esD, epD, hoD, hdD, hcD⟩ := hn'.count (Within.cons "read" v Within.nil)
  refine wpAny_bind (wpAny_lookBehind hoD (by rw [hdD]; exact pastItsLine_dict (Nat.le_trans hcD (by rw [List.length_cons, List.length_nil, sizeLine_eq]; omega))) ?_)
  wp_walk
  refine ⟨_, rfl, wpAny_pure ?_⟩
  refine hq h' _ ?_ hn' (fun b ob hb e => ?_)
  · exact (hs.2 x hxs).trans hself
  · exact (hs.2 b (Nat.ne_of_lt (Heap.lt_size e))).trans (hkeep b ob hb e)

/-- an object that is a namespace's dict with these names -/
noncomputable def DictIs (od : Obj) (m : Str → Option Value) : Prop := ∀ (h : Heap) (D : Addr), h.get? D = some od → h.Ns1 D m
theorem sub_all {α : Type} {P : α → Prop} {a : α} {l : List α} (h : P a) (t : ∀ x ∈ l, P x) : ∀ x ∈ a :: l, P x := fun x hx => by
  cases hx with
  | head => exact h
  | tail _ hx => exact t x hx
theorem setattr_fnK {s : Shared} {h₀ : Heap} {L : Addr} {m : Str → Option Value} {rest : List (Addr × Obj)} {Q : Unit → Shared → Prop} (F : Fr h₀ L s.heap m) (N : News h₀ L s.heap ((x, o) :: rest)) (off : ∀ q ∈ rest, q.1 ≠ x)
    (hc : o.cls = .type "function") (hdn : o.dict = none) (hnc : ∀ c, o.data ≠ .cls c) (hfr : ∀ D, ({ o with dict := some D } : Obj).isFreed = false)
    (hq : ∀ h' tk D od, DictIs od (fun y => if y = "read" then some v else none) → Fr h₀ L h' m → News h₀ L h' ((D, od) :: (x, { o with dict := some D }) :: rest) → (∀ q ∈ (x, o) :: rest, q.1 < D) → Q () { s with heap := h', toks := tk }) :
    wpAny (model prog w) A (setAttr (.ref x) "read" v) Q E s := by
  have hx := N (x, o) List.mem_cons_self
  have hlt : ∀ q ∈ (x, o) :: rest, q.1 < s.heap.objs.size := fun q hq => Heap.lt_size (N q hq).1
  refine setattr_fn hx.1 hc hdn hnc (hfr _) fun h' tk e1 hn k => ?_
  refine ex3e hn fun od es ep hB => ?_
  have e := hB.1
  have r := hB.2
  have hL : s.heap.objs.size ≠ L := Nat.ne_of_gt F.ns.lt
  have h0 : h₀.get? s.heap.objs.size = none := next_is_new F
  refine hq h' tk s.heap.objs.size od (fun h D hD => ⟨od, es, ep, hD, r⟩) ⟨F.ns.at' fun ob e => k _ ob (Ne.symm hx.2.1) e, fun b ob e => k b ob (fun q => by rw [q, hx.2.2] at e; cases e) (F.keep b ob e), F.above⟩ (fun q hq => ?_) hlt
  exact sub_all (a := (s.heap.objs.size, od)) (P := fun q : Addr × Obj => h'.get? q.1 = some q.2 ∧ q.1 ≠ L ∧ h₀.get? q.1 = none) ⟨e, hL, h0⟩ (sub_all (a := (x, { o with dict := some s.heap.objs.size })) ⟨e1, hx.2⟩ fun q hq => ⟨k _ _ (off q hq) (N q (.tail _ hq)).1, (N q (.tail _ hq)).2⟩) q hq

theorem slot_fn_ga : Slot "function" "__getattribute__" "object.__getattribute__" := .of (owner := "object") (n := "__getattribute__") (by rw [typeLookup_type, builtinLookup_eq_fast]; kernel_rfl) (by decide +kernel) (by decide +kernel) (by decide +kernel)
  (by first | exact .inl (by decide +kernel) | exact .inr (by decide +kernel)) (by rw [isSubtype_type]; kernel_rfl)
theorem entry_fn_ga : entryFor table "object.__getattribute__" = some Builtin.«object.__getattribute__» := entryFor_of_tree (by kernel_rfl)
theorem fn_ga_args (a b : Value) : argsOk "object.__getattribute__" ⟨[a, b], []⟩ := by unfold argsOk; kernel_rfl
theorem fn_getattr_none : typeLookup (.type "function") "__getattr__" = pure none := by rw [typeLookup_type, builtinLookup_eq_fast]; kernel_rfl
theorem fn_can : (Manifest.canonical "object.__getattribute__" != "object.__getattribute__") = false := by decide +kernel
theorem ga_fn {D : Addr} {tk : Tok} {mD : Str → Option Value} {Q : Fin → Shared → Prop} (hx : h.get? x = some o) (hc : o.cls = .type "function") (hd : o.dict = some D) (hnc : ∀ c, o.data ≠ .cls c) (hn : h.Ns D mD) (hv : mD "read" = some v)
    (hq : Q (.done (.ret v)) ⟨h, g, d, t, os⟩) : wpAny (model prog w) A (Builtin.«object.__getattribute__» ⟨[.ref x, .str "read" tk], []⟩) Q E ⟨h, g, d, t, os⟩ := by
  have hT : (⟨h, g, d, t, os⟩ : Shared).TypeIs (.ref x) "function" := ⟨o, hx, hc⟩
  have hR := fn_read_none
  unfold Builtin.«object.__getattribute__»
  repeat (first | rw [hR] | (with_reducible refine wpAny_typeOf hT ?_) | (with_reducible refine wpAny_loadPart_at hx ?_; rw [hc]) | wp_step)
  split
  · rename_i c hcd
    exact absurd hcd (hnc c)
  unfold instanceDict
  repeat (first | (with_reducible refine wpAny_loadPart_at hx ?_; rw [hc]) | wp_step)
  rw [hd]
  dsimp only
  repeat (first | (with_reducible refine wpAny_nsGet hn ?_; rw [hv]) | wp_step)
  exact hq

theorem getattr_fn {D f : Addr} {mD : Str → Option Value} {Q : Value → Shared → Prop} (hx : h.get? x = some o) (hc : o.cls = .type "function") (hd : o.dict = some D) (hnc : ∀ c, o.data ≠ .cls c) (hn : h.Ns D mD) (hv : mD "read" = some (.ref f))
    (hq : Q (.ref f) ⟨h, g, d, t + 1, os⟩) : wpAny (model prog w) A (getAttr (.ref x) "read") Q E ⟨h, g, d, t, os⟩ := by
  have hT : ∀ tk', (⟨h, g, d, tk', os⟩ : Shared).TypeIs (.ref x) "function" := fun _ => ⟨o, hx, hc⟩
  have f3 := slot_fn_ga.lookup
  have f4 := slot_fn_ga.bind (.ref x)
  unfold getAttr getAttrBy
  refine wpAny_bind (wpAny_mkText (wpAny_holding (wpAny_bind (wpAny_typeOf (hT _) (wpAny_bind (wpAny_of_eq f3 ?_))))))
  dsimp only
  rw [if_neg (by decide)]
  unfold getAttrByItsOwn callGetattribute boundAndCalled
  repeat (any_goals (first | assumption | exact hT _ | rw [f4] | ((with_reducible show wpAny _ _ (call (Value.builtin "object.__getattribute__") _ _) _ _ _); refine wpAny_call_entry slot_fn_ga (hT _) entry_fn_ga ?_ (fn_ga_args _ _); refine ga_fn hx hc hd hnc hn hv ?_) | wp_step))
  exact ⟨_, rfl, wpAny_pure hq⟩

theorem getMethod_fn {D f : Addr} {mD : Str → Option Value} {pl : Sem Bool} {Q : Value × List Value → Shared → Prop} (hx : h.get? x = some o) (hc : o.cls = .type "function") (hd : o.dict = some D) (hnc : ∀ c, o.data ≠ .cls c) (hn : h.Ns D mD) (hv : mD "read" = some (.ref f))
    (hq : Q (.ref f, []) ⟨h, g, d, t + 1, os⟩) : wpAny (model prog w) A (getMethod (.ref x) "read" pl) Q E ⟨h, g, d, t, os⟩ := by
  have hT : (⟨h, g, d, t, os⟩ : Shared).TypeIs (.ref x) "function" := ⟨o, hx, hc⟩
  unfold getMethod
  refine wpAny_bind (wpAny_specialOf hT slot_fn_ga.lookup ?_)
  show wpAny _ _ (if (Manifest.canonical "object.__getattribute__" != "object.__getattribute__") = true then _ else _) _ _ _
  rw [fn_can, if_neg Bool.false_ne_true]
  refine wpAny_bind (wpAny_specialOf hT fn_getattr_none ?_)
  refine wpAny_bind (wpAny_specialOf hT fn_read_none ?_)
  exact wpAny_bind (getattr_fn hx hc hd hnc hn hv (wpAny_pure hq))
end
end Mine
end

section
open PySem PySem.W PyProof.Rows
namespace Mine
noncomputable def PsAt (m : Str → Option Value) : List (Str × Value) → Prop
  | [] => True
  | p :: r => m p.1 = some p.2 ∧ PsAt m r
theorem PsAt.mem {m : Str → Option Value} : ∀ {ps : List (Str × Value)}, PsAt m ps → ∀ p ∈ ps, m p.1 = some p.2
  | [], _, _, h => nomatch h
  | _ :: l, x, p, h => by
    have ih := PsAt.mem (ps := l) x.2 p
    have x1 := x.1
    clear x
    cases h with
    | head => exact x1
    | tail _ h => exact ih h
theorem allLt_le {a b : Addr} (hab : @LE.le Nat _ a b) : ∀ {l : List (Addr × Obj)}, AllLt a l → AllLt b l
  | [], h => h
  | _ :: _, h => ⟨Nat.lt_of_lt_of_le h.1 hab, allLt_le hab h.2⟩
section
variable {prog : Program} {w : World} {A : Around} {E : Value → Shared → Prop} {Q : Flow → Shared → Prop} {s : Shared} {env : Env} {h₀ : Heap}
theorem turnF_mono {Q : Flow → Shared → Prop} {Go Go' : Shared → Prop} (h : ∀ s', Go s' → Go' s') : ∀ f s', TurnF Q Go f s' → TurnF Q Go' f s'
  | .next, s', g => h s' g
  | .cont, s', g => h s' g
  | .brk, _, g => g
  | .ret _, _, g => g
theorem range_go {σ : Type} {L I : Addr} {it : Obj} {m : Str → Option Value} {h : Heap} {tk : Nat} {Led : σ → List (Addr × Obj)} {ps : σ → List (Str × Value)} {stored : List Str} {J : σ → Prop} {rest : (Str → Option Value) → List (Addr × Obj) → Prop} {s₃ : Shared}
    (k : ∀ m' c, (∀ p ∈ ps c, m' p.1 = some p.2) → (∀ z, (∀ p ∈ ps c, z ≠ p.1) → stored.contains z = false → m' z = m z) → J c → (∀ q ∈ Led c, q.1 ≠ I) → rest m' (Led c)) (q : ListEnd h₀ L s I it Led ps stored m J s₃) : UnrEnd h₀ L { s with heap := h, toks := tk } I it rest s₃ := by
  obtain ⟨c', h', tk', m', rfl, F', N', off', hk', hr', j'⟩ := q
  exact ⟨h', tk', m', Led c', rfl, F', N', off', k m' c' hk' hr' j' off'⟩
/-- RangeRest by an invariant on a state -/
theorem range_S {σ : Type} {x : Str} {body : List Stmt} {I : Addr} {a : Int} {n : Nat} (m : Str → Option Value) (Led : σ → List (Addr × Obj)) (ps : σ → List (Str × Value)) (stored : List Str) (J : Nat → σ → Prop)
    (turn : ∀ i c (u : Str → Option Value) t h tk T, T = TurnF Q (ListEnd h₀ env.locals s I (itR (a + ((i + 1 : Nat) : Int)) ((n : Int) - ((i + 1 : Nat) : Int))) Led ps stored m (J (i + 1))) → i < n → J i c → Fr h₀ env.locals h (fun z => if z = x then some (.int (a + (i : Int)) t) else kstB (fun z => if stored.contains z then u z else m z) (ps c) z) →
      News h₀ env.locals h ((I, itR (a + ((i + 1 : Nat) : Int)) ((n : Int) - ((i + 1 : Nat) : Int))) :: Led c) → (∀ q ∈ Led c, q.1 ≠ I) →
      wpAny (model prog w) A (execs body env) T E { s with heap := h, toks := tk })
    (done : ∀ c (u : Str → Option Value) h tk, J n c → Fr h₀ env.locals h (kstB (fun z => if stored.contains z then u z else m z) (ps c)) → News h₀ env.locals h (Led c) → Q .next { s with heap := h, toks := tk }) :
    ∀ k i m₁ c, k = n - i → i ≤ n → (∀ p ∈ ps c, m₁ p.1 = some p.2) → (∀ z, (∀ p ∈ ps c, z ≠ p.1) → stored.contains z = false → m₁ z = m z) → J i c → (∀ q ∈ Led c, q.1 ≠ I) → RangeRest prog w A E h₀ env x body Q s I a n k i m₁ (Led c)
  | 0, i, m₁, c, hk, hi, h1, h2, hj, off => by
    obtain rfl : i = n := Nat.le_antisymm hi (Nat.le_of_sub_eq_zero hk.symm)
    refine RangeRest.zero fun h tk F N => ?_
    rw [← kst_map h1 h2] at F
    exact done c m₁ h tk hj F N
  | k + 1, i, m₁, c, hk, hi, h1, h2, hj, off => by
    refine RangeRest.succ fun t h tk F N => ?_
    rw [← kst_map h1 h2] at F
    have hi' : i < n := Nat.lt_of_sub_pos (hk ▸ Nat.succ_pos k)
    refine wpAny_mono (turn i c m₁ t h tk _ rfl hi' hj F N off) (fun f s₃ q => ?_) fun _ _ z => z
    have go : TurnF Q (UnrEnd h₀ env.locals { s with heap := h, toks := tk } I (itR (a + ((i + 1 : Nat) : Int)) ((n : Int) - ((i + 1 : Nat) : Int))) (RangeRest prog w A E h₀ env x body Q s I a n k (i + 1))) f s₃ :=
      turnF_mono (fun s₃ q => range_go (fun m' c' => range_S m Led ps stored J turn done k (i + 1) m' c' (by rw [Nat.sub_succ, ← hk]; rfl) hi') q) f s₃ q
    clear q
    cases f with
    | next => exact go
    | cont => exact go
    | brk => exact go
    | ret v => exact go
theorem range_S0 {σ : Type} {x : Str} {body : List Stmt} {I : Addr} {a : Int} {n : Nat} {m : Str → Option Value} {news : List (Addr × Obj)} (Led : σ → List (Addr × Obj)) (ps : σ → List (Str × Value)) (stored : List Str) (J : Nat → σ → Prop) (c₀ : σ)
    (hps : PsAt m (ps c₀)) (hL : news = Led c₀) (hJ : J 0 c₀) (off : ∀ q ∈ news, q.1 ≠ I)
    (turn : ∀ i c (u : Str → Option Value) t h tk T, T = TurnF Q (ListEnd h₀ env.locals s I (itR (a + ((i + 1 : Nat) : Int)) ((n : Int) - ((i + 1 : Nat) : Int))) Led ps stored m (J (i + 1))) → i < n → J i c → Fr h₀ env.locals h (fun z => if z = x then some (.int (a + (i : Int)) t) else kstB (fun z => if stored.contains z then u z else m z) (ps c) z) →
      News h₀ env.locals h ((I, itR (a + ((i + 1 : Nat) : Int)) ((n : Int) - ((i + 1 : Nat) : Int))) :: Led c) → (∀ q ∈ Led c, q.1 ≠ I) →
      wpAny (model prog w) A (execs body env) T E { s with heap := h, toks := tk })
    (done : ∀ c (u : Str → Option Value) h tk, J n c → Fr h₀ env.locals h (kstB (fun z => if stored.contains z then u z else m z) (ps c)) → News h₀ env.locals h (Led c) → Q .next { s with heap := h, toks := tk }) :
    RangeRest prog w A E h₀ env x body Q s I a n n 0 m news := by
  subst hL
  exact range_S m Led ps stored J turn done n 0 m c₀ rfl (Nat.zero_le _) hps.mem (fun _ _ _ => rfl) hJ off
theorem range_4 {α β γ δ : Type} {x : Str} {body : List Stmt} {I : Addr} {a : Int} {n : Nat} {m : Str → Option Value} {news : List (Addr × Obj)} (Led : α → β → γ → δ → List (Addr × Obj)) (ps : α → β → γ → δ → List (Str × Value)) (stored : List Str) (J : Nat → α → β → γ → δ → Prop) (a₀ : α) (b₀ : β) (c₀ : γ) (d₀ : δ)
    (hps : PsAt m (ps a₀ b₀ c₀ d₀)) (hL : news = Led a₀ b₀ c₀ d₀) (hJ : J 0 a₀ b₀ c₀ d₀) (off : ∀ q ∈ news, q.1 ≠ I)
    (turn : ∀ i b c d e (u : Str → Option Value) t h tk T, T = TurnF Q (ListEnd h₀ env.locals s I (itR (a + ((i + 1 : Nat) : Int)) ((n : Int) - ((i + 1 : Nat) : Int))) (fun c : α × β × γ × δ => Led c.1 c.2.1 c.2.2.1 c.2.2.2) (fun c => ps c.1 c.2.1 c.2.2.1 c.2.2.2) stored m (fun c => J (i + 1) c.1 c.2.1 c.2.2.1 c.2.2.2)) →
      i < n → J i b c d e → Fr h₀ env.locals h (fun z => if z = x then some (.int (a + (i : Int)) t) else kstB (fun z => if stored.contains z then u z else m z) (ps b c d e) z) →
      News h₀ env.locals h ((I, itR (a + ((i + 1 : Nat) : Int)) ((n : Int) - ((i + 1 : Nat) : Int))) :: Led b c d e) → (∀ q ∈ Led b c d e, q.1 ≠ I) →
      wpAny (model prog w) A (execs body env) T E { s with heap := h, toks := tk })
    (done : ∀ b c d e (u : Str → Option Value) h tk, J n b c d e → Fr h₀ env.locals h (kstB (fun z => if stored.contains z then u z else m z) (ps b c d e)) → News h₀ env.locals h (Led b c d e) → Q .next { s with heap := h, toks := tk }) :
    RangeRest prog w A E h₀ env x body Q s I a n n 0 m news :=
  range_S0 (σ := α × β × γ × δ) (fun c => Led c.1 c.2.1 c.2.2.1 c.2.2.2) (fun c => ps c.1 c.2.1 c.2.2.1 c.2.2.2) stored (fun i c => J i c.1 c.2.1 c.2.2.1 c.2.2.2) (a₀, b₀, c₀, d₀) hps hL hJ off (fun i c => turn i c.1 c.2.1 c.2.2.1 c.2.2.2) (fun c => done c.1 c.2.1 c.2.2.1 c.2.2.2)
theorem ListEnd.intro0 {L : Addr} {σ : Type} {I : Addr} {oI : Obj} {Led : σ → List (Addr × Obj)} {ps : σ → List (Str × Value)} {stored : List Str} {m : Str → Option Value} {J : σ → Prop} {h' : Heap} {tk : Nat} {m' : Str → Option Value} (c : σ)
    (F : Fr h₀ L h' m') (N : News h₀ L h' ((I, oI) :: Led c)) (off : ∀ q ∈ Led c, q.1 ≠ I) (hk : PsAt m' (ps c)) (hr : ∀ z, (∀ p ∈ ps c, z ≠ p.1) → stored.contains z = false → m' z = m z) (j : J c) :
    ListEnd h₀ L s I oI Led ps stored m J { s with heap := h', toks := tk } := ⟨c, h', tk, m', rfl, F, N, off, hk.mem, hr, j⟩
end
end Mine
end

section
open PySem PySem.W PyProof.Rows PySem.Calls PyProof.V PySem.Spec PyProof.Rows.LCg
namespace Mine
section
variable {prog : Program} {w : World} {A : Around} {E : Value → Shared → Prop} {s : Shared} {h₀ : Heap} {L : Addr} {m : Str → Option Value} {env : Env}
noncomputable def testsM (ifs : List PySem.Expr) (env : Env) : Sem Bool := forIn ifs true fun c r => if r = true then do let ok ← isTrue c env (eval c env); pure (ForInStep.yield ok) else pure (ForInStep.yield r)
theorem cenv_plain {scope : Scope} {cl : List (Str × Addr)} {C : Addr} {env : Env} (hkind : scope.kind = .function) : ((compEnvC scope cl C env).scope.kind == .class || ((compEnvC scope cl C env).scope.kind == .module && (compEnvC scope cl C env).locals != (compEnvC scope cl C env).globals)) = false := by
  rw [show (compEnvC scope cl C env).scope.kind = .function from hkind]
  rfl
theorem loop_gen {X elt target : PySem.Expr} {k : Nat} {ip : Pos} {ifs : List PySem.Expr} {it acc : Value} {env : Env} {R : Result → Shared → Prop} (I : Nat → Shared → Prop) (hU : A.under (.compLoop X k it acc env) = A)
    (hX : (model prog w).den (.compLoop X k it acc env) = Sem.onRaise (do
      standAt ip
      match ← pyNext it with
      | none => pure (.done .next)
      | some v =>
        letOwnedTupleGo target it v
        assign target env v
        let mut ok := true
        for c in ifs do
          if ok then ok ← isTrue c env (eval c env)
        if ok then
          (do let _ ← call (.builtin "list.append") [acc, ← eval elt env])
        again (.compLoop X k it acc env)) (fun x => do noteFrame x env; theTreesLotGoes x))
    (turn : ∀ n s, I n s → wpAny (model prog w) A (pyNext it) (fun r s₁ => match r with
      | none => R (.ok .next) s₁
      | some v => wpAny (model prog w) A (letOwnedTupleGo target it v) (fun _ s₀ => wpAny (model prog w) A (assign target env v) (fun _ s₂ =>
          wpAny (model prog w) A (testsM ifs env) (fun ok s₃ => if ok = true then wpAny (model prog w) A (eval elt env) (fun x s₄ =>
            wpAny (model prog w) A (call (.builtin "list.append") [acc, x]) (fun _ s₅ => ∃ m, m < n ∧ I m s₅) (notedBy (model prog w) A env fun e s' => R (.error e) s') s₄) (notedBy (model prog w) A env fun e s' => R (.error e) s') s₃
            else ∃ m, m < n ∧ I m s₃) (notedBy (model prog w) A env fun e s' => R (.error e) s') s₂)
          (notedBy (model prog w) A env fun e s' => R (.error e) s') s₀) (notedBy (model prog w) A env fun e s' => R (.error e) s') s₁) (notedBy (model prog w) A env fun e s' => R (.error e) s') s)
    (n : Nat) (h : I n s) : codeAny (model prog w) A (.compLoop X k it acc env) R s := by
  refine codeAny_loop rfl I (fun n s hI => ?_) n h
  rw [hU, hX]
  refine wpAny_noted ?_
  refine wpAny_bind (wpAny_standAt (wpAny_bind (wpAny_mono (turn n s hI) (fun r s₁ h₁ => ?_) fun _ _ h' => h')))
  cases r with
  | none => exact wpAny_pure h₁
  | some v =>
    refine wpAny_bind (wpAny_mono h₁ (fun _ s₀ h₀' => ?_) fun _ _ h' => h')
    refine wpAny_bind (wpAny_mono h₀' (fun _ s₂ h₂ => ?_) fun _ _ h' => h')
    refine wpAny_bind (wpAny_mono h₂ (fun okb s₃ h₃ => ?_) fun _ _ h' => h')
    cases okb with
    | false => exact wpAny_pure ⟨rfl, h₃⟩
    | true => exact wpAny_bind (wpAny_bind (wpAny_mono h₃ (fun x s₄ h₄ => wpAny_bind (wpAny_mono h₄ (fun _ s₅ h₅ => wpAny_pure (wpAny_pure ⟨rfl, h₅⟩)) fun _ _ h' => h')) fun _ _ h' => h'))

theorem pairs_loop {elt target iter : PySem.Expr} {ifs : List PySem.Expr} {scope : Scope} {pos : Pos} {it acc : Value} {env : Env} {R : Result → Shared → Prop} (I : Nat → Shared → Prop)
    (turn : ∀ n s, I n s → wpAny (model prog w) A (pyNext it) (fun r s₁ => match r with
      | none => R (.ok .next) s₁
      | some v => wpAny (model prog w) A (letOwnedTupleGo target it v) (fun _ s₀ => wpAny (model prog w) A (assign target env v) (fun _ s₂ =>
          wpAny (model prog w) A (testsM ifs env) (fun ok s₃ => if ok = true then wpAny (model prog w) A (eval elt env) (fun x s₄ =>
            wpAny (model prog w) A (call (.builtin "list.append") [acc, x]) (fun _ s₅ => ∃ m, m < n ∧ I m s₅) (notedBy (model prog w) A env fun e s' => R (.error e) s') s₄) (notedBy (model prog w) A env fun e s' => R (.error e) s') s₃
            else ∃ m, m < n ∧ I m s₃) (notedBy (model prog w) A env fun e s' => R (.error e) s') s₂)
          (notedBy (model prog w) A env fun e s' => R (.error e) s') s₀) (notedBy (model prog w) A env fun e s' => R (.error e) s') s₁) (notedBy (model prog w) A env fun e s' => R (.error e) s') s)
    (n : Nat) (h : I n s) : codeAny (model prog w) A (.compLoop (.ListComp elt [⟨target, iter, ifs, 0⟩] scope pos) 0 it acc env) R s :=
  loop_gen I rfl (congrArg (fun c => Sem.onRaise c (fun x => do noteFrame x env; theTreesLotGoes x)) (compTurn_list ..)) turn n h
/-- one turn of a comprehension over pairs whose elements change nothing -/
noncomputable def PairTurn (prog : Program) (w : World) (A : Around) (h₀ : Heap) (L : Addr) (m : Str → Option Value) (news : List (Addr × Obj)) (env : Env) (scope : Scope) (cl : List (Str × Addr)) (a b : Str) (ifs : List PySem.Expr) (elt : PySem.Expr) (x y : Value) (yes : Value → Prop) (no : Prop) : Prop :=
  ∀ (C : Addr) (m₂ : Str → Option Value) (s₃ : Shared) (E' : Value → Shared → Prop), s₃.heap.Ns C m₂ → m₂ a = some x → m₂ b = some y → Fr h₀ L s₃.heap m → News h₀ L s₃.heap news →
    wpAny (model prog w) A (testsM ifs (compEnvC scope cl C env)) (fun ok s₄ => Keeps s₃ s₄ ∧ if ok = true then wpAny (model prog w) A (eval elt (compEnvC scope cl C env)) (fun r s₅ => Keeps s₃ s₅ ∧ yes r) E' s₄ else no) E' s₃
theorem allc {α : Type} {P : α → Prop} {a : α} {l : List α} (h : P a) (t : ∀ x ∈ l, P x) : ∀ x ∈ a :: l, P x := fun x hx => by
  cases hx with
  | head => exact h
  | tail _ hx => exact t x hx
theorem alln {α : Type} {P : α → Prop} : ∀ x ∈ ([] : List α), P x := fun _ h => nomatch h
@[elab_as_elim] theorem keeps_elim {s s' : Shared} {G : Shared → Prop} (h : Keeps s s') (k : ∀ h' tk, (∀ b o, s.heap.get? b = some o → h'.get? b = some o) → G { s with heap := h', toks := tk }) : G s' := by
  obtain ⟨h', tk, rfl, e⟩ := h
  exact k h' tk e
/-- where a comprehension stands, k turns before its end -/
noncomputable def BlkAt (h₀ : Heap) (L : Addr) (m : Str → Option Value) (s : Shared) (C : Addr) (led : List Value → List (Addr × Obj)) (n : Nat) (St : Nat → Heap → Prop) (Acc : Nat → List Value → (Str → Option Value) → Prop) (k : Nat) (s' : Shared) : Prop :=
  ∃ i h' tk ys m', k = n + 1 - i ∧ i ≤ n ∧ s' = { s with heap := h', toks := tk } ∧ St i h' ∧ Fr h₀ L h' m ∧ h'.Ns C m' ∧ News h₀ L h' (led ys) ∧ Acc i ys m'
@[elab_as_elim] theorem BlkAt.elim {C : Addr} {led : List Value → List (Addr × Obj)} {n : Nat} {St : Nat → Heap → Prop} {Acc : Nat → List Value → (Str → Option Value) → Prop} {k : Nat} {s' : Shared} {P : Nat → Shared → Prop} (h : BlkAt h₀ L m s C led n St Acc k s')
    (go : ∀ i h' tk ys m', i ≤ n → St i h' → Fr h₀ L h' m → h'.Ns C m' → News h₀ L h' (led ys) → Acc i ys m' → P (n + 1 - i) { s with heap := h', toks := tk }) : P k s' := by
  obtain ⟨i, h', tk, ys, m', rfl, hi, rfl, st, F, hn, N, hA⟩ := h
  exact go i h' tk ys m' hi st F hn N hA
theorem BlkAt.step {C : Addr} {led : List Value → List (Addr × Obj)} {n : Nat} {St : Nat → Heap → Prop} {Acc : Nat → List Value → (Str → Option Value) → Prop} {i : Nat} {h' : Heap} {tk : Nat} {ys : List Value} {m' : Str → Option Value} (hi : i < n)
    (st : St (i + 1) h') (F : Fr h₀ L h' m) (hn : h'.Ns C m') (N : News h₀ L h' (led ys)) (hA : Acc (i + 1) ys m') : ∃ j, j < n + 1 - i ∧ BlkAt h₀ L m s C led n St Acc j { s with heap := h', toks := tk } :=
  ⟨n + 1 - (i + 1), Nat.sub_lt_sub_left (Nat.lt_succ_of_lt hi) (Nat.lt_succ_self i), i + 1, h', tk, ys, m', rfl, hi, rfl, st, F, hn, N, hA⟩
theorem news_cons {h : Heap} {a : Addr} {o : Obj} {l : List (Addr × Obj)} (e : h.get? a = some o ∧ a ≠ L ∧ h₀.get? a = none) (N : News h₀ L h l) : News h₀ L h ((a, o) :: l) := allc e N
/-- the new list and the new names' room of a comprehension -/
theorem comp_room {s₂ : Shared} {X : PySem.Expr} {it : Value} {scope : Scope} {cl : List (Str × Addr)} {news : List (Addr × Obj)} {RR : Value → Addr → Result → Shared → Prop}
    (hcell : ∀ y ∈ scope.names, y.2 ≠ .cell) (hkind : scope.kind = .function) (F : Fr h₀ L s₂.heap m) (N : News h₀ L s₂.heap news)
    (k : ∀ (D C : Addr) (h₁ : Heap) (m₁ : Str → Option Value) (tk : Nat), (∀ b, b < s₂.heap.objs.size → b ≠ C ∧ b ≠ D) → (∀ b o, s₂.heap.get? b = some o → h₁.get? b = some o) → h₁.Ns C m₁ → Fr h₀ L h₁ m → News h₀ L h₁ ((D, lst []) :: news) → (∀ q ∈ news, q.1 ≠ D) → (∀ q ∈ news, q.1 ≠ C) →
      h₀.get? C = none → h₀.get? D = none → C ≠ L → D ≠ L → C ≠ D → (∀ c, c < s₂.heap.objs.size → c < D ∧ c < C) → codeAny (model prog w) A (.compStart X 0 it (.ref D) (compEnvC scope cl C env)) (RR (.ref D) C) { s₂ with heap := h₁, toks := tk }) :
    wpAny (model prog w) A (newList []) (fun acc s₃ => wpAny (model prog w) A (newFunctionEnv scope env.globals cl [] env.qual none .none (some env)) (fun cenv s₄ =>
      codeAny (model prog w) A (.compStart X 0 it acc { cenv with scope := relabel scope env }) (RR acc cenv.locals) s₄) E s₃) E s₂ := by
  refine wpAny_newObj_type (wpAny_newFunctionEnv hcell (by intro y hy; simp at hy) (fun h₁ hns₁ hsb₁ => ?_) hkind)
  dsimp only at hns₁ hsb₁ ⊢
  generalize hH2 : s₂.heap.push { cls := .type "list", dict := none, data := .seq ([] : List Value).toArray } = H2 at hns₁ hsb₁ ⊢
  have hC : H2.objs.size = s₂.heap.objs.size + 1 := by rw [← hH2, Heap.size_push]
  have hDC : s₂.heap.objs.size ≠ H2.objs.size := by rw [hC]; exact Nat.ne_of_lt (Nat.lt_succ_self _)
  have below : ∀ b, b < s₂.heap.objs.size → b ≠ H2.objs.size ∧ b ≠ s₂.heap.objs.size := fun b hb => ⟨by rw [hC]; exact Nat.ne_of_lt (Nat.lt_succ_of_lt hb), Nat.ne_of_lt hb⟩
  have old : ∀ b o, s₂.heap.get? b = some o → h₁.get? b = some o := fun b o e => hsb₁.extBut b o (below b (Heap.lt_size e)).1 (Heap.get?_push_of_some _ (hH2 ▸ Heap.get?_push_of_some _ e))
  have hacc : h₁.get? s₂.heap.objs.size = some (lst []) := hsb₁.extBut _ _ hDC (Heap.get?_push_of_some _ (hH2 ▸ Heap.get?_push_size _ rfl))
  have fresh₀ : ∀ a, s₂.heap.objs.size ≤ a → h₀.get? a = none := fun a ha => by
    cases e : h₀.get? a with
    | none => rfl
    | some o' => exact absurd (Heap.lt_size (F.keep a o' e)) (Nat.not_lt.mpr ha)
  have hD₀ : h₀.get? s₂.heap.objs.size = none := fresh₀ _ (Nat.le_refl _)
  have hC₀ : h₀.get? H2.objs.size = none := fresh₀ _ (by rw [hC]; exact Nat.le_succ _)
  have hDL : s₂.heap.objs.size ≠ L := Ne.symm (below L F.ns.lt).2
  refine k _ H2.objs.size h₁ _ _ below old hns₁ (F.keeps old) (fun p hp => ?_) (fun p hp => (below _ (Heap.lt_size (N p hp).1)).2) (fun p hp => (below _ (Heap.lt_size (N p hp).1)).1) hC₀ hD₀ (Ne.symm (below L F.ns.lt).1) hDL (Ne.symm hDC)
    (fun c hc => ⟨hc, by rw [hC]; exact Nat.lt_succ_of_lt hc⟩)
  cases hp with
  | head => exact ⟨hacc, hDL, hD₀⟩
  | tail _ hp => exact ⟨old _ _ (N p hp).1, (N p hp).2⟩
/-- the heap goes from h to h', all but the places of wr -/
noncomputable def KeepBut (wr : List Addr) (h h' : Heap) : Prop := ∀ b o, b ∉ wr → h.get? b = some o → h'.get? b = some o
theorem fr_wr {h h' : Heap} {wr : List Addr} (F : Fr h₀ L h m) (hwr : ∀ c ∈ wr, h₀.get? c = none ∧ L ≠ c) (e : KeepBut wr h h') : Fr h₀ L h' m :=
  ⟨F.ns.at' fun o x => e _ o (fun q => (hwr _ q).2 rfl) x, fun c o x => e c o (fun q => by rw [(hwr _ q).1] at x; cases x) (F.keep c o x), F.above⟩
theorem news_wr {h h' : Heap} {wr : List Addr} {news : List (Addr × Obj)} (N : News h₀ L h news) (hwr : ∀ q ∈ news, q.1 ∉ wr) (e : KeepBut wr h h') : News h₀ L h' news := fun q hq => ⟨e _ _ (hwr q hq) (N q hq).1, (N q hq).2⟩
theorem tgt_block {elt target iter : PySem.Expr} {ifs : List PySem.Expr} {scope : Scope} {cl : List (Str × Addr)} {pos : Pos} {s₂ : Shared} {I : Addr} {fp wr : List Addr} {n : Nat} {St : Nat → Heap → Prop} (Bd : Nat → (Str → Option Value) → Prop)
    {news : List (Addr × Obj)} {RR : Value → Addr → Result → Shared → Prop} (Acc : Nat → List Value → Prop)
    (sub : ∀ b ∈ wr, b ∈ fp) (frame : ∀ i h h', St i h → (∀ b ∈ fp, ∀ o, h.get? b = some o → h'.get? b = some o) → St i h')
    (item : ∀ (C : Addr) (s : Shared) i m' (R : Shared → Prop) (G : Shared → Prop) (E' : Value → Shared → Prop), C ∉ fp → i < n → St i s.heap → s.heap.Ns C m' →
      (∀ h₄ tk₄ m₄, Bd i m₄ → St (i + 1) h₄ → h₄.Ns C m₄ → KeepBut (C :: wr) s.heap h₄ → G { s with heap := h₄, toks := tk₄ }) →
      wpAny (model prog w) A (pyNext (.ref I)) (fun r s₁ => match r with
        | none => R s₁
        | some v => wpAny (model prog w) A (letOwnedTupleGo target (.ref I) v) (fun _ s₀ => wpAny (model prog w) A (assign target (compEnvC scope cl C env) v) (fun _ => G) E' s₀) E' s₁) E' s)
    (done : ∀ (s : Shared) (Q : Option Value → Shared → Prop) (E' : Value → Shared → Prop), St n s.heap → (∀ h₂ tk₂, KeepBut wr s.heap h₂ → Q none { s with heap := h₂, toks := tk₂ }) → wpAny (model prog w) A (pyNext (.ref I)) Q E' s)
    (self : ∀ i (s : Shared) (Q : Value → Shared → Prop) (E : Value → Shared → Prop), St i s.heap → Q (.ref I) s → wpAny (model prog w) A (pyIter (.ref I)) Q E s)
    (hsz : n ≤ sizeLine) (hst : St 0 s₂.heap) (hfp : ∀ c ∈ fp, c < s₂.heap.objs.size) (hwr : ∀ c ∈ wr, h₀.get? c = none ∧ L ≠ c ∧ ∀ q ∈ news, q.1 ≠ c)
    (hcell : ∀ y ∈ scope.names, y.2 ≠ .cell) (hkind : scope.kind = .function)
    (F : Fr h₀ L s₂.heap m) (N : News h₀ L s₂.heap news) (h0 : Acc 0 [])
    (turn : ∀ i ys C m₂ (s₃ : Shared) (E' : Value → Shared → Prop), i < n → Bd i m₂ → Acc i ys → s₃.heap.Ns C m₂ → Fr h₀ L s₃.heap m → News h₀ L s₃.heap news →
      wpAny (model prog w) A (testsM ifs (compEnvC scope cl C env)) (fun ok s₄ => Keeps s₃ s₄ ∧ if ok = true then wpAny (model prog w) A (eval elt (compEnvC scope cl C env)) (fun r s₅ => Keeps s₃ s₅ ∧ Acc (i + 1) (ys ++ [r])) E' s₄ else Acc (i + 1) ys) E' s₃)
    (hRR : ∀ D C h tk m' ys, Acc n ys → Fr h₀ L h m → News h₀ L h ((D, lst ys) :: news) → (∀ p ∈ news, p.1 ≠ D) → h.Ns C m' → h₀.get? C = none → h₀.get? D = none → C ≠ L → D ≠ L → C ≠ D → (∀ p ∈ news, p.1 ≠ C) → RR (.ref D) C (.ok .next) { s₂ with heap := h, toks := tk }) :
    wpAny (model prog w) A (newList []) (fun acc s₃ => wpAny (model prog w) A (newFunctionEnv scope env.globals cl [] env.qual none .none (some env)) (fun cenv s₄ =>
      codeAny (model prog w) A (.compStart (.ListComp elt [⟨target, iter, ifs, 0⟩] scope pos) 0 (.ref I) acc { cenv with scope := relabel scope env }) (RR acc cenv.locals) s₄) E s₃) E s₂ := by
  refine comp_room hcell hkind F N fun D C h₁ m₁ tk₁ below old hns₁ F₁ N₁ offD offC hC₀ hD₀ hCL hDL hCD hlt => ?_
  have hDf : D ∉ fp := fun hm => (below D (hfp _ hm)).2 rfl
  have hCf : C ∉ fp := fun hm => (below C (hfp _ hm)).1 rfl
  have wD : ∀ (ys : List Value) (q : Addr × Obj), q ∈ (D, lst ys) :: news → q.1 ∉ wr := fun ys q hq hm => by
    cases hq with
    | head => exact hDf (sub _ hm)
    | tail _ hq => exact (hwr _ hm).2.2 q hq rfl
  have wC : ∀ (ys : List Value) (q : Addr × Obj), q ∈ (D, lst ys) :: news → q.1 ∉ C :: wr := fun ys q hq hm => by
    cases hm with
    | head =>
      cases hq with
      | head => exact hCD rfl
      | tail _ hq => exact offC q hq rfl
    | tail _ hm => exact wD ys q hq hm
  have fC : ∀ c ∈ C :: wr, h₀.get? c = none ∧ L ≠ c := fun c hm => by
    cases hm with
    | head => exact ⟨hC₀, Ne.symm hCL⟩
    | tail _ hm => exact ⟨(hwr _ hm).1, (hwr _ hm).2.1⟩
  have hst₁ : St 0 h₁ := frame _ _ _ hst fun b _ o e => old b o e
  have loop : codeAny (model prog w) A (.compLoop (.ListComp elt [⟨target, iter, ifs, 0⟩] scope pos) 0 (.ref I) (.ref D) (compEnvC scope cl C env)) (RR (.ref D) C) { s₂ with heap := h₁, toks := tk₁ } := by
    refine pairs_loop (BlkAt h₀ L m s₂ C (fun ys => (D, lst ys) :: news) n St (fun i ys _ => ys.length ≤ i ∧ Acc i ys)) (fun k s' hI => ?_) (n + 1) ⟨0, h₁, tk₁, [], m₁, rfl, Nat.zero_le _, rfl, hst₁, F₁, hns₁, N₁, Nat.le_refl _, h0⟩
    refine BlkAt.elim hI fun i h' tk ys m' hi hst' F' hn' N' hB => ?_
    have hyl := hB.1
    have hA := hB.2
    clear hB
    clear hI k s'
    by_cases hlt : i < n
    · refine item C _ i m' _ _ _ hCf hlt hst' hn' fun h₄ tk₄ m₄ hB hst₄ hn₄ k₄ => ?_
      have F₄ := fr_wr F' fC k₄
      have N₄ := news_wr N' (wC ys) k₄
      refine wpAny_mono (turn i ys C m₄ _ _ hlt hB hA hn₄ F₄ (fun q hq => N₄ q (.tail _ hq))) (fun okb s₅ h₅ => ?_) fun _ _ e => e
      have h₅' := h₅.2
      revert h₅'
      refine keeps_elim h₅.1 fun h₅ tk₅ k₅ h₅' => ?_
      cases okb with
      | false => exact BlkAt.step hlt (frame _ _ _ hst₄ fun b _ o e => k₅ b o e) (F₄.keeps k₅) (hn₄.at' fun o e => k₅ _ o e) (fun q hq => ⟨k₅ _ _ (N₄ q hq).1, (N₄ q hq).2⟩) ⟨Nat.le_succ_of_le hyl, h₅'⟩
      | true =>
        refine wpAny_mono h₅' (fun r s₆ h₆ => ?_) fun _ _ e => e
        have hA₆ := h₆.2
        refine keeps_elim h₆.1 fun h₆ tk₆ k₆ => ?_
        refine append_at (hsz := by show ys.toArray.size ≤ sizeLine; rw [List.size_toArray]; exact Nat.le_trans hyl (Nat.le_trans hi hsz)) (k₆ _ _ (N₄ (D, lst ys) (.head _)).1) fun h₇ hs₇ hD₇ => ?_
        refine BlkAt.step hlt (frame _ _ _ hst₄ fun b hb o e => hs₇.extBut b o (fun q => hDf (q ▸ hb)) (k₆ b o e)) ((F₄.keeps k₆).change hs₇ hDL hD₀) ((hn₄.at' fun o e => k₆ _ o e).sameBut hs₇ hCD) (news_cons ⟨hD₇.trans (congrArg some (lst_snoc ys r)), hDL, hD₀⟩ fun q hq => ⟨hs₇.extBut _ _ (offD q hq) (k₆ _ _ (N₄ q (.tail _ hq)).1), (N₄ q (.tail _ hq)).2⟩) ⟨by rw [List.length_append]; exact Nat.succ_le_succ hyl, hA₆⟩
    · have e : i = n := Nat.le_antisymm hi (Nat.not_lt.mp hlt)
      rw [e] at hst' hA
      exact done _ _ _ hst' fun h₂ tk₂ hk₂ => hRR _ _ h₂ tk₂ _ ys hA (fr_wr F' (fun c hm => fC c (.tail _ hm)) hk₂) (news_wr N' (wD ys) hk₂) offD (hn'.at' fun o e => hk₂ _ o (fun hm => hCf (sub _ hm)) e) hC₀ hD₀ hCL hDL hCD offC
  exact codeAny_compStart_list loop (self 0 _ _ _ hst₁ loop)
noncomputable def PairSrc (prog : Program) (w : World) (A : Around) (E : Value → Shared → Prop) (env : Env) (elt iter : PySem.Expr) (ifs : List PySem.Expr) (a b : Str) (pa pb tp : Pos) (kk : Nat) (scope : Scope) (cl : List (Str × Addr)) (pos : Pos) (K : Value → Addr → Result → Shared → Prop) (xv : Value) (s₁ : Shared) : Prop :=
  wpAny (model prog w) A (pyIter xv) (fun it s₂ => wpAny (model prog w) A (newList []) (fun acc s₃ => wpAny (model prog w) A (newFunctionEnv scope env.globals cl [] env.qual none .none (some env)) (fun cenv s₄ =>
      codeAny (model prog w) A (.compStart (.ListComp elt [⟨.Tuple [.Name a pa, .Name b pb] kk tp, iter, ifs, 0⟩] scope pos) 0 it acc { cenv with scope := relabel scope env }) (K acc cenv.locals) s₄) E s₃) E s₂) E s₁
theorem zip_src {elt iter : PySem.Expr} {ifs : List PySem.Expr} {a b : Str} {pa pb tp : Pos} {kk : Nat} {scope : Scope} {cl : List (Str × Addr)} {pos : Pos} {K : Value → Addr → Result → Shared → Prop} {l1 l2 : Addr} {xs ys : Array Value} {k1 k2 : Nat} {news : List (Addr × Obj)} (Acc : Nat → List Value → Prop)
    (hh : A.handled = none) (F : Fr h₀ L s.heap m) (N : News h₀ L s.heap news) (hm1 : (l1, listOf xs k1) ∈ news) (hm2 : (l2, listOf ys k2) ∈ news) (hsz : xs.size ≤ sizeLine)
    (hcell : ∀ y ∈ scope.names, y.2 ≠ .cell) (hkind : scope.kind = .function) (hxa : scope.names.lookup a = some .local) (hxb : scope.names.lookup b = some .local) (hab : ¬ a = b)
    (h0 : Acc 0 [])
    (turn : ∀ i x y zs, xs[i]? = some x → ys[i]? = some y → Acc i zs → PairTurn prog w A h₀ L m news env scope cl a b ifs elt x y (fun r => Acc (i + 1) (zs ++ [r])) (Acc (i + 1) zs))
    (fin : ∀ D C h tk m' zs, Acc (min xs.size ys.size) zs → Fr h₀ L h m → News h₀ L h ((D, lst zs) :: news) → (∀ p ∈ news, p.1 ≠ D) → h.Ns C m' → h₀.get? C = none → h₀.get? D = none → C ≠ L → D ≠ L → C ≠ D → (∀ p ∈ news, p.1 ≠ C) → K (.ref D) C (.ok .next) { s with heap := h, toks := tk }) :
    wpAny (model prog w) A (call (.type "zip") [.ref l1, .ref l2]) (PairSrc prog w A E env elt iter ifs a b pa pb tp kk scope cl pos K) E s := by
  have hl1 : s.heap.IsList l1 xs := ⟨_, (N _ hm1).1, rfl, _, rfl⟩
  have hl2 : s.heap.IsList l2 ys := ⟨_, (N _ hm2).1, rfl, _, rfl⟩
  have hlt1 : l1 < s.heap.objs.size := Heap.lt_size (N _ hm1).1
  have hlt2 : l2 < s.heap.objs.size := Heap.lt_size (N _ hm2).1
  have hLs : L < s.heap.objs.size := F.ns.lt
  have D : ZipApart (s.heap.objs.size + 4) (s.heap.objs.size + 2) (s.heap.objs.size + 3) s.heap.objs.size (s.heap.objs.size + 1) l1 l2 := ktu_apart _ _ _ hlt1 hlt2
  refine call_zip_2 hl1 hl2 fun h' hz hTI hTO hi1 hi2 hsz' hk => ?_
  show wpAny (model prog w) A (pyIter (.ref (s.heap.objs.size + 4))) _ E _
  refine wpAny_pyIter_zip hz ?_
  have fresh₀ : ∀ c, s.heap.objs.size ≤ c → h₀.get? c = none := fun c hc => by
    cases e : h₀.get? c with
    | none => rfl
    | some o' => exact absurd (Heap.lt_size (F.keep c o' e)) (Nat.not_lt.mpr hc)
  have W := (WalksT.zip2 (prog := prog) (w := w) hh _ _ _ _ _ _ _ D xs ys).toU
  refine tgt_block (n := min xs.size ys.size) (fun i m₂ => ∃ x y, xs[i]? = some x ∧ ys[i]? = some y ∧ m₂ a = some x ∧ m₂ b = some y) Acc W.sub W.frame ?_ W.done W.self (Nat.le_trans (Nat.min_le_left ..) hsz) ⟨hz, hTI, ⟨_, _, hTO⟩, hi1, hi2, hl1.at fun o e => hk _ o e, hl2.at fun o e => hk _ o e⟩ ?_ ?_ hcell hkind
    (F.keeps hk) (N.grown hk) h0 (fun i ys' C m₂ s₃ E' hi hB hA hn F₃ N₃ => ?_) fin
  · intro C s' i m' R G E' hCf hi hst' hn' hG
    refine W.item i _ _ _ hi hst' fun T vals h₂ tk₂ hP hT hM hk₂ => ?_
    have ⟨x, y, hx, hy, hv⟩ := hP
    refine W.go _ _ _ i T _ _ _ hM fun h₃ hst₃ hk₃ => ?_
    have hT₃ : h₃.IsTuple T #[x, y] := hv ▸ hT.at fun o e => hk₃ T o (W.apart i T h₂ hM) e
    have up₃ : ∀ c o, c ∉ _ → s'.heap.get? c = some o → h₃.get? c = some o := fun c o hc e => hk₃ c o hc (hk₂ c o hc e)
    refine kcp_assign (env := compEnvC scope cl C env) hh hT₃ (lookup_relabel_local hxa) (lookup_relabel_local hxb) (cenv_plain hkind) (hn'.at' fun o e => up₃ _ o (fun hm => hCf (W.sub _ hm)) e) fun h₄ tk₄ hn₄ hs₄ => ?_
    refine hG h₄ tk₄ _ ⟨x, y, hx, hy, (if_neg hab).trans (if_pos rfl), if_pos rfl⟩ (W.frame _ _ _ hst₃ fun b hb o e => hs₄ b o (fun q : b = C => hCf (q ▸ hb)) e) hn₄ (fun c o hm e => hs₄ c o (fun q : c = C => hm (q ▸ .head _)) (up₃ c o (fun hm' => hm (.tail _ hm')) e))
  · intro c hc
    show c < h'.objs.size
    rw [hsz']
    have hlt1' : @LT.lt Nat _ l1 s.heap.objs.size := hlt1
    have hlt2' : @LT.lt Nat _ l2 s.heap.objs.size := hlt2
    have go : ∀ k : Nat, k < 5 → @LT.lt Nat _ (s.heap.objs.size + k) (s.heap.objs.size + 5) := fun k hk => Nat.add_lt_add_left hk _
    exact allc (P := fun c => @LT.lt Nat _ c (s.heap.objs.size + 5)) (go 4 (by decide)) (allc (go 2 (by decide)) (allc (go 3 (by decide)) (allc (go 0 (by decide)) (allc (go 1 (by decide)) (allc (Nat.lt_add_right 5 hlt1') (allc (Nat.lt_add_right 5 hlt2') alln)))))) c hc
  · intro c hc
    have hle : @LE.le Nat _ s.heap.objs.size c := by
      exact allc (P := fun c => @LE.le Nat _ s.heap.objs.size c) (Nat.le_add_right _ _) (allc (Nat.le_add_right _ _) (allc (Nat.le_refl _) (allc (Nat.le_add_right _ _) alln))) c hc
    exact ⟨fresh₀ c hle, Nat.ne_of_lt (Nat.lt_of_lt_of_le hLs hle), fun q hq => Nat.ne_of_lt (Nat.lt_of_lt_of_le (Heap.lt_size (N q hq).1) hle)⟩
  · have ⟨x, y, hx, hy, h1, h2⟩ := hB
    exact turn i x y ys' hx hy hA C m₂ s₃ E' hn h1 h2 F₃ N₃
theorem pairs_eval {elt iter : PySem.Expr} {ifs : List PySem.Expr} {a b : Str} {pa pb tp : Pos} {kk : Nat} {scope : Scope} {cl : List (Str × Addr)} {pos : Pos} {Q : Value → Shared → Prop}
    (hclos : closureFor scope env = pure cl) (hkind : scope.kind = .function) (hnames : ∀ y ∈ scope.names, y.2 = .local → scope.names.lookup y.1 = some .local)
    (h : wpAny (model prog w) A (eval iter env) (PairSrc prog w A E env elt iter ifs a b pa pb tp kk scope cl pos (fun acc C => compPost (model prog w) A E none Q acc C)) E s)
    (hs : ∀ x, foldedSetIterable iter env x = pure x) :
    wpAny (model prog w) A (eval (.ListComp elt [⟨.Tuple [.Name a pa, .Name b pb] kk tp, iter, ifs, 0⟩] scope pos) env) Q E s := by
  rw [eval_ListComp]
  exact wpAny_comprehension_free (use := none) rfl hs hclos hkind hnames h
theorem pairs_assign {elt iter : PySem.Expr} {ifs : List PySem.Expr} {a b y : Str} {pa pb tp py : Pos} {kk : Nat} {scope : Scope} {cl : List (Str × Addr)} {pos spos : Pos} {Q : Flow → Shared → Prop}
    (hsw : swapsWith (.ListComp elt [⟨.Tuple [.Name a pa, .Name b pb] kk tp, iter, ifs, 0⟩] scope pos) (some (.Name y py)) spos.line env = pure true)
    (hclos : closureFor scope env = pure cl) (hkind : scope.kind = .function) (hnames : ∀ y ∈ scope.names, y.2 = .local → scope.names.lookup y.1 = some .local)
    (h : wpAny (model prog w) A (eval iter env) (PairSrc prog w A E env elt iter ifs a b pa pb tp kk scope cl pos (fun acc C => compPost (model prog w) A E (some (assign (.Name y py) env)) (fun _ s' => Q .next s') acc C)) E s)
    (hs : ∀ x, foldedSetIterable iter env x = pure x) :
    wpAny (model prog w) A (exec (.Assign [.Name y py] (.ListComp elt [⟨.Tuple [.Name a pa, .Name b pb] kk tp, iter, ifs, 0⟩] scope pos) spos) env) Q E s := by
  rw [exec_Assign_Name_used _ _ _ _ hsw]
  refine wpAny_bind (wpAny_standAt (wpAny_bind ?_))
  show wpAny _ A (do let _ ← comprehension (.ListComp elt [⟨.Tuple [.Name a pa, .Name b pb] kk tp, iter, ifs, 0⟩] scope pos) scope env _ (newList []) false (eval iter env) (some (assign (.Name y py) env))) _ _ s
  exact wpAny_bind (wpAny_mono (wpAny_comprehension_free (use := some (assign (.Name y py) env)) (Q := fun _ s' => Q .next s') rfl hs hclos hkind hnames h) (fun _ s' hq => wpAny_pure (wpAny_pure hq)) fun _ _ e => e)
theorem post_eval {Q : Value → Shared → Prop} {news : List (Addr × Obj)} {D C : Addr} {h : Heap} {tk : Nat} {m' : Str → Option Value} {zs : List Value} (F' : Fr h₀ L h m) (N' : News h₀ L h ((D, lst zs) :: news)) (hn : h.Ns C m') (hC₀ : h₀.get? C = none) (hCL : C ≠ L) (hCD : C ≠ D) (offC : ∀ p ∈ news, p.1 ≠ C)
    (fin : ∀ h', Fr h₀ L h' m → News h₀ L h' ((D, lst zs) :: news) → Q (.ref D) { s with heap := h', toks := tk }) :
    compPost (model prog w) A E none Q (.ref D) C (.ok .next) { s with heap := h, toks := tk } := by
  refine ⟨m', hn, fun h'' hs'' => fin h'' (F'.change hs'' hCL hC₀) (fun p hp => ?_)⟩
  refine ⟨hs''.extBut _ _ ?_ (N' p hp).1, (N' p hp).2⟩
  cases hp with
  | head => exact Ne.symm hCD
  | tail _ hp => exact offC p hp
theorem post_assign {y : Str} {py : Pos} {Q : Shared → Prop} {news : List (Addr × Obj)} {D C : Addr} {h : Heap} {tk : Nat} {m' : Str → Option Value} {zs : List Value} (hLe : env.locals = L)
    (hy : env.kindOf y = some .local) (hp : (env.scope.kind == .class || (env.scope.kind == .module && env.locals != env.globals)) = false)
    (F' : Fr h₀ L h m) (N' : News h₀ L h ((D, lst zs) :: news)) (hn : h.Ns C m') (hC₀ : h₀.get? C = none) (hCL : C ≠ L) (hCD : C ≠ D) (offC : ∀ p ∈ news, p.1 ≠ C)
    (fin : ∀ h' tk, Fr h₀ L h' (fun z => if z = y then some (.ref D) else m z) → News h₀ L h' ((D, lst zs) :: news) → Q { s with heap := h', toks := tk }) :
    compPost (model prog w) A E (some (assign (.Name y py) env)) (fun _ s' => Q s') (.ref D) C (.ok .next) { s with heap := h, toks := tk } := by
  subst hLe
  show wpAny _ A (assign (.Name y py) env (.ref D)) _ _ _
  refine wpAny_assign_Name (wpAny_storeName_local hy F'.ns (fun h₂ hn₂ hs₂ => ?_) hp)
  have hL₀ : h₀.get? env.locals = none := Heap.get?_none_of_le F'.above
  have F₂ : Fr h₀ env.locals h₂ (fun z => if z = y then some (.ref D) else m z) := ⟨hn₂, fun b o e => hs₂.extBut b o (fun q => by rw [q, hL₀] at e; cases e) (F'.keep b o e), F'.above⟩
  refine ⟨m', hn.sameBut hs₂ hCL, fun h'' hs'' => fin h'' _ (F₂.change hs'' hCL hC₀) (fun p hp => ?_)⟩
  have z : h₂.get? p.1 = some p.2 := hs₂.extBut _ _ (N' p hp).2.1 (N' p hp).1
  refine ⟨hs''.extBut _ _ ?_ z, (N' p hp).2⟩
  cases hp with
  | head => exact Ne.symm hCD
  | tail _ hp => exact offC p hp
end
end Mine
end

section
open PySem PySem.W PyProof.Rows
namespace Mine
section
variable {prog : Program} {w : World} {A : Around} {E : Value → Shared → Prop} {Q : Flow → Shared → Prop} {s : Shared} {env : Env} {h₀ : Heap} {L : Addr} {m : Str → Option Value} {news : List (Addr × Obj)}
noncomputable def ForSrc (prog : Program) (w : World) (A : Around) (E : Value → Shared → Prop) (Q : Flow → Shared → Prop) (env : Env) (x : Str) (body : List Stmt) (xv : Value) (s₁ : Shared) : Prop :=
  wpAny (model prog w) A (pyIter xv) (fun it s₂ => ∃ (Inv : Nat → Shared → Prop) (n : Nat), Inv n s₂ ∧ ∀ k s', Inv k s' →
      wpAny (model prog w) A (pyNext it) (fun r s₃ => match r with
        | none => Q .next s₃
        | some v => wpAny (model prog w) A (storeName env x v) (fun _ s₄ => wpAny (model prog w) A (execs body env) (TurnF Q (fun s₅ => ∃ j, j < k ∧ Inv j s₅)) E s₄) E s₃) E s') E s₁
theorem for_src {x : Str} {px pos : Pos} {iter : PySem.Expr} {body : List Stmt} (h : wpAny (model prog w) A (eval iter env) (ForSrc prog w A E Q env x body) E s)
    (hs : ∀ x, foldedSetIterable iter env x = pure x) (hE : PassesOwn (model prog w) A env E) :
    wpAny (model prog w) A (exec (.For (.Name x px) iter body [] pos) env) Q E s := for_any h hs hE
/-- where a loop stands, k turns before its end -/
noncomputable def LoopAt {σ : Type} (h₀ : Heap) (L : Addr) (s : Shared) (Z : σ → Heap → Prop) (Led : σ → List (Addr × Obj)) (ps : σ → List (Str × Value)) (stored : List Str) (m : Str → Option Value) (J : σ → Prop) (msr : σ → Nat) (k : Nat) (s' : Shared) : Prop :=
  ∃ c h' tk m', s' = { s with heap := h', toks := tk } ∧ Z c h' ∧ Fr h₀ L h' m' ∧ News h₀ L h' (Led c) ∧ (∀ p ∈ ps c, m' p.1 = some p.2) ∧ (∀ z, (∀ p ∈ ps c, z ≠ p.1) → stored.contains z = false → m' z = m z) ∧ J c ∧ k = msr c
@[elab_as_elim] theorem LoopAt.elim {σ : Type} {Z : σ → Heap → Prop} {Led : σ → List (Addr × Obj)} {ps : σ → List (Str × Value)} {stored : List Str} {J : σ → Prop} {msr : σ → Nat} {P : Nat → Shared → Prop} {k : Nat} {s' : Shared} (h : LoopAt h₀ L s Z Led ps stored m J msr k s')
    (go : ∀ c (u : Str → Option Value) h' tk, Z c h' → Fr h₀ L h' (kstB (fun z => if stored.contains z then u z else m z) (ps c)) → News h₀ L h' (Led c) → J c → P (msr c) { s with heap := h', toks := tk }) : P k s' := by
  obtain ⟨c, h', tk, m', rfl, z, F, N, h1, h2, j, rfl⟩ := h
  rw [← kst_map h1 h2] at F
  exact go c m' h' tk z F N j
theorem list_go {σ : Type} {I l : Addr} {oI : Obj} {Led : σ → List (Addr × Obj)} {ps : σ → List (Str × Value)} {stored : List Str} {J : Nat → σ → Prop} {i n : Nat} {s' : Shared} {v : Array Value} (hi : i < n) (hc : oI.cls = .type "list_iterator") (hd : oI.data = .fields v)
    (hI : ∀ h : Heap, h.get? I = some oI → h.IsListIter I l (i + 1)) (h : ListEnd h₀ L s I oI Led ps stored m (J (i + 1)) s') :
    ∃ j, j < n - i ∧ LoopAt h₀ L s (fun c h => h.IsListIter I l c.1) (fun c => Led c.2) (fun c => ps c.2) stored m (fun c : Nat × σ => c.1 ≤ n ∧ J c.1 c.2 ∧ ∀ q ∈ Led c.2, q.1 ≠ I) (fun c => n - c.1) j s' := by
  obtain ⟨c', h₅, tk₅, m₅, rfl, F₅, N₅, off₅, hk₅, hr₅, J₅⟩ := h
  exact ⟨n - (i + 1), Nat.sub_lt_sub_left hi (Nat.lt_succ_self i), (i + 1, c'), h₅, tk₅, m₅, rfl, hI _ (N₅ _ (.head _)).1, F₅, fun p hp => N₅ p (.tail _ hp), hk₅, hr₅, ⟨hi, J₅, off₅⟩, rfl⟩
theorem forsrc_listS {σ : Type} {x : Str} {body : List Stmt} {l : Addr} {its : Array Value} {kk : Nat} (Led : σ → List (Addr × Obj)) (ps : σ → List (Str × Value)) (stored : List Str) (J : Nat → σ → Prop) (c₀ : σ)
    (hh : A.handled = none) (F : Fr h₀ L s.heap m) (N : News h₀ L s.heap (Led c₀)) (hk : PsAt m (ps c₀)) (hJ : J 0 c₀) (hin : ∀ c, (l, listOf its kk) ∈ Led c)
    (turn : ∀ i v c (u : Str → Option Value) I oI h tk T, T = TurnF Q (ListEnd h₀ L s I oI Led ps stored m (J (i + 1))) → its[i]? = some v → i < its.size → J i c → Fr h₀ L h (kstB (fun z => if stored.contains z then u z else m z) (ps c)) → News h₀ L h ((I, oI) :: Led c) → (∀ q ∈ Led c, q.1 ≠ I) → L ≠ I →
      wpAny (model prog w) A (storeName env x v) (fun _ s₄ => wpAny (model prog w) A (execs body env) T E s₄) E { s with heap := h, toks := tk })
    (done : ∀ c (u : Str → Option Value) h tk, J its.size c → Fr h₀ L h (kstB (fun z => if stored.contains z then u z else m z) (ps c)) → News h₀ L h (Led c) → Q .next { s with heap := h, toks := tk }) :
    ForSrc prog w A E Q env x body (.ref l) s := by
  have hl : ∀ (h : Heap) (c : σ), News h₀ L h (Led c) → h.IsList l its := fun h c N => ⟨_, (N _ (hin c)).1, rfl, _, rfl⟩
  refine wpAny_pyIter_list (hl _ _ N) ?_
  have hI₀ : h₀.get? s.heap.objs.size = none := next_is_new F
  have hLI : L ≠ s.heap.objs.size := Nat.ne_of_lt F.ns.lt
  have off₀ : ∀ q ∈ Led c₀, q.1 ≠ s.heap.objs.size := fun q hq => Nat.ne_of_lt (Heap.lt_size (N q hq).1)
  refine ⟨LoopAt h₀ L s (fun c h => h.IsListIter s.heap.objs.size l c.1) (fun c => Led c.2) (fun c => ps c.2) stored m (fun c : Nat × σ => c.1 ≤ its.size ∧ J c.1 c.2 ∧ ∀ q ∈ Led c.2, q.1 ≠ s.heap.objs.size) (fun c => its.size - c.1),
    its.size, ⟨(0, c₀), _, s.toks, m, rfl, ⟨_, Heap.get?_push_size _ rfl, rfl, rfl⟩, F.push _, fun p hp => ⟨Heap.get?_push_of_some _ (N p hp).1, (N p hp).2⟩, hk.mem, fun _ _ _ => rfl, ⟨Nat.zero_le _, hJ, off₀⟩, rfl⟩, fun k s' hI => ?_⟩
  refine LoopAt.elim hI fun c u h' tk hit F₁ N₁ hB => ?_
  clear hI k s'
  by_cases hlt' : c.1 < its.size
  · have hv : its[c.1]? = some its[c.1] := Array.getElem?_eq_getElem hlt'
    refine wpAny_pyNext_list_item (s := { s with heap := h', toks := tk }) hit (hl _ _ N₁) hv fun h₂ hit₂ hs₂ => ?_
    have keep : ∀ b o, b ∉ [s.heap.objs.size] → h'.get? b = some o → h₂.get? b = some o := fun b o hb e => hs₂.extBut b o (fun q : b = s.heap.objs.size => hb (q ▸ .head _)) e
    have F₂ := LCg.fr_but F₁ keep hLI hI₀
    have N₂ := LCg.news_but N₁ keep hB.2.2
    have ⟨oI, heI, hcI, hdI⟩ := hit₂
    exact wpAny_mono (turn c.1 its[c.1] c.2 u s.heap.objs.size oI h₂ _ _ rfl hv hlt' hB.2.1 F₂ (allc ⟨heI, Ne.symm hLI, hI₀⟩ N₂) hB.2.2 hLI) (fun _ s₃ h₃ => wpAny_mono h₃ (turnF_mono fun s' => list_go (J := J) hlt' hcI hdI fun h e => ⟨oI, e, hcI, hdI⟩) fun _ _ z => z) fun _ _ z => z
  · have e : c.1 = its.size := Nat.le_antisymm hB.1 (Nat.not_lt.mp hlt')
    refine wpAny_pyNext_list_end (s := { s with heap := h', toks := tk }) hh hit (hl _ _ N₁) (Array.getElem?_eq_none (Nat.le_of_eq e.symm)) fun h₂ he₂ => ?_
    have keep : ∀ b o, b ∉ [s.heap.objs.size] → h'.get? b = some o → h₂.get? b = some o := fun b o hb x => he₂ b o (fun q : b = s.heap.objs.size => hb (q ▸ .head _)) x
    exact done c.2 u h₂ tk (e ▸ hB.2.1) (LCg.fr_but F₁ keep hLI hI₀) (LCg.news_but N₁ keep hB.2.2)
theorem forsrc_list2 {α β : Type} {x : Str} {body : List Stmt} {l : Addr} {its : Array Value} {kk : Nat} (Led : α → β → List (Addr × Obj)) (ps : α → β → List (Str × Value)) (stored : List Str) (J : Nat → α → β → Prop) (a₀ : α) (b₀ : β)
    (hh : A.handled = none) (F : Fr h₀ L s.heap m) (N : News h₀ L s.heap (Led a₀ b₀)) (hk : PsAt m (ps a₀ b₀)) (hJ : J 0 a₀ b₀) (hin : ∀ a b, (l, listOf its kk) ∈ Led a b)
    (turn : ∀ i v a b (u : Str → Option Value) I oI h tk T, T = TurnF Q (ListEnd h₀ L s I oI (fun c : α × β => Led c.1 c.2) (fun c => ps c.1 c.2) stored m (fun c => J (i + 1) c.1 c.2)) → its[i]? = some v → i < its.size → J i a b → Fr h₀ L h (kstB (fun z => if stored.contains z then u z else m z) (ps a b)) → News h₀ L h ((I, oI) :: Led a b) → (∀ q ∈ Led a b, q.1 ≠ I) → L ≠ I →
      wpAny (model prog w) A (storeName env x v) (fun _ s₄ => wpAny (model prog w) A (execs body env) T E s₄) E { s with heap := h, toks := tk })
    (done : ∀ a b (u : Str → Option Value) h tk, J its.size a b → Fr h₀ L h (kstB (fun z => if stored.contains z then u z else m z) (ps a b)) → News h₀ L h (Led a b) → Q .next { s with heap := h, toks := tk }) :
    ForSrc prog w A E Q env x body (.ref l) s :=
  forsrc_listS (σ := α × β) (fun c => Led c.1 c.2) (fun c => ps c.1 c.2) stored (fun i c => J i c.1 c.2) (a₀, b₀) hh F N hk hJ (fun c => hin _ _) (fun i v c => turn i v c.1 c.2) (fun c => done c.1 c.2)
theorem forsrc_list3 {α β γ : Type} {x : Str} {body : List Stmt} {l : Addr} {its : Array Value} {kk : Nat} (Led : α → β → γ → List (Addr × Obj)) (ps : α → β → γ → List (Str × Value)) (stored : List Str) (J : Nat → α → β → γ → Prop) (a₀ : α) (b₀ : β) (c₀ : γ)
    (hh : A.handled = none) (F : Fr h₀ L s.heap m) (N : News h₀ L s.heap (Led a₀ b₀ c₀)) (hk : PsAt m (ps a₀ b₀ c₀)) (hJ : J 0 a₀ b₀ c₀) (hin : ∀ a b c, (l, listOf its kk) ∈ Led a b c)
    (turn : ∀ i v a b c (u : Str → Option Value) I oI h tk T, T = TurnF Q (ListEnd h₀ L s I oI (fun c : α × β × γ => Led c.1 c.2.1 c.2.2) (fun c => ps c.1 c.2.1 c.2.2) stored m (fun c => J (i + 1) c.1 c.2.1 c.2.2)) → its[i]? = some v → i < its.size → J i a b c → Fr h₀ L h (kstB (fun z => if stored.contains z then u z else m z) (ps a b c)) → News h₀ L h ((I, oI) :: Led a b c) → (∀ q ∈ Led a b c, q.1 ≠ I) → L ≠ I →
      wpAny (model prog w) A (storeName env x v) (fun _ s₄ => wpAny (model prog w) A (execs body env) T E s₄) E { s with heap := h, toks := tk })
    (done : ∀ a b c (u : Str → Option Value) h tk, J its.size a b c → Fr h₀ L h (kstB (fun z => if stored.contains z then u z else m z) (ps a b c)) → News h₀ L h (Led a b c) → Q .next { s with heap := h, toks := tk }) :
    ForSrc prog w A E Q env x body (.ref l) s :=
  forsrc_listS (σ := α × β × γ) (fun c => Led c.1 c.2.1 c.2.2) (fun c => ps c.1 c.2.1 c.2.2) stored (fun i c => J i c.1 c.2.1 c.2.2) (a₀, b₀, c₀) hh F N hk hJ (fun c => hin _ _ _) (fun i v c => turn i v c.1 c.2.1 c.2.2) (fun c => done c.1 c.2.1 c.2.2)
theorem forsrc_list4 {α β γ δ : Type} {x : Str} {body : List Stmt} {l : Addr} {its : Array Value} {kk : Nat} (Led : α → β → γ → δ → List (Addr × Obj)) (ps : α → β → γ → δ → List (Str × Value)) (stored : List Str) (J : Nat → α → β → γ → δ → Prop) (a₀ : α) (b₀ : β) (c₀ : γ) (d₀ : δ)
    (hh : A.handled = none) (F : Fr h₀ L s.heap m) (N : News h₀ L s.heap (Led a₀ b₀ c₀ d₀)) (hk : PsAt m (ps a₀ b₀ c₀ d₀)) (hJ : J 0 a₀ b₀ c₀ d₀) (hin : ∀ a b c d, (l, listOf its kk) ∈ Led a b c d)
    (turn : ∀ i v a b c d (u : Str → Option Value) I oI h tk T, T = TurnF Q (ListEnd h₀ L s I oI (fun c : α × β × γ × δ => Led c.1 c.2.1 c.2.2.1 c.2.2.2) (fun c => ps c.1 c.2.1 c.2.2.1 c.2.2.2) stored m (fun c => J (i + 1) c.1 c.2.1 c.2.2.1 c.2.2.2)) → its[i]? = some v → i < its.size → J i a b c d → Fr h₀ L h (kstB (fun z => if stored.contains z then u z else m z) (ps a b c d)) → News h₀ L h ((I, oI) :: Led a b c d) → (∀ q ∈ Led a b c d, q.1 ≠ I) → L ≠ I →
      wpAny (model prog w) A (storeName env x v) (fun _ s₄ => wpAny (model prog w) A (execs body env) T E s₄) E { s with heap := h, toks := tk })
    (done : ∀ a b c d (u : Str → Option Value) h tk, J its.size a b c d → Fr h₀ L h (kstB (fun z => if stored.contains z then u z else m z) (ps a b c d)) → News h₀ L h (Led a b c d) → Q .next { s with heap := h, toks := tk }) :
    ForSrc prog w A E Q env x body (.ref l) s :=
  forsrc_listS (σ := α × β × γ × δ) (fun c => Led c.1 c.2.1 c.2.2.1 c.2.2.2) (fun c => ps c.1 c.2.1 c.2.2.1 c.2.2.2) stored (fun i c => J i c.1 c.2.1 c.2.2.1 c.2.2.2) (a₀, b₀, c₀, d₀) hh F N hk hJ (fun c => hin _ _ _ _) (fun i v c => turn i v c.1 c.2.1 c.2.2.1 c.2.2.2) (fun c => done c.1 c.2.1 c.2.2.1 c.2.2.2)
theorem if_skip {z a : Str} {x y r : Option Value} (hz : z ≠ a) (h : y = r) : (if z = a then x else y) = r := (if_neg hz).trans h
theorem if_out {z : Str} {l : List Str} {x y : Option Value} (hz : l.contains z = false) : (if l.contains z = true then x else y) = y := if_neg (by rw [hz]; decide)
theorem off2 {z a b : Str} (h : [a, b].contains z = false) : z ≠ a ∧ z ≠ b := by simpa using h
theorem off3s {z a b c : Str} (h : [a, b, c].contains z = false) : z ≠ a ∧ z ≠ b ∧ z ≠ c := by simpa using h
theorem off1 {z a : Str} (h : [a].contains z = false) : z ≠ a := by simpa using h
theorem store_cell {x : Str} {c : Addr} {oc : Obj} {v₀ : Option Value} {v : Value} {rest : List (Addr × Obj)} {Q : Unit → Shared → Prop} (F : Fr h₀ L s.heap m) (N : News h₀ L s.heap ((c, oc) :: rest)) (off : ∀ q ∈ rest, q.1 ≠ c) (hoc : oc.data = .cell v₀)
    (hk : env.scope.kind = .function) (hl : env.kindOf x = some .cell) (hc : env.cells.lookup x = some c)
    (h : ∀ h' oc', oc'.data = .cell (some v) → Fr h₀ L h' m → News h₀ L h' ((c, oc') :: rest) → Q () { s with heap := h' }) : wpAny (model prog w) A (storeName env x v) Q E s := by
  have z := N (c, oc) List.mem_cons_self
  refine wpAny_storeName_cell hk hl hc ⟨oc, z.1, hoc⟩ fun h' hc' hs' => ?_
  obtain ⟨oc', e', hd'⟩ := hc'
  refine h h' oc' hd' (F.change hs' z.2.1 z.2.2) fun q hq => ?_
  cases hq with
  | head => exact ⟨e', z.2⟩
  | tail _ hq => exact ⟨hs'.extBut _ _ (off q hq) (N q (.tail _ hq)).1, (N q (.tail _ hq)).2⟩
end
end Mine
end

section
open PySem PySem.W PyProof.Rows
namespace Mine
/-- as Con, where the table of the law's own code objects is laid aside -/
noncomputable def ConL (w : World) (p : Program) (loose : List Str) (mean : ExcName → Option Value) (mg mb : Str → Option Value) (k : Nat)
    (f : Addr) (pos : List Value) (kw : List (Str × Value)) (news : List (Addr × Obj)) (post : Value → List (Addr × Obj) → Prop) : Prop :=
  ∀ (dp un : Nat) (gd : Option (List Code)) (cn : Str) (cn' : List (Str × NameKind)) (cg cc : Bool) (cm : List (Str × Const)) (a : Addr) (ccd : Value) (cl : List (Str × Addr)) (outer : List Env) (A₀ : Around)
    (base h₀ : Heap) (L : Addr) (m : Str → Option Value) (s : Shared) (R : Result → Shared → Prop), CodeHd base 157 153 →
    Below A₀ base outer h₀ → Fr h₀ L s.heap m → (hd.heap_39 w.params).In h₀ → News h₀ L s.heap news → Top p loose mean mg mb h₀ →
    dp + k < recursionLimit → un + 20 * k < cLine →
    (∀ v news' h' tk', post v news' → Fr h₀ L h' m → News h₀ L h' news' → R (.ok (.ret v)) { s with heap := h', toks := tk' }) →
    codeAny (model Pg w) (ktrTop dp un gd cn ⟨.function, cn', cg, cc, cm⟩ L a ccd cl outer) (.call (.ref f) ⟨pos, kw⟩) R s
theorem ConL.last {w : World} {p : Program} {loose : List Str} {mean : ExcName → Option Value} {mg mb : Str → Option Value} {k : Nat} {f : Addr} {pos : List Value} {kw : List (Str × Value)}
    {news : List (Addr × Obj)} {post : Value → List (Addr × Obj) → Prop}
    {dp un : Nat} {gd : Option (List Code)} {cn : Str} {cs : Scope} {a : Addr} {ccd : Value} {cl : List (Str × Addr)} {outer : List Env} {A₀ : Around}
    {base h₀ : Heap} {L : Addr} {m : Str → Option Value} {s : Shared} {R : Result → Shared → Prop} (hCd : CodeHd base 157 153)
    (B : Below A₀ base outer h₀) (F : Fr h₀ L s.heap m) (X : (hd.heap_39 w.params).In h₀) (N : News h₀ L s.heap news) (T : Top p loose mean mg mb h₀) (hk : cs.kind = .function)
    (C : ConL w p loose mean mg mb k f pos kw news post)
    (hd : dp + k < recursionLimit) (hu : un + 20 * k < cLine)
    (ret : ∀ v news' h' tk', post v news' → Fr h₀ L h' m → News h₀ L h' news' → R (.ok (.ret v)) { s with heap := h', toks := tk' }) :
    codeAny (model Pg w) (ktrTop dp un gd cn cs L a ccd cl outer) (.call (.ref f) ⟨pos, kw⟩) R s := by cases cs with | mk ck cn' cg cc cm => cases hk; exact C _ _ _ _ _ _ _ _ _ _ _ _ _ _ _ _ _ _ _ hCd B F X N T hd hu ret
set_option genInjectivity false in
set_option genSizeOf false in
structure LexS where
  (lP xI dI D8 fS fR cR cA lA cT : Addr)
  (od8 oS oR ocR oA oT : Obj)
  (k1 k2 k3 k4 tw : Tok)
noncomputable abbrev dObj (w : World) (k1 k2 k3 k4 tw : Tok) (fS lP : Addr) (ln : Int) (tl : Tok) : Obj :=
  dictOf [⟨PyData.keyHash w.params "lineno", .str "lineno" k1, .int ln tl⟩, ⟨PyData.keyHash w.params "instream", .str "instream" k2, .ref fS⟩,
    ⟨PyData.keyHash w.params "whitespace", .str "whitespace" k3, .str "\n\t\r " tw⟩, ⟨PyData.keyHash w.params "pushback", .str "pushback" k4, .ref lP⟩] 4
noncomputable abbrev LexS.dict (S : LexS) (w : World) (ln : Int) (tl : Tok) : Obj := dObj w S.k1 S.k2 S.k3 S.k4 S.tw S.fS S.lP ln tl
/-- the ledger of a lexer: its line, and its place in the text -/
noncomputable abbrev LexS.led (S : LexS) (w : World) (ln : Int) (tl : Tok) (p : Int) (tp : Tok) (kA : Nat) (news : List (Addr × Obj)) : List (Addr × Obj) :=
  (S.lP, listOf #[] 0) :: (S.xI, instObj 130 S.dI) :: (S.dI, S.dict w ln tl) :: (S.D8, S.od8) :: (S.fS, S.oS) :: (S.fR, S.oR) :: (S.cR, S.ocR) :: (S.cA, S.oA) :: (S.lA, listOf #[.int p tp] kA) :: (S.cT, S.oT) :: news
noncomputable abbrev LexS.cells (S : LexS) (w : World) (ln : Int) (tl : Tok) (p : Int) (tp : Tok) (kA : Nat) : List (Addr × Obj) :=
  [(S.lP, listOf #[] 0), (S.xI, instObj 130 S.dI), (S.dI, S.dict w ln tl), (S.D8, S.od8), (S.fS, S.oS), (S.fR, S.oR), (S.cR, S.ocR), (S.cA, S.oA), (S.lA, listOf #[.int p tp] kA), (S.cT, S.oT)]
structure LexS.Ok (S : LexS) (news : List (Addr × Obj)) : Prop where
  lt : @LT.lt Nat _ S.cT S.cA ∧ @LT.lt Nat _ S.cA S.lA ∧ @LT.lt Nat _ S.lA S.cR ∧ @LT.lt Nat _ S.cR S.fR ∧ @LT.lt Nat _ S.fR S.fS ∧ @LT.lt Nat _ S.fS S.D8 ∧ @LT.lt Nat _ S.D8 S.dI ∧ @LT.lt Nat _ S.dI S.xI ∧ @LT.lt Nat _ S.xI S.lP
  off : ∀ q ∈ news, q.1 ≠ S.dI ∧ q.1 ≠ S.lA
  od8 : DictIs S.od8 (fun y => if y = "read" then some (.ref S.fR) else none)
  cls : S.oS.cls = .type "function"
  dic : S.oS.dict = some S.D8
  ncl : ∀ c, S.oS.data ≠ .cls c
  fnR : ∃ oc od fd sl, S.oR = ⟨oc, od, .func fd, sl⟩
noncomputable abbrev LexS.rled (S : LexS) (p : Int) (tp : Tok) (kA : Nat) (news : List (Addr × Obj)) : List (Addr × Obj) :=
  (S.fR, S.oR) :: (S.cR, S.ocR) :: (S.cA, S.oA) :: (S.lA, listOf #[.int p tp] kA) :: (S.cT, S.oT) :: news
noncomputable def signAt (cs : List Nat) (p : Nat) : Str := codesOf ((cs.drop p).take 1)
/-- what the text's reader does -/
noncomputable def LexS.Read (S : LexS) (w : World) (p : Program) (loose : List Str) (mean : ExcName → Option Value) (mg mb : Str → Option Value) (cs : List Nat) : Prop :=
  ∀ (news : List (Addr × Obj)) (i : Nat) (tp t : Tok) (kA : Nat), i ≤ cs.length → (∀ q ∈ news, q.1 ≠ S.lA) →
    Con w p loose mean mg mb 8 S.fR [.int 1 t] [] (S.rled i tp kA news)
      (fun r news' => ∃ t' tp' kA', r = .str (signAt cs i) t' ∧ news' = S.rled ((min (i + 1) cs.length : Nat) : Int) tp' kA' news)
theorem Con.conv {w : World} {p : Program} {loose : List Str} {mean : ExcName → Option Value} {mg mb : Str → Option Value} {k : Nat} {f : Addr} {pos : List Value} {kw : List (Str × Value)} {news news2 : List (Addr × Obj)} {P P2 : Value → List (Addr × Obj) → Prop}
    (C : Con w p loose mean mg mb k f pos kw news P) (h1 : ∀ q ∈ news, q ∈ news2) (h2 : ∀ r n, P r n → ∃ n2, (∀ q ∈ n2, q ∈ n) ∧ P2 r n2) : Con w p loose mean mg mb k f pos kw news2 P2 := by
  intro dp un gd cn cn' cg cc cm a ccd cl outer A₀ base h₀ L m s R B F X N T hd hu hret
  refine C dp un gd cn cn' cg cc cm a ccd cl outer A₀ base h₀ L m s R B F X (fun q hq => N q (h1 q hq)) T hd hu (fun v news' h' tk' hp F' N' => ?_)
  obtain ⟨n2, hs, hp'⟩ := h2 v news' hp
  exact hret v n2 h' tk' hp' F' (fun q hq => N' q (hs q hq))
theorem LexS.Ok.cons {S : LexS} {news : List (Addr × Obj)} {q : Addr × Obj} (K : S.Ok news) (h1 : q.1 ≠ S.dI) (h2 : q.1 ≠ S.lA) : S.Ok (q :: news) :=
  ⟨K.lt, fun x hx => by
    rcases List.mem_cons.mp hx with rfl | hx
    · exact ⟨h1, h2⟩
    · exact K.off x hx, K.od8, K.cls, K.dic, K.ncl, K.fnR⟩
theorem LexS.read' {S : LexS} {w : World} {p : Program} {loose : List Str} {mean : ExcName → Option Value} {mg mb : Str → Option Value} {cs : List Nat} {news : List (Addr × Obj)} (K : S.Ok news) (hR : S.Read w p loose mean mg mb cs) (ln : Int) (tl : Tok) (i : Nat) (tp t : Tok) (kA : Nat) (hi : i ≤ cs.length) :
    Con w p loose mean mg mb 8 S.fR [.int 1 t] [] (S.led w ln tl i tp kA news)
      (fun r news' => ∃ t' tp' kA', r = .str (signAt cs i) t' ∧ news' = S.led w ln tl ((min (i + 1) cs.length : Nat) : Int) tp' kA' news) := by
  refine and9 K.lt fun h1 h2 h3 h4 h5 h6 h7 h8 h9 => ?_
  have z5 := Nat.lt_trans (Nat.lt_trans h3 h4) h5
  have z6 := Nat.lt_trans z5 h6
  have z7 := Nat.lt_trans z6 h7
  have z8 := Nat.lt_trans z7 h8
  have e1 := Nat.ne_of_gt (Nat.lt_trans z8 h9)
  have e2 := Nat.ne_of_gt z8
  have e3 := Nat.ne_of_gt z7
  have e4 := Nat.ne_of_gt z6
  have e5 := Nat.ne_of_gt z5
  refine (hR ((S.lP, listOf #[] 0) :: (S.xI, instObj 130 S.dI) :: (S.dI, S.dict w ln tl) :: (S.D8, S.od8) :: (S.fS, S.oS) :: news) i tp t kA hi
    (mem_cons_ne e1 (mem_cons_ne e2 (mem_cons_ne e3 (mem_cons_ne e4 (mem_cons_ne e5 (fun q hq => (K.off q hq).2))))))).conv ?_ ?_
  · intro q hq
    exact mem_swap_app (A := [(S.fR, S.oR), (S.cR, S.ocR), (S.cA, S.oA), (S.lA, listOf #[.int (i : Int) tp] kA), (S.cT, S.oT)]) (B := [(S.lP, listOf #[] 0), (S.xI, instObj 130 S.dI), (S.dI, S.dict w ln tl), (S.D8, S.od8), (S.fS, S.oS)]) hq
  · rintro r n ⟨t', tp', kA', rfl, rfl⟩
    exact ⟨S.led w ln tl ((min (i + 1) cs.length : Nat) : Int) tp' kA' news, fun q hq => mem_swap_app (A := [(S.lP, listOf #[] 0), (S.xI, instObj 130 S.dI), (S.dI, S.dict w ln tl), (S.D8, S.od8), (S.fS, S.oS)]) (B := [(S.fR, S.oR), (S.cR, S.ocR), (S.cA, S.oA), (S.lA, listOf #[.int ((min (i + 1) cs.length : Nat) : Int) tp'] kA'), (S.cT, S.oT)]) hq, t', tp', kA', rfl, rfl⟩
end Mine
end

section
open PySem PySem.W PyProof.Rows PySem.Builtin PySem.Builtin.Str PyProof
namespace Mine
theorem idx_one {i n : Nat} (h : i < n) : strSliceIndices (some (i : Int)) (some ((i : Int) + 1)) 1 n = [i] := by
  have e := StrLaws.strSliceIndices_plain (a := i) (b := i + 1) (len := n) (by omega) (by omega)
  rw [show (((i + 1 : Nat) : Int)) = (i : Int) + 1 by omega] at e
  rw [e]
  simp
theorem idx_end (n : Nat) : strSliceIndices (some (n : Int)) (some ((n : Int) + 1)) 1 n = [] := by
  unfold strSliceIndices sliceRange
  simp
  have h0 := Int.natCast_nonneg n
  rw [if_neg (Int.not_lt.mpr h0), if_neg (Int.not_lt.mpr (Int.le_add_one h0)), Int.min_eq_left (Int.le_refl _), Int.min_eq_right (Int.le_add_one (Int.le_refl _)), Int.max_eq_right h0, if_neg (Int.lt_irrefl _)]
  exact Int.le_refl 0
theorem codes_len (cs : List Nat) : (codesOf cs).length = cs.length := by
  show cs.toArray.size = cs.length
  simp
theorem slice_sign (cs : List Nat) (i : Nat) (h : i ≤ cs.length) : Txt.slice (codesOf cs) (some (i : Int)) (some ((i : Int) + 1)) = signAt cs i := by
  unfold Txt.slice
  rw [codes_len]
  rcases Nat.lt_or_eq_of_le h with h1 | h1
  · rw [idx_one h1]
    have e : ([i] : List Nat).filterMap ((codesOf cs).cps[·]?) = [cs[i]] := by
      show ([i] : List Nat).filterMap (fun k => (cs.toArray)[k]?) = [cs[i]]
      simp [h1]
    rw [e]
    have e2 : signAt cs i = codesOf [cs[i]] := by
      unfold signAt
      rw [List.drop_eq_getElem_cons h1]
      rfl
    rw [e2]
    split
    · rename_i hc
      have hl : cs.length = 1 := by simp at hc; omega
      have hi : i = 0 := by omega
      subst hi
      match cs, hl with
      | [c], _ => rfl
    · rfl
  · subst h1
    rw [idx_end]
    have e2 : signAt cs cs.length = codesOf [] := by
      unfold signAt
      rw [List.drop_length]
      rfl
    rw [e2]
    split
    · rename_i hc
      have hl : cs.length = 0 := by simp at hc; simp [hc]
      rw [List.eq_nil_of_length_eq_zero hl]
    · rfl
theorem sign_len (cs : List Nat) (i : Nat) (h : i ≤ cs.length) : (i : Int) + ((signAt cs i).length : Int) = ((min (i + 1) cs.length : Nat) : Int) := by
  unfold signAt
  rw [codes_len, List.length_take, List.length_drop]
  rcases Nat.lt_or_eq_of_le h with h1 | h1
  · rw [Nat.min_eq_left (Nat.sub_pos_of_lt h1), Nat.min_eq_left h1]
    rfl
  · rw [h1, Nat.sub_self, Nat.min_eq_right (Nat.le_succ cs.length)]
    exact Int.add_zero _
end Mine
end

section
open PySem PySem.W PyProof.Rows
namespace Mine
theorem fill21 : PySem.Challenge.rw_sr0032_01.foot = 12 ∧ Mine.hd.heap_39 = Mine.hd.heap_39 := by
  k_fill
  exact ⟨rfl, rfl⟩
noncomputable def isNl (cs : List Nat) (i : Nat) : Bool := signAt cs i == "\n"
set_option maxRecDepth 100000 in
set_option maxHeartbeats 8000000 in
theorem readc_c (w : World) (p : Program) (loose : List Str) (mean : ExcName → Option Value) (mg mb : Str → Option Value) (news : List (Addr × Obj)) (S : LexS) (cs : List Nat) (ln : Int) (tl : Tok) (i : Nat) (tp : Tok) (kA : Nat)
    (K : S.Ok news) (hR : S.Read w p loose mean mg mb cs) (hi : i ≤ cs.length) :
    Con w p loose mean mg mb 12 113 [.ref S.xI] [] (S.led w ln tl i tp kA news)
      (fun r news' => ∃ t' tl' tp' kA', r = .str (signAt cs i) t' ∧ news' = S.led w (ln + if isNl cs i = true then 1 else 0) tl' ((min (i + 1) cs.length : Nat) : Int) tp' kA' news) := by
  have hK := K.lt
  have hread := fun t => S.read' K hR ln tl i tp t kA hi
  have offD : ∀ q ∈ news, q.1 ≠ S.dI := fun q hq => (K.off q hq).1
  refine and9 hK fun h1 h2 h3 h4 h5 h6 h7 h8 h9 => ?_
  refine ex4e K.fnR fun oc od fd sl eR => ?_
  have hcls := K.cls
  have hdic := K.dic
  have hncl := K.ncl
  have hod8 := K.od8
  have hsl : (signAt cs i).length ≤ 1 := by unfold signAt; rw [codes_len, List.length_take]; exact Nat.min_le_left _ _
  clear K hR
  unfold isNl
  generalize signAt cs i = sg at *
  generalize ((min (i + 1) cs.length : Nat) : Int) = nx at *
  obtain ⟨lP, xI, dI, D8, fS, fR, cR, cA, lA, cT, od8, oS, oR, ocR, oA, oT, k1, k2, k3, k4, tw⟩ := S
  dsimp only [LexS.led, LexS.dict] at *
  w_on
  w_strict (
    unfold Con
    intro dp un gd cn cn' cg cc cm a ccd cl outer A₀ base h₀ L m s R B F X N T hd hu hret
    (k_dflt k_enter)
    repeat' (first
      | ((with_reducible show wpAny _ _ (getMethod (Value.ref fS) _ _) _ _ _); (with_reducible rename News _ _ _ _ => N5); refine getMethod_fn (N5 (fS, oS) (by k_mem)).1 hcls hdic hncl (hod8 _ _ (N5 (D8, od8) (by k_mem)).1).ns rfl ?_; skip)
      | ((with_reducible show wpAny _ _ (callWith _ (Value.ref fR) _ _ _) _ _ _); (with_reducible rename News _ _ _ _ => N5); refine callWith_F ⟨oc, od, fd, sl, eR ▸ (N5 (fR, oR) (by k_mem)).1⟩ ?_)
      | ((with_reducible show FnAt fR _); (with_reducible rename News _ _ _ _ => N5); exact ⟨oc, od, fd, sl, eR ▸ (N5 (fR, oR) (by k_mem)).1⟩)
      | ((with_reducible show _ ∧ _); refine And.intro ?_ ?_)
      | ((with_reducible show wpAny _ _ (call (Value.ref fR) _ _) _ _ _); (try dsimp only [List.nil_append, List.cons_append]); k_dflt (refine wpAny_call (Con.l3 (by k_asm) (by k_asm) (by k_asm) (by k_asm) (by k_asm) rfl (hread _) (by first | exact lt0 (by assumption) (by decide) | exact lt1 (by assumption) (by decide) | exact lt2 (by assumption) (by decide) | exact lt3 (by assumption) (by decide) | exact lt4 (by assumption) (by decide) | ktr_room) (by first | exact lt0 (by assumption) (by decide) | exact lt1 (by assumption) (by decide) | exact lt2 (by assumption) (by decide) | exact lt3 (by assumption) (by decide) | exact lt4 (by assumption) (by decide) | ktr_units) ?_)); intro t4 tp4 kA4 h' tk' F' N'; (try dsimp only))
      | (k_unfold; (try dsimp only))
      | (walk1 <;> (try dsimp only))
      | (dsimp only; walk1)
      | (leave1; try dsimp only)
      | fail "no step")
    · (with_reducible rename (_ == _) = true => hb9)
      (with_reducible rename News _ _ _ _ => kN)
      simp only [hb9, if_true] at hret
      exact hret _ _ _ _ (ex4i _ _ _ _ ⟨rfl, rfl⟩) (by assumption) kN
    · (with_reducible rename (_ == _) = false => hb9)
      (with_reducible rename News _ _ _ _ => kN)
      simp only [hb9, Bool.false_eq_true, if_false, Int.add_zero] at hret
      exact hret _ _ _ _ (ex4i _ _ _ _ ⟨rfl, rfl⟩) (by assumption) kN)
end Mine
end

section
set_option maxRecDepth 100000
open PySem PySem.W PyProof.Rows PySem.Calls Builtin Builtin.SmallTypes
namespace Mine
theorem slot_cit_next : Slot "callable_iterator" "__next__" "callable_iterator.__next__" := .of (owner := "callable_iterator") (n := "__next__") (by rw [typeLookup_type, builtinLookup_eq_fast]; kernel_rfl) (by decide +kernel) (by decide +kernel) (by decide +kernel)
  (by first | exact .inl (by decide +kernel) | exact .inr (by decide +kernel)) (by rw [isSubtype_type]; kernel_rfl)
theorem entry_cit_next : entryFor table "callable_iterator.__next__" = some Builtin.«callable_iterator.__next__» := entryFor_of_tree (by kernel_rfl)
theorem args_cit_next (a : Value) : argsOk "callable_iterator.__next__" ⟨[a], []⟩ := by unfold argsOk; kernel_rfl
theorem slot_cit_iter : Slot "callable_iterator" "__iter__" "callable_iterator.__iter__" := .of (owner := "callable_iterator") (n := "__iter__") (by rw [typeLookup_type, builtinLookup_eq_fast]; kernel_rfl) (by decide +kernel) (by decide +kernel) (by decide +kernel)
  (by first | exact .inl (by decide +kernel) | exact .inr (by decide +kernel)) (by rw [isSubtype_type]; kernel_rfl)
theorem entry_cit_iter : entryFor table "callable_iterator.__iter__" = some Builtin.«dict_keyiterator.__iter__» :=
  entryFor_alias (id' := "dict_keyiterator.__iter__") (by kernel_rfl) (by decide +kernel) (by decide +kernel) (by kernel_rfl)
theorem args_cit_iter (a : Value) : argsOk "callable_iterator.__iter__" ⟨[a], []⟩ := by unfold argsOk; kernel_rfl
theorem kind_iter : builtinKind "iter" = none := by decide +kernel
theorem plain_iter : plainId "iter" = true := by decide +kernel
theorem entry_iter : entryFor table "iter" = some Builtin.«iter» := entryFor_of_tree (by kernel_rfl)
theorem args_iter2 (a b : Value) : argsOk "iter" ⟨[a, b], []⟩ := by unfold argsOk; kernel_rfl
noncomputable abbrev citObj (b : Addr) (t : Tok) : Obj := { cls := .type "callable_iterator", data := .fields #[.ref b, .str "" t, .bool false] }
section
variable {prog : Program} {w : World} {A : Around} {E : Value → Shared → Prop} {s : Shared} {I b f x : Addr} {t : Tok}
theorem cit_self {Q : Value → Shared → Prop} {o : Obj} (ho : s.heap.get? I = some o) (hc : o.cls = .type "callable_iterator") (h : Q (.ref I) s) : wpAny (model prog w) A (pyIter (.ref I)) Q E s := by
  have hT : s.TypeIs (.ref I) "callable_iterator" := ⟨o, ho, hc⟩
  refine wpAny_pyIter_slot hT slot_cit_iter (wpAny_call_entry slot_cit_iter hT entry_cit_iter ?_ (args_cit_iter _))
  show wpAny _ _ (ret (.ref I)) _ _ s
  exact wpAny_pure ⟨_, rfl, "callable_iterator", _, hT, slot_cit_next.lookup, h⟩
theorem method_call : typeLookup (.type "method") "__call__" = pure (some (.builtin "method.__call__")) := by rw [typeLookup_type, builtinLookup_eq_fast]; kernel_rfl
theorem iter_call {Q : Value → Shared → Prop} {o : Obj} {y : Str} (ho : s.heap.get? b = some o) (hc : o.cls = .type "method")
    (h : Q (.ref s.heap.objs.size) { s with heap := s.heap.push { cls := .type "callable_iterator", data := .fields #[.ref b, .str y t, .bool false] } }) :
    wpAny (model prog w) A (call (.builtin "iter") [.ref b, .str y t]) Q E s := by
  have hT : s.TypeIs (.ref b) "method" := ⟨o, ho, hc⟩
  refine call_function_tree kind_iter plain_iter entry_iter (args_iter2 _ _) ?_
  unfold Builtin.«iter»
  refine wpAny_bind (m := someArgs "iter" 1 2 _) (wpAny_pure ?_)
  dsimp only
  refine wpAny_bind (wpAny_specialOf hT method_call ?_)
  refine wpAny_bind (wpAny_rule ?_)
  refine wpAny_bind ?_
  unfold newFields
  exact wpAny_newObj_type (wpAny_pure h)
theorem borrows_method {Q : Bool → Shared → Prop} {fd : FuncData} {of : Obj} (hb : s.heap.get? b = some { cls := .type "method", dict := none, data := .fields #[.ref f, .ref x], slots := #[] }) (hf : s.heap.get? f = some of) (hfd : of.data = .func fd) (h : Q true s) :
    wpAny (model prog w) A (borrowsExactly (.ref b)) Q E s := by
  unfold borrowsExactly
  dsimp only
  refine wpAny_bind (wpAny_load hb ?_)
  dsimp only
  rw [if_pos (by decide)]
  show wpAny _ _ (load f >>= _) _ _ _
  refine wpAny_bind (wpAny_load hf ?_)
  rw [hfd]
  exact wpAny_pure h
theorem letsGo_method {Q : Unit → Shared → Prop} {fd : FuncData} {of : Obj} {who : String} {busy : Code → Bool} (hb : s.heap.get? b = some { cls := .type "method", dict := none, data := .fields #[.ref f, .ref x], slots := #[] }) (hf : s.heap.get? f = some of) (hfd : of.data = .func fd) (h : Q () s) :
    wpAny (model prog w) A (slotLetsGo who (.ref b) busy) Q E s := by
  unfold slotLetsGo
  dsimp only
  refine wpAny_bind (borrows_method hb hf hfd ?_)
  rw [if_pos rfl]
  exact wpAny_pure h
/-- a call out of a slot of a method over a function -/
theorem callOut_method {Q : Value → Shared → Prop} {fd : FuncData} {of : Obj} (hb : s.heap.get? b = some { cls := .type "method", dict := none, data := .fields #[.ref f, .ref x], slots := #[] }) (hf : s.heap.get? f = some of) (hfd : of.data = .func fd)
    (hc : codeAny (model prog w) A (.call (.ref f) ⟨[.ref x], []⟩) (fun r s' => match r with | .ok (.ret v) => Q v s' | .ok _ => False | .error e => E e s') s) :
    wpAny (model prog w) A (callOutOfASlot (.ref b)) Q E s := by
  unfold callOutOfASlot
  refine wpAny_bind (borrows_method hb hf hfd ?_)
  rw [if_pos rfl]
  have h2 := ks_codeAny_call_bound (a := ⟨[], []⟩) hb hc
  intro Γ p hΓ
  unfold callBorrowed
  rw [Sem.wp_call]
  refine wpCode_mono (fun r s' h' => ?_) (h2 _ p rfl (hΓ.enter _ none p (by intro x; cases x)))
  cases r with
  | error e => exact h'
  | ok fl => cases fl <;> first | exact h' | exact h'.elim

noncomputable abbrev metObj (f x : Addr) : Obj := { cls := .type "method", dict := none, data := .fields #[.ref f, .ref x], slots := #[] }
theorem cit_next {Q : Option Value → Shared → Prop} {fd : FuncData} {of : Obj} (hI : s.heap.get? I = some (citObj b t)) (hb : s.heap.get? b = some (metObj f x)) (hf : s.heap.get? f = some of) (hfd : of.data = .func fd)
    (hc : codeAny (model prog w) A.in1 (.call (.ref f) ⟨[.ref x], []⟩) (fun r s' => match r with
      | .ok (.ret v) => ∃ y u, v = .str y u ∧ s'.heap.get? I = some (citObj b t) ∧ s'.heap.get? b = some (metObj f x) ∧ s'.heap.get? f = some of ∧ ((Str.ofString "" == y) = false → Q (some v) s') ∧
          ((Str.ofString "" == y) = true → A.handled = none ∧ ∀ h'', (∀ c o, c ≠ I → s'.heap.get? c = some o → h''.get? c = some o) → Q none { s' with heap := h'' })
      | _ => False) s) :
    wpAny (model prog w) A (pyNext (.ref I)) Q E s := by
  have hT : s.TypeIs (.ref I) "callable_iterator" := ⟨_, hI, rfl⟩
  unfold pyNext
  refine wpAny_bind (wpAny_attempt (wpAny_callSpecial?_slot (name := Str.ofString "__next__") hT slot_cit_next
    (wpAny_call_entry slot_cit_next hT entry_cit_next ?_ (args_cit_next _))))
  unfold Builtin.«callable_iterator.__next__»
  refine wpAny_bind (m := slotArgs "__next__" 0 _) (wpAny_pure ?_)
  refine wpAny_bind (wpAny_field hI rfl (x := .bool false) rfl ?_)
  rw [if_neg (by decide)]
  refine wpAny_bind (wpAny_field hI rfl (x := .ref b) rfl ?_)
  refine wpAny_bind (wpAny_attempt (callOut_method hb hf hfd (codeAny_mono hc fun r s' hr => ?_)))
  cases r with
  | error e => exact hr.elim
  | ok fl =>
    cases fl with
    | ret v =>
      have ⟨y, hr1⟩ := hr
      have ⟨u, hB0⟩ := hr1
      have ev : v = .str y u := hB0.1
      have hB := hB0.2
      clear hB0 hr1 hr
      subst ev
      have eI := hB.1
      have eb := hB.2.1
      have ef := hB.2.2.1
      have hno := hB.2.2.2.1
      have hyes := hB.2.2.2.2
      clear hB
      dsimp only
      refine wpAny_bind (wpAny_field eI rfl (x := .bool false) rfl ?_)
      rw [if_neg (by decide)]
      refine wpAny_bind (wpAny_field eI rfl (x := .str "" t) rfl ?_)
      refine wpAny_bind (wpAny_holding (eqBool_str ?_))
      cases hy : (Str.ofString "" == y) with
      | false =>
        rw [if_pos (by decide)]
        exact wpAny_pure ⟨_, rfl, wpAny_pure (hno hy)⟩
      | true =>
        rw [if_neg (by decide)]
        have hh := (hyes hy).1
        have hend := (hyes hy).2
        refine wpAny_bind (wpAny_rule (wpAny_bind ?_))
        show wpAny _ _ (field (.ref I) 0 >>= fun old => slotLetsGo "callable_iterator.__next__" old _ >>= fun _ => setField (.ref I) 0 .none >>= fun _ => setField (.ref I) 1 .none >>= fun _ => setField (.ref I) 2 (.bool true)) _ _ _
        refine wpAny_bind (wpAny_field eI rfl (x := .ref b) rfl ?_)
        refine wpAny_bind (letsGo_method eb ef hfd ?_)
        refine wpAny_bind (wpAny_setField_rec eI (by simp) fun h₁ e₁ k₁ => ?_)
        refine wpAny_bind (wpAny_setField_rec e₁ (by simp) fun h₂ e₂ k₂ => ?_)
        refine wpAny_setField_rec e₂ (by simp) fun h₃ e₃ k₃ => ?_
        have kk : ∀ c o, c ≠ I → s'.heap.get? c = some o → h₃.get? c = some o := fun c o hc e => k₃.extBut c o hc (k₂.extBut c o hc (k₁.extBut c o hc e))
        unfold stopIteration
        refine wpAny_bind ?_
        simp only [newExc, newTuple]
        refine wpAny_bind (wpAny_newObj_type ?_ (by size_fits))
        refine wpAny_bind (m := firstArgMember _ _) (wpAny_of_eq (a := Value.none) (by first | rfl | (simp only [firstArgMember]; rfl)) ?_)
        refine wpAny_newObj_type ?_ (by size_fits)
        unfold raiseNew
        dsimp only
        refine wpAny_bind (wpAny_handled ?_)
        first | rw [show A.in1.handled = none from hh] | rw [hh]
        refine wpAny_bind (wpAny_pure (wpAny_throw ?_))
        refine wpAny_bind (wpAny_isInstance (T := "StopIteration") (b := true) ⟨_, Heap.get?_push_size _ rfl, rfl⟩ isSubtype_stop ?_)
        refine wpAny_pure (hend _ fun c o hc e => ?_)
        exact Heap.get?_push_of_some _ (Heap.get?_push_of_some _ (kk c o hc e))
    | _ => exact hr.elim
end
end Mine
end

section
open PySem PySem.W PyProof.Rows
namespace Mine
/-- the rest of a quoted word: (rest, word, rest behind it) -/
inductive QB : List Nat → List Nat → List Nat → Prop
  | stop (r : List Nat) : QB (34 :: r) [] r
  | plain {c : Nat} {r w r' : List Nat} : c ≠ 34 → c ≠ 92 → QB r w r' → QB (c :: r) (c :: w) r'
  | esc {c : Nat} {r w r' : List Nat} : QB r w r' → QB (92 :: c :: r) (c :: w) r'
inductive BB : List Nat → List Nat → List Nat → Prop
  | stop (r : List Nat) : BB (9 :: r) [] r
  | esc {c : Nat} {r w r' : List Nat} : BB r w r' → BB (92 :: c :: r) (c :: w) r'
inductive TK : List Nat → List Nat → List Nat → Prop
  | fin : TK [] [] []
  | nl {r w r' : List Nat} : TK r w r' → TK (10 :: r) w r'
  | quo {r w r' : List Nat} : QB r w r' → TK (34 :: r) w r'
  | bare {c : Nat} {r w r' : List Nat} : BB r w r' → TK (92 :: c :: r) (c :: w) r'
noncomputable def lineAt (cs : List Nat) (i : Nat) : Int := 1 + (((cs.take i).count 10 : Nat) : Int)
theorem codes_nl {c : Nat} : (codesOf [c] == Str.ofString "\n") = (c == 10) := by
  rw [Bool.eq_iff_iff]
  simp only [beq_iff_eq]
  constructor
  · intro h
    have h2 : [c] = [10] := congrArg (fun s : Str => s.cps.toList) h
    exact List.cons.inj h2 |>.1
  · rintro rfl
    rfl
theorem sign_cons {cs r : List Nat} {i c : Nat} (h : cs.drop i = c :: r) : signAt cs i = codesOf [c] := by unfold signAt; rw [h]; rfl
theorem sign_nil {cs : List Nat} {i : Nat} (h : cs.drop i = []) : signAt cs i = Str.ofString "" := by unfold signAt; rw [h]; rfl
theorem drop_lt {cs r : List Nat} {i c : Nat} (h : cs.drop i = c :: r) : i < cs.length := by
  apply Nat.lt_of_not_le
  intro hl
  rw [List.drop_eq_nil_of_le hl] at h
  cases h
theorem drop_next {cs r : List Nat} {i c : Nat} (h : cs.drop i = c :: r) : cs.drop (i + 1) = r := by
  have := congrArg (List.drop 1) h
  rw [List.drop_drop] at this
  simpa [Nat.add_comm] using this
theorem line_next {cs r : List Nat} {i c : Nat} (h : cs.drop i = c :: r) : lineAt cs i + (if isNl cs i = true then 1 else 0) = lineAt cs (i + 1) := by
  have hc : cs[i]? = some c := by
    have := congrArg (fun l => l[0]?) h
    simpa using this
  unfold lineAt isNl
  rw [sign_cons h, codes_nl, List.take_add_one, hc, List.count_append]
  cases hcc : (c == 10) with
  | true =>
    have := eq_of_beq hcc
    subst this
    simp
    omega
  | false =>
    have := ne_of_beq_false hcc
    simp [this]
theorem drop_nil_eq {cs : List Nat} {i : Nat} (hi : i ≤ cs.length) (h : cs.drop i = []) : i = cs.length := by
  have := congrArg List.length h
  rw [List.length_drop] at this
  exact Nat.le_antisymm hi (Nat.le_of_sub_eq_zero this)
section
variable {w : World} {p : Program} {loose : List Str} {mean : ExcName → Option Value} {mg mb : Str → Option Value} {news : List (Addr × Obj)} {S : LexS} {cs : List Nat}
theorem readc_cons (K : S.Ok news) (hR : S.Read w p loose mean mg mb cs) {i c : Nat} {r : List Nat} (h : cs.drop i = c :: r) (tl tp : Tok) (kA : Nat) :
    Con w p loose mean mg mb 12 113 [.ref S.xI] [] (S.led w (lineAt cs i) tl i tp kA news)
      (fun v news' => ∃ t' tl' tp' kA', v = .str (codesOf [c]) t' ∧ news' = S.led w (lineAt cs (i + 1)) tl' ((i + 1 : Nat) : Int) tp' kA' news) :=
  (readc_c w p loose mean mg mb news S cs (lineAt cs i) tl i tp kA K hR (Nat.le_of_lt (drop_lt h))).conv (fun _ hq => hq) (by
    rintro v n ⟨t', tl', tp', kA', rfl, rfl⟩
    refine ⟨_, fun _ hq => hq, t', tl', tp', kA', by rw [sign_cons h], ?_⟩
    rw [line_next h, Nat.min_eq_left (drop_lt h)])
theorem readc_nil (K : S.Ok news) (hR : S.Read w p loose mean mg mb cs) {i : Nat} (hi : i ≤ cs.length) (h : cs.drop i = []) (tl tp : Tok) (kA : Nat) :
    Con w p loose mean mg mb 12 113 [.ref S.xI] [] (S.led w (lineAt cs i) tl i tp kA news)
      (fun v news' => ∃ t' tl' tp' kA', v = .str (Str.ofString "") t' ∧ news' = S.led w (lineAt cs i) tl' ((i : Nat) : Int) tp' kA' news) :=
  (readc_c w p loose mean mg mb news S cs (lineAt cs i) tl i tp kA K hR hi).conv (fun _ hq => hq) (by
    rintro v n ⟨t', tl', tp', kA', rfl, rfl⟩
    have e := drop_nil_eq hi h
    refine ⟨_, fun _ hq => hq, t', tl', tp', kA', by rw [sign_nil h], ?_⟩
    have hn : isNl cs i = false := by unfold isNl; rw [sign_nil h]; rfl
    rw [hn, Nat.min_eq_right (by omega), e]
    simp)
end
end Mine
end

section
open PySem PySem.W PyProof.Rows PyProof.Rows.LCg
namespace Mine
section
variable {prog : Program} {w : World} {A : Around} {E : Value → Shared → Prop} {s : Shared} {h₀ : Heap} {L : Addr} {m : Str → Option Value} {env : Env} {news : List (Addr × Obj)}
/-- the row beside itself, moved by one -/
noncomputable def stepL (f : Int → Int → Int) (rs : List Int) : List Int := List.zipWith f (0 :: rs) (rs ++ [0])
theorem stepL_length (f : Int → Int → Int) (rs : List Int) : (stepL f rs).length = rs.length + 1 := by simp [stepL]
theorem ints_take_snoc {zs : List Value} {ns : List Int} {i : Nat} {n : Int} {t : Tok} (h : IntsAre zs (ns.take i)) (hn : ns[i]? = some n) : IntsAre (zs ++ [.int n t]) (ns.take (i + 1)) := by
  rw [List.take_add_one, hn]
  exact h.append (.cons n t .nil)
theorem keeps_refl' (s : Shared) : Keeps s s := ⟨s.heap, s.toks, rfl, fun _ _ e => e⟩
theorem zip_mul {iter : PySem.Expr} {a b f : Str} {pa pb tp p0 p1 p2 p3 p4 : Pos} {op : Operator} {kk : Nat} {scope : Scope} {cl : List (Str × Addr)} {pos : Pos} {K : Value → Addr → Result → Shared → Prop} {l1 l2 : Addr} {xs ys : Array Value} {k1 k2 : Nat} {us ss : List Int} {c : Addr} {oc : Obj} {p : Int} {tp' : Tok} (g : Int → Int → Int)
    (hop : ∀ (u v : Int) (t t' : Tok) (Q : Value → Shared → Prop) (E : Value → Shared → Prop) (s : Shared), Q (.int (g u v) s.toks) { s with toks := s.toks + 1 } → wpAny (model prog w) A (binaryOp op (.int u t) (.int v t')) Q E s)
    (hh : A.handled = none) (F : Fr h₀ L s.heap m) (N : News h₀ L s.heap news) (hm1 : (l1, listOf xs k1) ∈ news) (hm2 : (l2, listOf ys k2) ∈ news) (hx : IntsAre xs.toList us) (hy : IntsAre ys.toList ss) (hlen : us.length = ss.length) (hsz : us.length ≤ 1000)
    (hcell : ∀ y ∈ scope.names, y.2 ≠ .cell) (hkind : scope.kind = .function) (hxa : scope.names.lookup a = some .local) (hxb : scope.names.lookup b = some .local) (hab : ¬ a = b)
    (hf : (relabel scope env).names.lookup f = some .cell) (hcl : cl.lookup f = some c) (hmc : (c, oc) ∈ news) (hoc : oc.data = .cell (some (.int p tp'))) (hp1 : -3 ≤ p) (hp2 : p ≤ 3)
    (ha : (a == ("__debug__" : Str)) = false) (hb : (b == ("__debug__" : Str)) = false) (hfd : (f == ("__debug__" : Str)) = false)
    (fin : ∀ D C h tk m' zs, IntsAre zs (List.zipWith (fun u v => g u (p * v)) us ss) → Fr h₀ L h m → News h₀ L h ((D, lst zs) :: news) → (∀ q ∈ news, q.1 ≠ D) → h.Ns C m' → h₀.get? C = none → h₀.get? D = none → C ≠ L → D ≠ L → C ≠ D → (∀ q ∈ news, q.1 ≠ C) → K (.ref D) C (.ok .next) { s with heap := h, toks := tk }) :
    wpAny (model prog w) A (call (.type "zip") [.ref l1, .ref l2]) (PairSrc prog w A E env (.BinOp (.Name a p0) op (.BinOp (.Name f p1) .Mult (.Name b p2) p3) p4) iter [] a b pa pb tp kk scope cl pos K) E s := by
  have hxl : xs.size = us.length := by rw [← hx.length, Array.length_toList]
  have hyl : ys.size = ss.length := by rw [← hy.length, Array.length_toList]
  refine zip_src (fun i zs => IntsAre zs ((List.zipWith (fun u v => g u (p * v)) us ss).take i)) hh F N hm1 hm2 (by rw [hxl]; (first | exact Nat.le_trans (by assumption) (by decide) | (rw [show sizeLine = 16777216 from rfl]; omega))) hcell hkind hxa hxb hab .nil ?_ ?_
  · intro i x y zs hxi hyi hA C m₂ s₃ E' hns h1 h2 F₃ N₃
    obtain ⟨u, tu, rfl, hu⟩ := hx.at i x (by simpa using hxi)
    obtain ⟨v, tv, rfl, hv⟩ := hy.at i y (by simpa using hyi)
    have hfk : (compEnvC scope cl C env).kindOf f = some .cell := hf
    have hfun : (compEnvC scope cl C env).scope.kind = .function := hkind
    refine wpAny_tests_nil ⟨keeps_refl' _, ?_⟩
    simp only [if_true]
    refine wpAny_BinOp (wpAny_Name (wpAny_loadName_local hfun (lookup_relabel_local hxa) hns h1 ?_) ha)
    refine wpAny_BinOp (wpAny_Name (wpAny_loadName_cell (c := c) (v := .int p tp') hfun hfk hcl ⟨oc, (N₃ _ hmc).1, hoc⟩ ?_) hfd)
    refine wpAny_Name (wpAny_loadName_local hfun (lookup_relabel_local hxb) hns h2 ?_) hb
    refine mul_int ?_ (IntMulOk.of_left (intBits_le_64 (by omega) (by omega)))
    refine hop _ _ _ _ _ _ _ ?_
    refine ⟨⟨_, _, rfl, fun _ _ e => e⟩, ints_take_snoc hA ?_⟩
    rw [List.getElem?_zipWith, hu, hv]
  · (try dsimp only)
    rw [hxl, hyl, List.take_of_length_le (by simp)]
    exact fin
end
end Mine
end

section
open PySem PySem.W PyProof.Rows PySem.Calls PyProof.V PySem.Spec PyProof.Rows.LCg
namespace Mine
section
variable {prog : Program} {w : World} {A : Around} {E : Value → Shared → Prop} {s : Shared} {h₀ : Heap} {L : Addr} {m : Str → Option Value} {env : Env}
/-- one turn of a comprehension over one name whose elements change nothing -/
noncomputable def OneTurn (prog : Program) (w : World) (A : Around) (h₀ : Heap) (L : Addr) (m : Str → Option Value) (news : List (Addr × Obj)) (env : Env) (scope : Scope) (cl : List (Str × Addr)) (a : Str) (ifs : List PySem.Expr) (elt : PySem.Expr) (x : Value) (yes : Value → Prop) (no : Prop) : Prop :=
  ∀ (C : Addr) (m₂ : Str → Option Value) (s₃ : Shared) (E' : Value → Shared → Prop), s₃.heap.Ns C m₂ → m₂ a = some x → Fr h₀ L s₃.heap m → News h₀ L s₃.heap news →
    wpAny (model prog w) A (testsM ifs (compEnvC scope cl C env)) (fun ok s₄ => Keeps s₃ s₄ ∧ if ok = true then wpAny (model prog w) A (eval elt (compEnvC scope cl C env)) (fun r s₅ => Keeps s₃ s₅ ∧ yes r) E' s₄ else no) E' s₃
theorem one_block {elt iter : PySem.Expr} {ifs : List PySem.Expr} {a : Str} {pa : Pos} {scope : Scope} {cl : List (Str × Addr)} {pos : Pos} {s₂ : Shared} {I : Addr} {fp wr : List Addr} {n : Nat} {P : Nat → Value → Prop} {St : Nat → Heap → Prop}
    {news : List (Addr × Obj)} {RR : Value → Addr → Result → Shared → Prop} (Acc : Nat → List Value → Prop)
    (hh : A.handled = none) (W : Walks prog w A I fp wr n P St) (hsz : n ≤ sizeLine) (hst : St 0 s₂.heap) (hfp : ∀ c ∈ fp, c < s₂.heap.objs.size) (hwr : ∀ c ∈ wr, h₀.get? c = none ∧ L ≠ c ∧ ∀ q ∈ news, q.1 ≠ c)
    (hcell : ∀ y ∈ scope.names, y.2 ≠ .cell) (hkind : scope.kind = .function) (hxa : scope.names.lookup a = some .local) 
    (F : Fr h₀ L s₂.heap m) (N : News h₀ L s₂.heap news) (h0 : Acc 0 [])
    (turn : ∀ i v ys, i < n → P i v → Acc i ys → OneTurn prog w A h₀ L m news env scope cl a ifs elt v (fun r => Acc (i + 1) (ys ++ [r])) (Acc (i + 1) ys))
    (hRR : ∀ D C h tk m' ys, Acc n ys → Fr h₀ L h m → News h₀ L h ((D, lst ys) :: news) → (∀ p ∈ news, p.1 ≠ D) → h.Ns C m' → h₀.get? C = none → h₀.get? D = none → C ≠ L → D ≠ L → C ≠ D → (∀ p ∈ news, p.1 ≠ C) → RR (.ref D) C (.ok .next) { s₂ with heap := h, toks := tk }) :
    wpAny (model prog w) A (newList []) (fun acc s₃ => wpAny (model prog w) A (newFunctionEnv scope env.globals cl [] env.qual none .none (some env)) (fun cenv s₄ =>
      codeAny (model prog w) A (.compStart (.ListComp elt [⟨.Name a pa, iter, ifs, 0⟩] scope pos) 0 (.ref I) acc { cenv with scope := relabel scope env }) (RR acc cenv.locals) s₄) E s₃) E s₂ := by
  refine tgt_block (fun i m₂ => ∃ v, P i v ∧ m₂ a = some v) Acc W.sub W.frame (fun C s' i m' R G E' hCf hi hst' hn' hG => ?_) W.done W.self hsz hst hfp hwr hcell hkind F N h0 (fun i ys C m₂ s₃ E' hi hB hA hn F₃ N₃ => ?_) hRR
  · refine W.item i _ _ _ hi hst' fun v h₂ tk₂ hP hst₂ hk₂ => wpAny_pure ?_
    refine wpAny_assign_Name (wpAny_storeName_local (lookup_relabel_local hxa) (hn'.at' fun o e => hk₂ _ o (fun hm => hCf (W.sub _ hm)) e) (fun h₄ hn₄ hs₄ => ?_) (cenv_plain hkind))
    exact hG h₄ _ _ ⟨v, hP, if_pos rfl⟩ (W.frame _ _ _ hst₂ fun b hb o e => hs₄.extBut b o (fun q : b = C => hCf (q ▸ hb)) e) hn₄ (fun c o hm e => hs₄.extBut c o (fun q : c = C => hm (q ▸ .head _)) (hk₂ c o (fun hm' => hm (.tail _ hm')) e))
  · have ⟨v, hv, h1⟩ := hB
    exact turn i v ys hi hv hA C m₂ s₃ E' hn h1 F₃ N₃
noncomputable def OneSrc (prog : Program) (w : World) (A : Around) (E : Value → Shared → Prop) (env : Env) (elt iter : PySem.Expr) (ifs : List PySem.Expr) (a : Str) (pa : Pos) (scope : Scope) (cl : List (Str × Addr)) (pos : Pos) (K : Value → Addr → Result → Shared → Prop) (xv : Value) (s₁ : Shared) : Prop :=
  wpAny (model prog w) A (pyIter xv) (fun it s₂ => wpAny (model prog w) A (newList []) (fun acc s₃ => wpAny (model prog w) A (newFunctionEnv scope env.globals cl [] env.qual none .none (some env)) (fun cenv s₄ =>
      codeAny (model prog w) A (.compStart (.ListComp elt [⟨.Name a pa, iter, ifs, 0⟩] scope pos) 0 it acc { cenv with scope := relabel scope env }) (K acc cenv.locals) s₄) E s₃) E s₂) E s₁
theorem one_list {elt iter : PySem.Expr} {ifs : List PySem.Expr} {a : Str} {pa : Pos} {scope : Scope} {cl : List (Str × Addr)} {pos : Pos} {K : Value → Addr → Result → Shared → Prop} {l : Addr} {xs : Array Value} {k : Nat} {news : List (Addr × Obj)} (Acc : Nat → List Value → Prop)
    (hh : A.handled = none) (F : Fr h₀ L s.heap m) (N : News h₀ L s.heap news) (hm : (l, listOf xs k) ∈ news) (hsz : xs.size ≤ sizeLine)
    (hcell : ∀ y ∈ scope.names, y.2 ≠ .cell) (hkind : scope.kind = .function) (hxa : scope.names.lookup a = some .local)
    (h0 : Acc 0 []) (turn : ∀ i x zs, xs[i]? = some x → Acc i zs → OneTurn prog w A h₀ L m news env scope cl a ifs elt x (fun r => Acc (i + 1) (zs ++ [r])) (Acc (i + 1) zs))
    (fin : ∀ D C h tk m' zs, Acc xs.size zs → Fr h₀ L h m → News h₀ L h ((D, lst zs) :: news) → (∀ p ∈ news, p.1 ≠ D) → h.Ns C m' → h₀.get? C = none → h₀.get? D = none → C ≠ L → D ≠ L → C ≠ D → (∀ p ∈ news, p.1 ≠ C) → K (.ref D) C (.ok .next) { s with heap := h, toks := tk }) :
    OneSrc prog w A E env elt iter ifs a pa scope cl pos K (.ref l) s := by
  have hl : s.heap.IsList l xs := ⟨_, (N _ hm).1, rfl, _, rfl⟩
  have hlt : l < s.heap.objs.size := Heap.lt_size (N _ hm).1
  refine wpAny_pyIter_list hl ?_
  have up : ∀ b o, s.heap.get? b = some o → (s.heap.push { cls := .type "list_iterator", data := .fields #[.ref l, .int 0 0] }).get? b = some o := fun b o e => Heap.get?_push_of_some _ e
  refine one_block (n := xs.size) Acc hh (Walks.list hh s.heap.objs.size l (Nat.ne_of_lt hlt) xs) hsz ⟨⟨_, Heap.get?_push_size _ rfl, rfl, rfl⟩, hl.push _⟩ (fun b hb => ?_) (fun c hc => ?_) hcell hkind hxa (F.keeps up) (N.grown up) h0 ?_ ?_
  · show b < (s.heap.push _).objs.size
    rw [Heap.size_push]
    rcases List.mem_cons.mp hb with rfl | hb
    · exact Nat.lt_succ_self _
    · rw [List.mem_singleton.mp hb]; exact Nat.lt_succ_of_lt hlt
  · rw [List.mem_singleton.mp hc]
    exact ⟨next_is_new F, Nat.ne_of_lt F.ns.lt, fun q hq => Nat.ne_of_lt (Heap.lt_size (N q hq).1)⟩
  · exact fun i v ys _ hP hA => turn i v ys hP hA
  · exact fin
theorem one_range {elt iter : PySem.Expr} {ifs : List PySem.Expr} {a : Str} {pa : Pos} {scope : Scope} {cl : List (Str × Addr)} {pos : Pos} {K : Value → Addr → Result → Shared → Prop} {r : Addr} {x b : Int} {t u v : Tok} {n : Nat} {news : List (Addr × Obj)} (Acc : Nat → List Value → Prop)
    (hh : A.handled = none) (F : Fr h₀ L s.heap m) (N : News h₀ L s.heap news) (hr : IsRange s.heap r x b 1 t u v) (hsm : Builtin.Range.small x b 1 = true) (hn : Builtin.Range.rangeSize x b 1 = ((n : Nat) : Int)) (hsz : n ≤ sizeLine)
    (hcell : ∀ y ∈ scope.names, y.2 ≠ .cell) (hkind : scope.kind = .function) (hxa : scope.names.lookup a = some .local)
    (h0 : Acc 0 []) (turn : ∀ i t zs, i < n → Acc i zs → OneTurn prog w A h₀ L m news env scope cl a ifs elt (.int (x + (i : Int)) t) (fun r => Acc (i + 1) (zs ++ [r])) (Acc (i + 1) zs))
    (fin : ∀ D C h tk m' zs, Acc n zs → Fr h₀ L h m → News h₀ L h ((D, lst zs) :: news) → (∀ p ∈ news, p.1 ≠ D) → h.Ns C m' → h₀.get? C = none → h₀.get? D = none → C ≠ L → D ≠ L → C ≠ D → (∀ p ∈ news, p.1 ≠ C) → K (.ref D) C (.ok .next) { s with heap := h, toks := tk }) :
    OneSrc prog w A E env elt iter ifs a pa scope cl pos K (.ref r) s := by
  refine wpAny_pyIter_range hr hsm ?_
  refine one_block (n := n) Acc hh (range_walks hh x n) hsz (by show IsRangeIter _ _ _ _ _; rw [hn]; simpa using Heap.get?_push_size _ rfl) (fun b hb => ?_) (fun c hc => ?_) hcell hkind hxa (F.keeps fun _ _ e => Heap.get?_push_of_some _ e) (N.grown fun _ _ e => Heap.get?_push_of_some _ e) h0 ?_ ?_
  · rw [List.mem_singleton.mp hb]
    show s.heap.objs.size < (s.heap.push _).objs.size
    rw [Heap.size_push]; exact Nat.lt_succ_self _
  · rw [List.mem_singleton.mp hc]
    exact ⟨next_is_new F, Nat.ne_of_lt F.ns.lt, fun q hq => Nat.ne_of_lt (Heap.lt_size (N q hq).1)⟩
  · exact fun i v ys hi hv hA => hv.elim fun t e => e ▸ turn i t ys hi hA
  · exact fin
theorem one_eval {elt iter : PySem.Expr} {ifs : List PySem.Expr} {a : Str} {pa : Pos} {scope : Scope} {cl : List (Str × Addr)} {pos : Pos} {Q : Value → Shared → Prop}
    (hclos : closureFor scope env = pure cl) (hkind : scope.kind = .function) (hnames : ∀ y ∈ scope.names, y.2 = .local → scope.names.lookup y.1 = some .local)
    (h : wpAny (model prog w) A (eval iter env) (OneSrc prog w A E env elt iter ifs a pa scope cl pos (fun acc C => compPost (model prog w) A E none Q acc C)) E s)
    (hs : ∀ x, foldedSetIterable iter env x = pure x) :
    wpAny (model prog w) A (eval (.ListComp elt [⟨.Name a pa, iter, ifs, 0⟩] scope pos) env) Q E s := by
  rw [eval_ListComp]
  exact wpAny_comprehension_free (use := none) rfl hs hclos hkind hnames h
theorem one_assign {elt iter : PySem.Expr} {ifs : List PySem.Expr} {a y : Str} {pa py : Pos} {scope : Scope} {cl : List (Str × Addr)} {pos spos : Pos} {Q : Flow → Shared → Prop}
    (hsw : swapsWith (.ListComp elt [⟨.Name a pa, iter, ifs, 0⟩] scope pos) (some (.Name y py)) spos.line env = pure true)
    (hclos : closureFor scope env = pure cl) (hkind : scope.kind = .function) (hnames : ∀ y ∈ scope.names, y.2 = .local → scope.names.lookup y.1 = some .local)
    (h : wpAny (model prog w) A (eval iter env) (OneSrc prog w A E env elt iter ifs a pa scope cl pos (fun acc C => compPost (model prog w) A E (some (assign (.Name y py) env)) (fun _ s' => Q .next s') acc C)) E s)
    (hs : ∀ x, foldedSetIterable iter env x = pure x) :
    wpAny (model prog w) A (exec (.Assign [.Name y py] (.ListComp elt [⟨.Name a pa, iter, ifs, 0⟩] scope pos) spos) env) Q E s := by
  rw [exec_Assign_Name_used _ _ _ _ hsw]
  refine wpAny_bind (wpAny_standAt (wpAny_bind ?_))
  show wpAny _ A (do let _ ← comprehension (.ListComp elt [⟨.Name a pa, iter, ifs, 0⟩] scope pos) scope env _ (newList []) false (eval iter env) (some (assign (.Name y py) env))) _ _ s
  exact wpAny_bind (wpAny_mono (wpAny_comprehension_free (use := some (assign (.Name y py) env)) (Q := fun _ s' => Q .next s') rfl hs hclos hkind hnames h) (fun _ s' hq => wpAny_pure (wpAny_pure hq)) fun _ _ e => e)
end
end Mine
end

section
open PySem PySem.W PyProof.Rows PySem.Calls PyProof.V PySem.Spec PyProof.Rows.LCg
namespace Mine
theorem off1_mem {D : Addr} : ∀ {l : List (Addr × Obj)}, Off1 D l → ∀ p ∈ l, p.1 ≠ D
  | [], _, _, h => nomatch h
  | _ :: _, x, p, h => by
    rcases List.mem_cons.mp h with rfl | h
    · exact x.1
    · exact off1_mem x.2 p h
theorem off1_of {D : Addr} : ∀ {l : List (Addr × Obj)}, (∀ p ∈ l, p.1 ≠ D) → Off1 D l
  | [], _ => trivial
  | _ :: _, h => ⟨h _ List.mem_cons_self, off1_of fun p hp => h p (List.mem_cons_of_mem _ hp)⟩
section
variable {prog : Program} {w : World} {A : Around} {h₀ : Heap} {L : Addr} {m : Str → Option Value} {env : Env} {elt : PySem.Expr} {x : Str} {scope : Scope} {cl : List (Str × Addr)} {s : Shared} {S : List (Addr × Obj) → Prop} {P : Nat → Value → Prop} {Fin : List Value → List (Addr × Obj) → Prop}
/-- all turns of a comprehension over one name, by what stands after each -/
theorem rest_any {n : Nat} (Acc : Nat → List Value → List (Addr × Obj) → Prop) {news : List (Addr × Obj)} (h0 : Acc 0 [] news)
    (turn : ∀ i v ys nw I oI C oC D m₂ h tk (E' : Value → Shared → Prop), i < n → P i v → Acc i ys nw → NsObj oC m₂ → m₂ x = some v → Fr h₀ L h m → News h₀ L h ((I, oI) :: (C, oC) :: (D, lst ys) :: nw) → Off3 I C D nw → ((@Ne Nat I C) ∧ (@Ne Nat I D) ∧ (@Ne Nat C D)) →
      wpAny (model prog w) A (eval elt (compEnvC scope cl C env)) (CompEnd h₀ L m { s with heap := h, toks := tk } I oI C oC D (lst ys) S (fun y news' => Acc (i + 1) (ys ++ [y]) news')) E' { s with heap := h, toks := tk })
    (fin : ∀ ys nw, Acc n ys nw → Fin ys nw) : CompRest prog w A h₀ L m env elt x scope cl s S P Fin n 0 [] news := by
  have key : ∀ (j i : Nat) (ys : List Value) (nw : List (Addr × Obj)), i + j = n → Acc i ys nw → CompRest prog w A h₀ L m env elt x scope cl s S P Fin j i ys nw := by
    intro j
    induction j with
    | zero =>
      intro i ys nw hi hA
      have e : i = n := hi
      subst e
      exact CompRest.zero (fin ys nw hA)
    | succ j ih =>
      intro i ys nw hi hA
      refine CompRest.succ ?_
      intro v I oI C oC D m₂ h tk E' hv hC hx F N off ne
      refine wpAny_mono (turn i v ys nw I oI C oC D m₂ h tk E' (Nat.lt_of_lt_of_eq (Nat.lt_add_of_pos_right (Nat.succ_pos j)) hi) hv hA hC hx F N off ne) (fun y s₂ hq => ?_) fun _ _ e => e
      obtain ⟨h', tk', nw', e, F', N', off', hS, hA'⟩ := hq
      exact ⟨h', tk', nw', e, F', N', off', hS, ih (i + 1) _ _ (by rw [← hi, Nat.add_assoc, Nat.add_comm 1]) hA'⟩
  exact key n 0 [] news (Nat.zero_add n) h0
/-- the same, where the ledger stays as it is -/
theorem rest_fix {n : Nat} (Acc : Nat → List Value → Prop) {news : List (Addr × Obj)} (h0 : Acc 0 [])
    (turn : ∀ i v ys I oI C oC D m₂ h tk (E' : Value → Shared → Prop), i < n → P i v → Acc i ys → NsObj oC m₂ → m₂ x = some v → Fr h₀ L h m → News h₀ L h ((I, oI) :: (C, oC) :: (D, lst ys) :: news) → Off3 I C D news → ((@Ne Nat I C) ∧ (@Ne Nat I D) ∧ (@Ne Nat C D)) → ∀ T, T = CompEnd h₀ L m { s with heap := h, toks := tk } I oI C oC D (lst ys) S (fun y news' => news' = news ∧ Acc (i + 1) (ys ++ [y])) →
      wpAny (model prog w) A (eval elt (compEnvC scope cl C env)) T E' { s with heap := h, toks := tk })
    (fin : ∀ ys, Acc n ys → Fin ys news) : CompRest prog w A h₀ L m env elt x scope cl s S P Fin n 0 [] news := by
  refine rest_any (fun i ys nw => nw = news ∧ Acc i ys) ⟨rfl, h0⟩ ?_ ?_
  · rintro i v ys nw I oI C oC D m₂ h tk E' hi hv ⟨rfl, hA⟩ hC hx F N off ne
    exact turn i v ys I oI C oC D m₂ h tk E' hi hv hA hC hx F N off ne _ rfl
  · rintro ys nw ⟨rfl, hA⟩
    exact fin ys hA
end
/-- as Con, with a list of the caller's that stands -/
noncomputable def ConI (w : World) (p : Program) (loose : List Str) (mean : ExcName → Option Value) (mg mb : Str → Option Value) (k : Nat) (l : Addr) (sv : List Value)
    (f : Addr) (pos : List Value) (kw : List (Str × Value)) (news : List (Addr × Obj)) (post : Value → List (Addr × Obj) → Prop) : Prop :=
  ∀ (dp un : Nat) (gd : Option (List Code)) (cn : Str) (cn' : List (Str × NameKind)) (cg cc : Bool) (cm : List (Str × Const)) (a : Addr) (ccd : Value) (cl : List (Str × Addr)) (outer : List Env) (A₀ : Around)
    (base h₀ : Heap) (L : Addr) (m : Str → Option Value) (s : Shared) (R : Result → Shared → Prop), base.IsList l sv.toArray →
    Below A₀ base outer h₀ → Fr h₀ L s.heap m → (hd.heap_39 w.params).In h₀ → News h₀ L s.heap news → Top p loose mean mg mb h₀ →
    dp + k < recursionLimit → un + 20 * k < cLine →
    (∀ v news' h' tk', post v news' → Fr h₀ L h' m → News h₀ L h' news' → R (.ok (.ret v)) { s with heap := h', toks := tk' }) →
    codeAny (model Pg w) (ktrTop dp un gd cn ⟨.function, cn', cg, cc, cm⟩ L a ccd cl outer) (.call (.ref f) ⟨pos, kw⟩) R s
theorem ConI.last {w : World} {p : Program} {loose : List Str} {mean : ExcName → Option Value} {mg mb : Str → Option Value} {k : Nat} {l : Addr} {sv : List Value} {f : Addr} {pos : List Value} {kw : List (Str × Value)}
    {news : List (Addr × Obj)} {post : Value → List (Addr × Obj) → Prop}
    {dp un : Nat} {gd : Option (List Code)} {cn : Str} {cs : Scope} {a : Addr} {ccd : Value} {cl : List (Str × Addr)} {outer : List Env} {A₀ : Around}
    {base h₀ : Heap} {L : Addr} {m : Str → Option Value} {s : Shared} {R : Result → Shared → Prop} (hIs : base.IsList l sv.toArray)
    (B : Below A₀ base outer h₀) (F : Fr h₀ L s.heap m) (X : (hd.heap_39 w.params).In h₀) (N : News h₀ L s.heap news) (T : Top p loose mean mg mb h₀) (hk : cs.kind = .function)
    (C : ConI w p loose mean mg mb k l sv f pos kw news post)
    (hd : dp + k < recursionLimit) (hu : un + 20 * k < cLine)
    (ret : ∀ v news' h' tk', post v news' → Fr h₀ L h' m → News h₀ L h' news' → R (.ok (.ret v)) { s with heap := h', toks := tk' }) :
    codeAny (model Pg w) (ktrTop dp un gd cn cs L a ccd cl outer) (.call (.ref f) ⟨pos, kw⟩) R s := by cases cs with | mk ck cn' cg cc cm => cases hk; exact C _ _ _ _ _ _ _ _ _ _ _ _ _ _ _ _ _ _ _ hIs B F X N T hd hu ret
end Mine
end

section
open PySem PySem.W PyProof.Rows
namespace Mine
theorem fill22 : PySem.Challenge.rw_sr0032_01.foot = 12 ∧ Mine.hd.heap_39 = Mine.hd.heap_39 := by
  k_fill
  exact ⟨rfl, rfl⟩
section
variable {prog : Program} {w : World} {A : Around} {E : Value → Shared → Prop} {Q : Flow → Shared → Prop} {s : Shared} {env : Env} {h₀ : Heap} {L : Addr} {m : Str → Option Value} {news : List (Addr × Obj)}
theorem iterK {b : Addr} {t : Tok} {o : Obj} {Q : Value → Shared → Prop} (F : Fr h₀ L s.heap m) (N : News h₀ L s.heap news) (hm : (b, o) ∈ news) (hc : o.cls = .type "method")
    (h : ∀ D h', Fr h₀ L h' m → News h₀ L h' ((D, citObj b t) :: news) → (∀ q ∈ news, q.1 < D) → Q (.ref D) { s with heap := h' }) : wpAny (model prog w) A (call (.builtin "iter") [.ref b, .str "" t]) Q E s :=
  iter_call (N _ hm).1 hc (h _ _ (F.push _) (News.push F N _) fun q hq => Heap.lt_size (N q hq).1)
theorem ex_tok {h : Heap} {D b : Addr} {t : Tok} {o : Obj} {X : List (Addr × Obj)} (N : News h₀ L h ((D, citObj b t) :: (b, o) :: X)) : ∃ tq, News h₀ L h ((D, citObj b tq) :: (b, o) :: X) := ⟨t, N⟩
theorem in_obj {K : Frag} {h : Heap} {a : Addr} {o : Obj} (X : K.In h₀) (F : Fr h₀ L h m) (e : K.lookup a = some o) : h.get? a = some o := (X.keeps F.keep) a o e
theorem ws10 : (Builtin.Str.occurrences (Str.ofString "\n\t\r ") (Str.ofString "\n") 0 (Str.ofString "\n\t\r ").length 1).isEmpty = false := by decide +kernel
theorem ws9 : (Builtin.Str.occurrences (Str.ofString "\n\t\r ") (Str.ofString "\t") 0 (Str.ofString "\n\t\r ").length 1).isEmpty = false := by decide +kernel
theorem ws34 : (Builtin.Str.occurrences (Str.ofString "\n\t\r ") (Str.ofString "\"") 0 (Str.ofString "\n\t\r ").length 1).isEmpty = true := by decide +kernel
theorem ws92 : (Builtin.Str.occurrences (Str.ofString "\n\t\r ") (Str.ofString "\\") 0 (Str.ofString "\n\t\r ").length 1).isEmpty = true := by decide +kernel
theorem empty_ne (c : Nat) : (Str.ofString "" == codesOf [c]) = false := by
  rw [beq_eq_false_iff_ne]
  intro h
  have h2 : (0 : Nat) = 1 := congrArg (fun s : Str => s.cps.size) h
  cases h2
theorem codes_beq {c d : Nat} : (codesOf [c] == codesOf [d]) = (c == d) := by
  rw [Bool.eq_iff_iff]
  simp only [beq_iff_eq]
  constructor
  · intro h
    have h2 : [c] = [d] := congrArg (fun s : Str => s.cps.toList) h
    exact List.cons.inj h2 |>.1
  · rintro rfl
    rfl
theorem codes_snoc (w : List Nat) (c : Nat) : codesOf w ++ codesOf [c] = codesOf (w ++ [c]) := by
  show (⟨w.toArray ++ [c].toArray⟩ : Str) = ⟨(w ++ [c]).toArray⟩
  simp
theorem sub1 {i n : Nat} (h : i + 1 ≤ n) : n - (i + 1) < n - i := Nat.sub_lt_sub_left h (Nat.lt_succ_self i)
theorem sub2 {i n : Nat} (h : i + 1 + 1 ≤ n) : n - (i + 1 + 1) < n - i := Nat.sub_lt_sub_left (Nat.le_of_succ_le h) (Nat.lt_succ_of_lt (Nat.lt_succ_self i))
theorem len_snoc1 {w : List Nat} {c i : Nat} (h : w.length ≤ i) : (w ++ [c]).length ≤ i + 1 := by rw [List.length_append]; exact Nat.succ_le_succ h
noncomputable def CitEnd {σ : Type} (h₀ : Heap) (L : Addr) (s : Shared) (Led : σ → List (Addr × Obj)) (ps : σ → List (Str × Value)) (stored : List Str) (m : Str → Option Value) (J : σ → Prop) (s' : Shared) : Prop :=
  ∃ c h' tk m', s' = { s with heap := h', toks := tk } ∧ Fr h₀ L h' m' ∧ News h₀ L h' (Led c) ∧ (∀ p ∈ ps c, m' p.1 = some p.2) ∧ (∀ z, (∀ p ∈ ps c, z ≠ p.1) → stored.contains z = false → m' z = m z) ∧ J c
theorem CitEnd.intro0 {σ : Type} {Led : σ → List (Addr × Obj)} {ps : σ → List (Str × Value)} {stored : List Str} {J : σ → Prop} {h' : Heap} {tk : Nat} {m' : Str → Option Value} (c : σ)
    (F : Fr h₀ L h' m') (N : News h₀ L h' (Led c)) (hk : PsAt m' (ps c)) (hr : ∀ z, (∀ p ∈ ps c, z ≠ p.1) → stored.contains z = false → m' z = m z) (j : J c) :
    CitEnd h₀ L s Led ps stored m J { s with heap := h', toks := tk } := ⟨c, h', tk, m', rfl, F, N, hk.mem, hr, j⟩
theorem cit_go {σ : Type} {Led : σ → List (Addr × Obj)} {ps : σ → List (Str × Value)} {stored : List Str} {J : σ → Prop} {msr : σ → Nat} {k : Nat} {s' : Shared} (h : CitEnd h₀ L s Led ps stored m (fun c' => msr c' < k ∧ J c') s') : ∃ j, j < k ∧ LoopAt h₀ L s (fun _ _ => True) Led ps stored m J msr j s' := by
  obtain ⟨c', h₆, tk₅, m₅, rfl, F₅, N₅, hk₅, hr₅, hlt, J₅⟩ := h
  exact ⟨msr c', hlt, c', h₆, tk₅, m₅, rfl, trivial, F₅, N₅, hk₅, hr₅, J₅, rfl⟩
noncomputable def CitTurn (prog : Program) (w : World) (A : Around) (E : Value → Shared → Prop) (Q : Flow → Shared → Prop) (env : Env) (x : Str) (body : List Stmt) (D : Addr) (Go : Shared → Prop) (s : Shared) : Prop :=
  ∀ T, T = TurnF Q Go → wpAny (model prog w) A (pyNext (.ref D)) (fun r s₃ => match r with
        | none => Q .next s₃
        | some v => wpAny (model prog w) A (storeName env x v) (fun _ s₄ => wpAny (model prog w) A (execs body env) T E s₄) E s₃) E s
theorem forsrc_citS {σ : Type} {x : Str} {body : List Stmt} {D b : Addr} {t : Tok} (Led : σ → List (Addr × Obj)) (ps : σ → List (Str × Value)) (stored : List Str) (J : σ → Prop) (msr : σ → Nat) (c₀ : σ)
    (F : Fr h₀ L s.heap m) (N : News h₀ L s.heap (Led c₀)) (hk : PsAt m (ps c₀)) (hJ : J c₀) (hD : ∀ c, (D, citObj b t) ∈ Led c)
    (turn : ∀ c (u : Str → Option Value) h tk, J c → Fr h₀ L h (kstB (fun z => if stored.contains z then u z else m z) (ps c)) → News h₀ L h (Led c) →
      CitTurn prog w A E Q env x body D (CitEnd h₀ L s Led ps stored m (fun c' => msr c' < msr c ∧ J c')) { s with heap := h, toks := tk }) :
    ForSrc prog w A E Q env x body (.ref D) s := by
  refine cit_self (N _ (hD c₀)).1 rfl ⟨LoopAt h₀ L s (fun _ _ => True) Led ps stored m J msr, msr c₀, ⟨c₀, s.heap, s.toks, m, rfl, trivial, F, N, hk.mem, fun _ _ _ => rfl, hJ, rfl⟩, fun k s' hI => ?_⟩
  refine LoopAt.elim hI fun c u h' tk _ F' N' J' => ?_
  refine wpAny_mono (turn c u h' tk J' F' N' _ rfl) (fun r s₃ h₃ => ?_) fun _ _ z => z
  cases r with
  | none => exact h₃
  | some v => exact wpAny_mono h₃ (fun _ s₄ h₄ => wpAny_mono h₄ (turnF_mono fun _ => cit_go) fun _ _ z => z) fun _ _ z => z
theorem forsrc_cit4 {α β γ δ : Type} {x : Str} {body : List Stmt} {D b : Addr} {t : Tok} (Led : α → β → γ → δ → List (Addr × Obj)) (stored : List Str) (J : α → Prop) (msr : α → Nat) (a₀ : α) (b₀ : β) (c₀ : γ) (d₀ : δ)
    (F : Fr h₀ L s.heap m) (N : News h₀ L s.heap (Led a₀ b₀ c₀ d₀)) (hJ : J a₀) (hD : ∀ a b' c d, (D, citObj b t) ∈ Led a b' c d)
    (turn : ∀ i a1 a2 a3 (u : Str → Option Value) h tk (T : Flow → Shared → Prop), T = TurnF Q (CitEnd h₀ L s (fun c : α × β × γ × δ => Led c.1 c.2.1 c.2.2.1 c.2.2.2) (fun _ => []) stored m (fun c' => msr c'.1 < msr i ∧ J c'.1)) → J i → Fr h₀ L h (fun z => if stored.contains z then u z else m z) → News h₀ L h (Led i a1 a2 a3) →
      wpAny (model prog w) A (pyNext (.ref D)) (fun r s₃ => match r with
        | none => Q .next s₃
        | some v => wpAny (model prog w) A (storeName env x v) (fun _ s₄ => wpAny (model prog w) A (execs body env) T E s₄) E s₃) E { s with heap := h, toks := tk }) :
    ForSrc prog w A E Q env x body (.ref D) s :=
  forsrc_citS (σ := α × β × γ × δ) (t := t) (b := b) (fun c => Led c.1 c.2.1 c.2.2.1 c.2.2.2) (fun _ => []) stored (fun c => J c.1) (fun c => msr c.1) (a₀, b₀, c₀, d₀) F N trivial hJ (fun c => hD _ _ _ _)
    (fun c u h tk j F N T hT => turn c.1 c.2.1 c.2.2.1 c.2.2.2 u h tk T hT j F N)
theorem forsrc_cit6 {α β γ δ : Type} {x y : Str} {body : List Stmt} {D b : Addr} {t : Tok} (Led : α → β → γ → δ → List (Addr × Obj)) (stored : List Str) (val : List Nat → Tok → Value) (J : α → List Nat → Prop) (msr : α → Nat) (a₀ : α) (b₀ : β) (c₀ : γ) (d₀ : δ) (w₀ : List Nat) (t₀ : Tok)
    (F : Fr h₀ L s.heap m) (N : News h₀ L s.heap (Led a₀ b₀ c₀ d₀)) (hk : m y = some (val w₀ t₀)) (hJ : J a₀ w₀) (hD : ∀ a b' c d, (D, citObj b t) ∈ Led a b' c d)
    (turn : ∀ i a1 a2 a3 wd t8 (u : Str → Option Value) h tk (T : Flow → Shared → Prop), T = TurnF Q (CitEnd h₀ L s (fun c : α × β × γ × δ × List Nat × Tok => Led c.1 c.2.1 c.2.2.1 c.2.2.2.1) (fun c => [(y, val c.2.2.2.2.1 c.2.2.2.2.2)]) stored m (fun c' => msr c'.1 < msr i ∧ J c'.1 c'.2.2.2.2.1)) → J i wd →
      Fr h₀ L h (fun z => if z = y then some (val wd t8) else if stored.contains z then u z else m z) → News h₀ L h (Led i a1 a2 a3) →
      wpAny (model prog w) A (pyNext (.ref D)) (fun r s₃ => match r with
        | none => Q .next s₃
        | some v => wpAny (model prog w) A (storeName env x v) (fun _ s₄ => wpAny (model prog w) A (execs body env) T E s₄) E s₃) E { s with heap := h, toks := tk }) :
    ForSrc prog w A E Q env x body (.ref D) s :=
  forsrc_citS (σ := α × β × γ × δ × List Nat × Tok) (t := t) (b := b) (fun c => Led c.1 c.2.1 c.2.2.1 c.2.2.2.1) (fun c => [(y, val c.2.2.2.2.1 c.2.2.2.2.2)]) stored (fun c => J c.1 c.2.2.2.2.1) (fun c => msr c.1) (a₀, b₀, c₀, d₀, w₀, t₀) F N ⟨hk, trivial⟩ hJ (fun c => hD _ _ _ _)
    (fun c u h tk j F N T hT => turn c.1 c.2.1 c.2.2.1 c.2.2.2.1 c.2.2.2.2.1 c.2.2.2.2.2 u h tk T hT j F N)
end
theorem lex_read {w : World} {p : Program} {loose : List Str} {mean : ExcName → Option Value} {mg mb : Str → Option Value} {A A₀ : Around} {E : Value → Shared → Prop} {Q : Option Value → Shared → Prop} {s : Shared} {h₀ base : Heap} {L : Addr} {m : Str → Option Value}
    {dp un : Nat} {gd : Option (List Code)} {cn : Str} {cs' : Scope} {a0 : Addr} {ccd : Value} {cl : List (Str × Addr)} {outer : List Env} {kk i c : Nat} {cs : List Nat}
    {lP xI dI D8 fS fR cR cA lA cT D q : Addr} {od8 oS oR ocR oA oT : Obj} {k1 k2 k3 k4 tw tq tl tp : Tok} {kA : Nat} {news : List (Addr × Obj)}
    (hA : A.in1 = ktrTop dp un gd cn cs' L a0 ccd cl outer) (B : Below A₀ base outer h₀) (F : Fr h₀ L s.heap m) (X : (Mine.hd.heap_39 w.params).In h₀)
    (N : News h₀ L s.heap ((lP, listOf #[] 0) :: (xI, instObj 130 dI) :: (dI, dObj w k1 k2 k3 k4 tw fS lP (lineAt cs i) tl) :: (D8, od8) :: (fS, oS) :: (fR, oR) :: (cR, ocR) :: (cA, oA) :: (lA, listOf #[.int i tp] kA) :: (cT, oT) :: (D, citObj q tq) :: (q, metObj 113 xI) :: news))
    (T : Top p loose mean mg mb h₀) (hk : cs'.kind = .function)
    (C : Con w p loose mean mg mb kk 113 [.ref xI] [] ((lP, listOf #[] 0) :: (xI, instObj 130 dI) :: (dI, dObj w k1 k2 k3 k4 tw fS lP (lineAt cs i) tl) :: (D8, od8) :: (fS, oS) :: (fR, oR) :: (cR, ocR) :: (cA, oA) :: (lA, listOf #[.int i tp] kA) :: (cT, oT) :: (D, citObj q tq) :: (q, metObj 113 xI) :: news)
      (fun v news' => ∃ t' tl' tp' kA', v = .str (codesOf [c]) t' ∧ news' = (lP, listOf #[] 0) :: (xI, instObj 130 dI) :: (dI, dObj w k1 k2 k3 k4 tw fS lP (lineAt cs (i + 1)) tl') :: (D8, od8) :: (fS, oS) :: (fR, oR) :: (cR, ocR) :: (cA, oA) :: (lA, listOf #[.int ((i + 1 : Nat) : Int) tp'] kA') :: (cT, oT) :: (D, citObj q tq) :: (q, metObj 113 xI) :: news))
    (hd : dp + kk < recursionLimit) (hu : un + 20 * kk < cLine)
    (ret : ∀ t' tl' tp' kA' h' tk', Fr h₀ L h' m → News h₀ L h' ((lP, listOf #[] 0) :: (xI, instObj 130 dI) :: (dI, dObj w k1 k2 k3 k4 tw fS lP (lineAt cs (i + 1)) tl') :: (D8, od8) :: (fS, oS) :: (fR, oR) :: (cR, ocR) :: (cA, oA) :: (lA, listOf #[.int ((i + 1 : Nat) : Int) tp'] kA') :: (cT, oT) :: (D, citObj q tq) :: (q, metObj 113 xI) :: news) →
      Q (some (.str (codesOf [c]) t')) { s with heap := h', toks := tk' }) :
    wpAny (model Pg w) A (pyNext (.ref D)) Q E s := by
  have ⟨of, fd, hk113, hfd⟩ : ∃ of fd, (Mine.hd.heap_39 w.params).lookup 113 = some of ∧ of.data = .func fd := ⟨_, _, by k_is, rfl⟩
  refine cit_next (N (D, citObj q tq) (by k_mem)).1 (N (q, metObj 113 xI) (by k_mem)).1 (in_obj X F hk113) hfd ?_
  rw [hA]
  refine Con.l4 B F X N T hk C hd hu ?_
  intro t4 tl4 tp4 kA4 h' tk' F' N'
  exact ⟨_, _, rfl, (N' (D, citObj q tq) (by k_mem)).1, (N' (q, metObj 113 xI) (by k_mem)).1, in_obj X F' hk113, fun _ => ret _ _ _ _ _ _ F' N', fun h => absurd ((empty_ne _).symm.trans h) (by decide)⟩
set_option maxRecDepth 100000 in
set_option maxHeartbeats 8000000 in
theorem gettok_c (w : World) (p : Program) (loose : List Str) (mean : ExcName → Option Value) (mg mb : Str → Option Value) (news : List (Addr × Obj)) (S : LexS) (cs : List Nat) (tl : Tok) (i : Nat) (tp : Tok) (kA : Nat) (wd r' : List Nat)
    (K : S.Ok news) (hR : S.Read w p loose mean mg mb cs) (hi : i ≤ cs.length) (hlen : cs.length ≤ 200) (hT : TK (cs.drop i) wd r') :
    Con w p loose mean mg mb 30 120 [.ref S.xI] [] (S.led w (lineAt cs i) tl i tp kA news)
      (fun r news' => ∃ t' i' tl' tp' kA', r = .str (codesOf wd) t' ∧ i' ≤ cs.length ∧ cs.drop i' = r' ∧ news' = S.led w (lineAt cs i') tl' i' tp' kA' news) := by

  have hOffD := fun q hq => (K.off q hq).1
  have hOffA := fun q hq => (K.off q hq).2
  have hc0 : ∀ (D q : Addr) (oD oq : Obj), @Ne Nat D S.dI → @Ne Nat D S.lA → @Ne Nat q S.dI → @Ne Nat q S.lA → ∀ (i c : Nat) (r : List Nat) (h : cs.drop i = c :: r) (tl tp : Tok) (kA : Nat),
    Con w p loose mean mg mb 12 113 [.ref S.xI] [] (S.led w (lineAt cs i) tl i tp kA ((D, oD) :: (q, oq) :: news)) (fun v news' => ∃ t' tl' tp' kA', v = .str (codesOf [c]) t' ∧ news' = S.led w (lineAt cs (i + 1)) tl' ((i + 1 : Nat) : Int) tp' kA' ((D, oD) :: (q, oq) :: news)) :=
    fun D q oD oq e1 e2 e3 e4 i c r h tl tp kA => readc_cons ((K.cons e3 e4).cons e1 e2) hR h tl tp kA
  have hn0 : ∀ (D q : Addr) (oD oq : Obj), @Ne Nat D S.dI → @Ne Nat D S.lA → @Ne Nat q S.dI → @Ne Nat q S.lA → ∀ (i : Nat) (_ : i ≤ cs.length) (_ : cs.drop i = []) (tl tp : Tok) (kA : Nat),
    Con w p loose mean mg mb 12 113 [.ref S.xI] [] (S.led w (lineAt cs i) tl i tp kA ((D, oD) :: (q, oq) :: news)) (fun v news' => ∃ t' tl' tp' kA', v = .str (Str.ofString "") t' ∧ news' = S.led w (lineAt cs i) tl' ((i : Nat) : Int) tp' kA' ((D, oD) :: (q, oq) :: news)) :=
    fun D q oD oq e1 e2 e3 e4 i hi h tl tp kA => readc_nil ((K.cons e3 e4).cons e1 e2) hR hi h tl tp kA
  clear K hR
  obtain ⟨lP, xI, dI, D8, fS, fR, cR, cA, lA, cT, od8, oS, oR, ocR, oA, oT, k1, k2, k3, k4, tw⟩ := S
  dsimp only [LexS.led, LexS.dict] at *
  w_on
  w_strict (
    unfold Con
    intro dp un gd cn cn' cg cc cm a ccd cl outer A₀ base h₀ L m s R B F X N T hd hu hret
    (k_dflt k_enter)
    repeat' (first
      | ((with_reducible show ForSrc _ _ _ _ _ _ _ _ _ _); fail "stop")
      | ((with_reducible show wpAny _ _ (exec (PySem.Stmt.For _ _ _ _ _) _) _ _ _); refine for_src ?_ (by intro _; rfl) (by first | passes_own | with_unfolding_all passes_own))
      | ((with_reducible show wpAny _ _ (call (Value.builtin "iter") [Value.ref _, Value.str _ _]) _ _ _); refine iterK (by k_asm) (by k_asm) (by k_mem) rfl ?_; intro D9 h9' FD ND lD; (try k_lt lD))
      | (k_unfold; (try dsimp only))
      | ((fail_if_success (with_reducible show ForSrc _ _ _ _ _ _ _ _ _ _)); (walk1 <;> (try dsimp only)))
      | ((fail_if_success (with_reducible show ForSrc _ _ _ _ _ _ _ _ _ _)); (dsimp only; walk1))
      | (leave1; try dsimp only)
      | fail "no step")
    (with_reducible rename Fr _ _ _ _ => F1)
    (with_reducible rename News _ _ _ _ => N1)
    (with_reducible rename Frag.In _ _ => X1)
    rename_i qm _ lqm _
    obtain ⟨tq, N2⟩ := ex_tok N1
    clear N1
    have e1 : @Ne Nat D9 dI := Nat.ne_of_gt lD.2.2.2.1
    have e2 : @Ne Nat D9 lA := Nat.ne_of_gt lD.2.2.2.2.2.2.2.2.2.1
    have e3 : @Ne Nat qm dI := Nat.ne_of_gt lqm.2.2.1
    have e4 : @Ne Nat qm lA := Nat.ne_of_gt lqm.2.2.2.2.2.2.2.2.1
    have hc := hc0 D9 qm (citObj qm tq) (metObj 113 xI) e1 e2 e3 e4
    have hn := hn0 D9 qm (citObj qm tq) (metObj 113 xI) e1 e2 e3 e4
    clear hc0 hn0
    refine forsrc_cit4 (D := D9) (b := qm) (t := tq) (fun (c : Nat) (c2 : Tok) (c3 : Tok) (c4 : Nat) => (lP, listOf #[] 0) :: (xI, instObj 130 dI) :: (dI, dObj w k1 k2 k3 k4 tw fS lP (lineAt cs c) c2) :: (D8, od8) :: (fS, oS) :: (fR, oR) :: (cR, ocR) :: (cA, oA) :: (lA, listOf #[.int c c3] c4) :: (cT, oT) :: (D9, citObj qm tq) :: (qm, metObj 113 xI) :: news)
      [Str.ofString "ch"] (fun c => c ≤ cs.length ∧ TK (cs.drop c) wd r') (fun c => cs.length - c) i tl tp kA F1 (subM N2 (by repeat (first | (intro q hq; (repeat (first | exact hq | refine List.Mem.tail _ ?_)); done) | refine sub_cons (by repeat (first | exact List.Mem.head _ | refine List.Mem.tail _ ?_)) ?_))) ⟨hi, hT⟩ (fun _ _ _ _ => by repeat (first | exact List.Mem.head _ | refine List.Mem.tail _ ?_)) ?_
    intro j tl9 tp9 kA9 u9 h9 tk9 T9 hQ9 hJ9 F9 N9
    have hj := hJ9.1
    have hT9 := hJ9.2
    clear hJ9
    have ⟨of, fd, hk113, hfd⟩ : ∃ of fd, (Mine.hd.heap_39 w.params).lookup 113 = some of ∧ of.data = .func fd := ⟨_, _, by k_is, rfl⟩
    generalize hrest : cs.drop j = rest at hT9
    cases hT9 with
    | fin =>
      refine cit_next (N9 (D9, citObj qm tq) (by k_mem)).1 (N9 (qm, metObj 113 xI) (by k_mem)).1 (in_obj X1 F9 hk113) hfd ?_
      (k_dflt (refine Con.l4 (by k_asm) F9 (by k_asm) N9 (by k_asm) rfl (hn j hj hrest _ _ _) (by first | exact lt0 (by assumption) (by decide) | exact lt1 (by assumption) (by decide) | exact lt2 (by assumption) (by decide) | exact lt3 (by assumption) (by decide) | exact lt4 (by assumption) (by decide) | ktr_room) (by first | exact lt0 (by assumption) (by decide) | exact lt1 (by assumption) (by decide) | exact lt2 (by assumption) (by decide) | exact lt3 (by assumption) (by decide) | exact lt4 (by assumption) (by decide) | ktr_units) ?_))
      intro t4 tl4 tp4 kA4 h' tk' F' N'
      refine ⟨_, _, rfl, (N' (D9, citObj qm tq) (by k_mem)).1, (N' (qm, metObj 113 xI) (by k_mem)).1, in_obj X1 F' hk113, fun h => absurd h (by decide), fun _ => ⟨rfl, fun hz2 kz2 => ?_⟩⟩
      have zD := (N' (D9, citObj qm tq) (by k_mem)).2
      have F2 := LCg.fr_but (I := D9) F' (fun b o hb e => kz2 b o (by simpa using hb) e) (Ne.symm zD.1) zD.2
      have N2' := LCg.news_but (I := D9) (news := (lP, listOf #[] 0) :: (xI, instObj 130 dI) :: (dI, dObj w k1 k2 k3 k4 tw fS lP (lineAt cs j) tl4) :: (D8, od8) :: (fS, oS) :: (fR, oR) :: (cR, ocR) :: (cA, oA) :: (lA, listOf #[.int j tp4] kA4) :: (cT, oT) :: news)
        (subM N' (by repeat (first | (intro q hq; (repeat (first | exact hq | refine List.Mem.tail _ ?_)); done) | refine sub_cons (by repeat (first | exact List.Mem.head _ | refine List.Mem.tail _ ?_)) ?_))) (fun b o hb e => kz2 b o (by simpa using hb) e) (allLt_ne lD.2)
      clear F' N' F9 N9
      dsimp only
      repeat' (first
        | (k_unfold; (try dsimp only))
        | (walk1 <;> (try dsimp only))
        | (dsimp only; walk1)
        | (leave1; try dsimp only)
        | fail "no step")
      (with_reducible rename News _ _ _ _ => kN)
      exact hret _ _ _ _ (ex5i _ j _ _ _ ⟨rfl, hj, hrest, rfl⟩) (by assumption) kN
    | nl hT8 =>
      (k_dflt (refine lex_read (i := j) (c := 10) rfl (by k_asm) F9 (by k_asm) N9 (by k_asm) rfl (hc j 10 _ hrest _ _ _) (by first | exact lt0 (by assumption) (by decide) | exact lt1 (by assumption) (by decide) | exact lt2 (by assumption) (by decide) | exact lt3 (by assumption) (by decide) | exact lt4 (by assumption) (by decide) | ktr_room) (by first | exact lt0 (by assumption) (by decide) | exact lt1 (by assumption) (by decide) | exact lt2 (by assumption) (by decide) | exact lt3 (by assumption) (by decide) | exact lt4 (by assumption) (by decide) | ktr_units) ?_))
      intro t4 tl4 tp4 kA4 h' tk' F' N'
      clear F9 N9
      dsimp only
      rw [show codesOf [10] = Str.ofString "\n" from rfl]
      repeat' (first
        | rw [ws10]
        | ((with_reducible show T8 _ _); rw [hQQ]; dsimp only [TurnF])
          | ((with_reducible show T9 _ _); rw [hQ9]; dsimp only [TurnF])
        | ((with_reducible show CitEnd _ _ _ _ _ _ _ _ _); fail "stop")
        | (k_unfold; (try dsimp only))
        | ((fail_if_success (with_reducible show CitEnd _ _ _ _ _ _ _ _ _)); (walk1 <;> (try dsimp only)))
        | ((fail_if_success (with_reducible show CitEnd _ _ _ _ _ _ _ _ _)); (dsimp only; walk1))
        | (leave1; try dsimp only)
        | fail "no step")
      (with_reducible rename Fr _ _ _ _ => FE)
      (with_reducible rename News _ _ _ _ => NE)
      have hj1 := drop_lt hrest
      refine CitEnd.intro0 (j + 1, tl4, tp4, kA4) FE NE trivial ?_ ⟨sub1 hj1, hj1, by rw [drop_next hrest]; exact hT8⟩
      exact fun z h2 h3 => by repeat (first | exact if_out h3 | refine if_skip (off1 h3) ?_)
    | quo hQ =>
      (k_dflt (refine lex_read (i := j) (c := 34) rfl (by k_asm) F9 (by k_asm) N9 (by k_asm) rfl (hc j 34 _ hrest _ _ _) (by first | exact lt0 (by assumption) (by decide) | exact lt1 (by assumption) (by decide) | exact lt2 (by assumption) (by decide) | exact lt3 (by assumption) (by decide) | exact lt4 (by assumption) (by decide) | ktr_room) (by first | exact lt0 (by assumption) (by decide) | exact lt1 (by assumption) (by decide) | exact lt2 (by assumption) (by decide) | exact lt3 (by assumption) (by decide) | exact lt4 (by assumption) (by decide) | ktr_units) ?_))
      intro t4 tl4 tp4 kA4 h' tk' F' N'
      clear F9 N9
      dsimp only
      rw [show codesOf [34] = Str.ofString "\"" from rfl]
      repeat' (first
        | rw [ws34]
        | ((with_reducible show ForSrc _ _ _ _ _ _ _ _ _ _); fail "stop")
        | ((with_reducible show wpAny _ _ (exec (PySem.Stmt.For _ _ _ _ _) _) _ _ _); refine for_src ?_ (by intro _; rfl) (by first | passes_own | with_unfolding_all passes_own))
        | (k_unfold; (try dsimp only))
        | ((fail_if_success (with_reducible show ForSrc _ _ _ _ _ _ _ _ _ _)); (walk1 <;> (try dsimp only)))
        | ((fail_if_success (with_reducible show ForSrc _ _ _ _ _ _ _ _ _ _)); (dsimp only; walk1))
        | (leave1; try dsimp only)
        | fail "no step")
      (with_reducible rename Fr _ _ _ _ => F3)
      (with_reducible rename News _ _ _ _ => N3)
      have hj1 := drop_lt hrest
      refine forsrc_cit6 (y := Str.ofString "token") (D := D9) (b := qm) (t := tq) (fun (c : Nat) (c2 : Tok) (c3 : Tok) (c4 : Nat) => (lP, listOf #[] 0) :: (xI, instObj 130 dI) :: (dI, dObj w k1 k2 k3 k4 tw fS lP (lineAt cs c) c2) :: (D8, od8) :: (fS, oS) :: (fR, oR) :: (cR, ocR) :: (cA, oA) :: (lA, listOf #[.int c c3] c4) :: (cT, oT) :: (D9, citObj qm tq) :: (qm, metObj 113 xI) :: news)
        [Str.ofString "ch", Str.ofString "token"] (fun wx tx => .str (codesOf wx) tx) (fun c wx => c ≤ cs.length ∧ wx.length ≤ c ∧ ∃ w1, QB (cs.drop c) w1 r' ∧ wx ++ w1 = wd) (fun c => cs.length - c) (j + 1) tl4 tp4 kA4 [] _ F3 N3 (by rfl) ⟨hj1, Nat.zero_le _, wd, by rw [drop_next hrest]; exact hQ, rfl⟩ (fun _ _ _ _ => by repeat (first | exact List.Mem.head _ | refine List.Mem.tail _ ?_)) ?_
      clear F3 N3
      intro i2 tl8 tp8 kA8 w0 t8 u8 h8 tk8 T8 hQQ hJ8 F8 N8
      have hj8 := hJ8.1
      have hl8 := hJ8.2.1
      have ⟨w1, hQ8, hw8⟩ := hJ8.2.2
      clear hJ8
      have hlw : (codesOf w0).length ≤ 200 := (codes_len w0).symm ▸ Nat.le_trans hl8 (Nat.le_trans hj8 hlen)
      generalize hrest8 : cs.drop i2 = rest8 at hQ8
      cases hQ8 with
      | stop =>
        (k_dflt (refine lex_read (i := i2) (c := 34) rfl (by k_asm) F8 (by k_asm) N8 (by k_asm) rfl (hc i2 34 _ hrest8 _ _ _) (by first | exact lt0 (by assumption) (by decide) | exact lt1 (by assumption) (by decide) | exact lt2 (by assumption) (by decide) | exact lt3 (by assumption) (by decide) | exact lt4 (by assumption) (by decide) | ktr_room) (by first | exact lt0 (by assumption) (by decide) | exact lt1 (by assumption) (by decide) | exact lt2 (by assumption) (by decide) | exact lt3 (by assumption) (by decide) | exact lt4 (by assumption) (by decide) | ktr_units) ?_))
        intro t4 tl4 tp4 kA4 h' tk' F' N'
        clear F8 N8
        dsimp only
        rw [show codesOf [34] = Str.ofString "\"" from rfl]
        repeat' (first
          | ((with_reducible show T8 _ _); rw [hQQ]; dsimp only [TurnF])
          | ((with_reducible show T9 _ _); rw [hQ9]; dsimp only [TurnF])
          | ((with_reducible show CitEnd _ _ _ _ _ _ _ _ _); fail "stop")
          | (k_unfold; (try dsimp only))
          | ((fail_if_success (with_reducible show CitEnd _ _ _ _ _ _ _ _ _)); (walk1 <;> (try dsimp only)))
          | ((fail_if_success (with_reducible show CitEnd _ _ _ _ _ _ _ _ _)); (dsimp only; walk1))
          | (leave1; try dsimp only)
          | fail "no step")
        (with_reducible rename News _ _ _ _ => kN)
        obtain rfl : w0 = wd := by simpa using hw8
        exact hret _ _ _ _ (ex5i _ (i2 + 1) _ _ _ ⟨rfl, drop_lt hrest8, drop_next hrest8, rfl⟩) (by assumption) (subN kN (.cons_cons _ (.cons_cons _ (.cons_cons _ (.cons_cons _ (.cons_cons _ (.cons_cons _ (.cons_cons _ (.cons_cons _ (.cons_cons _ (.cons_cons _ (.cons _ (.cons _ (List.Sublist.refl _))))))))))))))
      | @plain c8 _ _ _ hc1 hc2 hQ7 =>
        (k_dflt (refine lex_read (i := i2) (c := c8) rfl (by k_asm) F8 (by k_asm) N8 (by k_asm) rfl (hc i2 c8 _ hrest8 _ _ _) (by first | exact lt0 (by assumption) (by decide) | exact lt1 (by assumption) (by decide) | exact lt2 (by assumption) (by decide) | exact lt3 (by assumption) (by decide) | exact lt4 (by assumption) (by decide) | ktr_room) (by first | exact lt0 (by assumption) (by decide) | exact lt1 (by assumption) (by decide) | exact lt2 (by assumption) (by decide) | exact lt3 (by assumption) (by decide) | exact lt4 (by assumption) (by decide) | ktr_units) ?_))
        intro t4 tl4 tp4 kA4 h' tk' F' N'
        clear F8 N8
        dsimp only
        have hq1 : (codesOf [c8] == Str.ofString "\"") = false := (codes_beq (d := 34)).trans (beq_eq_false_iff_ne.mpr hc1)
        have hq2 : (codesOf [c8] == Str.ofString "\\") = false := (codes_beq (d := 92)).trans (beq_eq_false_iff_ne.mpr hc2)
        have hq3 := codes_snoc w0 c8
        have hl1 : (codesOf [c8]).length ≤ 1 := Nat.le_refl 1
        repeat' (first
          | rw [hq1]
          | rw [hq2]
          | ((with_reducible show T8 _ _); rw [hQQ]; dsimp only [TurnF])
          | ((with_reducible show T9 _ _); rw [hQ9]; dsimp only [TurnF])
          | ((with_reducible show CitEnd _ _ _ _ _ _ _ _ _); fail "stop")
          | (k_unfold; (try dsimp only))
          | ((fail_if_success (with_reducible show CitEnd _ _ _ _ _ _ _ _ _)); (walk1 <;> (try dsimp only)))
          | ((fail_if_success (with_reducible show CitEnd _ _ _ _ _ _ _ _ _)); (dsimp only; walk1))
          | (leave1; try dsimp only)
          | fail "no step")
        (with_reducible rename Fr _ _ _ _ => FE)
        (with_reducible rename News _ _ _ _ => NE)
        rw [codes_snoc] at FE
        have hj2 := drop_lt hrest8
        refine CitEnd.intro0 (i2 + 1, tl4, tp4, kA4, w0 ++ [c8], _) FE NE ⟨rfl, trivial⟩ ?_ ⟨sub1 hj2, hj2, len_snoc1 hl8, _, by dsimp only; rw [drop_next hrest8]; exact hQ7, by dsimp only; rw [← hw8, List.append_assoc]; rfl⟩
        exact fun z h2 h3 => by repeat (first | exact if_out h3 | refine if_skip (off2 h3).1 ?_ | refine if_skip (off2 h3).2 ?_)
      | @esc c8 _ _ _ hQ7 =>
        (k_dflt (refine lex_read (i := i2) (c := 92) rfl (by k_asm) F8 (by k_asm) N8 (by k_asm) rfl (hc i2 92 _ hrest8 _ _ _) (by first | exact lt0 (by assumption) (by decide) | exact lt1 (by assumption) (by decide) | exact lt2 (by assumption) (by decide) | exact lt3 (by assumption) (by decide) | exact lt4 (by assumption) (by decide) | ktr_room) (by first | exact lt0 (by assumption) (by decide) | exact lt1 (by assumption) (by decide) | exact lt2 (by assumption) (by decide) | exact lt3 (by assumption) (by decide) | exact lt4 (by assumption) (by decide) | ktr_units) ?_))
        intro t4 tl4 tp4 kA4 h' tk' F' N'
        clear F8 N8
        dsimp only
        rw [show codesOf [92] = Str.ofString "\\" from rfl]
        have hl1 : (codesOf [c8]).length ≤ 1 := Nat.le_refl 1
        repeat' (first
          | ((with_reducible show wpAny _ _ (call (Value.ref 113) _ _) _ _ _); (try dsimp only [List.nil_append, List.cons_append]); k_dflt (refine wpAny_call (Con.l4 (by k_asm) (by k_asm) (by k_asm) (by k_asm) (by k_asm) rfl (hc (i2 + 1) c8 _ (drop_next hrest8) _ _ _) (by first | exact lt0 (by assumption) (by decide) | exact lt1 (by assumption) (by decide) | exact lt2 (by assumption) (by decide) | exact lt3 (by assumption) (by decide) | exact lt4 (by assumption) (by decide) | ktr_room) (by first | exact lt0 (by assumption) (by decide) | exact lt1 (by assumption) (by decide) | exact lt2 (by assumption) (by decide) | exact lt3 (by assumption) (by decide) | exact lt4 (by assumption) (by decide) | ktr_units) ?_)); intro t5 tl5 tp5 kA5 h' tk' F' N'; (try dsimp only))
          | ((with_reducible show T8 _ _); rw [hQQ]; dsimp only [TurnF])
          | ((with_reducible show T9 _ _); rw [hQ9]; dsimp only [TurnF])
          | ((with_reducible show CitEnd _ _ _ _ _ _ _ _ _); fail "stop")
          | (k_unfold; (try dsimp only))
          | ((fail_if_success (with_reducible show CitEnd _ _ _ _ _ _ _ _ _)); (walk1 <;> (try dsimp only)))
          | ((fail_if_success (with_reducible show CitEnd _ _ _ _ _ _ _ _ _)); (dsimp only; walk1))
          | (leave1; try dsimp only)
          | fail "no step")
        (with_reducible rename Fr _ _ _ _ => FE)
        (with_reducible rename News _ _ _ _ => NE)
        rw [codes_snoc] at FE
        have hj2 := drop_lt (drop_next hrest8)
        refine CitEnd.intro0 (i2 + 1 + 1, tl5, tp5, kA5, w0 ++ [c8], _) FE NE ⟨rfl, trivial⟩ ?_ ⟨sub2 hj2, hj2, Nat.le_succ_of_le (len_snoc1 hl8), _, by dsimp only; rw [drop_next (drop_next hrest8)]; exact hQ7, by dsimp only; rw [← hw8, List.append_assoc]; rfl⟩
        exact fun z h2 h3 => by repeat (first | exact if_out h3 | refine if_skip (off2 h3).1 ?_ | refine if_skip (off2 h3).2 ?_)
    | @bare c7 r7 w7 _ hB =>
      (k_dflt (refine lex_read (i := j) (c := 92) rfl (by k_asm) F9 (by k_asm) N9 (by k_asm) rfl (hc j 92 _ hrest _ _ _) (by first | exact lt0 (by assumption) (by decide) | exact lt1 (by assumption) (by decide) | exact lt2 (by assumption) (by decide) | exact lt3 (by assumption) (by decide) | exact lt4 (by assumption) (by decide) | ktr_room) (by first | exact lt0 (by assumption) (by decide) | exact lt1 (by assumption) (by decide) | exact lt2 (by assumption) (by decide) | exact lt3 (by assumption) (by decide) | exact lt4 (by assumption) (by decide) | ktr_units) ?_))
      intro t4 tl4 tp4 kA4 h' tk' F' N'
      clear F9 N9
      dsimp only
      rw [show codesOf [92] = Str.ofString "\\" from rfl]
      have hl7 : (codesOf [c7]).length ≤ 1 := Nat.le_refl 1
      repeat' (first
        | rw [ws92]
        | ((with_reducible show wpAny _ _ (call (Value.ref 113) _ _) _ _ _); (try dsimp only [List.nil_append, List.cons_append]); k_dflt (refine wpAny_call (Con.l4 (by k_asm) (by k_asm) (by k_asm) (by k_asm) (by k_asm) rfl (hc (j + 1) c7 _ (drop_next hrest) _ _ _) (by first | exact lt0 (by assumption) (by decide) | exact lt1 (by assumption) (by decide) | exact lt2 (by assumption) (by decide) | exact lt3 (by assumption) (by decide) | exact lt4 (by assumption) (by decide) | ktr_room) (by first | exact lt0 (by assumption) (by decide) | exact lt1 (by assumption) (by decide) | exact lt2 (by assumption) (by decide) | exact lt3 (by assumption) (by decide) | exact lt4 (by assumption) (by decide) | ktr_units) ?_)); intro t6 tl6 tp6 kA6 h' tk' F' N'; (try dsimp only))
        | ((with_reducible show ForSrc _ _ _ _ _ _ _ _ _ _); fail "stop")
        | ((with_reducible show wpAny _ _ (exec (PySem.Stmt.For _ _ _ _ _) _) _ _ _); refine for_src ?_ (by intro _; rfl) (by first | passes_own | with_unfolding_all passes_own))
        | (k_unfold; (try dsimp only))
        | ((fail_if_success (with_reducible show ForSrc _ _ _ _ _ _ _ _ _ _)); (walk1 <;> (try dsimp only)))
        | ((fail_if_success (with_reducible show ForSrc _ _ _ _ _ _ _ _ _ _)); (dsimp only; walk1))
        | (leave1; try dsimp only)
        | fail "no step")
      (with_reducible rename Fr _ _ _ _ => F3)
      (with_reducible rename News _ _ _ _ => N3)
      have hj1 := drop_lt (drop_next hrest)
      refine forsrc_cit6 (y := Str.ofString "token") (D := D9) (b := qm) (t := tq) (fun (c : Nat) (c2 : Tok) (c3 : Tok) (c4 : Nat) => (lP, listOf #[] 0) :: (xI, instObj 130 dI) :: (dI, dObj w k1 k2 k3 k4 tw fS lP (lineAt cs c) c2) :: (D8, od8) :: (fS, oS) :: (fR, oR) :: (cR, ocR) :: (cA, oA) :: (lA, listOf #[.int c c3] c4) :: (cT, oT) :: (D9, citObj qm tq) :: (qm, metObj 113 xI) :: news)
        [Str.ofString "ch", Str.ofString "token"] (fun wx tx => .str (codesOf wx) tx) (fun c wx => c ≤ cs.length ∧ wx.length ≤ c ∧ ∃ w1, BB (cs.drop c) w1 r' ∧ wx ++ w1 = c7 :: w7) (fun c => cs.length - c) (j + 1 + 1) tl6 tp6 kA6 [c7] _ F3 N3 (by rfl) ⟨hj1, by simp, w7, by rw [drop_next (drop_next hrest)]; exact hB, rfl⟩ (fun _ _ _ _ => by repeat (first | exact List.Mem.head _ | refine List.Mem.tail _ ?_)) ?_
      clear F3 N3
      intro i2 tl8 tp8 kA8 w0 t8 u8 h8 tk8 T8 hQQ hJ8 F8 N8
      have hj8 := hJ8.1
      have hl8 := hJ8.2.1
      have ⟨w1, hQ8, hw8⟩ := hJ8.2.2
      clear hJ8
      have hlw : (codesOf w0).length ≤ 200 := (codes_len w0).symm ▸ Nat.le_trans hl8 (Nat.le_trans hj8 hlen)
      generalize hrest8 : cs.drop i2 = rest8 at hQ8
      cases hQ8 with
      | stop =>
        (k_dflt (refine lex_read (i := i2) (c := 9) rfl (by k_asm) F8 (by k_asm) N8 (by k_asm) rfl (hc i2 9 _ hrest8 _ _ _) (by first | exact lt0 (by assumption) (by decide) | exact lt1 (by assumption) (by decide) | exact lt2 (by assumption) (by decide) | exact lt3 (by assumption) (by decide) | exact lt4 (by assumption) (by decide) | ktr_room) (by first | exact lt0 (by assumption) (by decide) | exact lt1 (by assumption) (by decide) | exact lt2 (by assumption) (by decide) | exact lt3 (by assumption) (by decide) | exact lt4 (by assumption) (by decide) | ktr_units) ?_))
        intro t4 tl4 tp4 kA4 h' tk' F' N'
        clear F8 N8
        dsimp only
        rw [show codesOf [9] = Str.ofString "\t" from rfl]
        repeat' (first
          | rw [ws9]
          | ((with_reducible show T8 _ _); rw [hQQ]; dsimp only [TurnF])
          | ((with_reducible show T9 _ _); rw [hQ9]; dsimp only [TurnF])
          | ((with_reducible show CitEnd _ _ _ _ _ _ _ _ _); fail "stop")
          | (k_unfold; (try dsimp only))
          | ((fail_if_success (with_reducible show CitEnd _ _ _ _ _ _ _ _ _)); (walk1 <;> (try dsimp only)))
          | ((fail_if_success (with_reducible show CitEnd _ _ _ _ _ _ _ _ _)); (dsimp only; walk1))
          | (leave1; try dsimp only)
          | fail "no step")
        (with_reducible rename News _ _ _ _ => kN)
        obtain rfl : w0 = c7 :: w7 := by simpa using hw8
        exact hret _ _ _ _ (ex5i _ (i2 + 1) _ _ _ ⟨rfl, drop_lt hrest8, drop_next hrest8, rfl⟩) (by assumption) (subN kN (.cons_cons _ (.cons_cons _ (.cons_cons _ (.cons_cons _ (.cons_cons _ (.cons_cons _ (.cons_cons _ (.cons_cons _ (.cons_cons _ (.cons_cons _ (.cons _ (.cons _ (List.Sublist.refl _))))))))))))))
      | @esc c8 _ _ _ hQ7 =>
        (k_dflt (refine lex_read (i := i2) (c := 92) rfl (by k_asm) F8 (by k_asm) N8 (by k_asm) rfl (hc i2 92 _ hrest8 _ _ _) (by first | exact lt0 (by assumption) (by decide) | exact lt1 (by assumption) (by decide) | exact lt2 (by assumption) (by decide) | exact lt3 (by assumption) (by decide) | exact lt4 (by assumption) (by decide) | ktr_room) (by first | exact lt0 (by assumption) (by decide) | exact lt1 (by assumption) (by decide) | exact lt2 (by assumption) (by decide) | exact lt3 (by assumption) (by decide) | exact lt4 (by assumption) (by decide) | ktr_units) ?_))
        intro t4 tl4 tp4 kA4 h' tk' F' N'
        clear F8 N8
        dsimp only
        rw [show codesOf [92] = Str.ofString "\\" from rfl]
        have hl1 : (codesOf [c8]).length ≤ 1 := Nat.le_refl 1
        repeat' (first
          | rw [ws92]
          | ((with_reducible show wpAny _ _ (call (Value.ref 113) _ _) _ _ _); (try dsimp only [List.nil_append, List.cons_append]); k_dflt (refine wpAny_call (Con.l4 (by k_asm) (by k_asm) (by k_asm) (by k_asm) (by k_asm) rfl (hc (i2 + 1) c8 _ (drop_next hrest8) _ _ _) (by first | exact lt0 (by assumption) (by decide) | exact lt1 (by assumption) (by decide) | exact lt2 (by assumption) (by decide) | exact lt3 (by assumption) (by decide) | exact lt4 (by assumption) (by decide) | ktr_room) (by first | exact lt0 (by assumption) (by decide) | exact lt1 (by assumption) (by decide) | exact lt2 (by assumption) (by decide) | exact lt3 (by assumption) (by decide) | exact lt4 (by assumption) (by decide) | ktr_units) ?_)); intro t5 tl5 tp5 kA5 h' tk' F' N'; (try dsimp only))
          | ((with_reducible show T8 _ _); rw [hQQ]; dsimp only [TurnF])
          | ((with_reducible show T9 _ _); rw [hQ9]; dsimp only [TurnF])
          | ((with_reducible show CitEnd _ _ _ _ _ _ _ _ _); fail "stop")
          | (k_unfold; (try dsimp only))
          | ((fail_if_success (with_reducible show CitEnd _ _ _ _ _ _ _ _ _)); (walk1 <;> (try dsimp only)))
          | ((fail_if_success (with_reducible show CitEnd _ _ _ _ _ _ _ _ _)); (dsimp only; walk1))
          | (leave1; try dsimp only)
          | fail "no step")
        (with_reducible rename Fr _ _ _ _ => FE)
        (with_reducible rename News _ _ _ _ => NE)
        rw [codes_snoc] at FE
        have hj2 := drop_lt (drop_next hrest8)
        refine CitEnd.intro0 (i2 + 1 + 1, tl5, tp5, kA5, w0 ++ [c8], _) FE NE ⟨rfl, trivial⟩ ?_ ⟨sub2 hj2, hj2, Nat.le_succ_of_le (len_snoc1 hl8), _, by dsimp only; rw [drop_next (drop_next hrest8)]; exact hQ7, by dsimp only; rw [← hw8, List.append_assoc]; rfl⟩
        exact fun z h2 h3 => by repeat (first | exact if_out h3 | refine if_skip (off2 h3).1 ?_ | refine if_skip (off2 h3).2 ?_)
    )
end Mine
end

section
open PySem PySem.W PyProof.Rows
namespace Mine
theorem qb_mark {l r w r' : List Nat} (h : QB r w r') : QB (l.flatMap esc ++ r) (l ++ w) r' := by
  induction l with
  | nil => exact h
  | cons c l ih =>
    simp only [List.flatMap_cons, List.append_assoc, List.cons_append]
    unfold esc
    by_cases h1 : c = 92
    · rw [if_pos h1]; subst h1; exact .esc ih
    · rw [if_neg h1]
      by_cases h2 : c = 34
      · rw [if_pos h2]; subst h2; exact .esc ih
      · rw [if_neg h2]; exact .plain h2 h1 ih
theorem bb_mark {l r w r' : List Nat} (h : BB r w r') : BB (l.flatMap (fun c => [92, c]) ++ r) (l ++ w) r' := by
  induction l with
  | nil => exact h
  | cons c l ih =>
    simp only [List.flatMap_cons, List.cons_append, List.nil_append]
    exact .esc ih
noncomputable def wordL (n : Int) : List Nat := replyL (mkN n) (ptN n)
theorem replyS_codes (n : Int) : replyS n = codesOf (wordL n) := rfl
noncomputable def trailL (n : Int) : List Nat := if isBare n then [] else [10]
theorem tk_spell (n : Int) (r : List Nat) : TK (spellL n ++ r) (wordL n) (trailL n ++ r) := by
  unfold spellL trailL
  cases h : isBare n with
  | false =>
    simp only [Bool.false_eq_true, if_false]
    unfold quotL
    simp only [List.cons_append, List.append_assoc, List.nil_append]
    have := qb_mark (l := wordL n) (QB.stop (10 :: r))
    rw [List.append_nil] at this
    exact .quo this
  | true =>
    simp only [if_true]
    unfold bareL
    have e : wordL n = 50 :: (wordL n).tail := rfl
    have hb := bb_mark (l := (wordL n).tail) (BB.stop r)
    rw [List.append_nil] at hb
    show TK ((wordL n).flatMap (fun c => [92, c]) ++ [9] ++ r) (wordL n) ([] ++ r)
    rw [e, List.flatMap_cons, List.append_assoc, List.append_assoc]
    exact .bare hb
theorem tk_trail {n : Int} {r w r' : List Nat} (h : TK r w r') : TK (trailL n ++ r) w r' := by
  unfold trailL
  cases isBare n with
  | false => exact .nl h
  | true => exact h
noncomputable def restAt (ns : List Int) (i : Nat) : List Nat := (match ns.take i |>.getLast? with | none => [] | some n => trailL n) ++ (ns.drop i).flatMap spellL
theorem restAt_zero (ns : List Int) : restAt ns 0 = ns.flatMap spellL := rfl
theorem tk_at {ns : List Int} {i : Nat} {n : Int} (h : ns[i]? = some n) : TK (restAt ns i) (wordL n) (restAt ns (i + 1)) := by
  have hi : i < ns.length := by
    apply Nat.lt_of_not_le
    intro hl
    rw [List.getElem?_eq_none hl] at h
    cases h
  have hn : ns[i] = n := by rw [List.getElem?_eq_getElem hi] at h; exact Option.some.inj h
  have e1 : ns.drop i = n :: ns.drop (i + 1) := by rw [← hn]; exact List.drop_eq_getElem_cons hi
  have e2 : ns.take (i + 1) = ns.take i ++ [n] := by rw [List.take_add_one, h]; rfl
  unfold restAt
  rw [e1, e2, List.getLast?_append, List.flatMap_cons]
  simp only [List.getLast?_singleton, Option.some_or]
  cases ns.take i |>.getLast? with
  | none => exact tk_spell n _
  | some n' => exact tk_trail (tk_spell n _)
theorem tk_end {ns : List Int} : TK (restAt ns ns.length) [] [] := by
  unfold restAt
  rw [List.drop_length, List.flatMap_nil, List.append_nil, List.take_length]
  cases ns.getLast? with
  | none => exact .fin
  | some n =>
    have := tk_trail (n := n) TK.fin
    rwa [List.append_nil] at this
theorem line_end (cs : List Nat) {i : Nat} (hi : i ≤ cs.length) (h : cs.drop i = []) : lineAt cs i = 1 + ((cs.count 10 : Nat) : Int) := by
  rw [drop_nil_eq hi h]
  unfold lineAt
  rw [List.take_length]
theorem isBare_zero (n : Int) : (n / 28 % 2 == 0) = !isBare n := by
  unfold isBare
  have h1 := Int.emod_nonneg (n / 28) (by decide : (2 : Int) ≠ 0)
  have h2 := Int.emod_lt_of_pos (n / 28) (by decide : (0 : Int) < 2)
  rcases Int.emod_two_eq (n / 28) with h | h <;> rw [h] <;> rfl
theorem count_bareAB : ∀ a : Nat, a < 4 → ∀ b : Nat, b < 7 → (bareL a b).count 10 = 0 ∧ (bareL a b).length ≤ 23 := by decide
theorem count_quotAB : ∀ a : Nat, a < 4 → ∀ b : Nat, b < 7 → (quotL a b).count 10 = 1 ∧ (quotL a b).length ≤ 23 := by decide
theorem spell_count (n : Int) : (spellL n).count 10 = (if n / 28 % 2 == 0 then 1 else 0) := by
  rw [isBare_zero]
  unfold spellL
  cases isBare n with
  | false => exact (count_quotAB _ (mkN_lt n) _ (ptN_lt n)).1
  | true => exact (count_bareAB _ (mkN_lt n) _ (ptN_lt n)).1
theorem spell_length (n : Int) : (spellL n).length ≤ 23 := by
  unfold spellL
  cases isBare n with
  | false => exact (count_quotAB _ (mkN_lt n) _ (ptN_lt n)).2
  | true => exact (count_bareAB _ (mkN_lt n) _ (ptN_lt n)).2
theorem all_count : ∀ ns : List Int, (ns.flatMap spellL).count 10 = (ns.filter (fun n => n / 28 % 2 == 0)).length
  | [] => rfl
  | n :: ns => by
    rw [List.flatMap_cons, List.count_append, all_count ns, spell_count, List.filter_cons]
    cases (n / 28 % 2 == 0) <;> simp <;> omega
theorem all_length : ∀ ns : List Int, (ns.flatMap spellL).length ≤ 23 * ns.length
  | [] => Nat.le_refl _
  | n :: ns => by
    rw [List.flatMap_cons, List.length_append, List.length_cons]
    rw [Nat.mul_succ, Nat.add_comm]
    exact Nat.add_le_add (all_length ns) (spell_length n)
theorem glue_fold : ∀ (l : List (List Nat)) (acc : Array Nat), (l.map codesOf).foldl (fun acc p => acc ++ (Str.ofString "").cps ++ p.cps) acc = acc ++ l.flatten.toArray
  | [], acc => by simp
  | a :: l, acc => by
    rw [List.map_cons, List.foldl_cons, glue_fold l]
    show acc ++ #[] ++ a.toArray ++ l.flatten.toArray = _
    simp
theorem join_codes (l : List (List Nat)) : Txt.join (Str.ofString "") (l.map codesOf) = codesOf l.flatten := by
  show Str.mk _ = Str.mk _
  congr 1
  cases l with
  | nil => rfl
  | cons a l =>
    show ((l.map codesOf)).foldl _ a.toArray = _
    rw [glue_fold]
    simp
theorem join_spell (ns : List Int) : Txt.join (Str.ofString "") (ns.map spellS) = codesOf (ns.flatMap spellL) := by
  have := join_codes (ns.map spellL)
  rw [List.map_map] at this
  rw [List.flatMap_def]
  exact this
theorem spell_sum : ∀ ns : List Int, ((ns.map spellS).map (·.length)).sum + (ns.map spellS).length ≤ 24 * ns.length
  | [] => Nat.le_refl _
  | n :: ns => by
    have e : (spellS n).length = (spellL n).length := codes_len _
    rw [List.map_cons, List.map_cons, List.sum_cons, List.length_cons, List.length_cons, e, Nat.add_comm (spellL n).length, Nat.add_add_add_comm, Nat.mul_succ]
    exact Nat.add_le_add (spell_sum ns) (Nat.succ_le_succ (spell_length n))
theorem news_rot {h₀ h : Heap} {L : Addr} {x : Addr × Obj} {l : List (Addr × Obj)} (N : News h₀ L h (l ++ [x])) : News h₀ L h (x :: l) := fun p hp => N p (by
  rcases List.mem_cons.mp hp with rfl | hp
  · exact List.mem_append.mpr (.inr (.head _))
  · exact List.mem_append.mpr (.inl hp))
theorem news_tail {h₀ h : Heap} {L : Addr} {x : Addr × Obj} {l : List (Addr × Obj)} (N : News h₀ L h (x :: l)) : News h₀ L h l := fun p hp => N p (.tail _ hp)
theorem news_front {h₀ h : Heap} {L : Addr} {x : Addr × Obj} (l : List (Addr × Obj)) {r : List (Addr × Obj)} (N : News h₀ L h (l ++ x :: r)) : News h₀ L h (x :: (l ++ r)) := fun p hp => N p (by
  rcases List.mem_cons.mp hp with rfl | hp
  · exact List.mem_append.mpr (.inr (.head _))
  · rcases List.mem_append.mp hp with hp | hp
    · exact List.mem_append.mpr (.inl hp)
    · exact List.mem_append.mpr (.inr (.tail _ hp)))
theorem news_move {h₀ h : Heap} {L : Addr} {x : Addr × Obj} (l : List (Addr × Obj)) {r : List (Addr × Obj)} (N : News h₀ L h (x :: (l ++ r))) : News h₀ L h (l ++ x :: r) := fun p hp => N p (by
  rcases List.mem_append.mp hp with hp | hp
  · exact .tail _ (List.mem_append.mpr (.inl hp))
  · rcases List.mem_cons.mp hp with rfl | hp
    · exact .head _
    · exact .tail _ (List.mem_append.mpr (.inr hp)))
noncomputable def CoverA (T : List (Addr × Obj)) : List (Addr × Obj) → Prop
  | [] => True
  | q :: r => (∃ o, (q.1, o) ∈ T) ∧ CoverA T r
theorem CoverA.mem {T : List (Addr × Obj)} {l : List (Addr × Obj)} (h : CoverA T l) : ∀ q ∈ l, ∃ o, (q.1, o) ∈ T := by
  induction l with
  | nil => intro q hq; exact nomatch hq
  | cons a l ih =>
    intro q hq
    rcases List.mem_cons.mp hq with rfl | hq
    · exact h.1
    · exact ih h.2 q hq
theorem LexS.Ok.perm {S : LexS} {T T' : List (Addr × Obj)} (K : S.Ok T) (h : CoverA T T') : S.Ok T' :=
  ⟨K.lt, fun q hq => by obtain ⟨o, ho⟩ := h.mem q hq; exact K.off (q.1, o) ho, K.od8, K.cls, K.dic, K.ncl, K.fnR⟩
theorem LexS.Ok.ofN {S : LexS} {T T' : List (Addr × Obj)} {w : World} {ln : Int} {tl : Tok} {pp : Int} {tp : Tok} {kA : Nat} {h₀ h : Heap} {L : Addr} (_ : News h₀ L h (S.led w ln tl pp tp kA T')) (K : S.Ok T) (h : CoverA T T') : S.Ok T' := K.perm h
theorem lineAt_zero (cs : List Nat) : lineAt cs 0 = 1 := rfl
section
open PySem.Calls PyProof.V PySem.Spec PyProof.Rows.LCg
variable {prog : Program} {w : World} {A : Around} {h₀ : Heap} {L : Addr} {m : Str → Option Value} {env : Env} {elt : PySem.Expr} {x : Str} {scope : Scope} {cl : List (Str × Addr)} {s : Shared} {SS : List (Addr × Obj) → Prop} {P : Nat → Value → Prop} {Fin : List Value → List (Addr × Obj) → Prop}
theorem rest_lex {n : Nat} {S : LexS} {T : List (Addr × Obj)} {cs : List Nat} {tl0 tp0 : Tok} {kA0 : Nat} (Acc : Nat → Nat → List Value → Prop) (h0 : Acc 0 0 [])
    (turn : ∀ i v ys (j : Nat) (tl tp : Tok) (kA : Nat) I oI C oC D m₂ h tk (E' : Value → Shared → Prop), i < n → P i v → Acc i j ys → NsObj oC m₂ → m₂ x = some v → Fr h₀ L h m → News h₀ L h ((I, oI) :: (C, oC) :: (D, lst ys) :: S.led w (lineAt cs j) tl j tp kA T) → Off3 I C D (S.led w (lineAt cs j) tl j tp kA T) → ((@Ne Nat I C) ∧ (@Ne Nat I D) ∧ (@Ne Nat C D)) → ∀ G, G = CompEnd h₀ L m { s with heap := h, toks := tk } I oI C oC D (lst ys) SS (fun y news' => ∃ (j' : Nat) (tl' tp' : Tok) (kA' : Nat), news' = S.led w (lineAt cs j') tl' j' tp' kA' T ∧ Acc (i + 1) j' (ys ++ [y])) →
      wpAny (model prog w) A (eval elt (compEnvC scope cl C env)) G E' { s with heap := h, toks := tk })
    (fin : ∀ ys (j : Nat) tl tp kA, Acc n j ys → Fin ys (S.led w (lineAt cs j) tl j tp kA T)) : CompRest prog w A h₀ L m env elt x scope cl s SS P Fin n 0 [] (S.led w 1 tl0 0 tp0 kA0 T) := by
  refine rest_any (fun i ys nw => ∃ (j : Nat) (tl tp : Tok) (kA : Nat), nw = S.led w (lineAt cs j) tl j tp kA T ∧ Acc i j ys) ⟨0, tl0, tp0, kA0, rfl, h0⟩ ?_ ?_
  · rintro i v ys nw I oI C oC D m₂ h tk E' hi hv ⟨j, tl, tp, kA, rfl, hA⟩ hC hx F N off ne
    exact turn i v ys j tl tp kA I oI C oC D m₂ h tk E' hi hv hA hC hx F N off ne _ rfl
  · rintro ys nw ⟨j, tl, tp, kA, rfl, hA⟩
    exact fin ys j tl tp kA hA
end
theorem gettok_m {w : World} {p : Program} {loose : List Str} {mean : ExcName → Option Value} {mg mb : Str → Option Value} {T : List (Addr × Obj)} {S : LexS} {cs : List Nat} {tl : Tok} {i : Nat} {tp : Tok} {kA : Nat} {wd r' : List Nat} {a b c : Addr × Obj}
    (K : S.Ok T) (ha : @Ne Nat a.1 S.dI ∧ @Ne Nat a.1 S.lA) (hb : @Ne Nat b.1 S.dI ∧ @Ne Nat b.1 S.lA) (hc : @Ne Nat c.1 S.dI ∧ @Ne Nat c.1 S.lA) (hR : S.Read w p loose mean mg mb cs) (hi : i ≤ cs.length) (hlen : cs.length ≤ 200) (hT : TK (cs.drop i) wd r') :
    Con w p loose mean mg mb 30 120 [.ref S.xI] [] (a :: b :: c :: S.led w (lineAt cs i) tl i tp kA T)
      (fun r news' => ∃ t' i' tl' tp' kA', r = .str (codesOf wd) t' ∧ i' ≤ cs.length ∧ cs.drop i' = r' ∧ news' = a :: b :: c :: S.led w (lineAt cs i') tl' i' tp' kA' T) := by
  refine (gettok_c w p loose mean mg mb (a :: b :: c :: T) S cs tl i tp kA wd r' (((K.cons hc.1 hc.2).cons hb.1 hb.2).cons ha.1 ha.2) hR hi hlen hT).conv ?_ ?_
  · intro q hq
    exact mem_swap_app (A := S.cells w (lineAt cs i) tl i tp kA) (B := [a, b, c]) hq
  · exact fun r n h => ex5e h fun t' i' tl' tp' kA' h => ⟨_, fun q hq => h.2.2.2 ▸ mem_swap_app (A := [a, b, c]) (B := S.cells w (lineAt cs i') tl' i' tp' kA') hq, ex5i t' i' tl' tp' kA' ⟨h.1, h.2.1, h.2.2.1, rfl⟩⟩
theorem gettok_1 {w : World} {p : Program} {loose : List Str} {mean : ExcName → Option Value} {mg mb : Str → Option Value} {T : List (Addr × Obj)} {S : LexS} {cs : List Nat} {tl : Tok} {i : Nat} {tp : Tok} {kA : Nat} {wd r' : List Nat} {a : Addr × Obj}
    (K : S.Ok T) (ha : @Ne Nat a.1 S.dI ∧ @Ne Nat a.1 S.lA) (hR : S.Read w p loose mean mg mb cs) (hi : i ≤ cs.length) (hlen : cs.length ≤ 200) (hT : TK (cs.drop i) wd r') :
    Con w p loose mean mg mb 30 120 [.ref S.xI] [] (a :: S.led w (lineAt cs i) tl i tp kA T)
      (fun r news' => ∃ t' i' tl' tp' kA', r = .str (codesOf wd) t' ∧ i' ≤ cs.length ∧ cs.drop i' = r' ∧ news' = a :: S.led w (lineAt cs i') tl' i' tp' kA' T) := by
  refine (gettok_c w p loose mean mg mb (a :: T) S cs tl i tp kA wd r' (K.cons ha.1 ha.2) hR hi hlen hT).conv ?_ ?_
  · intro q hq
    exact mem_swap_app (A := S.cells w (lineAt cs i) tl i tp kA) (B := [a]) hq
  · exact fun r n h => ex5e h fun t' i' tl' tp' kA' h => ⟨_, fun q hq => h.2.2.2 ▸ mem_swap_app (A := [a]) (B := S.cells w (lineAt cs i') tl' i' tp' kA') hq, ex5i t' i' tl' tp' kA' ⟨h.1, h.2.1, h.2.2.1, rfl⟩⟩
end Mine
end

section
open PySem PySem.W PyProof.Rows
namespace Mine
theorem fill12 : PySem.Challenge.rw_sr0032_01.foot = 12 ∧ Mine.hd.heap_39 = Mine.hd.heap_39 := by
  k_fill
  exact ⟨rfl, rfl⟩
noncomputable def belowL (rs : List Int) : List Bool := (rs.filter (fun c => c != 0)).map (fun c => decide (c < 0))
noncomputable def bpairs (bs : List Bool) : List (Bool × Bool) := bs.zip (bs.drop 1)
noncomputable def chgB (bs : List Bool) : Nat := (bpairs bs).countP (fun p => p.1 != p.2)
noncomputable def chgL (rs : List Int) : Nat := chgB (belowL rs)
section
variable {prog : Program} {w : World} {A : Around} {E : Value → Shared → Prop} {s : Shared} {h₀ : Heap} {L : Addr} {m : Str → Option Value} {env : Env} {news : List (Addr × Obj)}
theorem below_snoc {rs : List Int} {i : Nat} {x : Int} (h : rs[i]? = some x) : belowL (rs.take (i + 1)) = belowL (rs.take i) ++ (if (x != 0) = true then [decide (x < 0)] else []) := by
  rw [List.take_add_one, h]
  unfold belowL
  cases hx : (x != 0) <;> simp [hx]
theorem below_src {a : Str} {iter : PySem.Expr} {pa p1 p2 p3 p4 p5 p6 : Pos} {k1 k2 : Nat} {scope : Scope} {cl : List (Str × Addr)} {pos : Pos} {K : Value → Addr → Result → Shared → Prop} {l : Addr} {rv : List Value} {rs : List Int} {k : Nat}
    (hI : IntsAre rv rs) (hh : A.handled = none) (F : Fr h₀ L s.heap m) (N : News h₀ L s.heap news) (hm : (l, listOf rv.toArray k) ∈ news) (hsz : rs.length ≤ 1000)
    (hcell : ∀ y ∈ scope.names, y.2 ≠ .cell) (hkind : scope.kind = .function) (hxa : scope.names.lookup a = some .local) (ha : (a == ("__debug__" : Str)) = false)
    (fin : ∀ D C h tk m', Fr h₀ L h m → News h₀ L h ((D, LCg.lst ((belowL rs).map .bool)) :: news) → (∀ p ∈ news, p.1 ≠ D) → h.Ns C m' → h₀.get? C = none → h₀.get? D = none → C ≠ L → D ≠ L → C ≠ D → (∀ p ∈ news, p.1 ≠ C) → K (.ref D) C (.ok .next) { s with heap := h, toks := tk }) :
    OneSrc prog w A E env (.Compare (.Name a p1) [.Lt] [.Constant (.int 0) k1 p2] p3) iter [.Compare (.Name a p4) [.NotEq] [.Constant (.int 0) k2 p5] p6] a pa scope cl pos K (.ref l) s := by
  refine one_list (xs := rv.toArray) (fun i zs => zs = (belowL (rs.take i)).map .bool) hh F N hm (by rw [List.size_toArray, hI.length]; (first | exact Nat.le_trans (by assumption) (by decide) | (rw [show sizeLine = 16777216 from rfl]; omega))) hcell hkind hxa rfl ?_ ?_
  · intro i x zs hx hA C m₂ s₃ E' hns h1 F₃ N₃
    obtain ⟨v, tv, rfl, hv⟩ := hI.at i x (by simpa using hx)
    have hfun : (compEnvC scope cl C env).scope.kind = .function := hkind
    have e := below_snoc hv
    refine wpAny_tests_one (wpAny_isTrue_Compare1 (wpAny_Name (wpAny_loadName_local hfun (lookup_relabel_local hxa) hns h1 ?_) ha))
    refine wpAny_Constant_int (ne_int (wpAny_truthy_bool ⟨⟨_, _, rfl, fun _ _ e => e⟩, ?_⟩))
    cases hc : (v != 0) with
    | false =>
      rw [hc] at e
      simp only [Bool.false_eq_true, if_false, List.append_nil] at e ⊢
      rw [hA, e]
    | true =>
      rw [hc] at e
      simp only [if_true] at e ⊢
      refine wpAny_Compare1 (wpAny_Name (wpAny_loadName_local hfun (lookup_relabel_local hxa) hns h1 ?_) ha)
      refine wpAny_Constant_int (lt_int ⟨⟨_, _, rfl, fun _ _ e => e⟩, ?_⟩)
      rw [hA, e, List.map_append]
      rfl
  · intro D C h tk m' zs hA F' N' o1 hn hC₀ hD₀ hCL hDL hCD oC
    have e9 : rs.take rv.toArray.size = rs := by rw [List.size_toArray, hI.length, List.take_length]
    rw [e9] at hA
    subst hA
    exact fin D C h tk m' F' N' o1 hn hC₀ hD₀ hCL hDL hCD oC
theorem chg_snoc {xs ys : List Bool} {i : Nat} {x y : Bool} (hx : xs[i]? = some x) (hy : ys[i]? = some y) : ((xs.zip ys).take (i + 1)).countP (fun p => p.1 != p.2) = ((xs.zip ys).take i).countP (fun p => p.1 != p.2) + (if (x != y) = true then 1 else 0) := by
  have h : (xs.zip ys)[i]? = some (x, y) := by rw [List.getElem?_zip_eq_some]; exact ⟨hx, hy⟩
  rw [List.take_add_one, h, List.countP_append]
  cases hc : (x != y) <;> simp [hc]
theorem chg_src {a b : Str} {iter : PySem.Expr} {pa pb tp p1 p2 p3 p4 : Pos} {kk k1 : Nat} {scope : Scope} {cl : List (Str × Addr)} {pos : Pos} {K : Value → Addr → Result → Shared → Prop} {l1 l2 : Addr} {xs ys : List Bool} {n1 n2 : Nat}
    (hh : A.handled = none) (F : Fr h₀ L s.heap m) (N : News h₀ L s.heap news) (hm1 : (l1, listOf (xs.map Value.bool).toArray n1) ∈ news) (hm2 : (l2, listOf (ys.map Value.bool).toArray n2) ∈ news) (hsz : xs.length ≤ 1000)
    (hcell : ∀ y ∈ scope.names, y.2 ≠ .cell) (hkind : scope.kind = .function) (hxa : scope.names.lookup a = some .local) (hxb : scope.names.lookup b = some .local) (hab : ¬ a = b)
    (ha : (a == ("__debug__" : Str)) = false) (hb : (b == ("__debug__" : Str)) = false)
    (fin : ∀ D C h tk m' zs, IntsAre zs (List.replicate ((xs.zip ys).countP (fun p => p.1 != p.2)) 1) → Fr h₀ L h m → News h₀ L h ((D, LCg.lst zs) :: news) → (∀ p ∈ news, p.1 ≠ D) → h.Ns C m' → h₀.get? C = none → h₀.get? D = none → C ≠ L → D ≠ L → C ≠ D → (∀ p ∈ news, p.1 ≠ C) → K (.ref D) C (.ok .next) { s with heap := h, toks := tk }) :
    wpAny (model prog w) A (call (.type "zip") [.ref l1, .ref l2]) (PairSrc prog w A E env (.Constant (.int 1) k1 p1) iter [.Compare (.Name a p2) [.NotEq] [.Name b p3] p4] a b pa pb tp kk scope cl pos K) E s := by
  refine zip_src (fun i zs => IntsAre zs (List.replicate (((xs.zip ys).take i).countP (fun p => p.1 != p.2)) 1)) hh F N hm1 hm2 (by rw [List.size_toArray, List.length_map]; (first | exact Nat.le_trans (by assumption) (by decide) | (rw [show sizeLine = 16777216 from rfl]; omega))) hcell hkind hxa hxb hab .nil ?_ ?_
  · intro i x y zs hxi hyi hA C m₂ s₃ E' hns h1 h2 F₃ N₃
    have hfun : (compEnvC scope cl C env).scope.kind = .function := hkind
    have hxi' : (xs[i]?).map Value.bool = some x := by simpa using hxi
    have hyi' : (ys[i]?).map Value.bool = some y := by simpa using hyi
    obtain ⟨u, hu, rfl⟩ := Option.map_eq_some_iff.mp hxi'
    obtain ⟨v, hv, rfl⟩ := Option.map_eq_some_iff.mp hyi'
    have e := chg_snoc hu hv
    refine wpAny_tests_one (wpAny_isTrue_Compare1 (wpAny_Name (wpAny_loadName_local hfun (lookup_relabel_local hxa) hns h1 ?_) ha))
    refine wpAny_Name (wpAny_loadName_local hfun (lookup_relabel_local hxb) hns h2 ?_) hb
    refine ne_bool (wpAny_truthy_bool ⟨⟨_, _, rfl, fun _ _ e => e⟩, ?_⟩)
    cases hc : (u != v) with
    | false =>
      rw [hc] at e
      simp only [Bool.false_eq_true, if_false, Nat.add_zero] at e ⊢
      rw [e]; exact hA
    | true =>
      rw [hc] at e
      simp only [if_true] at e ⊢
      refine wpAny_Constant_int ⟨⟨_, _, rfl, fun _ _ e => e⟩, ?_⟩
      rw [e, List.replicate_succ']
      exact hA.append (.cons _ _ .nil)
  · (try dsimp only)
    rw [List.take_of_length_le (by simp [List.length_zip])]
    exact fin
theorem max_min (n : Nat) : max (0 : Int) (min 1 (n : Int)) = ((min 1 n : Nat) : Int) := by
  cases n with
  | zero => rfl
  | succ k =>
    have h : (1 : Int) ≤ ((k + 1 : Nat) : Int) := Int.ofNat_le.mpr (Nat.succ_le_succ (Nat.zero_le k))
    rw [Nat.min_eq_left (Nat.succ_le_succ (Nat.zero_le k)), Int.min_eq_left h]; rfl
theorem pick_from1 (l : List Value) : slicePick l.toArray (some 1) none none = (l.drop 1).toArray := by
  have e : sliceBounds (some 1) none none l.toArray.size = (((min 1 l.length : Nat) : Int), ((l.length : Nat) : Int), 1) := by
    rw [List.size_toArray]
    have h1 : ¬ ((1 : Int) < 0) := by decide
    simp only [sliceBounds]
    simp
    exact max_min l.length
  rw [kmk_pick_nat _ e]
  congr 1
  show List.take (l.length - min 1 l.length) (List.drop (min 1 l.length) l) = List.drop 1 l
  rw [kmk_drop_min, List.take_of_length_le]
  rw [List.length_drop]
  exact Nat.sub_le_sub_left (Nat.min_le_left 1 l.length) _
end
end Mine
end

section
open PySem PySem.W PyProof.Rows
namespace Mine
theorem fill13 : PySem.Challenge.rw_sr0032_01.foot = 12 ∧ Mine.hd.heap_39 = Mine.hd.heap_39 := by
  k_fill
  exact ⟨rfl, rfl⟩
theorem belowL_length (rs : List Int) : (belowL rs).length ≤ rs.length := by
  unfold belowL
  rw [List.length_map]
  exact List.length_filter_le ..
theorem sum_ones : ∀ n : Nat, (List.replicate n (1 : Int)).sum = (n : Int)
  | 0 => rfl
  | n + 1 => by rw [List.replicate_succ, List.sum_cons, sum_ones n, Int.add_comm]; rfl
set_option maxRecDepth 100000 in
set_option maxHeartbeats 8000000 in
theorem chg_c (w : World) (p : Program) (loose : List Str) (mean : ExcName → Option Value) (mg mb : Str → Option Value) (news : List (Addr × Obj)) (l : Addr) (kk : Nat) (rv : List Value) (rs : List Int)
    (hI : IntsAre rv rs) (hlen : rs.length ≤ 10) :
    Con w p loose mean mg mb 20 194 [.ref l] [] ((l, listOf rv.toArray kk) :: news)
      (fun r news' => ∃ t3, r = .int ((chgL rs : Nat) : Int) t3 ∧ news' = (l, listOf rv.toArray kk) :: news) := by
  w_on
  w_strict (
    unfold Con
    intro dp un gd cn cn' cg cc cm a ccd cl outer A₀ base h₀ L m s R B F X N T hd hu hret
    (k_dflt k_enter)
    have hbl : (belowL rs).length ≤ 10 := Nat.le_trans (belowL_length rs) hlen
    repeat' (first
      | ((with_reducible show OneSrc _ _ _ _ _ _ _ _ _ _ _ _ _ _ _ _); fail "stop")
      | ((with_reducible show PairSrc _ _ _ _ _ _ _ _ _ _ _ _ _ _ _ _ _ _ _ _); fail "stop")
      | ((with_reducible show wpAny _ _ (exec (PySem.Stmt.Assign _ (PySem.Expr.ListComp _ _ _ _) _) _) _ _ _); refine one_assign (by with_unfolding_all rfl) (by with_unfolding_all rfl) rfl (by decide) ?_ (by intro _; rfl))
      | ((with_reducible show wpAny _ _ (eval (PySem.Expr.ListComp _ _ _ _) _) _ _ _); refine pairs_eval (by with_unfolding_all rfl) rfl (by decide) ?_ (by intro _; rfl))
      | ((with_reducible show wpAny _ _ (call (Value.type "zip") [Value.ref _, Value.ref _]) _ _ _); fail "zip")
      | (k_unfold; (try dsimp only))
      | ((fail_if_success (with_reducible show OneSrc _ _ _ _ _ _ _ _ _ _ _ _ _ _ _ _)); (fail_if_success (with_reducible show wpAny _ _ (call (Value.type "zip") [Value.ref _, Value.ref _]) _ _ _)); walk1)
      | ((fail_if_success (with_reducible show OneSrc _ _ _ _ _ _ _ _ _ _ _ _ _ _ _ _)); (fail_if_success (with_reducible show wpAny _ _ (call (Value.type "zip") [Value.ref _, Value.ref _]) _ _ _)); (dsimp only; walk1))
      | (leave1; try dsimp only)
      | fail "no step")
    refine below_src hI rfl (by k_asm) (by k_asm) (by k_mem) (by omega) (by decide) rfl rfl rfl ?_
    intro Dz Cz hz tkz mz Fz Nz offz hnz hC0z hD0z hCLz hDLz hCDz hoCz
    refine post_assign (by rfl) (by rfl) (by rfl) Fz Nz hnz hC0z hCLz hCDz hoCz ?_
    clear Fz Nz hnz hC0z hD0z hCLz hDLz hCDz hoCz
    intro hz2 tkz2 Fz2 Nz2
    repeat' (first
      | ((with_reducible show wpAny _ _ (eval (PySem.Expr.ListComp _ _ _ _) _) _ _ _); refine pairs_eval (by with_unfolding_all rfl) rfl (by decide) ?_ (by intro _; rfl))
      | ((with_reducible show wpAny _ _ (call (Value.type "zip") [Value.ref _, Value.ref _]) _ _ _); fail "zip")
      | (k_unfold; (try dsimp only))
      | ((fail_if_success (with_reducible show wpAny _ _ (call (Value.type "zip") [Value.ref _, Value.ref _]) _ _ _)); walk1)
      | ((fail_if_success (with_reducible show wpAny _ _ (call (Value.type "zip") [Value.ref _, Value.ref _]) _ _ _)); (dsimp only; walk1))
      | (leave1; try dsimp only)
      | fail "no step")
    (with_reducible rename Fr _ _ _ _ => F5)
    (with_reducible rename News _ _ _ _ => N5)
    rw [pick_from1, ← List.map_drop] at N5
    refine chg_src (xs := belowL rs) (ys := (belowL rs).drop 1) rfl (by k_asm) N5 (.tail _ (.head _)) (.head _) (Nat.le_trans hbl (by decide)) (by decide) rfl rfl rfl (by decide) rfl rfl ?_
    intro Dy Cy hy tky my zsy hzy Fy Ny offy hny hC0y hD0y hCLy hDLy hCDy hoCy
    refine post_eval Fy Ny hny hC0y hCLy hCDy hoCy ?_
    clear Fy Ny hny hC0y hD0y hCLy hDLy hCDy hoCy offy
    intro hy2 Fy2 Ny2
    have Ny3 := subN Ny2 (news := (Dy, listOf zsy.toArray zsy.length) :: (l, listOf rv.toArray kk) :: news) (.cons_cons _ (.cons _ (.cons _ (List.Sublist.refl _))))
    clear Ny2 N5 Nz2
    have hcz : (List.replicate (((belowL rs).zip ((belowL rs).drop 1)).countP (fun p => p.1 != p.2)) (1 : Int)).length ≤ 10 := by
      rw [List.length_replicate]
      refine Nat.le_trans List.countP_le_length ?_
      rw [List.length_zip]
      exact Nat.le_trans (Nat.min_le_left _ _) hbl
    generalize hZ9 : List.replicate (((belowL rs).zip ((belowL rs).drop 1)).countP (fun p => p.1 != p.2)) (1 : Int) = Z9 at hzy hcz
    repeat' (first
      | (k_unfold; (try dsimp only))
      | (walk1)
      | ((dsimp only; walk1))
      | (leave1; try dsimp only)
      | fail "no step")
    have eZ : Z9.sum = ((chgL rs : Nat) : Int) := by rw [← hZ9, sum_ones]; rfl
    rw [eZ]
    (with_reducible rename News _ _ _ _ => kN)
    exact hret _ _ _ _ ⟨_, rfl, rfl⟩ (by assumption) (subN kN (.cons _ (List.Sublist.refl _))))
end Mine
end

section
open PySem PySem.W PyProof.Rows
namespace Mine
theorem fill10 : PySem.Challenge.rw_sr0032_01.foot = 12 ∧ Mine.hd.heap_39 = Mine.hd.heap_39 := by
  k_fill
  exact ⟨rfl, rfl⟩
noncomputable def addHead (c : Int) : List Int → List Int
  | [] => []
  | a :: r => (a + c) :: r
noncomputable def seenStep (pl : Int) (seen : List Int) (c : Int) : List Int := addHead c (stepL (fun u v => u + pl * v) seen)
noncomputable def seenL (pl : Int) (rs : List Int) : List Int := rs.reverse.foldl (seenStep pl) []
theorem addHead_length (c : Int) : ∀ l : List Int, (addHead c l).length = l.length
  | [] => rfl
  | _ :: _ => rfl
theorem seenStep_length (pl : Int) (seen : List Int) (c : Int) : (seenStep pl seen c).length = seen.length + 1 := by rw [seenStep, addHead_length, stepL_length]
theorem foldl_seen_length (pl : Int) : ∀ (xs r : List Int), (xs.foldl (seenStep pl) r).length = r.length + xs.length
  | [], r => rfl
  | x :: xs, r => by rw [List.foldl_cons, foldl_seen_length pl xs, seenStep_length, List.length_cons, Nat.add_right_comm, Nat.add_assoc]
theorem set_addHead (c : Int) : ∀ l : List Int, l.set 0 (l.getD 0 0 + c) = addHead c l
  | [] => rfl
  | _ :: _ => rfl
theorem take_snoc_get {ns : List Int} {i : Nat} {x : Int} (h : ns[i]? = some x) : ns.take (i + 1) = ns.take i ++ [x] := by rw [List.take_add_one, h]; rfl
set_option maxRecDepth 100000 in
set_option maxHeartbeats 8000000 in
theorem seen_c (w : World) (p : Program) (loose : List Str) (mean : ExcName → Option Value) (mg mb : Str → Option Value) (news : List (Addr × Obj)) (l : Addr) (kk : Nat) (rv : List Value) (rs : List Int) (pl : Int) (t : Tok)
    (hI : IntsAre rv rs) (hlen : rs.length ≤ 6) (hp1 : -3 ≤ pl) (hp2 : pl ≤ 3) :
    Con w p loose mean mg mb 20 189 [.ref l, .int pl t] [] ((l, listOf rv.toArray kk) :: news)
      (fun r news' => ∃ D zs k, r = .ref D ∧ IntsAre zs (seenL pl rs) ∧ (∀ q ∈ (l, listOf rv.toArray kk) :: news, q.1 ≠ D) ∧ news' = (D, listOf zs.toArray k) :: (l, listOf rv.toArray kk) :: news) := by
  w_on
  w_strict (
    unfold Con
    intro dp un gd cn cn' cg cc cm a ccd cl outer A₀ base h₀ L m s R B F X N T hd hu hret
    (k_dflt k_enter)
    repeat' (first
      | ((with_reducible show ForSrc _ _ _ _ _ _ _ _ _ _); fail "stop")
      | ((with_reducible show wpAny _ _ (exec (PySem.Stmt.For _ _ _ _ _) _) _ _ _); refine for_src ?_ (by intro _; rfl) (by first | passes_own | with_unfolding_all passes_own))
      | (k_unfold; (try dsimp only))
      | ((fail_if_success (with_reducible show ForSrc _ _ _ _ _ _ _ _ _ _)); walk1)
      | ((fail_if_success (with_reducible show ForSrc _ _ _ _ _ _ _ _ _ _)); (dsimp only; walk1))
      | (leave1; try dsimp only)
      | fail "no step")
    rename_i Lc _ _ _ _ _ _ hl9 oc hoc lS _ hlS _ Dr ws _ F1 N1 hI1 _ hD1
    have hoc1 : oc.data = .cell (some (.int pl t)) := hoc
    have offS : ∀ q ∈ news, q.1 ≠ lS := allLt_ne hlS.2.2
    have offDr : ∀ q ∈ news, q.1 ≠ Dr := allLt_ne hD1.2.2.2
    have offLc : ∀ q ∈ news, q.1 ≠ Lc + 1 := allLt_ne (allLt_le (Nat.le_succ _) hl9.2)
    refine forsrc_list3 (its := ws.toArray) (kk := 0) (l := Dr) (fun (c : Addr) (cz : List Value) (ck : Nat) => (c, listOf cz.toArray ck) :: (Lc + 1, oc) :: (Dr, listOf ws.toArray 0) :: (l, listOf rv.toArray kk) :: news) (fun c _ _ => [(Str.ofString "seen", .ref c)]) [Str.ofString "c", Str.ofString "seen"]
      (fun i c cz _ => IntsAre cz ((rs.reverse.take i).foldl (seenStep pl) []) ∧ (∀ q ∈ (Lc + 1, oc) :: (Dr, listOf ws.toArray 0) :: (l, listOf rv.toArray kk) :: news, q.1 ≠ c)) lS [] 0 rfl F1 (subM N1 (by repeat (first | (intro q hq; (repeat (first | exact hq | refine List.Mem.tail _ ?_)); done) | refine sub_cons (by repeat (first | exact List.Mem.head _ | refine List.Mem.tail _ ?_)) ?_))) ⟨rfl, trivial⟩ ⟨.nil, ?_⟩ (fun _ _ _ => .tail _ (.tail _ (.head _))) ?_ ?_
    · exact mem_cons_ne (Nat.ne_of_lt hlS.1) (mem_cons_ne (Nat.ne_of_gt hD1.1) (mem_cons_ne (Nat.ne_of_lt hlS.2.1) offS))
    · intro i v l9 zs9 k9 u9 I9 oI9 h9 tk9 T9 hT9 hv hi hJ9 F9 N9 off9 hLI9
      have hz9 := hJ9.1
      have hoff9 := hJ9.2
      clear hJ9
      refine ints_at (v := v) (i := i) hI1 (by simpa using hv) fun x9 tx9 hx9 => ?_
      have hlen9 : (List.foldl (seenStep pl) [] (List.take i rs.reverse)).length ≤ 6 := by
        rw [foldl_seen_length, List.length_take, List.length_reverse, List.length_nil, Nat.zero_add]
        exact Nat.le_trans (Nat.min_le_right _ _) hlen
      generalize hS9 : List.foldl (seenStep pl) [] (List.take i rs.reverse) = S9 at hz9 hlen9
      have hsA : ([0] : List Int).length + S9.length ≤ sizeLine := by rw [show sizeLine = 16777216 from rfl, List.length_singleton]; omega
      have hsB : S9.length + ([0] : List Int).length ≤ sizeLine := by rw [show sizeLine = 16777216 from rfl, List.length_singleton]; omega
      repeat' (first
        | ((with_reducible show T9 _ _); rw [hT9]; dsimp only [TurnF])
        | ((with_reducible show ListEnd _ _ _ _ _ _ _ _ _ _ _); fail "stop")
        | ((with_reducible show wpAny _ _ (exec (PySem.Stmt.Assign _ (PySem.Expr.ListComp _ _ _ _) _) _) _ _ _); refine pairs_assign (by with_unfolding_all rfl) (by with_unfolding_all rfl) rfl (by decide) ?_ (by intro _; rfl))
        | ((with_reducible show wpAny _ _ (call (Value.type "zip") [Value.ref _, Value.ref _]) _ _ _); fail "zip")
        | ((with_reducible show wpAny _ _ (binaryOp Operator.Add (Value.ref _) (Prod.snd _)) _ _ _); dsimp only; k_dflt (refine kmk_add_ints (by k_asm) (by k_asm) (News.isList (by k_asm) (by k_mem)) (News.isList (by k_asm) (by k_mem)) (.cons _ _ .nil) hz9 ?_ hsA); intro D' ws' h' F' N' l1 hI'; (try k_lt l1))
        | ((with_reducible show wpAny _ _ (binaryOp Operator.Add (Value.ref l9) (Value.ref _)) _ _ _); dsimp only; k_dflt (refine kmk_add_ints (by k_asm) (by k_asm) (News.isList (by k_asm) (by k_mem)) (News.isList (by k_asm) (by k_mem)) hz9 (.cons _ _ .nil) ?_ hsB); intro D' ws' h' F' N' l1 hI'; (try k_lt l1))
        | (k_unfold; (try dsimp only))
        | ((fail_if_success (with_reducible show ListEnd _ _ _ _ _ _ _ _ _ _ _)); (fail_if_success (with_reducible show wpAny _ _ (call (Value.type "zip") [Value.ref _, Value.ref _]) _ _ _)); walk1)
        | ((fail_if_success (with_reducible show ListEnd _ _ _ _ _ _ _ _ _ _ _)); (fail_if_success (with_reducible show wpAny _ _ (call (Value.type "zip") [Value.ref _, Value.ref _]) _ _ _)); (dsimp only; walk1))
        | (leave1; try dsimp only)
        | fail "no step")
      refine zip_mul (fun u v => u + v) (fun _ _ _ _ _ _ _ h => add_int h) rfl (by k_asm) (by k_asm) (by k_mem) (by k_mem) (us := [0] ++ S9) (ss := S9 ++ [0]) (by assumption) (by assumption) (by simp) (by simp; omega) (by decide) rfl rfl rfl (by decide) rfl rfl (by k_mem) hoc1 hp1 hp2 rfl rfl rfl ?_
      intro Dz Cz hz tkz mz zsz hzz Fz Nz offz hnz hC0z hD0z hCLz hDLz hCDz hoCz
      refine post_assign (L := Lc) (by rfl) (by rfl) (by rfl) Fz Nz hnz hC0z hCLz hCDz hoCz ?_
      clear Fz Nz hnz hC0z hD0z hCLz hDLz hCDz hoCz
      intro hz2 tkz2 Fz2 Nz2
      have Nz3 : News _ _ hz2 ((Dz, listOf zsz.toArray zsz.length) :: (I9, oI9) :: (Lc + 1, oc) :: (Dr, listOf ws.toArray 0) :: (l, listOf rv.toArray kk) :: news) := subM Nz2 (by repeat (first | (intro q hq; (repeat (first | exact hq | refine List.Mem.tail _ ?_)); done) | refine sub_cons (by repeat (first | exact List.Mem.head _ | refine List.Mem.tail _ ?_)) ?_))
      have offz2 : ∀ q ∈ (I9, oI9) :: (Lc + 1, oc) :: (Dr, listOf ws.toArray 0) :: (l, listOf rv.toArray kk) :: news, q.1 ≠ Dz := offM offz (by repeat (first | (intro q hq; (repeat (first | exact hq | refine List.Mem.tail _ ?_)); done) | refine sub_cons (by repeat (first | exact List.Mem.head _ | refine List.Mem.tail _ ?_)) ?_))
      clear Nz2 offz
      generalize hZ9 : List.zipWith (fun u v => u + pl * v) ([0] ++ S9) (S9 ++ [0]) = Z9 at hzz
      have hZl : ((0 : Nat) : Int) < ((Z9.length : Nat) : Int) := by rw [← hZ9]; simp
      repeat' (first
        | ((with_reducible show T9 _ _); rw [hT9]; dsimp only [TurnF])
        | ((with_reducible show ListEnd _ _ _ _ _ _ _ _ _ _ _); fail "stop")
        | ((with_reducible show wpAny _ _ (setItem (Value.ref Dz) (Value.int _ _) (Value.int _ _)) _ _ _); k_dflt (refine ksa_set (D := Dz) (by k_asm) Nz3 (Upd.head offz2) hzz (by decide) hZl (by decide) ?_); intro hz4 Fz4 Nz4 hI4 _ _)
        | (k_unfold; (try dsimp only))
        | ((fail_if_success (with_reducible show ListEnd _ _ _ _ _ _ _ _ _ _ _)); walk1)
        | ((fail_if_success (with_reducible show ListEnd _ _ _ _ _ _ _ _ _ _ _)); (dsimp only; walk1))
        | (leave1; try dsimp only)
        | fail "no step")
      refine ListEnd.intro0 (Dz, zsz.set 0 _, _) Fz4 (swapN Nz4) (mem_cons_ne (Ne.symm (offz2 _ (.head _))) (fun q hq => off9 q (.tail _ hq))) ⟨rfl, trivial⟩ ?_ ⟨?_, fun q hq => offz2 q (.tail _ hq)⟩
      · intro z h2 h3
        repeat (first | exact if_out h3 | refine if_skip (off2 h3).1 ?_ | refine if_skip (off2 h3).2 ?_)
      · dsimp only
        rw [take_snoc_get hx9, List.foldl_append, hS9, List.foldl_cons, List.foldl_nil]
        show IntsAre _ (addHead x9 (stepL (fun u v => u + pl * v) S9))
        rw [← set_addHead]
        have e9 : stepL (fun u v => u + pl * v) S9 = Z9 := hZ9
        rw [e9]
        exact hI4
    · intro l9 zs9 k9 u9 h9 tk9 hJ9 F9 N9
      have hz9 := hJ9.1
      have hoff9 := hJ9.2
      clear hJ9
      repeat' (first
        | (k_unfold; (try dsimp only))
        | walk1
        | (dsimp only; walk1)
        | (leave1; try dsimp only)
        | fail "no step")
      have e9 : rs.reverse.take ws.toArray.size = rs.reverse := by rw [List.size_toArray, hI1.length, List.take_length]
      rw [e9] at hz9
      (with_reducible rename News _ _ _ _ => kN)
      exact hret _ _ _ _ (ex3i l9 zs9 k9 ⟨rfl, hz9, fun q hq => hoff9 q (.tail _ (.tail _ hq)), rfl⟩) (by assumption) (subN kN (.cons₂ _ (.cons _ (.cons _ (List.Sublist.refl _))))))
end Mine
end

section
open PySem PySem.W PyProof.Rows
namespace Mine
noncomputable def turnV (i : Nat) (c : Int) : Int := if i % 2 = 1 then -c else c
noncomputable def turnedL (sn : List Int) : List Int := sn.mapIdx turnV
noncomputable def nonzL (sn : List Int) : List Int := ((List.range sn.length).filter (fun k => sn.getD k 0 != 0)).map (fun k : Nat => (k : Int))
theorem rangeSize_len (n : Nat) : Builtin.Range.rangeSize 0 (n : Int) 1 = ((n : Nat) : Int) := by
  unfold Builtin.Range.rangeSize
  rw [if_pos (by decide)]
  split
  · rw [Int.ediv_one]; omega
  · omega
section
variable {prog : Program} {w : World} {A : Around} {E : Value → Shared → Prop} {s : Shared} {h₀ : Heap} {L : Addr} {m : Str → Option Value} {env : Env} {news : List (Addr × Obj)}
theorem turned_src {a f : Str} {iter : PySem.Expr} {pa p1 p2 p3 p4 p5 p6 p7 p8 p9 q1 q2 q3 q4 : Pos} {k1 k2 : Nat} {scope : Scope} {cl : List (Str × Addr)} {pos : Pos} {K : Value → Addr → Result → Shared → Prop} {l : Addr} {zs : List Value} {sn : List Int} {k : Nat} {r : Addr} {t u v : Tok} {c : Addr} {oc : Obj}
    (hI : IntsAre zs sn) (hh : A.handled = none) (F : Fr h₀ L s.heap m) (N : News h₀ L s.heap news) (hm : (l, listOf zs.toArray k) ∈ news) (hsz : sn.length ≤ 1000)
    (hr : IsRange s.heap r 0 (sn.length : Int) 1 t u v) (hsm : Builtin.Range.small 0 (sn.length : Int) 1 = true)
    (hcell : ∀ y ∈ scope.names, y.2 ≠ .cell) (hkind : scope.kind = .function) (hxa : scope.names.lookup a = some .local) (ha : (a == ("__debug__" : Str)) = false)
    (hf : (relabel scope env).names.lookup f = some .cell) (hcl : cl.lookup f = some c) (hmc : (c, oc) ∈ news) (hoc : oc.data = .cell (some (.ref l))) (hfd : (f == ("__debug__" : Str)) = false)
    (fin : ∀ D C h tk m' ys, IntsAre ys (turnedL sn) → Fr h₀ L h m → News h₀ L h ((D, LCg.lst ys) :: news) → (∀ p ∈ news, p.1 ≠ D) → h.Ns C m' → h₀.get? C = none → h₀.get? D = none → C ≠ L → D ≠ L → C ≠ D → (∀ p ∈ news, p.1 ≠ C) → K (.ref D) C (.ok .next) { s with heap := h, toks := tk }) :
    OneSrc prog w A E env (.IfExp (.Compare (.BinOp (.Name a p1) .Mod (.Constant (.int 2) k1 p2) p3) [.Eq] [.Constant (.int 1) k2 p4] p5) (.UnaryOp .USub (.Subscript (.Name f p6) (.Name a p7) p8) p9) (.Subscript (.Name f q1) (.Name a q2) q3) q4) iter [] a pa scope cl pos K (.ref r) s := by
  have hn : Builtin.Range.rangeSize 0 (sn.length : Int) 1 = ((sn.length : Nat) : Int) := by
    exact rangeSize_len sn.length
  refine one_range (n := sn.length) (fun i ys => IntsAre ys ((turnedL sn).take i)) hh F N hr hsm hn (by (first | exact Nat.le_trans (by assumption) (by decide) | (rw [show sizeLine = 16777216 from rfl]; omega))) hcell hkind hxa .nil ?_ ?_
  · intro i ti ys hi hA C m₂ s₃ E' hns h1 F₃ N₃
    have hfun : (compEnvC scope cl C env).scope.kind = .function := hkind
    have hfk : (compEnvC scope cl C env).kindOf f = some .cell := hf
    have e0 : (0 : Int) + (i : Int) = (i : Int) := Int.zero_add _
    rw [e0] at h1
    have hni : sn[i]? = some (sn.getD i 0) := by rw [List.getD_eq_getElem?_getD, List.getElem?_eq_getElem hi]; rfl
    have ht : (turnedL sn)[i]? = some (turnV i (sn.getD i 0)) := by
      rw [turnedL, List.getElem?_mapIdx, hni]; rfl
    have hsub : ∀ (Q : Value → Shared → Prop) (E : Value → Shared → Prop) (s₄ : Shared) (p q r : Pos), s₄.heap.Ns C m₂ → News h₀ L s₄.heap news → (∀ t, Q (.int (sn.getD i 0) t) s₄) →
        wpAny (model prog w) A (eval (.Subscript (.Name f p) (.Name a q) r) (compEnvC scope cl C env)) Q E s₄ := by
      intro Q E s₄ p q r hns₄ N₄ hQ
      refine Subscript_ ?_
      refine wpAny_Name (wpAny_loadName_cell (c := c) (v := .ref l) hfun hfk hcl ⟨oc, (N₄ _ hmc).1, hoc⟩ ?_) hfd
      refine wpAny_Name (wpAny_loadName_local hfun (lookup_relabel_local hxa) hns₄ h1 ?_) ha
      refine item_anyK ⟨_, (N₄ _ hm).1, rfl, _, rfl⟩ hI (by omega) (by omega) (by omega) ?_
      intro t
      rw [Int.toNat_natCast]
      exact hQ t
    refine wpAny_tests_nil ⟨keeps_refl' _, ?_⟩
    simp only [if_true]
    refine wpAny_IfExp (wpAny_isTrue_Compare1 (wpAny_BinOp (wpAny_Name (wpAny_loadName_local hfun (lookup_relabel_local hxa) hns h1 ?_) ha)))
    refine wpAny_Constant_int (mod_int (by decide) (wpAny_Constant_int (eq_int (wpAny_truthy_bool ?_))))
    cases hc : ((i : Int).fmod 2 == 1) with
    | false =>
      simp only [Bool.false_eq_true, if_false]
      refine hsub _ _ _ _ _ _ hns N₃ fun t => ⟨⟨_, _, rfl, fun _ _ e => e⟩, ?_⟩
      refine ints_take_snoc hA ?_
      rw [ht, turnV, if_neg]
      rw [Int.fmod_eq_emod_of_nonneg _ (by decide)] at hc
      exact fun e => ne_of_beq_false hc (congrArg Int.ofNat e)
    | true =>
      simp only [if_true]
      refine wpAny_UnaryOp (hsub _ _ _ _ _ _ hns N₃ fun t => neg_int ⟨⟨_, _, rfl, fun _ _ e => e⟩, ?_⟩)
      refine ints_take_snoc hA ?_
      rw [ht, turnV, if_pos]
      rw [Int.fmod_eq_emod_of_nonneg _ (by decide)] at hc
      exact Int.ofNat.inj (eq_of_beq hc)
  · (try dsimp only)
    rw [List.take_of_length_le (by simp [turnedL])]
    exact fin
theorem nonz_src {a f : Str} {iter : PySem.Expr} {pa p1 p2 p3 p4 p5 p6 : Pos} {k1 : Nat} {scope : Scope} {cl : List (Str × Addr)} {pos : Pos} {K : Value → Addr → Result → Shared → Prop} {l : Addr} {zs : List Value} {sn : List Int} {k : Nat} {r : Addr} {t u v : Tok} {c : Addr} {oc : Obj}
    (hI : IntsAre zs sn) (hh : A.handled = none) (F : Fr h₀ L s.heap m) (N : News h₀ L s.heap news) (hm : (l, listOf zs.toArray k) ∈ news) (hsz : sn.length ≤ 1000)
    (hr : IsRange s.heap r 0 (sn.length : Int) 1 t u v) (hsm : Builtin.Range.small 0 (sn.length : Int) 1 = true)
    (hcell : ∀ y ∈ scope.names, y.2 ≠ .cell) (hkind : scope.kind = .function) (hxa : scope.names.lookup a = some .local) (ha : (a == ("__debug__" : Str)) = false)
    (hf : (relabel scope env).names.lookup f = some .cell) (hcl : cl.lookup f = some c) (hmc : (c, oc) ∈ news) (hoc : oc.data = .cell (some (.ref l))) (hfd : (f == ("__debug__" : Str)) = false)
    (fin : ∀ D C h tk m' ys, IntsAre ys (nonzL sn) → Fr h₀ L h m → News h₀ L h ((D, LCg.lst ys) :: news) → (∀ p ∈ news, p.1 ≠ D) → h.Ns C m' → h₀.get? C = none → h₀.get? D = none → C ≠ L → D ≠ L → C ≠ D → (∀ p ∈ news, p.1 ≠ C) → K (.ref D) C (.ok .next) { s with heap := h, toks := tk }) :
    OneSrc prog w A E env (.Name a p1) iter [.Compare (.Subscript (.Name f p2) (.Name a p3) p4) [.NotEq] [.Constant (.int 0) k1 p5] p6] a pa scope cl pos K (.ref r) s := by
  have hn : Builtin.Range.rangeSize 0 (sn.length : Int) 1 = ((sn.length : Nat) : Int) := by
    exact rangeSize_len sn.length
  refine one_range (n := sn.length) (fun i ys => IntsAre ys (((List.range i).filter (fun k => sn.getD k 0 != 0)).map (fun k : Nat => (k : Int)))) hh F N hr hsm hn (by (first | exact Nat.le_trans (by assumption) (by decide) | (rw [show sizeLine = 16777216 from rfl]; omega))) hcell hkind hxa .nil ?_ ?_
  · intro i ti ys hi hA C m₂ s₃ E' hns h1 F₃ N₃
    have hfun : (compEnvC scope cl C env).scope.kind = .function := hkind
    have hfk : (compEnvC scope cl C env).kindOf f = some .cell := hf
    have e0 : (0 : Int) + (i : Int) = (i : Int) := Int.zero_add _
    rw [e0] at h1
    refine wpAny_tests_one (wpAny_isTrue_Compare1 (Subscript_ ?_))
    refine wpAny_Name (wpAny_loadName_cell (c := c) (v := .ref l) hfun hfk hcl ⟨oc, (N₃ _ hmc).1, hoc⟩ ?_) hfd
    refine wpAny_Name (wpAny_loadName_local hfun (lookup_relabel_local hxa) hns h1 ?_) ha
    refine item_anyK ⟨_, (N₃ _ hm).1, rfl, _, rfl⟩ hI (by omega) (by omega) (by omega) ?_
    intro t
    rw [Int.toNat_natCast]
    refine wpAny_Constant_int (ne_int (wpAny_truthy_bool ⟨⟨_, _, rfl, fun _ _ e => e⟩, ?_⟩))
    have e := List.range_succ (n := i)
    cases hc : (sn.getD i 0 != 0) with
    | false =>
      simp only [Bool.false_eq_true, if_false]
      rw [e, List.filter_append, List.filter_cons_of_neg (by rw [hc]; decide), List.filter_nil, List.append_nil]
      exact hA
    | true =>
      simp only [if_true]
      refine wpAny_Name (wpAny_loadName_local hfun (lookup_relabel_local hxa) hns h1 ⟨⟨_, _, rfl, fun _ _ e => e⟩, ?_⟩) ha
      rw [e, List.filter_append, show List.filter (fun k => sn.getD k 0 != 0) [i] = [i] by simp only [List.filter, hc], List.map_append]
      exact hA.append (.cons _ _ .nil)
  · exact fin
end
end Mine
end

section
open PySem PySem.W PyProof.Rows
namespace Mine
theorem fill14 : PySem.Challenge.rw_sr0032_01.foot = 12 ∧ Mine.hd.heap_39 = Mine.hd.heap_39 := by
  k_fill
  exact ⟨rfl, rfl⟩
theorem seenL_length (pl : Int) (rs : List Int) : (seenL pl rs).length = rs.length := by
  unfold seenL
  rw [foldl_seen_length, List.length_reverse, List.length_nil]
  omega
theorem small_len (n : Nat) (h : n ≤ 6) : Builtin.Range.small 0 (n : Int) 1 = true := by
  revert n
  exact (by decide : ∀ n : Nat, n ≤ 6 → Builtin.Range.small 0 (n : Int) 1 = true)
theorem seen_m {w : World} {p : Program} {loose : List Str} {mean : ExcName → Option Value} {mg mb : Str → Option Value} {news : List (Addr × Obj)} {l : Addr} {kk : Nat} {rv : List Value} {rs : List Int} {pl : Int} {t : Tok}
    (hm : (l, listOf rv.toArray kk) ∈ news) (hI : IntsAre rv rs) (hlen : rs.length ≤ 6) (hp1 : -3 ≤ pl) (hp2 : pl ≤ 3) :
    Con w p loose mean mg mb 20 189 [.ref l, .int pl t] [] news (fun r news' => ∃ D zs k, r = .ref D ∧ IntsAre zs (seenL pl rs) ∧ (∀ q ∈ news, q.1 ≠ D) ∧ news' = (D, listOf zs.toArray k) :: news) :=
  (seen_c w p loose mean mg mb news l kk rv rs pl t hI hlen hp1 hp2).mem hm (fun r news' h => ex3e h fun D zs k h => ⟨_, h.2.2.2 ▸ .cons_cons _ (.cons _ (List.Sublist.refl _)), ex3i D zs k ⟨h.1, h.2.1, fun q hq => h.2.2.1 q (.tail _ hq), rfl⟩⟩)
theorem chg_m {w : World} {p : Program} {loose : List Str} {mean : ExcName → Option Value} {mg mb : Str → Option Value} {news : List (Addr × Obj)} {l : Addr} {kk : Nat} {rv : List Value} {rs : List Int}
    (hm : (l, listOf rv.toArray kk) ∈ news) (hI : IntsAre rv rs) (hlen : rs.length ≤ 10) :
    Con w p loose mean mg mb 20 194 [.ref l] [] news (fun r news' => ∃ t3, r = .int ((chgL rs : Nat) : Int) t3 ∧ news' = news) :=
  (chg_c w p loose mean mg mb news l kk rv rs hI hlen).mem hm (fun r news' h => ex1e h fun t3 h => ⟨_, h.2 ▸ .cons _ (List.Sublist.refl _), t3, h.1, rfl⟩)
set_option maxRecDepth 100000 in
set_option maxHeartbeats 8000000 in
theorem signs_c (w : World) (p : Program) (loose : List Str) (mean : ExcName → Option Value) (mg mb : Str → Option Value) (news : List (Addr × Obj)) (l : Addr) (kk : Nat) (rv : List Value) (rs : List Int) (pl : Int) (t : Tok)
    (hI : IntsAre rv rs) (hlen : rs.length ≤ 6) (hp1 : -3 ≤ pl) (hp2 : pl ≤ 3) (hnz : nonzL (seenL pl rs) ≠ []) :
    Con w p loose mean mg mb 40 199 [.ref l, .int pl t] [] ((l, listOf rv.toArray kk) :: news)
      (fun r news' => ∃ D t1 t2 t3 M, r = .ref D ∧ M ∈ nonzL (seenL pl rs) ∧ (∀ b, b ∈ nonzL (seenL pl rs) → M ≤ b) ∧ (∀ q ∈ (l, listOf rv.toArray kk) :: news, q.1 ≠ D) ∧
        news' = (D, listOf #[.int ((chgL (turnedL (seenL pl rs)) : Nat) : Int) t1, .int M t2, .int ((chgL (seenL pl rs) : Nat) : Int) t3] 0) :: (l, listOf rv.toArray kk) :: news) := by
  w_on
  w_strict (
    unfold Con
    intro dp un gd cn cn' cg cc cm a ccd cl outer A₀ base h₀ L m s R B F X N T hd hu hret
    (k_dflt k_enter)
    have hsl : (seenL pl rs).length ≤ 6 := by rw [seenL_length]; exact hlen
    repeat' (first
      | ((with_reducible show OneSrc _ _ _ _ _ _ _ _ _ _ _ _ _ _ _ _); fail "stop")
      | ((with_reducible show wpAny _ _ (call (Value.ref 189) _) _ _ _); k_dflt (refine wpAny_call (Con.l3pp (by k_asm) (by k_asm) (by k_asm) (by k_asm) (by k_asm) rfl (seen_m (by k_mem) hI hlen hp1 hp2) (by first | exact lt0 (by assumption) (by decide) | exact lt1 (by assumption) (by decide) | exact lt2 (by assumption) (by decide) | exact lt3 (by assumption) (by decide) | exact lt4 (by assumption) (by decide) | ktr_room) (by first | exact lt0 (by assumption) (by decide) | exact lt1 (by assumption) (by decide) | exact lt2 (by assumption) (by decide) | exact lt3 (by assumption) (by decide) | exact lt4 (by assumption) (by decide) | ktr_units) ?_)); intro DS zsS kS h' tk' hzS hoffS F' N'; (try dsimp only))
      | ((with_reducible show wpAny _ _ (exec (PySem.Stmt.Assign _ (PySem.Expr.ListComp _ _ _ _) _) _) _ _ _); refine one_assign (by with_unfolding_all rfl) (by with_unfolding_all rfl) rfl (by decide) ?_ (by intro _; rfl))
      | (k_unfold; (try dsimp only))
      | ((fail_if_success (with_reducible show OneSrc _ _ _ _ _ _ _ _ _ _ _ _ _ _ _ _)); (walk1 <;> (try dsimp only)))
      | ((fail_if_success (with_reducible show OneSrc _ _ _ _ _ _ _ _ _ _ _ _ _ _ _ _)); (dsimp only; walk1))
      | (leave1; try dsimp only)
      | fail "no step")
    (with_reducible rename Fr _ _ _ _ => F5)
    (with_reducible rename News _ _ _ _ => N5)
    rename_i Lc _ _ _ _ _ _ _ hl5 oc hoc _
    have offLc : ∀ q ∈ (l, listOf rv.toArray kk) :: news, q.1 ≠ Lc + 1 := mem_cons_ne (Nat.ne_of_lt (Nat.lt_succ_of_lt hl5.1)) (allLt_ne (allLt_le (Nat.le_succ _) hl5.2))
    refine store_cell (c := Lc + 1) (oc := oc) (v₀ := none) (rest := (DS, listOf zsS.toArray kS) :: (l, listOf rv.toArray kk) :: news) F5 (swapN N5) (mem_cons_ne (Ne.symm (hoffS _ (.head _))) offLc) hoc (by rfl) (by rfl) (by rfl) ?_
    clear F5 N5
    intro h6 oc6 hoc6 F6 N6
    dsimp only
    generalize hSN : seenL pl rs = SN at hzS hsl hnz
    have hfin : True := trivial
    repeat' (first
      | ((with_reducible show OneSrc _ _ _ _ _ _ _ _ _ _ _ _ _ _ _ _); fail "stop")
      | ((with_reducible show wpAny _ _ (exec (PySem.Stmt.Assign _ (PySem.Expr.ListComp _ _ _ _) _) _) _ _ _); refine one_assign (by with_unfolding_all rfl) (by with_unfolding_all rfl) rfl (by decide) ?_ (by intro _; rfl))
      | (k_unfold; (try dsimp only))
      | ((fail_if_success (with_reducible show OneSrc _ _ _ _ _ _ _ _ _ _ _ _ _ _ _ _)); (walk1 <;> (try dsimp only)))
      | ((fail_if_success (with_reducible show OneSrc _ _ _ _ _ _ _ _ _ _ _ _ _ _ _ _)); (dsimp only; walk1))
      | (leave1; try dsimp only)
      | fail "no step")
    (with_reducible rename Fr _ _ _ _ => F7)
    (with_reducible rename News _ _ _ _ => N7)
    (with_reducible rename IsRange _ _ _ _ _ _ _ _ => hr7)
    refine turned_src hzS (by rfl) F7 N7 (.tail _ (.head _)) (by omega) hr7 (small_len _ hsl) (by decide) rfl rfl rfl rfl rfl (.head _) hoc6 rfl ?_
    intro Dz Cz hz tkz mz ysT hyT Fz Nz offz hnzz hC0z hD0z hCLz hDLz hCDz hoCz
    refine post_assign (by rfl) (by rfl) (by rfl) Fz Nz hnzz hC0z hCLz hCDz hoCz ?_
    clear Fz Nz hnzz hC0z hD0z hCLz hDLz hCDz hoCz F7 N7 hr7
    intro hz2 tkz2 Fz2 Nz2
    have hlT : (turnedL SN).length ≤ 10 := by unfold turnedL; rw [List.length_mapIdx]; omega
    have hlS : SN.length ≤ 10 := by omega
    have hne8 : 0 < (nonzL SN).length := List.length_pos_iff.mpr hnz
    repeat' (first
      | ((with_reducible show OneSrc _ _ _ _ _ _ _ _ _ _ _ _ _ _ _ _); fail "stop")
      | ((with_reducible show wpAny _ _ (call (Value.ref 194) _) _ _ _); first
          | (k_dflt (refine wpAny_call (Con.l1 (by k_asm) (by k_asm) (by k_asm) (by k_asm) (by k_asm) rfl (chg_m (rv := ysT) (by k_mem) hyT hlT) (by first | exact lt0 (by assumption) (by decide) | exact lt1 (by assumption) (by decide) | exact lt2 (by assumption) (by decide) | exact lt3 (by assumption) (by decide) | exact lt4 (by assumption) (by decide) | ktr_room) (by first | exact lt0 (by assumption) (by decide) | exact lt1 (by assumption) (by decide) | exact lt2 (by assumption) (by decide) | exact lt3 (by assumption) (by decide) | exact lt4 (by assumption) (by decide) | ktr_units) ?_)); intro tC h' tk' F' N'; (try dsimp only))
          | (k_dflt (refine wpAny_call (Con.l1 (by k_asm) (by k_asm) (by k_asm) (by k_asm) (by k_asm) rfl (chg_m (rv := zsS) (by k_mem) hzS hlS) (by first | exact lt0 (by assumption) (by decide) | exact lt1 (by assumption) (by decide) | exact lt2 (by assumption) (by decide) | exact lt3 (by assumption) (by decide) | exact lt4 (by assumption) (by decide) | ktr_room) (by first | exact lt0 (by assumption) (by decide) | exact lt1 (by assumption) (by decide) | exact lt2 (by assumption) (by decide) | exact lt3 (by assumption) (by decide) | exact lt4 (by assumption) (by decide) | ktr_units) ?_)); intro tC h' tk' F' N'; (try dsimp only)))
      | ((with_reducible show wpAny _ _ (eval (PySem.Expr.ListComp _ _ _ _) _) _ _ _); refine one_eval (by with_unfolding_all rfl) (by with_unfolding_all rfl) (by decide) ?_ (by intro _; rfl))
      | (k_unfold; (try dsimp only))
      | ((fail_if_success (with_reducible show OneSrc _ _ _ _ _ _ _ _ _ _ _ _ _ _ _ _)); (walk1 <;> (try dsimp only)))
      | ((fail_if_success (with_reducible show OneSrc _ _ _ _ _ _ _ _ _ _ _ _ _ _ _ _)); (dsimp only; walk1))
      | (leave1; try dsimp only)
      | fail "no step")
    (with_reducible rename Fr _ _ _ _ => F7)
    (with_reducible rename News _ _ _ _ => N7)
    (with_reducible rename IsRange _ _ _ _ _ _ _ _ => hr7)
    refine nonz_src hzS (by rfl) F7 N7 (by k_mem) (by omega) hr7 (small_len _ hsl) (by decide) rfl rfl rfl rfl rfl (by k_mem) hoc6 rfl ?_
    intro Dy Cy hy tky my ysN hyN Fy Ny offy hny hC0y hD0y hCLy hDLy hCDy hoCy
    refine post_eval Fy Ny hny hC0y hCLy hCDy hoCy ?_
    clear Fy Ny hny hC0y hD0y hCLy hDLy hCDy hoCy F7 N7 hr7
    intro hy2 Fy2 Ny2
    repeat' (first
      | ((with_reducible show OneSrc _ _ _ _ _ _ _ _ _ _ _ _ _ _ _ _); fail "stop")
      | ((with_reducible show wpAny _ _ (call (Value.ref 194) _) _ _ _); first
          | (k_dflt (refine wpAny_call (Con.l1 (by k_asm) (by k_asm) (by k_asm) (by k_asm) (by k_asm) rfl (chg_m (rv := ysT) (by k_mem) hyT hlT) (by first | exact lt0 (by assumption) (by decide) | exact lt1 (by assumption) (by decide) | exact lt2 (by assumption) (by decide) | exact lt3 (by assumption) (by decide) | exact lt4 (by assumption) (by decide) | ktr_room) (by first | exact lt0 (by assumption) (by decide) | exact lt1 (by assumption) (by decide) | exact lt2 (by assumption) (by decide) | exact lt3 (by assumption) (by decide) | exact lt4 (by assumption) (by decide) | ktr_units) ?_)); intro tC h' tk' F' N'; (try dsimp only))
          | (k_dflt (refine wpAny_call (Con.l1 (by k_asm) (by k_asm) (by k_asm) (by k_asm) (by k_asm) rfl (chg_m (rv := zsS) (by k_mem) hzS hlS) (by first | exact lt0 (by assumption) (by decide) | exact lt1 (by assumption) (by decide) | exact lt2 (by assumption) (by decide) | exact lt3 (by assumption) (by decide) | exact lt4 (by assumption) (by decide) | ktr_room) (by first | exact lt0 (by assumption) (by decide) | exact lt1 (by assumption) (by decide) | exact lt2 (by assumption) (by decide) | exact lt3 (by assumption) (by decide) | exact lt4 (by assumption) (by decide) | ktr_units) ?_)); intro tC h' tk' F' N'; (try dsimp only)))
      | ((with_reducible show wpAny _ _ (eval (PySem.Expr.ListComp _ _ _ _) _) _ _ _); refine one_eval (by with_unfolding_all rfl) (by with_unfolding_all rfl) (by decide) ?_ (by intro _; rfl))
      | (k_unfold; (try dsimp only))
      | ((fail_if_success (with_reducible show OneSrc _ _ _ _ _ _ _ _ _ _ _ _ _ _ _ _)); (walk1 <;> (try dsimp only)))
      | ((fail_if_success (with_reducible show OneSrc _ _ _ _ _ _ _ _ _ _ _ _ _ _ _ _)); (dsimp only; walk1))
      | (leave1; try dsimp only)
      | fail "no step")
    (with_reducible rename News _ _ _ _ => kN)
    rename_i lF _ _ _ hlF _ _ _
    subst hSN
    exact hret _ _ _ _ (ex5i lF _ _ _ _ ⟨rfl, by assumption, by assumption, mem_cons_ne (Nat.ne_of_lt hlF.2.2.2.2.1) (allLt_ne hlF.2.2.2.2.2), rfl⟩) (by assumption) (subN kN (.cons_cons _ (.cons _ (.cons _ (.cons _ (.cons _ (List.Sublist.refl _)))))))
    )
end Mine
end

section
open PySem PySem.W PyProof.Rows
namespace Mine
theorem fill15 : PySem.Challenge.rw_sr0032_01.foot = 12 ∧ Mine.hd.heap_39 = Mine.hd.heap_39 := by
  k_fill
  exact ⟨rfl, rfl⟩
section
variable {prog : Program} {w : World} {A : Around} {E : Value → Shared → Prop} {s : Shared} {h₀ : Heap} {L : Addr} {m : Str → Option Value} {env : Env} {news : List (Addr × Obj)}
theorem mod_src {a : Str} {iter : PySem.Expr} {pa p1 p2 p3 : Pos} {k1 : Nat} {scope : Scope} {cl : List (Str × Addr)} {pos : Pos} {K : Value → Addr → Result → Shared → Prop} {l : Addr} {rv : List Value} {rs : List Int} {k : Nat}
    (hI : IntsAre rv rs) (hh : A.handled = none) (F : Fr h₀ L s.heap m) (N : News h₀ L s.heap news) (hm : (l, listOf rv.toArray k) ∈ news) (hsz : rs.length ≤ 1000)
    (hcell : ∀ y ∈ scope.names, y.2 ≠ .cell) (hkind : scope.kind = .function) (hxa : scope.names.lookup a = some .local) (ha : (a == ("__debug__" : Str)) = false)
    (fin : ∀ D C h tk m' zs, IntsAre zs (rs.map (fun x => x.fmod 1000)) → Fr h₀ L h m → News h₀ L h ((D, LCg.lst zs) :: news) → (∀ p ∈ news, p.1 ≠ D) → h.Ns C m' → h₀.get? C = none → h₀.get? D = none → C ≠ L → D ≠ L → C ≠ D → (∀ p ∈ news, p.1 ≠ C) → K (.ref D) C (.ok .next) { s with heap := h, toks := tk }) :
    OneSrc prog w A E env (.BinOp (.Name a p1) .Mod (.Constant (.int 1000) k1 p2) p3) iter [] a pa scope cl pos K (.ref l) s := by
  refine one_list (xs := rv.toArray) (fun i zs => IntsAre zs ((rs.map (fun x => x.fmod 1000)).take i)) hh F N hm (by rw [List.size_toArray, hI.length, show sizeLine = 16777216 from rfl]; omega) hcell hkind hxa .nil ?_ ?_
  · intro i x zs hx hA C m₂ s₃ E' hns h1 F₃ N₃
    obtain ⟨v, tv, rfl, hv⟩ := hI.at i x (by simpa using hx)
    have hfun : (compEnvC scope cl C env).scope.kind = .function := hkind
    refine wpAny_tests_nil ⟨keeps_refl' _, ?_⟩
    simp only [if_true]
    refine wpAny_BinOp (wpAny_Name (wpAny_loadName_local hfun (lookup_relabel_local hxa) hns h1 ?_) ha)
    refine wpAny_Constant_int (mod_int (by decide) ⟨⟨_, _, rfl, fun _ _ e => e⟩, ?_⟩)
    exact ints_take_snoc hA (by rw [List.getElem?_map, hv]; rfl)
  · have e9 : (rs.map (fun x => x.fmod 1000)).take rv.toArray.size = rs.map (fun x => x.fmod 1000) := by rw [List.size_toArray, hI.length, List.take_of_length_le (Nat.le_of_eq (List.length_map _))]
    rw [e9]
    exact fin
end
theorem sum_fmod_nonneg : ∀ l : List Int, 0 ≤ (l.map (fun x => x.fmod 1000)).sum
  | [] => by simp
  | x :: l => by
    rw [List.map_cons, List.sum_cons]
    exact Int.add_nonneg (Int.fmod_nonneg_of_pos x (by decide)) (sum_fmod_nonneg l)
theorem five_nonneg : ∀ n : Nat, 0 ≤ ([4, 36, 18, 55, 8] : List Int).getD n 0
  | 0 | 1 | 2 | 3 | 4 => by decide
  | _ + 5 => Int.le_refl 0
theorem drawn_nonneg (n : Nat) (l : List Int) : 0 ≤ ([4, 36, 18, 55, 8] : List Int).getD n 0 + (l.map (fun x => x.fmod 1000)).sum := Int.add_nonneg (five_nonneg n) (sum_fmod_nonneg l)
set_option maxRecDepth 100000 in
set_option maxHeartbeats 8000000 in
theorem drawn_c (w : World) (p : Program) (loose : List Str) (mean : ExcName → Option Value) (mg mb : Str → Option Value) (news : List (Addr × Obj)) (l : Addr) (sv : List Value) (sn : List Int)
    (hI : IntsAre sv sn) (hlen : sn.length ≤ 63) :
    ConI w p loose mean mg mb 20 l sv 139 [.ref l] [] news
      (fun r news' => ∃ D ds ns, r = .ref D ∧ IntsAre ds ns ∧ ns.length = 5 ∧ (∀ n ∈ ns, 0 ≤ n) ∧ (∀ q ∈ news, q.1 ≠ D) ∧ news' = (D, LCg.lst ds) :: news) := by
  w_on
  w_strict (
    unfold ConI
    intro dp un gd cn cn' cg cc cm a ccd cl outer A₀ base h₀ L m s R hIs B F X N T hd hu hret
    (k_dflt k_enter)
    have hIs2 := True.intro
    repeat' (first
      | ((with_reducible show wpAny _ _ (eval (PySem.Expr.ListComp _ _ _ _) _) _ _ _); fail "stop")
      | (k_unfold; (try dsimp only))
      | ((fail_if_success (with_reducible show OneSrc _ _ _ _ _ _ _ _ _ _ _ _ _ _ _ _)); walk1)
      | ((fail_if_success (with_reducible show OneSrc _ _ _ _ _ _ _ _ _ _ _ _ _ _ _ _)); (dsimp only; walk1))
      | (leave1; try dsimp only)
      | fail "no step")
    (with_reducible rename Fr _ _ _ _ => F5)
    (with_reducible rename News _ _ _ _ => N5)
    rename_i Lc _ _ _ _ _ _ hl5 oA oT hoA hoT lA _ hlA
    have hoA1 : oA.data = .cell none := hoA
    have hoT1 : oT.data = .cell (some (.ref l)) := hoT
    clear hoA hoT
    refine store_cell (c := Lc + 1 + 1) (oc := oA) (v₀ := none) (rest := (lA, _) :: (Lc + 1, oT) :: news) F5 (swapN N5) ?_ hoA1 (by rfl) (by rfl) (by rfl) ?_
    · exact mem_cons_ne (Nat.ne_of_gt hlA.1) (mem_cons_ne (Nat.ne_of_lt (Nat.lt_succ_self _)) (fun q hq => Nat.ne_of_lt (Nat.lt_succ_of_lt (Nat.lt_succ_of_lt (hl5 q hq)))))
    clear F5 N5
    intro h6 oA6 hoA6 F6 N6
    dsimp only
    repeat' (first
      | ((with_reducible show LCg.CompSrc _ _ _ _ _ _ _ _ _ _ _ _ _ _); fail "stop")
      | ((with_reducible show wpAny _ _ (eval (PySem.Expr.ListComp _ _ _ _) _) _ _ _); refine LCg.ListComp_U (F₀ := by k_asm) (by with_unfolding_all rfl) (by decide) (by rfl) (by decide) (by rfl) ?_)
      | (k_unfold; (try dsimp only))
      | ((fail_if_success (with_reducible show LCg.CompSrc _ _ _ _ _ _ _ _ _ _ _ _ _ _)); walk1)
      | ((fail_if_success (with_reducible show LCg.CompSrc _ _ _ _ _ _ _ _ _ _ _ _ _ _)); (dsimp only; walk1))
      | (leave1; try dsimp only)
      | fail "no step")
    refine LCg.CompSrc.range (n := 5) rfl (by k_asm) (by k_asm) (by k_asm) (by decide) (by decide) (by decide) ?_
    (with_reducible rename Fr _ _ _ _ => F7)
    (with_reducible rename News _ _ _ _ => N7)
    (with_reducible rename IsRange _ _ _ _ _ _ _ _ => hr7)
    clear F7 N7 hr7
    intro g
    refine rest_fix (fun i ys => ∃ ns, IntsAre ys ns ∧ ns.length = i ∧ ∀ n ∈ ns, 0 ≤ n) ⟨[], .nil, rfl, by simp⟩ ?_ ?_
    · intro i v ys I oI C oC D m₂ h tk E' hi hv hK hC hx F N off ne T9 hT9
      have ⟨tv, hv⟩ := hv
      have ⟨ns, hB⟩ := hK
      have hy := hB.1
      have hln := hB.2.1
      have hnn := hB.2.2
      clear hB hK
      rw [hv] at hx
      clear hv
      have hlo' : 0 ≤ (0 : Int) + (i : Int) := (Int.zero_add (i : Int)).symm ▸ Int.natCast_nonneg i
      have hhi' : (0 : Int) + (i : Int) < 5 := (Int.zero_add (i : Int)).symm ▸ Int.ofNat_lt.mpr hi
      generalize (0 : Int) + (i : Int) = k' at hx hlo' hhi'
      dsimp only [LCg.Off3] at off
      repeat' (first
        | ((with_reducible show OneSrc _ _ _ _ _ _ _ _ _ _ _ _ _ _ _ _); fail "stop")
        | ((with_reducible show wpAny _ _ (eval (PySem.Expr.ListComp (PySem.Expr.BinOp (PySem.Expr.Name _ _) _ _ _) _ _ _) _) _ _ _); refine one_eval (by with_unfolding_all rfl) rfl (by decide) ?_ (by intro _; rfl))
        | (k_unfold; (try dsimp only))
        | ((fail_if_success (with_reducible show OneSrc _ _ _ _ _ _ _ _ _ _ _ _ _ _ _ _)); walk1)
        | ((fail_if_success (with_reducible show OneSrc _ _ _ _ _ _ _ _ _ _ _ _ _ _ _ _)); (dsimp only; walk1))
        | (leave1; try dsimp only)
        | fail "no step")
      (with_reducible rename Fr _ _ _ _ => F8)
      (with_reducible rename News _ _ _ _ => N8)
      (with_reducible rename IntsAre sv sn => hI0)
      have hpk := hI0.pick (some k') (some 15) (some 5)
      have hpl := length_pickNums_le hI0 (some k') (some 15) (some 5)
      refine mod_src hpk (by rfl) F8 N8 (by exact .head _) (by omega) (by decide) rfl rfl rfl ?_
      intro Dz Cz hz tkz mz ysT hyT Fz Nz offz hnzz hC0z hD0z hCLz hDLz hCDz hoCz
      refine post_eval Fz Nz hnzz hC0z hCLz hCDz hoCz ?_
      clear Fz Nz hnzz hC0z hD0z hCLz hDLz hCDz hoCz F8 N8
      intro hz2 Fz2 Nz2
      generalize hPN : pickNums sn (some k') (some 15) (some 5) = PN at hyT hpl
      have hpl2 : (PN.map (fun x => x.fmod 1000)).length ≤ 63 := by rw [List.length_map]; omega
      repeat' (first
        | ((with_reducible show T9 _ _); fail "stop")
        | (k_unfold; (try dsimp only))
        | ((fail_if_success (with_reducible show T9 _ _)); walk1)
        | ((fail_if_success (with_reducible show T9 _ _)); (dsimp only; walk1))
        | (leave1; try dsimp only)
        | fail "no step")
      (with_reducible rename Fr _ _ _ _ => F9)
      (with_reducible rename News _ _ _ _ => N9)
      rw [hT9]
      refine LCg.CompEnd.intro F9 N9 _ (fun p hp => .tail _ (.tail _ hp)) off trivial ⟨rfl, ns ++ [_], hy.append (.cons _ _ .nil), by rw [List.length_append, hln]; rfl, ?_⟩
      intro n hn
      refine (List.mem_append.mp hn).elim (hnn n) fun hn => ?_
      rw [List.mem_singleton.mp hn]
      exact drawn_nonneg _ PN
    · intro ys hK
      have ⟨ns, hB⟩ := hK
      have hy := hB.1
      have hln := hB.2.1
      have hnn := hB.2.2
      clear hB hK
      repeat' (first
        | (k_unfold; (try dsimp only))
        | walk1
        | (dsimp only; walk1)
        | (leave1; try dsimp only)
        | fail "no step")
      have offD : ∀ q ∈ news, q.1 ≠ _ := fun q hq => off1_mem (And.right (And.right (And.right (by assumption)))) q hq
      exact hret _ _ _ _ (ex3i _ ys ns ⟨rfl, hy, hln, hnn, offD, rfl⟩) (by assumption) (subN (by assumption) (.cons_cons _ (.cons _ (.cons _ (.cons _ (List.Sublist.refl _))))))
    )
end Mine
end

section
open PySem PySem.W PyProof.Rows
namespace Mine
theorem fill2 : PySem.Challenge.rw_sr0032_01.foot = 12 ∧ Mine.hd.heap_39 = Mine.hd.heap_39 := by
  k_fill
  exact ⟨rfl, rfl⟩
set_option maxRecDepth 100000 in
set_option maxHeartbeats 8000000 in
theorem p229_c (w : World) (p : Program) (loose : List Str) (mean : ExcName → Option Value) (mg mb : Str → Option Value) (news : List (Addr × Obj)) (n : Int) (t : Tok) (v : Value) (tu : Addr) (t2 : Tok) :
    Con w p loose mean mg mb 4 92 [.str (replyS n) t, .ref tu] [] ((tu, { cls := .type "tuple", data := .seq #[v, .int 21 t2] 0 }) :: news)
      (fun r news' => ∃ D t3, r = .ref D ∧ AllLt D ((tu, { cls := .type "tuple", data := .seq #[v, .int 21 t2] 0 }) :: news) ∧ news' = (D, { cls := .type "tuple", data := .seq #[v, .int (portOf n) t3] 0 }) :: (tu, { cls := .type "tuple", data := .seq #[v, .int 21 t2] 0 }) :: news) := by
  w_on
  w_strict (
    unfold Con
    intro dp un gd cn cn' cg cc cm a ccd cl outer A₀ base h₀ L m s R B F X N T hd hu hret
    have hk : (Scope.mk .function cn' cg cc cm).kind = .function := rfl
    have hlen := rS_len n
    have h1 := rS_slice3 n
    have h2 := rS_find n
    have h3 := rS_find3 n
    have h4 := rS_item4 n
    have h5 := rS_itemq n
    have h6 := rS_split n
    have hq := qAt_bd (ptN n)
    have h7 := rS_int n
    have h8 := rS_plen n
    have h9 : (markS n != markS n) = false := bne_self_eq_false _
    have h10 : (Str.ofString "229" != Str.ofString "229") = false := bne_self_eq_false _
    have ml0 : ((markS n).length == 0) = false := rfl
    have ml : 1 ≤ (markS n).length ∧ (markS n).length ≤ 1 := ⟨Nat.le_refl 1, Nat.le_refl 1⟩
    generalize replyS n = r at *
    generalize qAt (ptN n) = q at *
    generalize codesOf (portTxt (ptN n)) = pt at *
    generalize portOf n = po at *
    generalize markS n = mk at *
    (k_dflt cell_enter)
    repeat' (first
      | rw [h1]
      | rw [h2]
      | rw [h3]
      | rw [h4]
      | rw [h5]
      | rw [h9]
      | rw [h10]
      | rw [show (3 : Int) + 1 = 4 from rfl]
      | ((with_reducible rename (List.map _ _ = Txt.split _ _) => e9); rw [h6] at e9; obtain ⟨t1, t2, t3, t4, t5, ee⟩ := split5 e9; subst ee; clear e9; dsimp only [strValues, List.map] at *)
      | ((with_reducible show wpAny _ _ (subscriptTail _ _ (Value.ref _) (Value.int _ _)) _ _ _); k_dflt (refine' item_tupleT ?t ?a ?b ?c ?d ?_; (case t => exact News.isTup (by k_asm) (by k_mem)); (case a => decide); (case b => decide); (case c => rfl); (case d => rfl); k_whole))
      | ((with_reducible show wpAny _ _ (subscriptTail _ _ (Value.ref _) (Value.int _ _)) _ _ _); refine item_listL (News.isList (by with_reducible assumption) (by k_mem)) (by decide) (by decide) (by rfl) ?_)
      | ((with_reducible show wpAny _ _ (call (Value.type "int") [Value.str _ _]) _ _ _); refine KIN.call_text h7 h8 ?_)
      | (k_unfold; (try dsimp only))
      | (walk1 <;> (try dsimp only))
      | (dsimp only; walk1)
      | (leave1; try dsimp only)
      | fail "no step")
    (with_reducible rename News h₀ L _ _ => kN)
    (with_reducible rename _ ∧ _ ∧ AllLt _ _ => hl9)
    exact hret _ _ _ _ ⟨_, _, rfl, hl9.2, rfl⟩ (by assumption) (subN kN (by repeat (first | exact List.Sublist.refl _ | refine List.Sublist.cons₂ _ ?_ | refine List.Sublist.cons _ ?_))))
end Mine
end

section
open PySem PySem.W PyProof.Rows
namespace Mine
theorem fill5 : PySem.Challenge.rw_sr0032_01.foot = 12 ∧ Mine.hd.heap_39 = Mine.hd.heap_39 := by
  k_fill
  exact ⟨rfl, rfl⟩
set_option maxRecDepth 100000 in
set_option maxHeartbeats 8000000 in
theorem port_c (w : World) (p : Program) (loose : List Str) (mean : ExcName → Option Value) (mg mb : Str → Option Value) (news : List (Addr × Obj)) (n : Int) (t : Tok) :
    Con w p loose mean mg mb 8 165 [.str (replyS n) t] [] news (fun r news' => ∃ t3, r = .int (portOf n) t3 ∧ news' = news) := by
  w_on
  w_strict (
    unfold Con
    intro dp un gd cn cn' cg cc cm a ccd cl outer A₀ base h₀ L m s R B F X N T hd hu hret
    have hk : (Scope.mk .function cn' cg cc cm).kind = .function := rfl
    (k_dflt cell_enter)
    repeat' (first
      | ((with_reducible show wpAny _ _ (call (Value.ref 92) _) _ _ _); k_dflt (refine wpAny_call (Con.l2p (by k_asm) (by k_asm) (by k_asm) (by k_asm) (by k_asm) rfl (p229_c _ _ _ _ _ _ _ _ _ _ _ _) (by first | exact lt0 (by assumption) (by decide) | exact lt1 (by assumption) (by decide) | exact lt2 (by assumption) (by decide) | exact lt3 (by assumption) (by decide) | exact lt4 (by assumption) (by decide) | ktr_room) (by first | exact lt0 (by assumption) (by decide) | exact lt1 (by assumption) (by decide) | exact lt2 (by assumption) (by decide) | exact lt3 (by assumption) (by decide) | exact lt4 (by assumption) (by decide) | ktr_units) ?_)); intro D9 t3 h' tk' hl9 F' N'; (try dsimp only))
      | ((with_reducible show wpAny _ _ (subscriptTail _ _ (Value.ref _) (Value.int _ _)) _ _ _); k_dflt (refine' item_tupleT ?t ?a ?b ?c ?d ?_; (case t => exact News.isTup (by k_asm) (by k_mem)); (case a => decide); (case b => decide); (case c => rfl); (case d => rfl); k_whole))
      | (k_unfold; (try dsimp only))
      | (walk1 <;> (try dsimp only))
      | (dsimp only; walk1)
      | (leave1; try dsimp only)
      | fail "no step")
    exact hret _ _ _ _ ⟨_, rfl, rfl⟩ (by assumption) (subN (by assumption) (by repeat (first | exact List.Sublist.refl _ | refine List.Sublist.cons _ ?_))))
end Mine
end

section
open PySem PySem.W PyProof.Rows
namespace Mine
/-- a list's items are the replies of these numbers -/
inductive WordsAre : List Value → List Int → Prop
  | nil : WordsAre [] []
  | cons (n : Int) (t : Tok) {vs ns} : WordsAre vs ns → WordsAre (.str (replyS n) t :: vs) (n :: ns)
theorem WordsAre.length {vs : List Value} {ns : List Int} (h : WordsAre vs ns) : vs.length = ns.length := by
  induction h with
  | nil => rfl
  | cons n t _ ih => simp [ih]
theorem WordsAre.get {vs : List Value} {ns : List Int} (h : WordsAre vs ns) : ∀ {i : Nat}, i < ns.length → ∃ t, vs[i]? = some (.str (replyS (ns.getD i 0)) t) := by
  induction h with
  | nil => intro i hi; exact absurd hi (Nat.not_lt_zero _)
  | cons n t _ ih =>
    intro i hi
    cases i with
    | zero => exact ⟨t, rfl⟩
    | succ i =>
      obtain ⟨t', ht⟩ := ih (i := i) (by simpa using hi)
      exact ⟨t', by simpa using ht⟩
/-- the port at a place -/
noncomputable def pq (ns : List Int) (i : Nat) : Int := portOf (ns.getD i 0)
noncomputable def Sorted (ns : List Int) : Prop := ∀ i j, i ≤ j → j < ns.length → pq ns i ≤ pq ns j
/-- what a bisection from lo has at hand -/
theorem le_toN {i : Nat} {m : Int} (h : (i : Int) ≤ m) : i ≤ m.toNat := (Int.le_toNat (Int.le_trans (Int.natCast_nonneg i) h)).mpr h
theorem toN_lt {n : Nat} {m : Int} (h0 : 0 ≤ m) (h : m < n) : m.toNat < n := (Int.toNat_lt h0).mpr h
theorem meas1 {lo hi m : Int} (h : lo < hi) (hm : lo ≤ m ∧ m < hi) : (m - lo).toNat < (hi - lo).toNat := (Int.toNat_lt_toNat (Int.sub_pos_of_lt h)).mpr (Int.sub_lt_sub_right hm.2 lo)
theorem meas2 {lo hi m : Int} (h : lo < hi) (hm : lo ≤ m ∧ m < hi) : (hi - (m + 1)).toNat < (hi - lo).toNat := (Int.toNat_lt_toNat (Int.sub_pos_of_lt h)).mpr (Int.sub_lt_sub_left (Int.lt_add_one_of_le hm.1) hi)
noncomputable def bisPs (c : Int × Int × Tok × Tok) : List (Str × Value) := [(Str.ofString "lo", .int c.1 c.2.2.1), (Str.ofString "hi", .int c.2.1 c.2.2.2)]
theorem bis_ps {m : Str → Option Value} {c : Int × Int × Tok × Tok} (h1 : m (Str.ofString "lo") = some (.int c.1 c.2.2.1)) (h2 : m (Str.ofString "hi") = some (.int c.2.1 c.2.2.2)) : ∀ p ∈ bisPs c, m p.1 = some p.2 := fun p hp => by
  cases hp with
  | head => exact h1
  | tail _ hp => cases hp with
    | head => exact h2
    | tail _ hp => exact nomatch hp
theorem bis_while {prog : Program} {w : World} {A : Around} {E : Value → Shared → Prop} {Q : Flow → Shared → Prop} {s : Shared} {env : Env} {h₀ : Heap} {L : Addr} {test : PySem.Expr} {body : List Stmt} {pos : Pos} {m₀ : Str → Option Value} {led : List (Addr × Obj)}
    (P : Int → Int → Prop) (lo₀ hi₀ : Int) (t₁ t₂ : Tok) (F : Fr h₀ L s.heap m₀) (N : News h₀ L s.heap led) (h1 : m₀ (Str.ofString "lo") = some (.int lo₀ t₁)) (h2 : m₀ (Str.ofString "hi") = some (.int hi₀ t₂)) (hp : P lo₀ hi₀)
    (turn : ∀ (lo hi : Int) (t1 t2 : Tok) (u : Str → Option Value) h tk T, T = KswPost h₀ L s (fun _ => led) bisPs (fun _ => True) [Str.ofString "mid"] m₀ (fun c => P c.1 c.2.1) (fun c => (c.2.1 - c.1).toNat) Q (lo, hi, t1, t2) → P lo hi →
      Fr h₀ L h (fun z => if z = Str.ofString "lo" then some (.int lo t1) else if z = Str.ofString "hi" then some (.int hi t2) else if [Str.ofString "mid"].contains z then u z else m₀ z) → News h₀ L h led →
      wpAny (model prog w) A (isTrue test env (eval test env)) (fun b s₂ => if b = true then wpAny (model prog w) A (execs body env) T E s₂ else Q .next s₂) E { s with heap := h, toks := tk })
    (hE : PassesOwn (model prog w) A env E) : wpAny (model prog w) A (exec (.While test body [] pos) env) Q E s :=
  ksw_while (fun _ => led) bisPs (fun _ => True) [Str.ofString "mid"] (fun c => P c.1 c.2.1) (fun c => (c.2.1 - c.1).toNat) (lo₀, hi₀, t₁, t₂) F N trivial (bis_ps h1 h2) hp (fun c u h tk _ hP F N => turn c.1 c.2.1 c.2.2.1 c.2.2.2 u h tk _ rfl hP F N) hE
theorem skipW {z a : Str} {x y r : Option Value} (hz : z ≠ a) (h : y = r) : (if z = a then x else y) = r := (if_neg hz).trans h
theorem outW {z : Str} {l : List Str} {x y : Option Value} (hz : l.contains z = false) : (if l.contains z = true then x else y) = y := if_neg (by rw [hz]; decide)
theorem off1W {z a : Str} (h : [a].contains z = false) : z ≠ a := by simpa using h
structure BisL (ns : List Int) (x lo hi : Int) : Prop where
  h0 : 0 ≤ lo
  h1 : lo ≤ hi
  h2 : hi ≤ ns.length
  below : ∀ i : Nat, (i : Int) < lo → pq ns i < x
  above : ∀ i : Nat, hi ≤ (i : Int) → i < ns.length → x ≤ pq ns i
structure BisR (ns : List Int) (x lo hi : Int) : Prop where
  h0 : 0 ≤ lo
  h1 : lo ≤ hi
  h2 : hi ≤ ns.length
  below : ∀ i : Nat, (i : Int) < lo → pq ns i ≤ x
  above : ∀ i : Nat, hi ≤ (i : Int) → i < ns.length → x < pq ns i
theorem mid_bd {lo hi : Int} (h : lo < hi) : lo ≤ (lo + hi).fdiv 2 ∧ (lo + hi).fdiv 2 < hi := by
  rw [Int.fdiv_eq_ediv_of_nonneg _ (by decide)]; omega
theorem BisL.up {ns : List Int} {x lo hi mid : Int} (b : BisL ns x lo hi) (S : Sorted ns) (hm : lo ≤ mid ∧ mid < hi) (hq : portOf (ns.getD mid.toNat 0) < x) : BisL ns x (mid + 1) hi := by
  have h0 := Int.le_trans b.h0 hm.1
  refine ⟨Int.le_add_one h0, hm.2, b.h2, fun i hi' => ?_, b.above⟩
  have := S i mid.toNat (le_toN (Int.le_of_lt_add_one hi')) (toN_lt h0 (Int.lt_of_lt_of_le hm.2 b.h2))
  exact Int.lt_of_le_of_lt this hq
theorem BisL.down {ns : List Int} {x lo hi mid : Int} (b : BisL ns x lo hi) (S : Sorted ns) (hm : lo ≤ mid ∧ mid < hi) (hq : ¬ portOf (ns.getD mid.toNat 0) < x) : BisL ns x lo mid := by
  refine ⟨b.h0, hm.1, Int.le_trans (Int.le_of_lt hm.2) b.h2, b.below, fun i hi' hl => ?_⟩
  have := S mid.toNat i (Int.toNat_le.mpr hi') hl
  exact Int.le_trans (Int.not_lt.mp hq) this
theorem BisR.up {ns : List Int} {x lo hi mid : Int} (b : BisR ns x lo hi) (S : Sorted ns) (hm : lo ≤ mid ∧ mid < hi) (hq : ¬ x < portOf (ns.getD mid.toNat 0)) : BisR ns x (mid + 1) hi := by
  have h0 := Int.le_trans b.h0 hm.1
  refine ⟨Int.le_add_one h0, hm.2, b.h2, fun i hi' => ?_, b.above⟩
  have := S i mid.toNat (le_toN (Int.le_of_lt_add_one hi')) (toN_lt h0 (Int.lt_of_lt_of_le hm.2 b.h2))
  exact Int.le_trans this (Int.not_lt.mp hq)
theorem BisR.down {ns : List Int} {x lo hi mid : Int} (b : BisR ns x lo hi) (S : Sorted ns) (hm : lo ≤ mid ∧ mid < hi) (hq : x < portOf (ns.getD mid.toNat 0)) : BisR ns x lo mid := by
  refine ⟨b.h0, hm.1, Int.le_trans (Int.le_of_lt hm.2) b.h2, b.below, fun i hi' hl => ?_⟩
  have := S mid.toNat i (Int.toNat_le.mpr hi') hl
  exact Int.lt_of_lt_of_le hq this
end Mine
namespace Mine
section
variable {prog : Program} {w : World} {A : Around} {E : Value → Shared → Prop} {s : Shared}
theorem len_words {l : Addr} {vs : List Value} {ns : List Int} {Q : Value → Shared → Prop} (hl : s.heap.IsList l vs.toArray) (hW : WordsAre vs ns) (hn : ns.length ≤ 10)
    (h : Q (.int ns.length (s.toks + 1)) { s with toks := s.toks + 1 + 1 }) : wpAny (model prog w) A (call (.builtin "len") [.ref l]) Q E s := by
  have e : vs.toArray.size = ns.length := by simp [hW.length]
  exact len_list hl (by rw [e]; omega) (by rw [e]; exact h)
theorem item_words {value slice : PySem.Expr} {l : Addr} {vs : List Value} {ns : List Int} {k : Int} {u : Tok} {Q : Value → Shared → Prop} (hl : s.heap.IsList l vs.toArray) (hW : WordsAre vs ns)
    (h0 : 0 ≤ k) (h1 : k < ns.length) (hn : ns.length ≤ 10) (h : ∀ t, Q (.str (replyS (ns.getD k.toNat 0)) t) s)
    (hs : subscripted slice false (.ref l) (.int k u) = operate [.ref l, .int k u] (getItem (.ref l) (.int k u))) (hg : ∀ r, letTemporaryGo value (.ref l) r = pure ()) :
    wpAny (model prog w) A (subscriptTail value slice (.ref l) (.int k u)) Q E s := by
  have ⟨t, ht⟩ := hW.get (i := k.toNat) (toN_lt h0 h1)
  exact item_listL hl h0 (by omega) ht (h t) hs hg
end
end Mine
namespace Mine
noncomputable def insL (n : Int) : List Int → List Int
  | [] => [n]
  | m :: ns => if portOf m < portOf n then m :: insL n ns else n :: m :: ns
theorem pq_cons (m : Int) (ns : List Int) (i : Nat) : pq (m :: ns) (i + 1) = pq ns i := rfl
theorem insL_at (n : Int) : ∀ (ns : List Int) (e : Nat), e ≤ ns.length → (∀ i : Nat, i < e → pq ns i < portOf n) → (∀ i : Nat, e ≤ i → i < ns.length → portOf n ≤ pq ns i) → ns.take e ++ n :: ns.drop e = insL n ns
  | [], e, he, _, _ => by
    have : e = 0 := by simpa using he
    subst this; rfl
  | m :: ns, 0, _, _, ha => by
    have h : portOf n ≤ portOf m := ha 0 (Nat.le_refl _) (Nat.succ_pos _)
    show n :: m :: ns = insL n (m :: ns)
    unfold insL
    rw [if_neg (by omega)]
  | m :: ns, e + 1, he, hb, ha => by
    have h : portOf m < portOf n := hb 0 (Nat.succ_pos _)
    show m :: (ns.take e ++ n :: ns.drop e) = insL n (m :: ns)
    rw [insL_at n ns e (by simpa using he) (fun i hi => hb (i + 1) (by omega)) (fun i h1 h2 => ha (i + 1) (by omega) (by simpa using h2))]
    show _ = if portOf m < portOf n then m :: insL n ns else n :: m :: ns
    rw [if_pos h]
theorem WordsAre.append {vs us : List Value} {ns ms : List Int} (h : WordsAre vs ns) (h' : WordsAre us ms) : WordsAre (vs ++ us) (ns ++ ms) := by
  induction h with
  | nil => exact h'
  | cons n t _ ih => exact .cons n t ih
theorem WordsAre.take {vs : List Value} {ns : List Int} (h : WordsAre vs ns) : ∀ e, WordsAre (vs.take e) (ns.take e) := by
  induction h with
  | nil => intro e; simp; exact .nil
  | cons n t _ ih =>
    intro e
    cases e with
    | zero => exact .nil
    | succ e => exact .cons n t (ih e)
theorem WordsAre.drop {vs : List Value} {ns : List Int} (h : WordsAre vs ns) : ∀ e, WordsAre (vs.drop e) (ns.drop e) := by
  induction h with
  | nil => intro e; simp; exact .nil
  | cons n t h ih =>
    intro e
    cases e with
    | zero => exact .cons n t h
    | succ e => exact ih e
theorem insL_length (n : Int) : ∀ ns : List Int, (insL n ns).length = ns.length + 1
  | [] => rfl
  | m :: ns => by unfold insL; split <;> simp [insL_length n ns]
theorem sorted_nil : Sorted [] := fun _ _ _ h => absurd h (Nat.not_lt_zero _)
theorem sorted_cons {m : Int} {ns : List Int} (S : Sorted ns) (h : ∀ i : Nat, i < ns.length → portOf m ≤ pq ns i) : Sorted (m :: ns) := by
  intro i j hij hj
  cases j with
  | zero =>
    have : i = 0 := by omega
    subst this; exact Int.le_refl _
  | succ j =>
    have hj' : j < ns.length := by simpa using hj
    cases i with
    | zero => exact h j hj'
    | succ i => exact S i j (by omega) hj'
theorem sorted_tail {m : Int} {ns : List Int} (S : Sorted (m :: ns)) : Sorted ns := fun i j hij hj => S (i + 1) (j + 1) (by omega) (by simpa using hj)
theorem insL_low {n b : Int} : ∀ {ns : List Int}, b ≤ portOf n → (∀ i : Nat, i < ns.length → b ≤ pq ns i) → ∀ i : Nat, i < (insL n ns).length → b ≤ pq (insL n ns) i
  | [], hb, _, i, hi => by
    have : i = 0 := by simp [insL] at hi; exact hi
    subst this; exact hb
  | m :: ns, hb, h, i, hi => by
    unfold insL at hi ⊢
    split
    · rename_i hc
      rw [if_pos hc] at hi
      cases i with
      | zero => exact h 0 (Nat.succ_pos _)
      | succ i => exact insL_low hb (fun j hj => h (j + 1) (by simpa using hj)) i (by simpa using hi)
    · rename_i hc
      rw [if_neg hc] at hi
      cases i with
      | zero => exact hb
      | succ i => exact h i (by simpa using hi)
theorem insL_sorted {n : Int} : ∀ {ns : List Int}, Sorted ns → Sorted (insL n ns)
  | [], _ => sorted_cons sorted_nil (fun _ h => absurd h (Nat.not_lt_zero _))
  | m :: ns, S => by
    unfold insL
    split
    · exact sorted_cons (insL_sorted (sorted_tail S)) (insL_low (by omega) (fun i hi => S 0 (i + 1) (Nat.zero_le _) (by simpa using hi)))
    · refine sorted_cons S (fun i hi => ?_)
      have := S 0 i (Nat.zero_le _) hi
      have e : pq (m :: ns) 0 = portOf m := rfl
      omega
end Mine
namespace Mine
noncomputable def clt (ns : List Int) (x : Int) : Nat := ns.countP (fun n => decide (portOf n < x))
noncomputable def cle (ns : List Int) (x : Int) : Nat := ns.countP (fun n => decide (portOf n ≤ x))
theorem count_at (P : Int → Bool) : ∀ (ns : List Int) (e : Nat), e ≤ ns.length → (∀ i : Nat, i < e → P (ns.getD i 0) = true) → (∀ i : Nat, e ≤ i → i < ns.length → P (ns.getD i 0) = false) → ns.countP P = e
  | [], e, he, _, _ => by
    have : e = 0 := by simpa using he
    subst this; rfl
  | n :: ns, 0, _, _, ha => by
    have h0 : P n = false := ha 0 (Nat.le_refl _) (Nat.succ_pos _)
    rw [List.countP_cons, h0, count_at P ns 0 (Nat.zero_le _) (fun i h => absurd h (Nat.not_lt_zero _)) (fun i _ h => ha (i + 1) (Nat.zero_le _) (by simpa using h))]
    rfl
  | n :: ns, e + 1, he, hb, ha => by
    have h0 : P n = true := hb 0 (Nat.succ_pos _)
    rw [List.countP_cons, h0, count_at P ns e (by simpa using he) (fun i h => hb (i + 1) (Nat.succ_lt_succ h)) (fun i h1 h2 => ha (i + 1) (Nat.succ_le_succ h1) (Nat.succ_lt_succ h2))]
    rfl
theorem BisL.eq {ns : List Int} {x e : Int} (b : BisL ns x e e) : e = (clt ns x : Int) := by
  have h0 := b.h0; have h2 := b.h2
  have := count_at (fun n => decide (portOf n < x)) ns e.toNat (Int.toNat_le.mpr h2) (fun i hi => decide_eq_true (b.below i (Int.lt_toNat.mp hi))) (fun i h1 h3 => decide_eq_false (Int.not_lt.mpr (b.above i (Int.toNat_le.mp h1) h3)))
  unfold clt; rw [this]; exact (Int.toNat_of_nonneg h0).symm
theorem BisR.eq {ns : List Int} {x e : Int} (b : BisR ns x e e) : e = (cle ns x : Int) := by
  have h0 := b.h0; have h2 := b.h2
  have := count_at (fun n => decide (portOf n ≤ x)) ns e.toNat (Int.toNat_le.mpr h2) (fun i hi => decide_eq_true (b.below i (Int.lt_toNat.mp hi))) (fun i h1 h3 => decide_eq_false (Int.not_le.mpr (b.above i (Int.toNat_le.mp h1) h3)))
  unfold cle; rw [this]; exact (Int.toNat_of_nonneg h0).symm
/-- a bisection may go on from where an earlier one ended -/
theorem BisL.from {ns : List Int} {x y e : Int} (b : BisR ns x e e) (h : x < y) : BisL ns y e ns.length :=
  ⟨b.h0, b.h2, Int.le_refl _, fun i hi => Int.lt_of_le_of_lt (b.below i hi) h, fun i h1 h2 => absurd (Int.ofNat_lt.mpr h2) (Int.not_lt.mpr h1)⟩
theorem BisR.from {ns : List Int} {x e : Int} (b : BisL ns x e e) : BisR ns x e ns.length :=
  ⟨b.h0, b.h2, Int.le_refl _, fun i hi => Int.le_of_lt (b.below i hi), fun i h1 h2 => absurd (Int.ofNat_lt.mpr h2) (Int.not_lt.mpr h1)⟩
theorem BisL.start {ns : List Int} {x : Int} : BisL ns x 0 ns.length :=
  ⟨Int.le_refl _, Int.natCast_nonneg _, Int.le_refl _, fun i hi => absurd hi (Int.not_lt.mpr (Int.natCast_nonneg i)), fun i h1 h2 => absurd (Int.ofNat_lt.mpr h2) (Int.not_lt.mpr h1)⟩
end Mine
end

section
open PySem PySem.W PyProof.Rows
namespace Mine
theorem fill6 : PySem.Challenge.rw_sr0032_01.foot = 12 ∧ Mine.hd.heap_39 = Mine.hd.heap_39 := by
  k_fill
  exact ⟨rfl, rfl⟩
set_option maxRecDepth 100000 in
set_option maxHeartbeats 8000000 in
theorem bisl_c (w : World) (p : Program) (loose : List Str) (mean : ExcName → Option Value) (mg mb : Str → Option Value) (news : List (Addr × Obj)) (l : Addr) (vs : List Value) (ns : List Int) (k : Nat) (x lo : Int) (t t2 : Tok) (pos : List Value)
    (hpos : pos = [.ref l, .int x t, .int lo t2]) (hW : WordsAre vs ns) (hlen : ns.length ≤ 10) (S : Sorted ns) (hb : BisL ns x lo ns.length) :
    Con w p loose mean mg mb 12 48 pos [(Str.ofString "key", .ref 165)] ((l, listOf vs.toArray k) :: news) (fun r news' => ∃ e t3, r = .int e t3 ∧ BisL ns x e e ∧ lo ≤ e ∧ news' = (l, listOf vs.toArray k) :: news) := by
  w_on
  w_strict (
    subst hpos
    unfold Con
    intro dp un gd cn cn' cg cc cm a ccd cl outer A₀ base h₀ L m s R B F X N T hd hu hret
    (k_dflt k_enter)
    have hlo := hb.h0
    repeat' (first
      | ((with_reducible show wpAny _ _ (call (Value.ref 165) _) _ _ _); k_dflt (refine wpAny_call (Con.l1 (by k_asm) (by k_asm) (by k_asm) (by k_asm) (by k_asm) rfl (port_c _ _ _ _ _ _ _ _ _) (by first | exact lt0 (by assumption) (by decide) | exact lt1 (by assumption) (by decide) | exact lt2 (by assumption) (by decide) | exact lt3 (by assumption) (by decide) | exact lt4 (by assumption) (by decide) | ktr_room) (by first | exact lt0 (by assumption) (by decide) | exact lt1 (by assumption) (by decide) | exact lt2 (by assumption) (by decide) | exact lt3 (by assumption) (by decide) | exact lt4 (by assumption) (by decide) | ktr_units) ?_)); intro t3 h' tk' F' N'; (try dsimp only))
      | ((with_reducible show wpAny _ _ (call (Value.builtin "len") [Value.ref _]) _ _ _); refine len_words (News.isList (by k_asm) (by k_mem)) hW hlen ?_; (try dsimp only))
      | ((with_reducible show wpAny _ _ (subscriptTail _ _ (Value.ref _) (Value.int _ _)) _ _ _); (with_reducible rename BisL _ _ _ _ => hB9); (with_reducible rename (_ : Int) < _ => hlt9); (have hm9 := mid_bd hlt9); refine item_words (News.isList (by k_asm) (by k_mem)) hW (by have := hB9.h0; omega) (by have := hB9.h2; omega) hlen ?_ (by with_unfolding_all rfl) (by intro _; with_unfolding_all rfl); intro t9; (try dsimp only))
      | ((with_reducible show wpAny _ _ (exec (PySem.Stmt.While _ _ _ _) _) _ _ _); k_dflt (refine' bis_while (led := (l, listOf vs.toArray k) :: news) (fun a b => BisL ns x a b ∧ lo ≤ a) lo (ns.length : Int) ?t1 ?t2 ?F ?N ?p1 ?p2 ?P ?_ ?hE; (case F => k_asm); (case N => k_asm); (case p1 => exact rfl); (case p2 => exact rfl); (case P => exact ⟨hb, Int.le_refl _⟩); (case hE => first | passes_own | with_unfolding_all passes_own)); intro lo9 hi9 t19 t29 u9 h9 tk9 T9 hT9 hP9 F9 N9; (have hB9 := hP9.1); (have hl9 := hP9.2); clear hP9)
      | ((with_reducible show T9 _ _); rw [hT9]; dsimp only [KswPost])
      | ((with_reducible show KswEnd _ _ _ _ _ _ _ _ _ _ _ _); first
          | refine ksw_end ((lo9 + hi9).fdiv 2 + 1, hi9, _, t29) (by k_asm) (by k_asm) (fun _ h => h) trivial (bis_ps (by rfl) (by rfl)) (fun z h2 h3 => by repeat (first | exact outW h3 | refine skipW (h2 _ (.head _)) ?_ | refine skipW (h2 _ (.tail _ (.head _))) ?_ | refine skipW (off1W h3) ?_)) ⟨hB9.up S hm9 (by assumption), Int.le_add_one (Int.le_trans hl9 hm9.1)⟩ (by exact meas2 hlt9 hm9)
          | refine ksw_end (lo9, (lo9 + hi9).fdiv 2, t19, _) (by k_asm) (by k_asm) (fun _ h => h) trivial (bis_ps (by rfl) (by rfl)) (fun z h2 h3 => by repeat (first | exact outW h3 | refine skipW (h2 _ (.head _)) ?_ | refine skipW (h2 _ (.tail _ (.head _))) ?_ | refine skipW (off1W h3) ?_)) ⟨hB9.down S hm9 (by assumption), hl9⟩ (by exact meas1 hlt9 hm9))
      | (k_unfold; (try dsimp only))
      | (walk1 <;> (try dsimp only))
      | (dsimp only; walk1)
      | (leave1; try dsimp only)
      | fail "no step")
    have e9 : hi9 = lo9 := Int.le_antisymm (Int.not_lt.mp (by assumption)) hB9.h1
    rw [e9] at hB9
    exact hret _ _ _ _ (ex2i _ _ ⟨rfl, hB9, hl9, rfl⟩) (by assumption) (by assumption))
end Mine
end

section
open PySem PySem.W PyProof.Rows
namespace Mine
theorem fill6r : PySem.Challenge.rw_sr0032_01.foot = 12 ∧ Mine.hd.heap_39 = Mine.hd.heap_39 := by
  k_fill
  exact ⟨rfl, rfl⟩
set_option maxRecDepth 100000 in
set_option maxHeartbeats 8000000 in
theorem bisr_c (w : World) (p : Program) (loose : List Str) (mean : ExcName → Option Value) (mg mb : Str → Option Value) (news : List (Addr × Obj)) (l : Addr) (vs : List Value) (ns : List Int) (k : Nat) (x lo : Int) (t t2 : Tok) (pos : List Value)
    (hpos : pos = [.ref l, .int x t, .int lo t2]) (hW : WordsAre vs ns) (hlen : ns.length ≤ 10) (S : Sorted ns) (hb : BisR ns x lo ns.length) :
    Con w p loose mean mg mb 12 30 pos [(Str.ofString "key", .ref 165)] ((l, listOf vs.toArray k) :: news) (fun r news' => ∃ e t3, r = .int e t3 ∧ BisR ns x e e ∧ lo ≤ e ∧ news' = (l, listOf vs.toArray k) :: news) := by
  w_on
  w_strict (
    subst hpos
    unfold Con
    intro dp un gd cn cn' cg cc cm a ccd cl outer A₀ base h₀ L m s R B F X N T hd hu hret
    (k_dflt k_enter)
    have hlo := hb.h0
    repeat' (first
      | ((with_reducible show wpAny _ _ (call (Value.ref 165) _) _ _ _); k_dflt (refine wpAny_call (Con.l1 (by k_asm) (by k_asm) (by k_asm) (by k_asm) (by k_asm) rfl (port_c _ _ _ _ _ _ _ _ _) (by first | exact lt0 (by assumption) (by decide) | exact lt1 (by assumption) (by decide) | exact lt2 (by assumption) (by decide) | exact lt3 (by assumption) (by decide) | exact lt4 (by assumption) (by decide) | ktr_room) (by first | exact lt0 (by assumption) (by decide) | exact lt1 (by assumption) (by decide) | exact lt2 (by assumption) (by decide) | exact lt3 (by assumption) (by decide) | exact lt4 (by assumption) (by decide) | ktr_units) ?_)); intro t3 h' tk' F' N'; (try dsimp only))
      | ((with_reducible show wpAny _ _ (call (Value.builtin "len") [Value.ref _]) _ _ _); refine len_words (News.isList (by k_asm) (by k_mem)) hW hlen ?_; (try dsimp only))
      | ((with_reducible show wpAny _ _ (subscriptTail _ _ (Value.ref _) (Value.int _ _)) _ _ _); (with_reducible rename BisR _ _ _ _ => hB9); (with_reducible rename (_ : Int) < _ => hlt9); (have hm9 := mid_bd hlt9); refine item_words (News.isList (by k_asm) (by k_mem)) hW (by have := hB9.h0; omega) (by have := hB9.h2; omega) hlen ?_ (by with_unfolding_all rfl) (by intro _; with_unfolding_all rfl); intro t9; (try dsimp only))
      | ((with_reducible show wpAny _ _ (exec (PySem.Stmt.While _ _ _ _) _) _ _ _); k_dflt (refine' bis_while (led := (l, listOf vs.toArray k) :: news) (fun a b => BisR ns x a b ∧ lo ≤ a) lo (ns.length : Int) ?t1 ?t2 ?F ?N ?p1 ?p2 ?P ?_ ?hE; (case F => k_asm); (case N => k_asm); (case p1 => exact rfl); (case p2 => exact rfl); (case P => exact ⟨hb, Int.le_refl _⟩); (case hE => first | passes_own | with_unfolding_all passes_own)); intro lo9 hi9 t19 t29 u9 h9 tk9 T9 hT9 hP9 F9 N9; (have hB9 := hP9.1); (have hl9 := hP9.2); clear hP9)
      | ((with_reducible show T9 _ _); rw [hT9]; dsimp only [KswPost])
      | ((with_reducible show KswEnd _ _ _ _ _ _ _ _ _ _ _ _); first
          | refine ksw_end ((lo9 + hi9).fdiv 2 + 1, hi9, _, t29) (by k_asm) (by k_asm) (fun _ h => h) trivial (bis_ps (by rfl) (by rfl)) (fun z h2 h3 => by repeat (first | exact outW h3 | refine skipW (h2 _ (.head _)) ?_ | refine skipW (h2 _ (.tail _ (.head _))) ?_ | refine skipW (off1W h3) ?_)) ⟨hB9.up S hm9 (by assumption), Int.le_add_one (Int.le_trans hl9 hm9.1)⟩ (by exact meas2 hlt9 hm9)
          | refine ksw_end (lo9, (lo9 + hi9).fdiv 2, t19, _) (by k_asm) (by k_asm) (fun _ h => h) trivial (bis_ps (by rfl) (by rfl)) (fun z h2 h3 => by repeat (first | exact outW h3 | refine skipW (h2 _ (.head _)) ?_ | refine skipW (h2 _ (.tail _ (.head _))) ?_ | refine skipW (off1W h3) ?_)) ⟨hB9.down S hm9 (by assumption), hl9⟩ (by exact meas1 hlt9 hm9))
      | (k_unfold; (try dsimp only))
      | (walk1 <;> (try dsimp only))
      | (dsimp only; walk1)
      | (leave1; try dsimp only)
      | fail "no step")
    have e9 : hi9 = lo9 := Int.le_antisymm (Int.not_lt.mp (by assumption)) hB9.h1
    rw [e9] at hB9
    exact hret _ _ _ _ (ex2i _ _ ⟨rfl, hB9, hl9, rfl⟩) (by assumption) (by assumption))
end Mine
end

section
open PySem PySem.W PyProof.Rows
namespace Mine
theorem fill9 : PySem.Challenge.rw_sr0032_01.foot = 12 ∧ Mine.hd.heap_39 = Mine.hd.heap_39 := by
  k_fill
  exact ⟨rfl, rfl⟩
theorem bisl_m {w : World} {p : Program} {loose : List Str} {mean : ExcName → Option Value} {mg mb : Str → Option Value} {news : List (Addr × Obj)} {l : Addr} {vs : List Value} {ns : List Int} {k : Nat} {x lo : Int} {t t2 : Tok}
    (hm : (l, listOf vs.toArray k) ∈ news) (hW : WordsAre vs ns) (hlen : ns.length ≤ 10) (S : Sorted ns) (hb : BisL ns x lo ns.length) :
    Con w p loose mean mg mb 12 48 [.ref l, .int x t, .int lo t2] [(Str.ofString "key", .ref 165)] news (fun r news' => ∃ e t3, r = .int e t3 ∧ BisL ns x e e ∧ lo ≤ e ∧ news' = news) :=
  (bisl_c w p loose mean mg mb news l vs ns k x lo t t2 _ rfl hW hlen S hb).mem hm (fun r news' h => ex2e h fun e t3 h => ⟨news, h.2.2.2 ▸ List.sublist_cons_self _ _, ex2i e t3 ⟨h.1, h.2.1, h.2.2.1, rfl⟩⟩)
theorem bisr_m {w : World} {p : Program} {loose : List Str} {mean : ExcName → Option Value} {mg mb : Str → Option Value} {news : List (Addr × Obj)} {l : Addr} {vs : List Value} {ns : List Int} {k : Nat} {x lo : Int} {t t2 : Tok}
    (hm : (l, listOf vs.toArray k) ∈ news) (hW : WordsAre vs ns) (hlen : ns.length ≤ 10) (S : Sorted ns) (hb : BisR ns x lo ns.length) :
    Con w p loose mean mg mb 12 30 [.ref l, .int x t, .int lo t2] [(Str.ofString "key", .ref 165)] news (fun r news' => ∃ e t3, r = .int e t3 ∧ BisR ns x e e ∧ lo ≤ e ∧ news' = news) :=
  (bisr_c w p loose mean mg mb news l vs ns k x lo t t2 _ rfl hW hlen S hb).mem hm (fun r news' h => ex2e h fun e t3 h => ⟨news, h.2.2.2 ▸ List.sublist_cons_self _ _, ex2i e t3 ⟨h.1, h.2.1, h.2.2.1, rfl⟩⟩)

noncomputable abbrev TellD := Addr × Tok × Tok × Tok
noncomputable def tellV (wn : List Int) (p : Int) (d : TellD) : Obj := listOf #[.int ((clt wn p : Nat) : Int) d.2.1, .int (((cle wn p : Nat) : Int) - ((clt wn p : Nat) : Int)) d.2.2.1, .int ((wn.length : Int) - ((cle wn p : Nat) : Int)) d.2.2.2] 0
noncomputable def tellE (wn : List Int) : List TellD → List (Addr × Obj)
  | [] => []
  | d :: r => (d.1, tellV wn (-3 + ((r.length : Nat) : Int)) d) :: tellE wn r
noncomputable def tellR (ds : List TellD) : List Value := ds.reverse.map (fun d => .ref d.1)
set_option maxRecDepth 100000 in
set_option maxHeartbeats 8000000 in
theorem halv_c (w : World) (p : Program) (loose : List Str) (mean : ExcName → Option Value) (mg mb : Str → Option Value) (news : List (Addr × Obj)) (l : Addr) (kk : Nat) (wv : List Value) (wn : List Int)
    (hW : WordsAre wv wn) (hlen : wn.length ≤ 10) (S : Sorted wn) :
    Con w p loose mean mg mb 20 179 [.ref l] [] ((l, listOf wv.toArray kk) :: news)
      (fun r news' => ∃ D k ds, ds.length = 7 ∧ r = .ref D ∧ (∀ q ∈ tellE wn ds ++ news, q.1 ≠ D) ∧ l ≠ D ∧ news' = (D, listOf (tellR ds).toArray k) :: (l, listOf wv.toArray kk) :: (tellE wn ds ++ news)) := by
  w_on
  w_strict (
    unfold Con
    intro dp un gd cn cn' cg cc cm a ccd cl outer A₀ base h₀ L m s R B F X N T hd hu hret
    (k_dflt k_enter)
    repeat' (first
      | ((with_reducible show RangeRest _ _ _ _ _ _ _ _ _ _ _ _ _ _ _ _ _); skip; fail "for")
      | (k_unfold; (try dsimp only))
      | ((fail_if_success (with_reducible show RangeRest _ _ _ _ _ _ _ _ _ _ _ _ _ _ _ _ _)); walk1)
      | ((fail_if_success (with_reducible show RangeRest _ _ _ _ _ _ _ _ _ _ _ _ _ _ _ _ _)); (dsimp only; walk1))
      | (leave1; try dsimp only)
      | fail "no step")
    rename_i Dr _ hl1 _ _ _ _ _ _ _ _ _ _ _ i1 hi1
    have offDr : ∀ q ∈ news, q.1 ≠ Dr := allLt_ne hl1.2
    have hlD : l ≠ Dr := Nat.ne_of_lt hl1.1
    have offI : ∀ q ∈ news, q.1 ≠ i1 := allLt_ne hi1.2.2
    dsimp only
    refine range_4 (fun (c : List TellD) (ck : Nat) (_ : Int) (_ : Tok) => (Dr, listOf (tellR c).toArray ck) :: (l, listOf wv.toArray kk) :: (tellE wn c ++ news)) (fun _ _ lo tt => [(Str.ofString "last", .int lo tt)]) [Str.ofString "place", Str.ofString "first", Str.ofString "last"]
      (fun i c _ lo _ => c.length = i ∧ BisL wn (-3 + (i : Int)) lo wn.length ∧ (∀ q ∈ tellE wn c ++ news, q.1 ≠ Dr)) [] 0 0 _ ⟨rfl, trivial⟩ rfl ⟨rfl, BisL.start, offDr⟩ (mem_cons_ne (Nat.ne_of_lt hi1.1) (mem_cons_ne (Nat.ne_of_lt hi1.2.1) offI)) ?_ ?_
    · intro i ds k9 lo9 t9 u9 t8 h9 tk9 T9 hT9 hi hJ9 F9 N9 off9
      have hd9 := hJ9.1
      have hb9 := hJ9.2.1
      have hoff9 := hJ9.2.2
      clear hJ9
      generalize hX9 : tellE wn ds ++ news = X9 at hoff9 N9 off9
      have hoffI9 : ∀ q ∈ X9, q.1 ≠ i1 := fun q hq => off9 q (.tail _ (.tail _ hq))
      have hiD : @Ne Nat Dr i1 := off9 _ (.head _)
      have hil : @Ne Nat l i1 := off9 _ (.tail _ (.head _))
      have hlD' : @Ne Nat l Dr := hlD
      have hUp9 : ∀ q ∈ (l, listOf wv.toArray kk) :: X9, q.1 ≠ Dr := mem_cons_ne hlD hoff9
      have hsz9 : (tellR ds).toArray.size ≤ sizeLine := by
        rw [List.size_toArray, tellR, List.length_map, List.length_reverse, hd9]
        exact Nat.le_trans (Nat.le_of_lt hi) (by decide)
      repeat' (first
        | ((with_reducible show wpAny _ _ (call (Value.ref 48) _ _) _ _ _);
            (k_dflt (refine wpAny_call (Con.l2pp (by k_asm) (by k_asm) (by k_asm) (by k_asm) (by k_asm) rfl (bisl_m (by k_mem) hW hlen S hb9) (by first | exact lt0 (by assumption) (by decide) | exact lt1 (by assumption) (by decide) | exact lt2 (by assumption) (by decide) | exact lt3 (by assumption) (by decide) | exact lt4 (by assumption) (by decide) | ktr_room) (by first | exact lt0 (by assumption) (by decide) | exact lt1 (by assumption) (by decide) | exact lt2 (by assumption) (by decide) | exact lt3 (by assumption) (by decide) | exact lt4 (by assumption) (by decide) | ktr_units) ?_)); intro e8 t4 h' tk' hB8 hl8 F' N'; (have hE8 := hB8.eq); subst hE8; (try dsimp only)))
        | ((with_reducible show wpAny _ _ (call (Value.ref 30) _ _) _ _ _);
            (k_dflt (refine wpAny_call (Con.l2pp (by k_asm) (by k_asm) (by k_asm) (by k_asm) (by k_asm) rfl (bisr_m (by k_mem) hW hlen S (BisR.from hB8)) (by first | exact lt0 (by assumption) (by decide) | exact lt1 (by assumption) (by decide) | exact lt2 (by assumption) (by decide) | exact lt3 (by assumption) (by decide) | exact lt4 (by assumption) (by decide) | ktr_room) (by first | exact lt0 (by assumption) (by decide) | exact lt1 (by assumption) (by decide) | exact lt2 (by assumption) (by decide) | exact lt3 (by assumption) (by decide) | exact lt4 (by assumption) (by decide) | ktr_units) ?_)); intro e7 t4 h' tk' hB7 hl7 F' N'; (have hE7 := hB7.eq); subst hE7; (try dsimp only)))
        | ((with_reducible show wpAny _ _ (call (Value.builtin "len") [Value.ref _]) _ _ _); refine len_words (News.isList (by k_asm) (by k_mem)) hW hlen ?_; (try dsimp only))
        | ((with_reducible show wpAny _ _ (call (Value.builtin "list.append") (_ ++ _)) _ _ _); dsimp only [List.cons_append, List.nil_append])
        | ((with_reducible show wpAny _ _ (call (Value.builtin "list.append") [Value.ref Dr, Value.ref _]) _ _ _); k_dflt (refine append_K (by k_asm) (by k_asm) (by k_upd) ?_ hsz9); intro hA FA NA)
        | ((with_reducible show T9 _ _); rw [hT9]; dsimp only [TurnF])
        | ((with_reducible show ListEnd _ _ _ _ _ _ _ _ _ _ _); fail "stop")
        | (k_unfold; (try dsimp only))
        | ((fail_if_success (with_reducible show ListEnd _ _ _ _ _ _ _ _ _ _ _)); walk1)
        | ((fail_if_success (with_reducible show ListEnd _ _ _ _ _ _ _ _ _ _ _)); (dsimp only; walk1))
        | (leave1; try dsimp only)
        | fail "no step")
      rename_i lN _ _ _ l1N
      dsimp only at NA FA
      have hcls : (-3 : Int) + ((i : Nat) : Int) + 1 = -3 + ((i + 1 : Nat) : Int) := by omega
      have ⟨ta, tb, tc, hNA⟩ : ∃ ta tb tc, News _ _ hA ((lN, tellV wn (-3 + ((i : Nat) : Int)) (lN, ta, tb, tc)) :: (i1, itR (-3 + ((i + 1 : Nat) : Int)) (((7 : Nat) : Int) - ((i + 1 : Nat) : Int))) :: (Dr, listOf ((tellR ds).toArray.push (.ref lN)) (k9 + 1)) :: (l, listOf wv.toArray kk) :: X9) := ⟨_, _, _, NA⟩
      have eL : (tellR ds).toArray.push (.ref lN) = (tellR ((lN, ta, tb, tc) :: ds)).toArray := by simp [tellR]
      have eE : (lN, tellV wn (-3 + ((i : Nat) : Int)) (lN, ta, tb, tc)) :: X9 = tellE wn ((lN, ta, tb, tc) :: ds) ++ news := by rw [← hX9, ← hd9]; rfl
      have l1D : @Ne Nat lN Dr := Nat.ne_of_gt l1N.2.1
      have l1i : @Ne Nat lN i1 := Nat.ne_of_gt l1N.1
      rw [eL] at hNA
      refine ListEnd.intro0 ((lN, ta, tb, tc) :: ds, k9 + 1, ((cle wn (-3 + ((i : Nat) : Int)) : Nat) : Int), t4) FA (fun q hq => hNA q ?_) ?_ ⟨rfl, trivial⟩ ?_ ⟨by rw [List.length_cons, hd9], ?_, ?_⟩
      · dsimp only at hq
        rw [← eE] at hq
        revert q hq
        (repeat (first | (intro q hq; (repeat (first | exact hq | refine List.Mem.tail _ ?_)); done) | refine sub_cons (by repeat (first | exact List.Mem.head _ | refine List.Mem.tail _ ?_)) ?_))
      · dsimp only
        rw [← eE]
        exact mem_cons_ne hiD (mem_cons_ne hil (mem_cons_ne l1i hoffI9))
      · intro z h2 h3
        repeat (first | exact if_out h3 | refine if_skip (off3s h3).1 ?_ | refine if_skip (off3s h3).2.1 ?_ | refine if_skip (off3s h3).2.2 ?_)
      · exact BisL.from hB7 (by omega)
      · dsimp only
        rw [← eE]
        exact mem_cons_ne l1D hoff9
    · intro ds k9 lo9 t9 u9 h9 tk9 hJ9 F9 N9
      have hd9 := hJ9.1
      have hoff9 := hJ9.2.2
      clear hJ9
      repeat' (first
        | (k_unfold; (try dsimp only))
        | walk1
        | (dsimp only; walk1)
        | (leave1; try dsimp only)
        | fail "no step")
      exact hret _ _ _ _ (ex3i Dr k9 ds ⟨hd9, rfl, hoff9, hlD, rfl⟩) (by assumption) (by assumption))
end Mine
end

section
open PySem PySem.W PyProof.Rows
namespace Mine
theorem fill6b : PySem.Challenge.rw_sr0032_01.foot = 12 ∧ Mine.hd.heap_39 = Mine.hd.heap_39 := by
  k_fill
  exact ⟨rfl, rfl⟩
set_option maxRecDepth 100000 in
set_option maxHeartbeats 8000000 in
theorem bisl4_c (w : World) (p : Program) (loose : List Str) (mean : ExcName → Option Value) (mg mb : Str → Option Value) (news : List (Addr × Obj)) (l : Addr) (vs : List Value) (ns : List Int) (k : Nat) (x lo : Int) (t t2 : Tok) (pos : List Value)
    (hpos : pos = [.ref l, .int x t, .int lo t2, .none]) (hW : WordsAre vs ns) (hlen : ns.length ≤ 10) (S : Sorted ns) (hb : BisL ns x lo ns.length) :
    Con w p loose mean mg mb 12 48 pos [(Str.ofString "key", .ref 165)] ((l, listOf vs.toArray k) :: news) (fun r news' => ∃ e t3, r = .int e t3 ∧ BisL ns x e e ∧ lo ≤ e ∧ news' = (l, listOf vs.toArray k) :: news) := by
  w_on
  w_strict (
    subst hpos
    unfold Con
    intro dp un gd cn cn' cg cc cm a ccd cl outer A₀ base h₀ L m s R B F X N T hd hu hret
    (k_dflt k_enter)
    have hlo := hb.h0
    repeat' (first
      | ((with_reducible show wpAny _ _ (call (Value.ref 165) _) _ _ _); k_dflt (refine wpAny_call (Con.l1 (by k_asm) (by k_asm) (by k_asm) (by k_asm) (by k_asm) rfl (port_c _ _ _ _ _ _ _ _ _) (by first | exact lt0 (by assumption) (by decide) | exact lt1 (by assumption) (by decide) | exact lt2 (by assumption) (by decide) | exact lt3 (by assumption) (by decide) | exact lt4 (by assumption) (by decide) | ktr_room) (by first | exact lt0 (by assumption) (by decide) | exact lt1 (by assumption) (by decide) | exact lt2 (by assumption) (by decide) | exact lt3 (by assumption) (by decide) | exact lt4 (by assumption) (by decide) | ktr_units) ?_)); intro t3 h' tk' F' N'; (try dsimp only))
      | ((with_reducible show wpAny _ _ (call (Value.builtin "len") [Value.ref _]) _ _ _); refine len_words (News.isList (by k_asm) (by k_mem)) hW hlen ?_; (try dsimp only))
      | ((with_reducible show wpAny _ _ (subscriptTail _ _ (Value.ref _) (Value.int _ _)) _ _ _); (with_reducible rename BisL _ _ _ _ => hB9); (with_reducible rename (_ : Int) < _ => hlt9); (have hm9 := mid_bd hlt9); refine item_words (News.isList (by k_asm) (by k_mem)) hW (by have := hB9.h0; omega) (by have := hB9.h2; omega) hlen ?_ (by with_unfolding_all rfl) (by intro _; with_unfolding_all rfl); intro t9; (try dsimp only))
      | ((with_reducible show wpAny _ _ (exec (PySem.Stmt.While _ _ _ _) _) _ _ _); k_dflt (refine' bis_while (led := (l, listOf vs.toArray k) :: news) (fun a b => BisL ns x a b ∧ lo ≤ a) lo (ns.length : Int) ?t1 ?t2 ?F ?N ?p1 ?p2 ?P ?_ ?hE; (case F => k_asm); (case N => k_asm); (case p1 => exact rfl); (case p2 => exact rfl); (case P => exact ⟨hb, Int.le_refl _⟩); (case hE => first | passes_own | with_unfolding_all passes_own)); intro lo9 hi9 t19 t29 u9 h9 tk9 T9 hT9 hP9 F9 N9; (have hB9 := hP9.1); (have hl9 := hP9.2); clear hP9)
      | ((with_reducible show T9 _ _); rw [hT9]; dsimp only [KswPost])
      | ((with_reducible show KswEnd _ _ _ _ _ _ _ _ _ _ _ _); first
          | refine ksw_end ((lo9 + hi9).fdiv 2 + 1, hi9, _, t29) (by k_asm) (by k_asm) (fun _ h => h) trivial (bis_ps (by rfl) (by rfl)) (fun z h2 h3 => by repeat (first | exact outW h3 | refine skipW (h2 _ (.head _)) ?_ | refine skipW (h2 _ (.tail _ (.head _))) ?_ | refine skipW (off1W h3) ?_)) ⟨hB9.up S hm9 (by assumption), Int.le_add_one (Int.le_trans hl9 hm9.1)⟩ (by exact meas2 hlt9 hm9)
          | refine ksw_end (lo9, (lo9 + hi9).fdiv 2, t19, _) (by k_asm) (by k_asm) (fun _ h => h) trivial (bis_ps (by rfl) (by rfl)) (fun z h2 h3 => by repeat (first | exact outW h3 | refine skipW (h2 _ (.head _)) ?_ | refine skipW (h2 _ (.tail _ (.head _))) ?_ | refine skipW (off1W h3) ?_)) ⟨hB9.down S hm9 (by assumption), hl9⟩ (by exact meas1 hlt9 hm9))
      | (k_unfold; (try dsimp only))
      | (walk1 <;> (try dsimp only))
      | (dsimp only; walk1)
      | (leave1; try dsimp only)
      | fail "no step")
    have e9 : hi9 = lo9 := Int.le_antisymm (Int.not_lt.mp (by assumption)) hB9.h1
    rw [e9] at hB9
    exact hret _ _ _ _ (ex2i _ _ ⟨rfl, hB9, hl9, rfl⟩) (by assumption) (by assumption))
end Mine
end

section
open PySem PySem.W PyProof.Rows
namespace Mine
theorem fill7 : PySem.Challenge.rw_sr0032_01.foot = 12 ∧ Mine.hd.heap_39 = Mine.hd.heap_39 := by
  k_fill
  exact ⟨rfl, rfl⟩
theorem ins_words {vs : List Value} {ns : List Int} {n e : Int} {t : Tok} (hW : WordsAre vs ns) (b : BisL ns (portOf n) e e) : WordsAre (kl_ins vs e (.str (replyS n) t)) (insL n ns) := by
  have h0 := b.h0
  have h2 := b.h2
  have he : kl_ins vs e (.str (replyS n) t) = vs.take e.toNat ++ .str (replyS n) t :: vs.drop e.toNat := by
    unfold kl_ins
    rw [if_neg (Int.not_lt.mpr h0), Nat.min_eq_left (by rw [hW.length]; exact Int.toNat_le.mpr h2)]
  rw [he, ← insL_at n ns e.toNat (Int.toNat_le.mpr h2) (fun i hi => b.below i (Int.lt_toNat.mp hi)) (fun i h1 h3 => b.above i (Int.toNat_le.mp h1) h3)]
  exact (hW.take _).append (.cons n t (hW.drop _))
set_option maxRecDepth 100000 in
set_option maxHeartbeats 8000000 in
theorem insort_c (w : World) (p : Program) (loose : List Str) (mean : ExcName → Option Value) (mg mb : Str → Option Value) (news : List (Addr × Obj)) (l : Addr) (vs : List Value) (ns : List Int) (k : Nat) (n : Int) (t : Tok)
    (hW : WordsAre vs ns) (hlen : ns.length ≤ 9) (S : Sorted ns) (hoff : ∀ q ∈ news, q.1 ≠ l) :
    Con w p loose mean mg mb 16 39 [.ref l, .str (replyS n) t] [(Str.ofString "key", .ref 165)] ((l, listOf vs.toArray k) :: news)
      (fun r news' => ∃ vs' k', r = .none ∧ WordsAre vs' (insL n ns) ∧ news' = (l, listOf vs'.toArray k') :: news) := by
  w_on
  w_strict (
    unfold Con
    intro dp un gd cn cn' cg cc cm a ccd cl outer A₀ base h₀ L m s R B F X N T hd hu hret
    (k_dflt k_enter)
    repeat' (first
      | ((with_reducible show wpAny _ _ (call (Value.ref 165) _) _ _ _); k_dflt (refine wpAny_call (Con.l1 (by k_asm) (by k_asm) (by k_asm) (by k_asm) (by k_asm) rfl (port_c _ _ _ _ _ _ _ _ _) (by first | exact lt0 (by assumption) (by decide) | exact lt1 (by assumption) (by decide) | exact lt2 (by assumption) (by decide) | exact lt3 (by assumption) (by decide) | exact lt4 (by assumption) (by decide) | ktr_room) (by first | exact lt0 (by assumption) (by decide) | exact lt1 (by assumption) (by decide) | exact lt2 (by assumption) (by decide) | exact lt3 (by assumption) (by decide) | exact lt4 (by assumption) (by decide) | ktr_units) ?_)); intro t3 h' tk' F' N'; (try dsimp only))
      | ((with_reducible show wpAny _ _ (call (Value.ref 48) _ _) _ _ _); k_dflt (refine wpAny_call (Con.l2pp (by k_asm) (by k_asm) (by k_asm) (by k_asm) (by k_asm) rfl (bisl4_c _ _ _ _ _ _ news l vs ns k (portOf n) 0 _ _ _ rfl hW (Nat.le_succ_of_le hlen) S ⟨by decide, Int.natCast_nonneg _, Int.le_refl _, fun i h => absurd h (Int.not_lt.mpr (Int.natCast_nonneg i)), fun i h1 h2 => absurd h2 (by omega)⟩) (by first | exact lt0 (by assumption) (by decide) | exact lt1 (by assumption) (by decide) | exact lt2 (by assumption) (by decide) | exact lt3 (by assumption) (by decide) | exact lt4 (by assumption) (by decide) | ktr_room) (by first | exact lt0 (by assumption) (by decide) | exact lt1 (by assumption) (by decide) | exact lt2 (by assumption) (by decide) | exact lt3 (by assumption) (by decide) | exact lt4 (by assumption) (by decide) | ktr_units) ?_)); intro e9 t4 h' tk' hB9 hl9 F' N'; (try dsimp only))
      | ((with_reducible show wpAny _ _ (call (Value.builtin "list.insert") _) _ _ _); k_dflt (refine kl_insert (by k_asm) (by k_asm) (by have := hB9.h0; have := hB9.h2; simp [Builtin.List.listFitsIndex]; omega) rfl (Upd.head hoff) (by rw [hW.length]; exact Nat.le_trans hlen (by decide)) ?_); intro h' F' N')
      | (k_unfold; (try dsimp only))
      | (walk1 <;> (try dsimp only))
      | (dsimp only; walk1)
      | (leave1; try dsimp only)
      | fail "no step")
    exact hret _ _ _ _ ⟨_, _, rfl, ins_words hW hB9, rfl⟩ (by assumption) (by assumption))
end Mine
end

section
open PySem PySem.W PyProof.Rows
namespace Mine
theorem fill8 : PySem.Challenge.rw_sr0032_01.foot = 12 ∧ Mine.hd.heap_39 = Mine.hd.heap_39 := by
  k_fill
  exact ⟨rfl, rfl⟩
noncomputable def rowL (ns : List Int) : List Int := ns.foldl (fun r n => insL n r) []
theorem rowL_snoc (ns : List Int) (n : Int) : rowL (ns ++ [n]) = insL n (rowL ns) := by unfold rowL; rw [List.foldl_append]; rfl
theorem foldl_ins_sorted : ∀ (ns r : List Int), Sorted r → Sorted (ns.foldl (fun r n => insL n r) r)
  | [], _, h => h
  | n :: ns, r, h => foldl_ins_sorted ns _ (insL_sorted h)
theorem rowL_sorted (ns : List Int) : Sorted (rowL ns) := foldl_ins_sorted ns [] sorted_nil
theorem foldl_ins_length : ∀ (ns r : List Int), (ns.foldl (fun r n => insL n r) r).length = r.length + ns.length
  | [], _ => rfl
  | n :: ns, r => by rw [List.foldl_cons, foldl_ins_length ns, insL_length, List.length_cons, Nat.add_right_comm, Nat.add_assoc]
theorem rowL_length (ns : List Int) : (rowL ns).length = ns.length := by unfold rowL; rw [foldl_ins_length]; simp
theorem take_snoc_getD {ns : List Int} {i : Nat} (h : i < ns.length) : ns.take (i + 1) = ns.take i ++ [ns.getD i 0] := by
  rw [List.take_add_one, List.getElem?_eq_getElem h]
  simp [List.getD_eq_getElem?_getD, h]
set_option maxRecDepth 100000 in
set_option maxHeartbeats 8000000 in
theorem row_c (w : World) (p : Program) (loose : List Str) (mean : ExcName → Option Value) (mg mb : Str → Option Value) (news : List (Addr × Obj)) (l : Addr) (kk : Nat) (wv : List Value) (wn : List Int)
    (hW : WordsAre wv wn) (hlen : wn.length ≤ 9) :
    Con w p loose mean mg mb 20 172 [.ref l] [] ((l, listOf wv.toArray kk) :: news)
      (fun r news' => ∃ D vs' k', r = .ref D ∧ WordsAre vs' (rowL wn) ∧ (∀ q ∈ news, q.1 ≠ D) ∧ l ≠ D ∧ news' = (D, listOf vs'.toArray k') :: (l, listOf wv.toArray kk) :: news) := by
  w_on
  w_strict (
    unfold Con
    intro dp un gd cn cn' cg cc cm a ccd cl outer A₀ base h₀ L m s R B F X N T hd hu hret
    (k_dflt k_enter)
    repeat' (first
      | ((with_reducible show ForSrc _ _ _ _ _ _ _ _ _ _); fail "stop")
      | ((with_reducible show wpAny _ _ (exec (PySem.Stmt.For _ _ _ _ _) _) _ _ _); refine for_src ?_ (by intro _; rfl) (by first | passes_own | with_unfolding_all passes_own))
      | (k_unfold; (try dsimp only))
      | ((fail_if_success (with_reducible show ForSrc _ _ _ _ _ _ _ _ _ _)); (walk1 <;> (try dsimp only)))
      | ((fail_if_success (with_reducible show ForSrc _ _ _ _ _ _ _ _ _ _)); (dsimp only; walk1))
      | (leave1; try dsimp only)
      | fail "no step")
    (with_reducible rename Fr _ _ _ _ => F1)
    (with_reducible rename News _ _ _ _ => N1)
    rename_i Dr hx9 hl1 hAll
    have offDr : ∀ q ∈ news, q.1 ≠ Dr := allLt_ne hl1.2
    have hlD : l ≠ Dr := Nat.ne_of_lt hl1.1
    have offD : ∀ q ∈ (l, listOf wv.toArray kk) :: news, q.1 ≠ Dr := mem_cons_ne hlD offDr
    refine forsrc_list2 (its := wv.toArray) (kk := kk) (l := l) (fun (cz : List Value) (ck : Nat) => (Dr, listOf cz.toArray ck) :: (l, listOf wv.toArray kk) :: news) (fun _ _ => []) [Str.ofString "word"]
      (fun i cz _ => WordsAre cz (rowL (wn.take i))) [] 0 rfl F1 N1 trivial .nil (fun _ _ => .tail _ (.head _)) ?_ ?_
    · intro i v vs9 k9 u9 I9 oI9 h9 tk9 T9 hT9 hv hi hW9 F9 N9 off9 hLI9
      obtain ⟨t9, ht9⟩ := hW.get (i := i) (by simpa [hW.length] using hi)
      have hv' : v = .str (replyS (wn.getD i 0)) t9 := Option.some.inj ((by simpa using hv : wv[i]? = some v).symm.trans ht9)
      subst hv'
      repeat' (first
        | ((with_reducible show wpAny _ _ (call (Value.ref 39) _ _) _ _ _); k_dflt (refine wpAny_call (Con.l2p (by k_asm) (by k_asm) (by k_asm) (swapN (by assumption)) (by k_asm) rfl (insort_c _ _ _ _ _ _ ((I9, oI9) :: (l, listOf wv.toArray kk) :: news) _ _ _ _ _ _ hW9 (by rw [rowL_length, List.length_take]; omega) (rowL_sorted _) (mem_cons_ne (Ne.symm (off9 _ List.mem_cons_self)) offD)) (by first | exact lt0 (by assumption) (by decide) | exact lt1 (by assumption) (by decide) | exact lt2 (by assumption) (by decide) | exact lt3 (by assumption) (by decide) | exact lt4 (by assumption) (by decide) | ktr_room) (by first | exact lt0 (by assumption) (by decide) | exact lt1 (by assumption) (by decide) | exact lt2 (by assumption) (by decide) | exact lt3 (by assumption) (by decide) | exact lt4 (by assumption) (by decide) | ktr_units) ?_)); intro vs8 k8 h' tk' hW8 F' N'; (try dsimp only))
        | ((with_reducible show T9 _ _); rw [hT9]; dsimp only [TurnF])
        | ((with_reducible show ListEnd _ _ _ _ _ _ _ _ _ _ _); fail "stop")
        | (k_unfold; (try dsimp only))
        | ((fail_if_success (with_reducible show ListEnd _ _ _ _ _ _ _ _ _ _ _)); (walk1 <;> (try dsimp only)))
        | ((fail_if_success (with_reducible show ListEnd _ _ _ _ _ _ _ _ _ _ _)); (dsimp only; walk1))
        | (leave1; try dsimp only)
        | fail "no step")
      have hi' : i < wn.length := by simpa [hW.length] using hi
      refine ListEnd.intro (vs8, k8) (by k_asm) (swapN (by assumption)) (mem_cons_ne (Ne.symm (fun e => off9 _ List.mem_cons_self e.symm)) (fun q hq => off9 q (List.mem_cons_of_mem _ hq))) (fun p hp => nomatch hp) ?_ ?_
      · intro z h2 h3
        repeat (first | exact if_out h3 | refine if_skip (off1 h3) ?_)
      · show WordsAre vs8 (rowL (wn.take (i + 1)))
        rw [take_snoc_getD hi', rowL_snoc]
        exact hW8
    · intro vs9 k9 u9 h9 tk9 hW9 F9 N9
      repeat' (first
        | (k_unfold; (try dsimp only))
        | ((fail_if_success (with_reducible show ListEnd _ _ _ _ _ _ _ _ _ _ _)); (walk1 <;> (try dsimp only)))
        | ((fail_if_success (with_reducible show ListEnd _ _ _ _ _ _ _ _ _ _ _)); (dsimp only; walk1))
        | (leave1; try dsimp only)
        | fail "no step")
      have e9 : wn.take wv.toArray.size = wn := by rw [List.size_toArray, hW.length, List.take_length]
      rw [e9] at hW9
      exact hret _ _ _ _ (ex3i Dr vs9 k9 ⟨rfl, hW9, offDr, hlD, rfl⟩) (by assumption) (by assumption))
end Mine
end

section
open PySem PySem.W PyProof.Rows
namespace Mine
theorem fill20 : PySem.Challenge.rw_sr0032_01.foot = 12 ∧ Mine.hd.heap_39 = Mine.hd.heap_39 := by
  k_fill
  exact ⟨rfl, rfl⟩
set_option maxRecDepth 100000 in
set_option maxHeartbeats 8000000 in
theorem lex_c (w : World) (p : Program) (loose : List Str) (mean : ExcName → Option Value) (mg mb : Str → Option Value) (news : List (Addr × Obj)) (cs : List Nat) (t : Tok)
    (hlen : cs.length ≤ 200) (h153 : ∀ q ∈ news, q.1 ≠ 153) :
    ConL w p loose mean mg mb 20 158 [.str (codesOf cs) t] [] ((153, tabObj #[]) :: news)
      (fun r news' => ∃ (S : LexS) (tl tp : Tok) (kA : Nat) (ps : Array Value), r = .ref S.xI ∧ AllLt S.cT ((153, tabObj ps) :: news) ∧ S.Ok ((153, tabObj ps) :: news) ∧ S.Read w p loose mean mg mb cs ∧ news' = S.led w 1 tl 0 tp kA ((153, tabObj ps) :: news)) := by
  w_on
  w_strict (
    unfold ConL
    intro dp un gd cn cn' cg cc cm a ccd cl outer A₀ base h₀ L m s R hCd B F X N T hd hu hret
    (k_dflt k_enter)
    repeat' (first
      | (k_unfold; (try dsimp only))
      | (walk1 <;> (try dsimp only))
      | (dsimp only; walk1)
      | (leave1; try dsimp only)
      | fail "no step")
    (with_reducible rename Fr _ _ _ _ => F5)
    (with_reducible rename News _ _ _ _ => N5)
    rename_i Lc _ _ _ _ _ _ hl5 oA oT hoA hoT lA _ hlA
    have hoA1 : oA.data = .cell none := hoA
    have hoT1 : oT.data = .cell (some (.str (codesOf cs) t)) := hoT
    clear hoA hoT
    refine store_cell (c := Lc + 1 + 1) (oc := oA) (v₀ := none) (rest := (lA, _) :: (Lc + 1, oT) :: (153, tabObj #[]) :: news) F5 (swapN N5) ?_ hoA1 (by rfl) (by rfl) (by rfl) ?_
    · exact mem_cons_ne (Nat.ne_of_gt hlA.1) (mem_cons_ne (Nat.ne_of_lt (Nat.lt_succ_self _)) (mem_cons_ne (Nat.ne_of_lt (Nat.lt_succ_of_lt (Nat.lt_succ_of_lt hl5.1))) (allLt_ne (allLt_le (Nat.le_of_lt (Nat.lt_succ_of_lt (Nat.lt_succ_self _))) hl5.2))))
    clear F5 N5
    intro h6 oA6 hoA6 F6 N6
    dsimp only
    repeat' (first
      | (k_unfold; (try dsimp only))
      | (walk1 <;> (try dsimp only))
      | (dsimp only; walk1)
      | (leave1; try dsimp only)
      | fail "no step")
    (with_reducible rename Fr _ _ _ _ => F7)
    (with_reducible rename News _ _ _ _ => N7)
    refine setattr_fnK F7 N7 ?_ (by rfl) (by rfl) (by intro c hc; cases hc) (by intro D; rfl) ?_
    · rename_i cS9 _ _ _ _ _ _ _ _ hl9 hm9 _
      exact mem_cons_ne (Nat.ne_of_lt hm9) (mem_cons_ne (Nat.ne_of_lt (Nat.lt_trans hl9.1 hm9)) (mem_cons_ne (Nat.ne_of_lt (Nat.lt_trans hl9.2.1 hm9)) (mem_cons_ne (Nat.ne_of_lt (Nat.lt_trans hl9.2.2.1 hm9)) (mem_cons_ne (Nat.ne_of_lt (Nat.lt_trans hl9.2.2.2.1 hm9)) (mem_cons_ne (Nat.ne_of_lt (Nat.lt_trans hl9.2.2.2.2.1 hm9)) (mem_cons_ne (Nat.ne_of_lt (Nat.lt_trans hl9.2.2.2.2.2.1 hm9)) (allLt_ne (allLt_le (Nat.le_of_lt hm9) hl9.2.2.2.2.2.2))))))))
    clear F7 N7
    intro h8 tk8 D8 od8 hod8 F8 N8 l8
    dsimp only at N8 ⊢
    (try k_lt l8)
    repeat' (first
      | (k_unfold; (try dsimp only))
      | (walk1 <;> (try dsimp only))
      | (dsimp only; walk1)
      | (leave1; try dsimp only)
      | fail "no step")
    (with_reducible rename News _ _ _ _ => kN)
    (with_reducible rename Fr _ _ _ _ => kF)
    refine hret _ _ _ _ (ex5i (LexS.mk _ _ _ _ _ _ _ _ _ _ _ _ _ _ _ _ _ _ _ _ _) _ _ _ _ ⟨rfl, ⟨Nat.lt_succ_of_lt hl5.1, allLt_le (Nat.le_succ _) hl5.2⟩, ⟨?_, ?_, hod8, rfl, rfl, ?_, ⟨_, _, _, _, rfl⟩⟩, ?hread, rfl⟩) kF (subN kN (.cons_cons _ (.cons_cons _ (.cons_cons _ (.cons_cons _ (.cons_cons _ (.cons _ (.cons_cons _ (.cons_cons _ (.cons_cons _ (.cons_cons _ (.cons_cons _ (.cons_cons _ (List.Sublist.refl _))))))))))))))
    · dsimp only
      have e1 : @LT.lt Nat _ (Lc + 1) (Lc + 1 + 1) := Nat.lt_succ_self _
      refine ⟨e1, hlA.1, ?_, by assumption, ?_, ?_, ?_, by assumption, ?_⟩
      all_goals (first | exact And.left (by assumption) | exact And.left (And.right (by assumption)) | (refine Nat.lt_trans ?_ (by assumption); first | exact And.left (by assumption) | exact And.left (And.right (by assumption))) | skip)
    · intro q hq
      rcases List.mem_cons.mp hq with rfl | hq
      · refine ⟨Nat.ne_of_lt ?_, Nat.ne_of_lt hlA.2.2.1⟩
        exact And.left (And.right (And.right (And.right (And.right (And.right (And.right (And.right (And.right (by assumption)))))))))
      refine ⟨?_, allLt_ne hlA.2.2.2 q hq⟩
      refine allLt_ne (D := _) ?_ q hq
      exact And.right (And.right (And.right (And.right (And.right (And.right (And.right (And.right (And.right (by assumption)))))))))
    · intro c hc
      cases hc
    · clear F X N T B hd hu hret kF
      intro news2 i tp2 t2 kA2 hi2 hoff2
      unfold Con
      intro dp2 un2 gd2 cn2 cn2' cg2 cc2 cm2 a2 ccd2 cl2 outer2 A₂ base2 h₂ L2 m2 s2 R2 B F X N T hd hu hret
      dsimp only [LexS.rled] at hoff2 N hret
      have hcl2 : (codesOf cs).length ≤ sizeLine := by rw [codes_len]; (first | exact Nat.le_trans (by assumption) (by decide) | (rw [show sizeLine = 16777216 from rfl]; omega))
      have hcut := slice_sign cs i hi2
      have hnx := sign_len cs i hi2
      have hsl : (signAt cs i).length ≤ 1 := by unfold signAt; rw [codes_len, List.length_take]; exact Nat.min_le_left _ _
      generalize hSg : signAt cs i = sg at hcut hnx hsl
      (k_dflt kn_enter)
      repeat' (first
        | rw [show ([(i : Int)] : List Int).getD (Int.toNat 0) 0 = (i : Int) from rfl]
        | rw [hcut]
        | ((with_reducible show wpAny _ _ (subscriptTail _ (Expr.Slice (some _) (some _) none _) (Value.str _ _) (Value.ref _)) _ _ _); refine slice_strN_ss (hsz := hcl2) (s := ⟨_, _, _, _, _⟩) (by k_asm) (by k_asm) ?_; intro _ _ _ _ _)
        | (k_unfold; (try dsimp only))
        | (walk1 <;> (try dsimp only))
        | (dsimp only; walk1)
        | (leave1; try dsimp only)
        | fail "no step")
      (with_reducible rename News _ _ _ _ => kN2)
      rw [hnx] at kN2
      rw [← hSg]
      exact hret _ _ _ _ (ex3i _ _ _ ⟨rfl, rfl⟩) (by assumption) kN2)
end Mine
end

section
open PySem PySem.W PyProof.Rows PySem.Calls PyProof.V PySem.Spec PyProof.Rows.LCg
namespace Mine
/-- an element has come back with one new object of its own -/
noncomputable def GrowEnd (h₀ : Heap) (L : Addr) (m : Str → Option Value) (s₁ : Shared) (I : Addr) (oI : Obj) (C : Addr) (oC : Obj) (D : Addr) (oD : Obj) (B tl : List (Addr × Obj)) (rest : Value → Addr → Obj → Prop) (y : Value) (s₂ : Shared) : Prop :=
  ∃ h' tk a o, s₂ = { s₁ with heap := h', toks := tk } ∧ Fr h₀ L h' m ∧ News h₀ L h' ((a, o) :: (I, oI) :: (C, oC) :: (D, oD) :: (B ++ tl)) ∧ (∀ q ∈ (I, oI) :: (C, oC) :: (D, oD) :: (B ++ tl), q.1 ≠ a) ∧ rest y a o
section
variable {prog : Program} {w : World} {A : Around} {h₀ : Heap} {L : Addr} {m : Str → Option Value} {env : Env} {elt : PySem.Expr} {x : Str} {scope : Scope} {cl : List (Str × Addr)} {s : Shared} {S : List (Addr × Obj) → Prop} {P : Nat → Value → Prop} {Fin : List Value → List (Addr × Obj) → Prop}
theorem rest_grow {n : Nat} (B : List (Addr × Obj)) (Acc : Nat → List Value → List (Addr × Obj) → Prop) (h0 : Acc 0 [] []) (hS : ∀ tl, S (B ++ tl))
    (turn : ∀ i v ys tl I oI C oC D m₂ h tk (E' : Value → Shared → Prop), i < n → P i v → Acc i ys tl → NsObj oC m₂ → m₂ x = some v → Fr h₀ L h m → News h₀ L h ((I, oI) :: (C, oC) :: (D, lst ys) :: (B ++ tl)) → Off3 I C D (B ++ tl) → ((@Ne Nat I C) ∧ (@Ne Nat I D) ∧ (@Ne Nat C D)) → ∀ T, T = GrowEnd h₀ L m { s with heap := h, toks := tk } I oI C oC D (lst ys) B tl (fun y a o => Acc (i + 1) (ys ++ [y]) ((a, o) :: tl)) →
      wpAny (model prog w) A (eval elt (compEnvC scope cl C env)) T E' { s with heap := h, toks := tk })
    (fin : ∀ ys tl, Acc n ys tl → (∀ q ∈ tl, ∀ b ∈ B, b.1 ≠ q.1) → Fin ys (B ++ tl)) : CompRest prog w A h₀ L m env elt x scope cl s S P Fin n 0 [] B := by
  have hB : B = B ++ [] := (List.append_nil B).symm
  rw [show CompRest prog w A h₀ L m env elt x scope cl s S P Fin n 0 [] B = CompRest prog w A h₀ L m env elt x scope cl s S P Fin n 0 [] (B ++ []) from by rw [List.append_nil]]
  refine rest_any (fun i ys nw => ∃ tl, nw = B ++ tl ∧ Acc i ys tl ∧ ∀ q ∈ tl, ∀ b ∈ B, b.1 ≠ q.1) ⟨[], rfl, h0, fun q hq => nomatch hq⟩ ?_ ?_
  · intro i v ys nw I oI C oC D m₂ h tk E' hi hv hK hC hx F N off ne
    have ⟨tl, hB⟩ := hK
    have hA := hB.2.1
    have hD := hB.2.2
    rw [hB.1] at N off
    clear hK hB
    refine wpAny_mono (turn i v ys tl I oI C oC D m₂ h tk E' hi hv hA hC hx F N off ne _ rfl) (fun y s₂ hq => ?_) fun _ _ e => e
    obtain ⟨h', tk', a, o, rfl, F', N', offA, hA'⟩ := hq
    refine ⟨h', tk', B ++ (a, o) :: tl, rfl, F', fun p hp => N' p ?_, Off3.of fun p hp => ?_, hS _, _, rfl, hA', fun q hq b hb => ?_⟩
    · exact sub_cons (.tail _ (.head _)) (sub_cons (.tail _ (.tail _ (.head _))) (sub_cons (.tail _ (.tail _ (.tail _ (.head _)))) (fun q hq => (List.mem_append.mp hq).elim (fun h => .tail _ (.tail _ (.tail _ (.tail _ (List.mem_append.mpr (.inl h)))))) (fun h => sub_cons (.head _) (fun q hq => .tail _ (.tail _ (.tail _ (.tail _ (List.mem_append.mpr (.inr hq)))))) q h)))) p hp
    · rcases List.mem_append.mp hp with hp | hp
      · exact off.mem p (List.mem_append.mpr (.inl hp))
      · rcases List.mem_cons.mp hp with rfl | hp
        · exact ⟨Ne.symm (offA (I, oI) (.head _)), Ne.symm (offA (C, oC) (.tail _ (.head _))), Ne.symm (offA (D, lst ys) (.tail _ (.tail _ (.head _))))⟩
        · exact off.mem p (List.mem_append.mpr (.inr hp))
    · rcases List.mem_cons.mp hq with rfl | hq
      · exact offA b (.tail _ (.tail _ (.tail _ (List.mem_append.mpr (.inl hb)))))
      · exact hD q hq b hb
  · rintro ys nw ⟨tl, rfl, hA, hD⟩
    exact fin ys tl hA hD
end
noncomputable abbrev tupO (n : Int) (v : Value) (t2 : Tok) : Obj := { cls := .type "tuple", data := .seq #[v, .int (portOf n) t2] 0 }
/-- a list of pairs of a reply and its port, as they lie in a ledger -/
noncomputable def TupsIn (tl : List (Addr × Obj)) (ys : List Value) (ns : List Int) : Prop :=
  ys.length = ns.length ∧ ∀ (i : Nat) (n : Int), ns[i]? = some n → ∃ (T : Addr) (t1 t2 : Tok), ys[i]? = some (Value.ref T) ∧ (T, tupO n (.str (replyS n) t1) t2) ∈ tl
theorem TupsIn.nil : TupsIn [] [] [] := ⟨rfl, fun _ _ h => nomatch h⟩
theorem TupsIn.snoc {tl : List (Addr × Obj)} {ys : List Value} {ns : List Int} {n : Int} {T : Addr} {t1 t2 : Tok} (h : TupsIn tl ys ns) : TupsIn ((T, tupO n (.str (replyS n) t1) t2) :: tl) (ys ++ [Value.ref T]) (ns ++ [n]) := by
  refine ⟨by simp [h.1], fun i n' hn => ?_⟩
  by_cases hi : i < ns.length
  · rw [List.getElem?_append_left hi] at hn
    obtain ⟨T', a, b, h1, h2⟩ := h.2 i n' hn
    exact ⟨T', a, b, by rw [List.getElem?_append_left (by rw [h.1]; exact hi)]; exact h1, .tail _ h2⟩
  · rw [List.getElem?_append_right (Nat.le_of_not_lt hi)] at hn
    rcases hk : i - ns.length with _ | k
    · rw [hk] at hn
      obtain rfl : n = n' := Option.some.inj hn
      refine ⟨T, t1, t2, ?_, .head _⟩
      rw [List.getElem?_append_right (by rw [h.1]; exact Nat.le_of_not_lt hi), h.1, hk]
      rfl
    · rw [hk] at hn
      exact nomatch hn
theorem TupsIn.mono {tl tl' : List (Addr × Obj)} {ys : List Value} {ns : List Int} (h : TupsIn tl ys ns) (hs : ∀ q ∈ tl, q ∈ tl') : TupsIn tl' ys ns :=
  ⟨h.1, fun i n hn => by obtain ⟨T, a, b, h1, h2⟩ := h.2 i n hn; exact ⟨T, a, b, h1, hs _ h2⟩⟩
section
variable {prog : Program} {w : World} {A : Around} {h₀ : Heap} {L : Addr} {m : Str → Option Value} {env : Env} {x x₂ : Str} {scope : Scope} {cl : List (Str × Addr)} {s : Shared} {S : List (Addr × Obj) → Prop} {P : Nat → Value → Prop} {Fin : List Value → List (Addr × Obj) → Prop}
theorem rest_ports {n : Nat} {news : List (Addr × Obj)} {ys : List Value} {ns : List Int} {p : Pos} (hT : TupsIn news ys ns) (hS : S news) (hkind : scope.kind = .function) (hx : scope.names.lookup x₂ = some .local) (ha : (x₂ == ("__debug__" : Str)) = false) (hP : ∀ i v, P i v → ys[i]? = some v)
    (fin : ∀ zs, IntsAre zs ((ns.take n).map portOf) → Fin zs news) : LCp.CompRestP prog w A h₀ L m env (.Name x₂ p) x x₂ scope cl s S P Fin n 0 [] news := by
  have key : ∀ (j i : Nat) (zs : List Value), i + j = n → IntsAre zs ((ns.take i).map portOf) → LCp.CompRestP prog w A h₀ L m env (.Name x₂ p) x x₂ scope cl s S P Fin j i zs news := by
    intro j
    induction j with
    | zero =>
      intro i zs hi hz
      have e : i = n := hi
      subst e
      exact LCp.CompRestP.zero (fin zs hz)
    | succ j ih =>
      intro i zs hi hz
      refine LCp.CompRestP.succ ?_
      intro v hv
      have hv' := hP i v hv
      have hlt : i < ns.length := by
        rw [← hT.1]
        apply Nat.lt_of_not_le
        intro hl
        rw [List.getElem?_eq_none hl] at hv'
        cases hv'
      have hn : ns[i]? = some ns[i] := List.getElem?_eq_getElem hlt
      obtain ⟨T, t1, t2, h1, h2⟩ := hT.2 i _ hn
      obtain rfl : v = Value.ref T := Option.some.inj (hv'.symm.trans h1)
      refine ⟨T, _, _, _, _, rfl, h2, rfl, rfl, ?_⟩
      intro I oI C oC D m₂ h tk E' hC hx1 hx2 F N off ne
      have hfun : (compEnvC scope cl C env).scope.kind = .function := hkind
      have hns : Heap.Ns h C m₂ := hC.ns (N (C, oC) (.tail _ (.head _))).1
      refine wpAny_Name (wpAny_loadName_local hfun (lookup_relabel_local hx) hns hx2 ?_) ha
      refine CompEnd.intro F N news (fun p hp => hp) off hS (ih (i + 1) _ (by rw [← hi, Nat.add_assoc, Nat.add_comm 1]) ?_)
      rw [List.take_add_one, hn, List.map_append]
      exact hz.append (.cons _ _ .nil)
  exact key n 0 [] (Nat.zero_add n) .nil
end
end Mine
end

section
open PySem PySem.W PyProof.Rows
namespace Mine
theorem fill11 : PySem.Challenge.rw_sr0032_01.foot = 12 ∧ Mine.hd.heap_39 = Mine.hd.heap_39 := by
  k_fill
  exact ⟨rfl, rfl⟩
noncomputable def prodL (ps : List Int) : List Int := ps.foldl (fun rs p => stepL (fun u v => u - p * v) rs) [1]
theorem foldl_prod_length : ∀ (ps r : List Int), (ps.foldl (fun rs p => stepL (fun u v => u - p * v) rs) r).length = r.length + ps.length
  | [], r => rfl
  | x :: xs, r => by rw [List.foldl_cons, foldl_prod_length xs, stepL_length, List.length_cons, Nat.add_right_comm, Nat.add_assoc]
theorem take_snoc_get' {ns : List Int} {i : Nat} {x : Int} (h : ns[i]? = some x) : ns.take (i + 1) = ns.take i ++ [x] := by rw [List.take_add_one, h]; rfl
set_option maxRecDepth 100000 in
set_option maxHeartbeats 8000000 in
theorem prod_c (w : World) (p : Program) (loose : List Str) (mean : ExcName → Option Value) (mg mb : Str → Option Value) (news : List (Addr × Obj)) (l : Addr) (kk : Nat) (rv : List Value) (rs : List Int)
    (hI : IntsAre rv rs) (hlen : rs.length ≤ 6) (hp : ∀ x ∈ rs, -3 ≤ x ∧ x ≤ 3) :
    Con w p loose mean mg mb 20 184 [.ref l] [] ((l, listOf rv.toArray kk) :: news)
      (fun r news' => ∃ D zs k, r = .ref D ∧ IntsAre zs (prodL rs) ∧ (∀ q ∈ (l, listOf rv.toArray kk) :: news, q.1 ≠ D) ∧ news' = (D, listOf zs.toArray k) :: (l, listOf rv.toArray kk) :: news) := by
  w_on
  w_strict (
    unfold Con
    intro dp un gd cn cn' cg cc cm a ccd cl outer A₀ base h₀ L m s R B F X N T hd hu hret
    (k_dflt k_enter)
    repeat' (first
      | ((with_reducible show ForSrc _ _ _ _ _ _ _ _ _ _); fail "stop")
      | ((with_reducible show wpAny _ _ (exec (PySem.Stmt.For _ _ _ _ _) _) _ _ _); refine for_src ?_ (by intro _; rfl) (by first | passes_own | with_unfolding_all passes_own))
      | (k_unfold; (try dsimp only))
      | ((fail_if_success (with_reducible show ForSrc _ _ _ _ _ _ _ _ _ _)); (walk1 <;> (try dsimp only)))
      | ((fail_if_success (with_reducible show ForSrc _ _ _ _ _ _ _ _ _ _)); (dsimp only; walk1))
      | (leave1; try dsimp only)
      | fail "no step")
    rename_i Lc _ _ _ _ _ _ hl9 oc hoc lS _ hlS _ F1 N1
    have hoc1 : oc.data = .cell none := hoc
    have offS : ∀ q ∈ news, q.1 ≠ lS := allLt_ne hlS.2.2
    have offLc : ∀ q ∈ (l, listOf rv.toArray kk) :: news, q.1 ≠ Lc + 1 := mem_cons_ne (Nat.ne_of_lt (Nat.lt_succ_of_lt hl9.1)) (allLt_ne (allLt_le (Nat.le_succ _) hl9.2))
    refine forsrc_list4 (its := rv.toArray) (kk := kk) (l := l) (fun (c : Addr) (cz : List Value) (ck : Nat) (co : Obj) => (c, listOf cz.toArray ck) :: (Lc + 1, co) :: (l, listOf rv.toArray kk) :: news) (fun c _ _ _ => [(Str.ofString "rows", .ref c)]) [Str.ofString "rows"]
      (fun i c cz _ co => IntsAre cz ((rs.take i).foldl (fun rs p => stepL (fun u v => u - p * v) rs) [1]) ∧ (∀ q ∈ (l, listOf rv.toArray kk) :: news, q.1 ≠ c) ∧ @Ne Nat (Lc + 1) c ∧ ∃ v₀, co.data = .cell v₀) lS [.int 1 _] 0 oc rfl F1 N1 ⟨rfl, trivial⟩ ⟨.cons _ _ .nil, mem_cons_ne (Nat.ne_of_lt hlS.2.1) offS, Nat.ne_of_lt hlS.1, none, hoc1⟩ (fun _ _ _ _ => .tail _ (.tail _ (.head _))) ?_ ?_
    · intro i v l9 zs9 k9 oc9 u9 I9 oI9 h9 tk9 T9 hT9 hv hi hJ9 F9 N9 off9 hLI9
      have hz9 := hJ9.1
      have hoff9 := hJ9.2.1
      have hne9 := hJ9.2.2.1
      have ⟨v09, hoc9⟩ := hJ9.2.2.2
      clear hJ9
      refine ints_at (v := v) (i := i) hI (by simpa using hv) fun x9 tx9 hx9 => ?_
      have hx93 := hp x9 (List.mem_of_getElem? hx9)
      have hIc : @Ne Nat (Lc + 1) I9 := off9 _ (.tail _ (.head _))
      refine store_cell (c := Lc + 1) (oc := oc9) (v₀ := v09) (rest := (I9, oI9) :: (l9, listOf zs9.toArray k9) :: (l, listOf rv.toArray kk) :: news) F9 (subM N9 (by repeat (first | (intro q hq; (repeat (first | exact hq | refine List.Mem.tail _ ?_)); done) | refine sub_cons (by repeat (first | exact List.Mem.head _ | refine List.Mem.tail _ ?_)) ?_)))
        (mem_cons_ne (Ne.symm hIc) (mem_cons_ne (Ne.symm hne9) offLc)) hoc9 (by rfl) (by rfl) (by rfl) ?_
      clear F9 N9
      intro h8 oc8 hoc8 F8 N8
      dsimp only
      have hlen9 : (List.foldl (fun rs p => stepL (fun u v => u - p * v) rs) [1] (List.take i rs)).length ≤ 7 := by
        rw [foldl_prod_length, List.length_take, List.length_singleton]
        exact Nat.add_le_add_left (Nat.le_trans (Nat.min_le_right _ _) hlen) 1
      generalize hS9 : List.foldl (fun rs p => stepL (fun u v => u - p * v) rs) [1] (List.take i rs) = S9 at hz9 hlen9
      have hsA : ([0] : List Int).length + S9.length ≤ sizeLine := by rw [show sizeLine = 16777216 from rfl, List.length_singleton]; omega
      have hsB : S9.length + ([0] : List Int).length ≤ sizeLine := by rw [show sizeLine = 16777216 from rfl, List.length_singleton]; omega
      repeat' (first
        | ((with_reducible show T9 _ _); rw [hT9]; dsimp only [TurnF])
        | ((with_reducible show ListEnd _ _ _ _ _ _ _ _ _ _ _); fail "stop")
        | ((with_reducible show wpAny _ _ (exec (PySem.Stmt.Assign _ (PySem.Expr.ListComp _ _ _ _) _) _) _ _ _); refine pairs_assign (by with_unfolding_all rfl) (by with_unfolding_all rfl) rfl (by decide) ?_ (by intro _; rfl))
        | ((with_reducible show wpAny _ _ (call (Value.type "zip") [Value.ref _, Value.ref _]) _ _ _); fail "zip")
        | ((with_reducible show wpAny _ _ (binaryOp Operator.Add (Value.ref _) (Prod.snd _)) _ _ _); dsimp only; k_dflt (refine kmk_add_ints (by k_asm) (by k_asm) (News.isList (by k_asm) (by k_mem)) (News.isList (by k_asm) (by k_mem)) (.cons _ _ .nil) hz9 ?_ hsA); intro D' ws' h' F' N' l1 hI'; (try k_lt l1))
        | ((with_reducible show wpAny _ _ (binaryOp Operator.Add (Value.ref l9) (Value.ref _)) _ _ _); dsimp only; k_dflt (refine kmk_add_ints (by k_asm) (by k_asm) (News.isList (by k_asm) (by k_mem)) (News.isList (by k_asm) (by k_mem)) hz9 (.cons _ _ .nil) ?_ hsB); intro D' ws' h' F' N' l1 hI'; (try k_lt l1))
        | (k_unfold; (try dsimp only))
        | ((fail_if_success (with_reducible show ListEnd _ _ _ _ _ _ _ _ _ _ _)); (fail_if_success (with_reducible show wpAny _ _ (call (Value.type "zip") [Value.ref _, Value.ref _]) _ _ _)); (walk1 <;> (try dsimp only)))
        | ((fail_if_success (with_reducible show ListEnd _ _ _ _ _ _ _ _ _ _ _)); (fail_if_success (with_reducible show wpAny _ _ (call (Value.type "zip") [Value.ref _, Value.ref _]) _ _ _)); (dsimp only; walk1))
        | (leave1; try dsimp only)
        | fail "no step")
      refine zip_mul (fun u v => u - v) (fun _ _ _ _ _ _ _ h => sub_int h) rfl (by k_asm) (by k_asm) (by k_mem) (by k_mem) (us := [0] ++ S9) (ss := S9 ++ [0]) (by assumption) (by assumption) (by simp) (by simp; omega) (by decide) rfl rfl rfl (by decide) rfl rfl (by k_mem) hoc8 hx93.1 hx93.2 rfl rfl rfl ?_
      intro Dz Cz hz tkz mz zsz hzz Fz Nz offz hnz hC0z hD0z hCLz hDLz hCDz hoCz
      refine post_assign (L := Lc) (by rfl) (by rfl) (by rfl) Fz Nz hnz hC0z hCLz hCDz hoCz ?_
      clear Fz Nz hnz hC0z hD0z hCLz hDLz hCDz hoCz
      intro hz2 tkz2 Fz2 Nz2
      have Nz3 : News _ _ hz2 ((I9, oI9) :: (Dz, listOf zsz.toArray zsz.length) :: (Lc + 1, oc8) :: (l, listOf rv.toArray kk) :: news) := subM Nz2 (by repeat (first | (intro q hq; (repeat (first | exact hq | refine List.Mem.tail _ ?_)); done) | refine sub_cons (by repeat (first | exact List.Mem.head _ | refine List.Mem.tail _ ?_)) ?_))
      have offz2 : ∀ q ∈ (I9, oI9) :: (Lc + 1, oc8) :: (l, listOf rv.toArray kk) :: news, q.1 ≠ Dz := offM offz (by repeat (first | (intro q hq; (repeat (first | exact hq | refine List.Mem.tail _ ?_)); done) | refine sub_cons (by repeat (first | exact List.Mem.head _ | refine List.Mem.tail _ ?_)) ?_))
      clear Nz2 offz
      repeat' (first
        | ((with_reducible show T9 _ _); rw [hT9]; dsimp only [TurnF])
        | ((with_reducible show ListEnd _ _ _ _ _ _ _ _ _ _ _); fail "stop")
        | (k_unfold; (try dsimp only))
        | ((fail_if_success (with_reducible show ListEnd _ _ _ _ _ _ _ _ _ _ _)); (walk1 <;> (try dsimp only)))
        | ((fail_if_success (with_reducible show ListEnd _ _ _ _ _ _ _ _ _ _ _)); (dsimp only; walk1))
        | (leave1; try dsimp only)
        | fail "no step")
      refine ListEnd.intro0 (Dz, zsz, _, oc8) Fz2 Nz3 (mem_cons_ne (Ne.symm (offz2 _ (.head _))) (mem_cons_ne hIc (fun q hq => off9 q (.tail _ (.tail _ hq))))) ⟨rfl, trivial⟩ ?_ ⟨?_, fun q hq => offz2 q (.tail _ (.tail _ hq)), offz2 _ (.tail _ (.head _)), _, hoc8⟩
      · intro z h2 h3
        repeat (first | exact if_out h3 | refine if_skip (off1 h3) ?_)
      · dsimp only
        rw [take_snoc_get' hx9, List.foldl_append, hS9, List.foldl_cons, List.foldl_nil]
        exact hzz
    · intro l9 zs9 k9 oc9 u9 h9 tk9 hJ9 F9 N9
      have hz9 := hJ9.1
      have hoff9 := hJ9.2.1
      clear hJ9
      repeat' (first
        | (k_unfold; (try dsimp only))
        | (walk1 <;> (try dsimp only))
        | (dsimp only; walk1)
        | (leave1; try dsimp only)
        | fail "no step")
      have e9 : rs.take rv.toArray.size = rs := by rw [List.size_toArray, hI.length, List.take_length]
      rw [e9] at hz9
      (with_reducible rename News _ _ _ _ => kN)
      exact hret _ _ _ _ (ex3i l9 zs9 k9 ⟨rfl, hz9, hoff9, rfl⟩) (by assumption) (subN kN (.cons₂ _ (.cons _ (List.Sublist.refl _)))))
end Mine
end

section
open PySem PySem.W PyProof.Rows PySem.Calls PyProof.V PySem.Spec PyProof.Rows.LCg
namespace Mine
theorem lt_two : ∀ {k : Nat}, k < 2 → k = 0 ∨ k = 1
  | 0, _ => .inl rfl
  | 1, _ => .inr rfl
  | _ + 2, h => absurd (Nat.lt_of_succ_lt_succ (Nat.lt_of_succ_lt_succ h)) (Nat.not_lt_zero _)
theorem lt_three : ∀ {k : Nat}, k < 3 → k = 0 ∨ k = 1 ∨ k = 2
  | 0, _ => .inl rfl
  | k + 1, h => .inr ((lt_two (Nat.lt_of_succ_lt_succ h)).imp (congrArg Nat.succ) (congrArg Nat.succ))
theorem all_tt (n : Nat) : ((List.range n).all fun _ => true) = true := List.all_eq_true.mpr fun _ _ => rfl
noncomputable abbrev tripO (v : Int × Int × Int) (t1 t2 t3 : Tok) : Obj := listOf #[.int v.1 t1, .int v.2.1 t2, .int v.2.2 t3] 0
/-- a list of lists of three numbers, as they lie in a ledger -/
noncomputable def TripsIn (tl : List (Addr × Obj)) (ys : List Value) (vs : List (Int × Int × Int)) : Prop :=
  ys.length = vs.length ∧ ∀ (i : Nat) (v : Int × Int × Int), vs[i]? = some v → ∃ (T : Addr) (t1 t2 t3 : Tok), ys[i]? = some (Value.ref T) ∧ (T, tripO v t1 t2 t3) ∈ tl
theorem TripsIn.nil : TripsIn [] [] [] := ⟨rfl, fun _ _ h => nomatch h⟩
theorem TripsIn.snoc {tl : List (Addr × Obj)} {ys : List Value} {vs : List (Int × Int × Int)} {v : Int × Int × Int} {T : Addr} {t1 t2 t3 : Tok} (h : TripsIn tl ys vs) : TripsIn ((T, tripO v t1 t2 t3) :: tl) (ys ++ [Value.ref T]) (vs ++ [v]) := by
  refine ⟨by simp [h.1], fun i v' hn => ?_⟩
  by_cases hi : i < vs.length
  · rw [List.getElem?_append_left hi] at hn
    obtain ⟨T', a, b, c, h1, h2⟩ := h.2 i v' hn
    exact ⟨T', a, b, c, by rw [List.getElem?_append_left (by rw [h.1]; exact hi)]; exact h1, .tail _ h2⟩
  · rw [List.getElem?_append_right (Nat.le_of_not_lt hi)] at hn
    rcases hk : i - vs.length with _ | k
    · rw [hk] at hn
      obtain rfl : v = v' := Option.some.inj hn
      refine ⟨T, t1, t2, t3, ?_, .head _⟩
      rw [List.getElem?_append_right (by rw [h.1]; exact Nat.le_of_not_lt hi), h.1, hk]
      rfl
    · rw [hk] at hn
      exact nomatch hn
theorem TripsIn.mono {tl tl' : List (Addr × Obj)} {ys : List Value} {vs : List (Int × Int × Int)} (h : TripsIn tl ys vs) (hs : ∀ q ∈ tl, q ∈ tl') : TripsIn tl' ys vs :=
  ⟨h.1, fun i v hn => by obtain ⟨T, a, b, c, h1, h2⟩ := h.2 i v hn; exact ⟨T, a, b, c, h1, hs _ h2⟩⟩
noncomputable def tellP (wn : List Int) (i : Nat) : Int × Int × Int := (((clt wn (-3 + ((i : Nat) : Int)) : Nat) : Int), (((cle wn (-3 + ((i : Nat) : Int)) : Nat) : Int) - ((clt wn (-3 + ((i : Nat) : Int)) : Nat) : Int)), ((wn.length : Int) - ((cle wn (-3 + ((i : Nat) : Int)) : Nat) : Int)))
theorem tell_trips (wn : List Int) : ∀ ds : List TellD, TripsIn (tellE wn ds) (tellR ds) ((List.range ds.length).map (tellP wn))
  | [] => TripsIn.nil
  | d :: r => by
    have h := (tell_trips wn r).snoc (v := tellP wn r.length) (T := d.1) (t1 := d.2.1) (t2 := d.2.2.1) (t3 := d.2.2.2)
    have e1 : tellR (d :: r) = tellR r ++ [Value.ref d.1] := by unfold tellR; rw [List.reverse_cons, List.map_append]; rfl
    have e2 : (List.range (d :: r).length).map (tellP wn) = (List.range r.length).map (tellP wn) ++ [tellP wn r.length] := by rw [List.length_cons, List.range_succ, List.map_append]; rfl
    rw [e1, e2]
    exact h
section
variable {prog : Program} {w : World} {A : Around} {E : Value → Shared → Prop} {s : Shared} {h₀ : Heap} {L : Addr} {news : List (Addr × Obj)}
theorem isList_of {a : Addr} {k : Nat} {vs : List Value} (N : News h₀ L s.heap news) (h : (a, listOf vs.toArray k) ∈ news) : s.heap.IsList a vs.toArray := ⟨_, (N _ h).1, rfl, _, rfl⟩
theorem eq_words {a b : Addr} {k1 k2 : Nat} {xs ys : List Value} {ns : List Int} {Q : Value → Shared → Prop} (N : News h₀ L s.heap news) (h1 : (a, listOf xs.toArray k1) ∈ news) (h2 : (b, listOf ys.toArray k2) ∈ news)
    (W1 : WordsAre xs ns) (W2 : WordsAre ys ns) (hu : A.units < cLine) (h : Q (.bool true) s) : wpAny (model prog w) A (compareOp .Eq (.ref a) (.ref b)) Q E s := by
  refine SeqAt.eq_listAt (e := fun _ => true) (isList_of N h1) (isList_of N h2) (by rw [List.size_toArray, List.size_toArray, W1.length, W2.length]) hu (fun j h3 h4 => ?_) (by rw [all_tt]; exact h)
  have hj : j < ns.length := by rw [← W1.length]; simpa using h3
  obtain ⟨t1, e1⟩ := W1.get hj
  obtain ⟨t2, e2⟩ := W2.get hj
  have f1 : xs.toArray[j] = .str (replyS (ns.getD j 0)) t1 := by
    have := (List.getElem?_toArray (xs := xs) (i := j)).trans e1
    rw [Array.getElem?_eq_getElem h3] at this
    exact Option.some.inj this
  have f2 : ys.toArray[j] = .str (replyS (ns.getD j 0)) t2 := by
    have := (List.getElem?_toArray (xs := ys) (i := j)).trans e2
    rw [Array.getElem?_eq_getElem h4] at this
    exact Option.some.inj this
  rw [f1, f2]
  have := SeqAt.EqAt.str_str (A := A.in1) (s := s) (replyS (ns.getD j 0)) t1 (replyS (ns.getD j 0)) t2
  rwa [beq_self_eq_true] at this
theorem eq_tups {a b : Addr} {k1 k2 : Nat} {xs ys : List Value} {ns : List Int} {Q : Value → Shared → Prop} (N : News h₀ L s.heap news) (h1 : (a, listOf xs.toArray k1) ∈ news) (h2 : (b, listOf ys.toArray k2) ∈ news)
    (W1 : TupsIn news xs ns) (W2 : TupsIn news ys ns) (hu : A.units + 2 < cLine) (h : Q (.bool true) s) : wpAny (model prog w) A (compareOp .Eq (.ref a) (.ref b)) Q E s := by
  refine SeqAt.eq_listAt (e := fun _ => true) (isList_of N h1) (isList_of N h2) (by rw [List.size_toArray, List.size_toArray, W1.1, W2.1]) (by omega) (fun j h3 h4 => ?_) (by rw [all_tt]; exact h)
  have hj : j < ns.length := by rw [← W1.1]; simpa using h3
  have hn : ns[j]? = some ns[j] := List.getElem?_eq_getElem hj
  obtain ⟨T1, t1, u1, e1, m1⟩ := W1.2 j _ hn
  obtain ⟨T2, t2, u2, e2, m2⟩ := W2.2 j _ hn
  have f1 : xs.toArray[j] = .ref T1 := by
    have := (List.getElem?_toArray (xs := xs) (i := j)).trans e1
    rw [Array.getElem?_eq_getElem h3] at this
    exact Option.some.inj this
  have f2 : ys.toArray[j] = .ref T2 := by
    have := (List.getElem?_toArray (xs := ys) (i := j)).trans e2
    rw [Array.getElem?_eq_getElem h4] at this
    exact Option.some.inj this
  rw [f1, f2]
  by_cases hT : T1 = T2
  · subst hT; exact SeqAt.EqAt.same _
  · refine SeqAt.EqAt.of_refs hT ?_
    have g3 : s.heap.IsTuple T1 #[Value.str (replyS ns[j]) t1, Value.int (portOf ns[j]) u1] := ⟨_, (N _ m1).1, rfl, _, rfl⟩
    have g4 : s.heap.IsTuple T2 #[Value.str (replyS ns[j]) t2, Value.int (portOf ns[j]) u2] := ⟨_, (N _ m2).1, rfl, _, rfl⟩
    have := SeqAt.RcAt.tuples (A := A.in1) (s := s) (e := fun _ => true) g3 g4 (by show A.units + 1 < cLine; omega) (fun k g1 g2 => ?_)
    · rw [all_tt] at this
      exact this
    · rcases lt_two (show k < 2 from g1) with rfl | rfl
      · have := SeqAt.EqAt.str_str (A := A.in1.in1) (s := s) (replyS ns[j]) t1 (replyS ns[j]) t2
        rwa [beq_self_eq_true] at this
      · have := SeqAt.EqAt.int_int (A := A.in1.in1) (s := s) (portOf ns[j]) u1 (portOf ns[j]) u2
        rwa [beq_self_eq_true] at this
theorem eq_trips {a b : Addr} {k1 k2 : Nat} {xs ys : List Value} {vs : List (Int × Int × Int)} {Q : Value → Shared → Prop} (N : News h₀ L s.heap news) (h1 : (a, listOf xs.toArray k1) ∈ news) (h2 : (b, listOf ys.toArray k2) ∈ news)
    (W1 : TripsIn news xs vs) (W2 : TripsIn news ys vs) (hu : A.units + 2 < cLine) (h : Q (.bool true) s) : wpAny (model prog w) A (compareOp .Eq (.ref a) (.ref b)) Q E s := by
  refine SeqAt.eq_listAt (e := fun _ => true) (isList_of N h1) (isList_of N h2) (by rw [List.size_toArray, List.size_toArray, W1.1, W2.1]) (by omega) (fun j h3 h4 => ?_) (by rw [all_tt]; exact h)
  have hj : j < vs.length := by rw [← W1.1]; simpa using h3
  have hn : vs[j]? = some vs[j] := List.getElem?_eq_getElem hj
  obtain ⟨T1, t1, u1, w1, e1, m1⟩ := W1.2 j _ hn
  obtain ⟨T2, t2, u2, w2, e2, m2⟩ := W2.2 j _ hn
  have f1 : xs.toArray[j] = .ref T1 := by
    have := (List.getElem?_toArray (xs := xs) (i := j)).trans e1
    rw [Array.getElem?_eq_getElem h3] at this
    exact Option.some.inj this
  have f2 : ys.toArray[j] = .ref T2 := by
    have := (List.getElem?_toArray (xs := ys) (i := j)).trans e2
    rw [Array.getElem?_eq_getElem h4] at this
    exact Option.some.inj this
  rw [f1, f2]
  by_cases hT : T1 = T2
  · subst hT; exact SeqAt.EqAt.same _
  · refine SeqAt.EqAt.of_refs hT ?_
    have g3 : s.heap.IsList T1 #[Value.int vs[j].1 t1, Value.int vs[j].2.1 u1, Value.int vs[j].2.2 w1] := ⟨_, (N _ m1).1, rfl, _, rfl⟩
    have g4 : s.heap.IsList T2 #[Value.int vs[j].1 t2, Value.int vs[j].2.1 u2, Value.int vs[j].2.2 w2] := ⟨_, (N _ m2).1, rfl, _, rfl⟩
    have := SeqAt.RcAt.lists (A := A.in1) (s := s) (e := fun _ => true) g3 g4 rfl (by show A.units + 1 < cLine; omega) (fun k g1 g2 => ?_)
    · rw [all_tt] at this
      exact this
    · rcases lt_three (show k < 3 from g1) with rfl | rfl | rfl
      · have := SeqAt.EqAt.int_int (A := A.in1.in1) (s := s) vs[j].1 t1 vs[j].1 t2
        rwa [beq_self_eq_true] at this
      · have := SeqAt.EqAt.int_int (A := A.in1.in1) (s := s) vs[j].2.1 u1 vs[j].2.1 u2
        rwa [beq_self_eq_true] at this
      · have := SeqAt.EqAt.int_int (A := A.in1.in1) (s := s) vs[j].2.2 w1 vs[j].2.2 w2
        rwa [beq_self_eq_true] at this
end
section
variable {w : World} {p : Program} {loose : List Str} {mean : ExcName → Option Value} {mg mb : Str → Option Value} {news : List (Addr × Obj)} {l : Addr} {kk : Nat}
theorem row_m {wv : List Value} {wn : List Int} (hm : (l, listOf wv.toArray kk) ∈ news) (hW : WordsAre wv wn) (hlen : wn.length ≤ 9) :
    Con w p loose mean mg mb 20 172 [.ref l] [] news (fun r news' => ∃ D vs' k', r = .ref D ∧ WordsAre vs' (rowL wn) ∧ (∀ q ∈ news, q.1 ≠ D) ∧ news' = (D, listOf vs'.toArray k') :: news) :=
  (row_c w p loose mean mg mb news l kk wv wn hW hlen).mem hm (fun r news' h => ex3e h fun D vs' k' h => ⟨_, h.2.2.2.2 ▸ .cons_cons _ (.cons _ (List.Sublist.refl _)), ex3i D vs' k' ⟨h.1, h.2.1, h.2.2.1, rfl⟩⟩)
theorem prod_m {rv : List Value} {rs : List Int} (hm : (l, listOf rv.toArray kk) ∈ news) (hI : IntsAre rv rs) (hlen : rs.length ≤ 6) (hp : ∀ x ∈ rs, -3 ≤ x ∧ x ≤ 3) :
    Con w p loose mean mg mb 20 184 [.ref l] [] news (fun r news' => ∃ D zs k, r = .ref D ∧ IntsAre zs (prodL rs) ∧ (∀ q ∈ news, q.1 ≠ D) ∧ news' = (D, listOf zs.toArray k) :: news) :=
  (prod_c w p loose mean mg mb news l kk rv rs hI hlen hp).mem hm (fun r news' h => ex3e h fun D zs k h => ⟨_, h.2.2.2 ▸ .cons_cons _ (.cons _ (List.Sublist.refl _)), ex3i D zs k ⟨h.1, h.2.1, fun q hq => h.2.2.1 q (.tail _ hq), rfl⟩⟩)
theorem halv_m {wv : List Value} {wn : List Int} (hm : (l, listOf wv.toArray kk) ∈ news) (hW : WordsAre wv wn) (hlen : wn.length ≤ 10) (S : Sorted wn) :
    Con w p loose mean mg mb 20 179 [.ref l] [] news (fun r news' => ∃ D k xs tl, r = .ref D ∧ TripsIn tl xs ((List.range 7).map (tellP wn)) ∧ (∀ q ∈ news ++ tl, q.1 ≠ D) ∧ news' = (D, listOf xs.toArray k) :: (news ++ tl)) := by
  have c : Con w p loose mean mg mb 20 179 [.ref l] [] news _ := (halv_c w p loose mean mg mb news l kk wv wn hW hlen S).mem hm (fun r news' h => ⟨news', List.Sublist.refl _, h⟩)
  refine c.conv (fun q hq => hq) ?_
  rintro r n ⟨D, k, ds, h1, h2, h3, _, rfl⟩
  have ht := tell_trips wn ds
  rw [h1] at ht
  refine ⟨(D, listOf (tellR ds).toArray k) :: (news ++ tellE wn ds), fun q hq => ?_, D, k, _, _, h2, ht, fun q hq => h3 q ?_, rfl⟩
  · rcases List.mem_cons.mp hq with rfl | hq
    · exact .head _
    · refine .tail _ (.tail _ (List.mem_append.mpr ?_))
      exact (List.mem_append.mp hq).symm
  · exact List.mem_append.mpr (List.mem_append.mp hq).symm
theorem signs_m {rv : List Value} {rs : List Int} {pl : Int} {t : Tok} (hm : (l, listOf rv.toArray kk) ∈ news) (hI : IntsAre rv rs) (hlen : rs.length ≤ 6) (hp1 : -3 ≤ pl) (hp2 : pl ≤ 3) (hnz : nonzL (seenL pl rs) ≠ []) :
    Con w p loose mean mg mb 40 199 [.ref l, .int pl t] [] news
      (fun r news' => ∃ D t1 t2 t3 M, r = .ref D ∧ M ∈ nonzL (seenL pl rs) ∧ (∀ b, b ∈ nonzL (seenL pl rs) → M ≤ b) ∧ (∀ q ∈ news, q.1 ≠ D) ∧
        news' = (D, tripO (((chgL (turnedL (seenL pl rs)) : Nat) : Int), M, ((chgL (seenL pl rs) : Nat) : Int)) t1 t2 t3) :: news) :=
  (signs_c w p loose mean mg mb news l kk rv rs pl t hI hlen hp1 hp2 hnz).mem hm (fun r news' h => ex5e h fun D t1 t2 t3 M h => ⟨_, h.2.2.2.2 ▸ .cons_cons _ (.cons _ (List.Sublist.refl _)), ex5i D t1 t2 t3 M ⟨h.1, h.2.1, h.2.2.1, fun q hq => h.2.2.2.1 q (.tail _ hq), rfl⟩⟩)
end
end Mine
end

section
open PySem PySem.W PyProof.Rows PySem.Calls PyProof.V PySem.Spec PyProof.Rows.LCg
namespace Mine
/-- the comprehension with two clauses, the second with tests -/
noncomputable abbrev twoE (elt iter1 iter2 : PySem.Expr) (ifs : List PySem.Expr) (a b : Str) (pa pb : Pos) (scope : Scope) (pos : Pos) : PySem.Expr := .ListComp elt [⟨.Name a pa, iter1, [], 0⟩, ⟨.Name b pb, iter2, ifs, 0⟩] scope pos
theorem compTurn_two0 (elt iter1 iter2 : PySem.Expr) (ifs : List PySem.Expr) (a b : Str) (pa pb : Pos) (scope : Scope) (pos : Pos) (it acc : Value) (env : Env) :
    compTurn (twoE elt iter1 iter2 ifs a b pa pb scope pos) 0 it acc env = (standAt iter1.pos >>= fun _ => pyNext it >>= fun r => match r with
      | none => pure (.done .next)
      | some v => letOwnedTupleGo (.Name a pa) it v >>= fun _ => assign (.Name a pa) env v >>= fun _ =>
        eval iter2 env >>= fun x => standAt iter2.pos >>= fun _ => foldedSetIterable iter2 env x >>= fun x => holding [x] (pyIter x) >>= fun it2 => runOwn (.compStart (twoE elt iter1 iter2 ifs a b pa pb scope pos) 1 it2 acc env) env >>= fun _ =>
          again (.compLoop (twoE elt iter1 iter2 ifs a b pa pb scope pos) 0 it acc env)) := by rfl
theorem compTurn_two1 (elt iter1 iter2 : PySem.Expr) (ifs : List PySem.Expr) (a b : Str) (pa pb : Pos) (scope : Scope) (pos : Pos) (it acc : Value) (env : Env) :
    compTurn (twoE elt iter1 iter2 ifs a b pa pb scope pos) 1 it acc env = (do
      standAt iter2.pos
      match ← pyNext it with
      | none => pure (.done .next)
      | some v =>
        letOwnedTupleGo (.Name b pb) it v
        assign (.Name b pb) env v
        let mut ok := true
        for c in ifs do
          if ok then ok ← isTrue c env (eval c env)
        if ok then
          (do let _ ← call (.builtin "list.append") [acc, ← eval elt env])
        again (.compLoop (twoE elt iter1 iter2 ifs a b pa pb scope pos) 1 it acc env)) := by rfl
section
variable {prog : Program} {w : World} {A : Around} {E : Value → Shared → Prop} {s : Shared} {env : Env} {elt iter1 iter2 : PySem.Expr} {ifs : List PySem.Expr} {a b : Str} {pa pb : Pos} {scope : Scope} {pos : Pos}
theorem two_outer {it acc : Value} {R : Result → Shared → Prop} (hs : ∀ x, foldedSetIterable iter2 env x = pure x) (I : Nat → Shared → Prop)
    (turn : ∀ n s, I n s → wpAny (model prog w) A (pyNext it) (fun r s₁ => match r with
      | none => R (.ok .next) s₁
      | some v => wpAny (model prog w) A (assign (.Name a pa) env v) (fun _ s₂ => wpAny (model prog w) A (eval iter2 env) (fun x s₃ => wpAny (model prog w) A (pyIter x) (fun it2 s₄ =>
          codeAny (model prog w) A (.compStart (twoE elt iter1 iter2 ifs a b pa pb scope pos) 1 it2 acc env) (fun r s₅ => match r with
            | .ok _ => ∃ m, m < n ∧ I m s₅
            | .error e => cameBackBy (model prog w) A env (notedBy (model prog w) A env fun e s' => R (.error e) s') e s₅) s₄)
          (notedBy (model prog w) A env fun e s' => R (.error e) s') s₃) (notedBy (model prog w) A env fun e s' => R (.error e) s') s₂) (notedBy (model prog w) A env fun e s' => R (.error e) s') s₁) (notedBy (model prog w) A env fun e s' => R (.error e) s') s)
    (n : Nat) (h : I n s) : codeAny (model prog w) A (.compLoop (twoE elt iter1 iter2 ifs a b pa pb scope pos) 0 it acc env) R s := by
  refine codeAny_loop rfl I (fun n s hI => ?_) n h
  show wpAny _ A ((compTurn (twoE elt iter1 iter2 ifs a b pa pb scope pos) 0 it acc env).onRaise (fun x => do noteFrame x env; theTreesLotGoes x)) _ _ s
  refine wpAny_noted ?_
  rw [compTurn_two0]
  refine wpAny_bind (wpAny_standAt (wpAny_bind (wpAny_mono (turn n s hI) (fun r s₁ h₁ => ?_) fun _ _ h' => h')))
  cases r with
  | none => exact wpAny_pure h₁
  | some v =>
    refine wpAny_bind (wpAny_of_eq (show letOwnedTupleGo (.Name a pa) it v = pure () from rfl) ?_)
    refine wpAny_bind (wpAny_mono h₁ (fun _ s₂ h₂ => wpAny_bind (wpAny_mono h₂ (fun x s₃ h₃ => ?_) fun _ _ h' => h')) fun _ _ h' => h')
    refine wpAny_bind (wpAny_standAt (wpAny_bind (wpAny_of_eq (hs x) (wpAny_bind (wpAny_holding (wpAny_mono h₃ (fun it2 s₄ h₄ => ?_) fun _ _ h' => h'))))))
    refine wpAny_bind (wpAny_runOwn (codeAny_mono h₄ fun r s₅ h₅ => ?_))
    cases r with
    | ok f => exact wpAny_pure ⟨rfl, h₅⟩
    | error e => exact h₅
theorem two_inner {it acc : Value} {R : Result → Shared → Prop} (I : Nat → Shared → Prop)
    (turn : ∀ n s, I n s → wpAny (model prog w) A (pyNext it) (fun r s₁ => match r with
      | none => R (.ok .next) s₁
      | some v => wpAny (model prog w) A (assign (.Name b pb) env v) (fun _ s₂ =>
          wpAny (model prog w) A (testsM ifs env) (fun ok s₃ => if ok = true then wpAny (model prog w) A (eval elt env) (fun x s₄ =>
              wpAny (model prog w) A (call (.builtin "list.append") [acc, x]) (fun _ s₅ => ∃ m, m < n ∧ I m s₅) (notedBy (model prog w) A env fun e s' => R (.error e) s') s₄) (notedBy (model prog w) A env fun e s' => R (.error e) s') s₃
            else ∃ m, m < n ∧ I m s₃) (notedBy (model prog w) A env fun e s' => R (.error e) s') s₂) (notedBy (model prog w) A env fun e s' => R (.error e) s') s₁) (notedBy (model prog w) A env fun e s' => R (.error e) s') s)
    (n : Nat) (h : I n s) : codeAny (model prog w) A (.compLoop (twoE elt iter1 iter2 ifs a b pa pb scope pos) 1 it acc env) R s :=
  loop_gen I rfl (congrArg (fun c => Sem.onRaise c (fun x => do noteFrame x env; theTreesLotGoes x)) (compTurn_two1 elt iter1 iter2 ifs a b pa pb scope pos it acc env)) (fun n s hI => wpAny_mono (turn n s hI) (fun r s₁ h₁ => match r with
    | none => h₁
    | some _ => wpAny_pure h₁) fun _ _ z => z) n h
theorem two_start1 {it acc : Value} {R : Result → Shared → Prop} (h0 : codeAny (model prog w) A (.compLoop (twoE elt iter1 iter2 ifs a b pa pb scope pos) 1 it acc env) R s)
    (h : wpAny (model prog w) A (pyIter it) (fun it' s' => codeAny (model prog w) A (.compLoop (twoE elt iter1 iter2 ifs a b pa pb scope pos) 1 it' acc env) R s') (notedBy (model prog w) A env fun x s' => R (.error x) s') s) :
    codeAny (model prog w) A (.compStart (twoE elt iter1 iter2 ifs a b pa pb scope pos) 1 it acc env) R s := by
  refine codeAny_of_tree ?_
  show wpAny _ _ ((compStart (twoE elt iter1 iter2 ifs a b pa pb scope pos) 1 it acc env).onRaise (fun x => do noteFrame x env; standAt theWindowsPlace)) _ _ s
  refine wpAny_notedAt ?_
  unfold compStart
  show wpAny _ _ (ask >>= _) _ _ s
  refine wpAny_bind (wpAny_askSetting (wpAny_ite ?_))
  split
  · first
      | exact wpAny_bind (wpAny_pure (wpAny_pure (And.intro rfl h0)))
      | exact wpAny_pure (And.intro rfl h0)
  · refine wpAny_bind (wpAny_rule ?_)
    first
      | exact wpAny_bind (wpAny_standAt (wpAny_bind (wpAny_mono h (fun it' s' h' => wpAny_pure (And.intro rfl h')) fun _ _ x => x)))
      | (show wpAny _ _ (standAt iter2.pos >>= _) _ _ s; exact wpAny_bind (wpAny_standAt (wpAny_bind (wpAny_mono h (fun it' s' h' => wpAny_pure (And.intro rfl h')) fun _ _ x => x))))
end
noncomputable def TwoEnd (h₀ : Heap) (L : Addr) (m : Str → Option Value) (s₁ : Shared) (led : List (Addr × Obj)) (rest : Value → Prop) (y : Value) (s₂ : Shared) : Prop :=
  ∃ h' tk, s₂ = { s₁ with heap := h', toks := tk } ∧ Fr h₀ L h' m ∧ News h₀ L h' led ∧ rest y
noncomputable def TwoIt (h₀ : Heap) (L : Addr) (m : Str → Option Value) (s₁ : Shared) (led : List (Addr × Obj)) (PR : Array Value → Prop) (x : Value) (s₂ : Shared) : Prop :=
  ∃ h' tk RL oR rv nR, x = .ref RL ∧ s₂ = { s₁ with heap := h', toks := tk } ∧ Fr h₀ L h' m ∧ News h₀ L h' ((RL, oR) :: led) ∧ (∀ q ∈ led, q.1 ≠ RL) ∧ oR.cls = .type "list" ∧ oR.data = .seq rv nR ∧ PR rv
@[elab_as_elim] theorem two_tok {s₂ s₄ : Shared} {h : Heap} {P : Nat → Shared → Prop} {G : Shared → Prop} (e : ∃ tk', s₄ = { s₂ with heap := h, toks := tk' } ∧ P tk' s₄) (k : ∀ tk', P tk' { s₂ with heap := h, toks := tk' } → G { s₂ with heap := h, toks := tk' }) : G s₄ := by
  obtain ⟨tk', rfl, p⟩ := e
  exact k tk' p
@[elab_as_elim] theorem two_end {h₀ : Heap} {L : Addr} {m : Str → Option Value} {s₁ s₂ : Shared} {led : List (Addr × Obj)} {rest : Value → Prop} {y : Value} {G : Shared → Prop} (e : TwoEnd h₀ L m s₁ led rest y s₂) (k : ∀ h' tk, Fr h₀ L h' m → News h₀ L h' led → rest y → G { s₁ with heap := h', toks := tk }) : G s₂ := by
  obtain ⟨h', tk, rfl, F, N, r⟩ := e
  exact k h' tk F N r
@[elab_as_elim] theorem two_it {h₀ : Heap} {L : Addr} {m : Str → Option Value} {s₁ s₂ : Shared} {led : List (Addr × Obj)} {PR : Array Value → Prop} {x : Value} {G : Value → Shared → Prop} (e : TwoIt h₀ L m s₁ led PR x s₂) (k : ∀ h' tk RL oR rv nR, Fr h₀ L h' m → News h₀ L h' ((RL, oR) :: led) → (∀ q ∈ led, q.1 ≠ RL) → oR.cls = .type "list" → oR.data = .seq rv nR → PR rv → G (.ref RL) { s₁ with heap := h', toks := tk }) : G x s₂ := by
  obtain ⟨h', tk, RL, oR, rv, nR, rfl, rfl, F, N, o, c, d, p⟩ := e
  exact k h' tk RL oR rv nR F N o c d p
theorem lit_at {h h' : Heap} {I R : Addr} {j : Nat} {o : Obj} (H : h.IsListIter I R j) (e : h.get? I = some o) (e' : h'.get? I = some o) : h'.IsListIter I R j := by
  obtain ⟨o', x, r⟩ := H
  rw [e] at x
  cases x
  exact ⟨o, e', r⟩
section
variable {prog : Program} {w : World} {A : Around} {E : Value → Shared → Prop} {s : Shared} {h₀ : Heap} {L : Addr} {m : Str → Option Value} {env : Env} {elt iter1 iter2 : PySem.Expr} {ifs : List PySem.Expr} {a b : Str} {pa pb : Pos} {scope : Scope} {cl : List (Str × Addr)} {pos : Pos} {news : List (Addr × Obj)}
theorem inner_loop {s₂ : Shared} {rv : Array Value} {nR : Nat} {I1 I2 C D RL : Addr} {o1 oR : Obj} {ys0 : List Value} {m0 : Str → Option Value} {RR : Result → Shared → Prop} (place : Value)
    (hh : A.handled = none) (hkind : scope.kind = .function) (hxb : scope.names.lookup b = some .local) (hab : ¬ a = b) (hRl : oR.cls = .type "list") (hRd : oR.data = .seq rv nR)
    (i21 : @Ne Nat I2 I1) (i2C : @Ne Nat I2 C) (i2D : @Ne Nat I2 D) (i2R : @Ne Nat I2 RL) (i2L : @Ne Nat I2 L) (i20 : h₀.get? I2 = none) (i2n : ∀ q ∈ news, q.1 ≠ I2)
    (c1 : @Ne Nat C I1) (cD : @Ne Nat C D) (cR : @Ne Nat C RL) (cL : @Ne Nat C L) (c0 : h₀.get? C = none) (cn : ∀ q ∈ news, q.1 ≠ C)
    (d1 : @Ne Nat D I1) (dR : @Ne Nat D RL) (dL : @Ne Nat D L) (d0 : h₀.get? D = none) (dn : ∀ q ∈ news, q.1 ≠ D)
    (F : Fr h₀ L s₂.heap m) (N : News h₀ L s₂.heap ((I1, o1) :: (D, lst ys0) :: (RL, oR) :: news)) (hn : s₂.heap.Ns C m0) (hma : m0 a = some place) (hit : s₂.heap.IsListIter I2 RL 0)
    (Acc : Nat → List Value → Prop) (h0 : Acc 0 ys0) (hlen : ∀ j ys, Acc j ys → ys.length ≤ sizeLine)
    (turn : ∀ j v ys oI2 oC m₂ h tk (E' : Value → Shared → Prop), rv[j]? = some v → Acc j ys → NsObj oC m₂ → m₂ a = some place → m₂ b = some v → Fr h₀ L h m → News h₀ L h ((I2, oI2) :: (I1, o1) :: (C, oC) :: (D, lst ys) :: (RL, oR) :: news) →
      wpAny (model prog w) A (testsM ifs (compEnvC scope cl C env)) (fun ok s₄ => ∃ tk', s₄ = { s₂ with heap := h, toks := tk' } ∧ if ok = true then ∀ E'', wpAny (model prog w) A (eval elt (compEnvC scope cl C env)) (TwoEnd h₀ L m { s₂ with heap := h, toks := tk' } ((I2, oI2) :: (I1, o1) :: (C, oC) :: (D, lst ys) :: (RL, oR) :: news) (fun y => Acc (j + 1) (ys ++ [y]))) E'' s₄ else Acc (j + 1) ys) E' { s₂ with heap := h, toks := tk })
    (fin : ∀ h tk m' ys, Acc rv.size ys → Fr h₀ L h m → News h₀ L h ((I1, o1) :: (D, lst ys) :: news) → h.Ns C m' → RR (.ok .next) { s₂ with heap := h, toks := tk }) :
    codeAny (model prog w) A (.compLoop (twoE elt iter1 iter2 ifs a b pa pb scope pos) 1 (.ref I2) (.ref D) (compEnvC scope cl C env)) RR s₂ := by
  have W := Walks.list (prog := prog) (w := w) (A := A) hh I2 RL (Ne.symm i2R) rv
  have lR : ∀ h : Heap, h.get? RL = some oR → h.IsList RL rv := fun h e => ⟨oR, e, hRl, _, hRd⟩
  have mR : (RL, oR) ∈ (I1, o1) :: (D, lst ys0) :: (RL, oR) :: news := .tail _ (.tail _ (.head _))
  have off : ∀ ys : List Value, ∀ q ∈ (I1, o1) :: (D, lst ys) :: (RL, oR) :: news, q.1 ≠ I2 ∧ q.1 ≠ C := fun ys => allc ⟨Ne.symm i21, Ne.symm c1⟩ (allc ⟨Ne.symm i2D, Ne.symm cD⟩ (allc ⟨Ne.symm i2R, Ne.symm cR⟩ fun q hq => ⟨i2n q hq, cn q hq⟩))
  refine two_inner (BlkAt h₀ L m s₂ C (fun ys => (I1, o1) :: (D, lst ys) :: (RL, oR) :: news) rv.size (fun j h => h.IsListIter I2 RL j ∧ h.IsList RL rv) (fun j ys m' => m' a = some place ∧ Acc j ys)) (fun k s' hI => ?_) (rv.size + 1)
    ⟨0, s₂.heap, s₂.toks, ys0, m0, rfl, Nat.zero_le _, rfl, ⟨hit, lR _ (N _ mR).1⟩, F, hn, N, hma, h0⟩
  refine BlkAt.elim hI fun j h' tk ys m' hj hst F' hn' N' hB => ?_
  clear hI k s'
  have hma' := hB.1
  have hA := hB.2
  clear hB
  by_cases hlt : j < rv.size
  · refine W.item j _ _ _ hlt hst fun v h₂ tk₂ hP hst₂ hk₂ => ?_
    refine wpAny_assign_Name (wpAny_storeName_local (lookup_relabel_local hxb) (hn'.at' fun o e => hk₂ _ o (fun q => i2C (List.mem_singleton.mp q).symm) e) (fun h₃ hn₃ hs₃ => ?_) (cenv_plain hkind))
    have up : KeepBut [I2, C] h' h₃ := fun c o hc e => hs₃.extBut c o (fun q : c = C => hc (q ▸ .tail _ (.head _))) (hk₂ c o (fun q => hc (List.mem_singleton.mp q ▸ .head _)) e)
    have hst₃ : h₃.IsListIter I2 RL (j + 1) ∧ h₃.IsList RL rv := W.frame _ _ _ hst₂ fun c hc o e => hs₃.extBut c o (allc (P := fun c => @Ne Nat c C) i2C (allc (P := fun c => @Ne Nat c C) (Ne.symm cR) alln) c hc) e
    have ⟨oI2, eI2, _⟩ := hst₃.1
    have ⟨oC, eC, hoC⟩ := ns_obj hn₃
    have F₃ : Fr h₀ L h₃ m := fr_wr F' (allc ⟨i20, Ne.symm i2L⟩ (allc ⟨c0, Ne.symm cL⟩ alln)) up
    have N₀ : News h₀ L h₃ ((I1, o1) :: (D, lst ys) :: (RL, oR) :: news) := news_wr N' (fun q hq => fun hm => by
      cases hm with
      | head => exact (off ys q hq).1 rfl
      | tail _ hm => exact (off ys q hq).2 (List.mem_singleton.mp hm)) up
    have N₃ : News h₀ L h₃ ((I2, oI2) :: (I1, o1) :: (C, oC) :: (D, lst ys) :: (RL, oR) :: news) := news_cons ⟨eI2, i2L, i20⟩ (news_cons (N₀ _ (.head _)) (news_cons ⟨eC, cL, c0⟩ fun q hq => N₀ q (.tail _ hq)))
    have hma₃ : (fun z => if z = b then some v else m' z) a = some place := (if_neg hab).trans hma'
    refine wpAny_mono (turn j v ys oI2 oC _ h₃ _ _ hP hA hoC hma₃ (if_pos rfl) F₃ N₃) (fun okb s₄ h₄ => ?_) fun _ _ e => e
    refine two_tok (s₂ := s₂) (s₄ := s₄) (h := h₃) (P := fun tk₄ s₄ => if okb = true then ∀ E'', wpAny (model prog w) A (eval elt (compEnvC scope cl C env)) (TwoEnd h₀ L m { s₂ with heap := h₃, toks := tk₄ } ((I2, oI2) :: (I1, o1) :: (C, oC) :: (D, lst ys) :: (RL, oR) :: news) (fun y => Acc (j + 1) (ys ++ [y]))) E'' s₄ else Acc (j + 1) ys) h₄ fun tk₄ h₄' => ?_
    clear h₄ s₄
    cases okb with
    | false => exact BlkAt.step hlt hst₃ F₃ hn₃ N₀ ⟨hma₃, h₄'⟩
    | true =>
      refine wpAny_mono (h₄' _) (fun y s₅ h₅ => ?_) fun _ _ e => e
      refine two_end h₅ fun h₅ tk₅ F₅ N₅ hA₅ => ?_
      have zD := N₅ (D, lst ys) (.tail _ (.tail _ (.tail _ (.head _))))
      refine append_at (hsz := by show ys.toArray.size ≤ sizeLine; rw [List.size_toArray]; exact hlen _ _ hA) zD.1 fun h₆ hs₆ hD₆ => ?_
      have zC := (N₅ (C, oC) (.tail _ (.tail _ (.head _)))).1
      have st₅ : h₅.IsListIter I2 RL (j + 1) ∧ h₅.IsList RL rv := ⟨lit_at hst₃.1 eI2 (N₅ (I2, oI2) (.head _)).1, lR _ (N₅ (RL, oR) (.tail _ (.tail _ (.tail _ (.tail _ (.head _)))))).1⟩
      have z1 := N₅ (I1, o1) (.tail _ (.head _))
      refine BlkAt.step hlt (W.frame _ _ _ st₅ fun c hc o e => hs₆.extBut c o (allc (P := fun c => @Ne Nat c D) i2D (allc (P := fun c => @Ne Nat c D) (Ne.symm dR) alln) c hc) e) (F₅.change hs₆ dL d0) ((hoC.ns zC).sameBut hs₆ cD)
        (news_cons ⟨hs₆.extBut _ _ (Ne.symm d1) z1.1, z1.2⟩ (news_cons ⟨hD₆.trans (congrArg some (lst_snoc ys y)), dL, d0⟩ fun q hq => ⟨hs₆.extBut _ _ (allc (P := fun q : Addr × Obj => q.1 ≠ D) (Ne.symm dR) dn q hq) (N₅ q (.tail _ (.tail _ (.tail _ (.tail _ hq))))).1, (N₅ q (.tail _ (.tail _ (.tail _ (.tail _ hq))))).2⟩)) ⟨hma₃, hA₅⟩
  · have e : j = rv.size := Nat.le_antisymm hj (Nat.not_lt.mp hlt)
    rw [e] at hst hA
    refine W.done _ _ _ hst fun h₂ tk₂ hk₂ => ?_
    have N₂ := news_wr N' (fun q hq hm => (off ys q hq).1 (List.mem_singleton.mp hm)) hk₂
    exact fin h₂ tk₂ _ ys hA (fr_wr F' (allc ⟨i20, Ne.symm i2L⟩ alln) hk₂) (news_cons (N₂ _ (.head _)) (news_cons (N₂ _ (.tail _ (.head _))) fun q hq => N₂ q (.tail _ (.tail _ (.tail _ hq))))) (hn'.at' fun o e => hk₂ _ o (fun q => i2C (List.mem_singleton.mp q).symm) e)
end
section
variable {prog : Program} {w : World} {A : Around} {E : Value → Shared → Prop} {s : Shared} {h₀ : Heap} {L : Addr} {m : Str → Option Value} {env : Env} {elt iter1 iter2 : PySem.Expr} {ifs : List PySem.Expr} {a b : Str} {pa pb : Pos} {scope : Scope} {cl : List (Str × Addr)} {pos : Pos} {news : List (Addr × Obj)}
noncomputable def TwoSrc (prog : Program) (w : World) (A : Around) (E : Value → Shared → Prop) (env : Env) (elt iter1 iter2 : PySem.Expr) (ifs : List PySem.Expr) (a b : Str) (pa pb : Pos) (scope : Scope) (cl : List (Str × Addr)) (pos : Pos) (K : Value → Addr → Result → Shared → Prop) (xv : Value) (s₁ : Shared) : Prop :=
  wpAny (model prog w) A (pyIter xv) (fun it s₂ => wpAny (model prog w) A (newList []) (fun acc s₃ => wpAny (model prog w) A (newFunctionEnv scope env.globals cl [] env.qual none .none (some env)) (fun cenv s₄ =>
      codeAny (model prog w) A (.compStart (twoE elt iter1 iter2 ifs a b pa pb scope pos) 0 it acc { cenv with scope := relabel scope env }) (K acc cenv.locals) s₄) E s₃) E s₂) E s₁
theorem two_eval {Q : Value → Shared → Prop} (hclos : closureFor scope env = pure cl) (hkind : scope.kind = .function) (hnames : ∀ y ∈ scope.names, y.2 = .local → scope.names.lookup y.1 = some .local)
    (h : wpAny (model prog w) A (eval iter1 env) (TwoSrc prog w A E env elt iter1 iter2 ifs a b pa pb scope cl pos (fun acc C => compPost (model prog w) A E none Q acc C)) E s)
    (hs : ∀ x, foldedSetIterable iter1 env x = pure x) :
    wpAny (model prog w) A (eval (.ListComp elt [⟨.Name a pa, iter1, [], 0⟩, ⟨.Name b pb, iter2, ifs, 0⟩] scope pos) env) Q E s := by
  rw [eval_ListComp]
  exact wpAny_comprehension_free (use := none) rfl hs hclos hkind hnames h
theorem two_block {s₂ : Shared} {I : Addr} {x : Int} {n : Nat} {RR : Value → Addr → Result → Shared → Prop} (PR : Array Value → Prop) (Acc : Nat → Nat → List Value → Prop)
    (hh : A.handled = none) (F : Fr h₀ L s₂.heap m) (N : News h₀ L s₂.heap news) (hst : IsRangeIter s₂.heap I (x + ((0 : Nat) : Int) * 1) ((n : Int) - ((0 : Nat) : Int)) 1) (hIlt : I < s₂.heap.objs.size) (hI : h₀.get? I = none ∧ L ≠ I ∧ ∀ q ∈ news, q.1 ≠ I)
    (hcell : ∀ y ∈ scope.names, y.2 ≠ .cell) (hkind : scope.kind = .function) (hxa : scope.names.lookup a = some .local) (hxb : scope.names.lookup b = some .local) (hab : ¬ a = b)
    (hs : ∀ C x, foldedSetIterable iter2 (compEnvC scope cl C env) x = pure x) (h0 : Acc 0 0 []) (hlen : ∀ i j ys, i < n → Acc i j ys → ys.length ≤ sizeLine) (hnext : ∀ i rv ys, PR rv → Acc i rv.size ys → Acc (i + 1) 0 ys)
    (it2 : ∀ i tv ys I1 o1 C oC D m₂ h tk (E' : Value → Shared → Prop), i < n → Acc i 0 ys → NsObj oC m₂ → m₂ a = some (.int (x + (i : Int)) tv) → Fr h₀ L h m → News h₀ L h ((I1, o1) :: (C, oC) :: (D, lst ys) :: news) → Off3 I1 C D news → ((@Ne Nat I1 C) ∧ (@Ne Nat I1 D) ∧ (@Ne Nat C D)) →
      wpAny (model prog w) A (eval iter2 (compEnvC scope cl C env)) (TwoIt h₀ L m { s₂ with heap := h, toks := tk } ((I1, o1) :: (C, oC) :: (D, lst ys) :: news) PR) E' { s₂ with heap := h, toks := tk })
    (turn : ∀ i tv rv j v ys I2 o2 I1 o1 C oC D RL oR m₂ h tk (E' : Value → Shared → Prop), i < n → PR rv → rv[j]? = some v → Acc i j ys → NsObj oC m₂ → m₂ a = some (.int (x + (i : Int)) tv) → m₂ b = some v → Fr h₀ L h m → News h₀ L h ((I2, o2) :: (I1, o1) :: (C, oC) :: (D, lst ys) :: (RL, oR) :: news) →
      wpAny (model prog w) A (testsM ifs (compEnvC scope cl C env)) (fun ok s₄ => ∃ tk', s₄ = { s₂ with heap := h, toks := tk' } ∧ if ok = true then ∀ E'', wpAny (model prog w) A (eval elt (compEnvC scope cl C env)) (TwoEnd h₀ L m { s₂ with heap := h, toks := tk' } ((I2, o2) :: (I1, o1) :: (C, oC) :: (D, lst ys) :: (RL, oR) :: news) (fun y => Acc i (j + 1) (ys ++ [y]))) E'' s₄ else Acc i (j + 1) ys) E' { s₂ with heap := h, toks := tk })
    (fin : ∀ D C h tk m' ys, Acc n 0 ys → Fr h₀ L h m → News h₀ L h ((D, lst ys) :: news) → (∀ p ∈ news, p.1 ≠ D) → h.Ns C m' → h₀.get? C = none → h₀.get? D = none → C ≠ L → D ≠ L → C ≠ D → (∀ p ∈ news, p.1 ≠ C) → RR (.ref D) C (.ok .next) { s₂ with heap := h, toks := tk }) :
    wpAny (model prog w) A (newList []) (fun acc s₃ => wpAny (model prog w) A (newFunctionEnv scope env.globals cl [] env.qual none .none (some env)) (fun cenv s₄ =>
      codeAny (model prog w) A (.compStart (twoE elt iter1 iter2 ifs a b pa pb scope pos) 0 (.ref I) acc { cenv with scope := relabel scope env }) (RR acc cenv.locals) s₄) E s₃) E s₂ := by
  have ⟨hI₀, hLI, hIn⟩ := hI
  have W := range_walks (prog := prog) (w := w) (A := A) (I := I) hh x n
  refine comp_room hcell hkind F N fun D C h₁ m₁ tk₁ below old hns₁ F₁ N₁ offD offC hC₀ hD₀ hCL hDL hCD hlt₀ => ?_
  have hCI : @Ne Nat I C := (below I hIlt).1
  have hDI : @Ne Nat I D := (below I hIlt).2
  have hst₁ : IsRangeIter h₁ I (x + ((0 : Nat) : Int) * 1) ((n : Int) - ((0 : Nat) : Int)) 1 := W.frame 0 _ _ hst fun b _ o e => old b o e
  have off3 : Off3 I C D news := Off3.of fun p hp => ⟨hIn p hp, offC p hp, offD p hp⟩
  have off : ∀ ys : List Value, ∀ q ∈ (D, lst ys) :: news, q.1 ≠ I ∧ q.1 ≠ C := fun ys => allc ⟨Ne.symm hDI, Ne.symm hCD⟩ fun q hq => ⟨hIn q hq, offC q hq⟩
  clear below old hlt₀
  have loop : codeAny (model prog w) A (.compLoop (twoE elt iter1 iter2 ifs a b pa pb scope pos) 0 (.ref I) (.ref D) (compEnvC scope cl C env)) (RR (.ref D) C) { s₂ with heap := h₁, toks := tk₁ } := by
    refine two_outer (hs C) (BlkAt h₀ L m s₂ C (fun ys => (D, lst ys) :: news) n (fun i h => IsRangeIter h I (x + ((i : Nat) : Int) * 1) ((n : Int) - ((i : Nat) : Int)) 1) (fun i ys _ => Acc i 0 ys)) (fun k s' hI => ?_) (n + 1)
      ⟨0, h₁, tk₁, [], m₁, rfl, Nat.zero_le _, rfl, hst₁, F₁, hns₁, N₁, h0⟩
    refine BlkAt.elim hI fun i h' tk ys m' hi hst' F' hn' N' hA => ?_
    clear hI k s'
    by_cases hlt : i < n
    · refine W.item i _ _ _ hlt hst' fun v h₂ tk₂ hP hst₂ hk₂ => ?_
      have ⟨tv, hv⟩ := hP
      clear hP
      rw [hv]
      clear hv v
      refine wpAny_assign_Name (wpAny_storeName_local (lookup_relabel_local hxa) (hn'.at' fun o e => hk₂ _ o (fun q => hCI (List.mem_singleton.mp q).symm) e) (fun h₃ hn₃ hs₃ => ?_) (cenv_plain hkind))
      have up : KeepBut [I, C] h' h₃ := fun c o hc e => hs₃.extBut c o (fun q : c = C => hc (q ▸ .tail _ (.head _))) (hk₂ c o (fun q => hc (List.mem_singleton.mp q ▸ .head _)) e)
      have hst₃ : IsRangeIter h₃ I (x + ((i + 1 : Nat) : Int) * 1) ((n : Int) - ((i + 1 : Nat) : Int)) 1 := W.frame (i + 1) _ _ hst₂ fun c hc o e => hs₃.extBut c o (fun q : c = C => hCI ((List.mem_singleton.mp hc).symm.trans q)) e
      have ⟨o1, eI⟩ : ∃ o, h₃.get? I = some o := ⟨_, hst₃⟩
      have ⟨oC, eC, hoC⟩ := ns_obj hn₃
      have F₃ : Fr h₀ L h₃ m := fr_wr F' (allc ⟨hI₀, hLI⟩ (allc ⟨hC₀, Ne.symm hCL⟩ alln)) up
      have N₃ : News h₀ L h₃ ((I, o1) :: (C, oC) :: (D, lst ys) :: news) := news_cons ⟨eI, Ne.symm hLI, hI₀⟩ (news_cons ⟨eC, hCL, hC₀⟩ (news_wr N' (fun q hq => fun hm => by
        cases hm with
        | head => exact (off ys q hq).1 rfl
        | tail _ hm => exact (off ys q hq).2 (List.mem_singleton.mp hm)) up))
      have hma₃ : (fun z => if z = a then some (Value.int (x + (i : Int)) tv) else m' z) a = some (Value.int (x + (i : Int)) tv) := if_pos rfl
      refine wpAny_mono (it2 i tv ys I o1 C oC D _ h₃ _ _ hlt hA hoC hma₃ F₃ N₃ off3 ⟨hCI, hDI, hCD⟩) (fun xv s₄ h₄ => ?_) fun _ _ e => e
      refine two_it h₄ fun h₄ tk₄ RL oR rv nR F₄ N₄ offR hRl hRd hPR => ?_
      have lR : h₄.IsList RL rv := ⟨oR, (N₄ _ (.head _)).1, hRl, _, hRd⟩
      refine wpAny_pyIter_list lR ?_
      have up₄ : ∀ b o, h₄.get? b = some o → (h₄.push { cls := .type "list_iterator", data := .fields #[.ref RL, .int 0 0] }).get? b = some o := fun b o e => Heap.get?_push_of_some _ e
      have hit : (h₄.push { cls := .type "list_iterator", data := .fields #[.ref RL, .int 0 0] }).IsListIter h₄.objs.size RL 0 := ⟨_, Heap.get?_push_size _ rfl, rfl, rfl⟩
      have new₀ := next_is_new F₄
      have lt₄ : ∀ q ∈ (RL, oR) :: (I, o1) :: (C, oC) :: (D, lst ys) :: news, @Ne Nat h₄.objs.size q.1 := fun q hq => Nat.ne_of_gt (Heap.lt_size (N₄ q hq).1)
      have LL : @Ne Nat h₄.objs.size L := Nat.ne_of_gt F₄.ns.lt
      generalize h₄.push { cls := .type "list_iterator", data := .fields #[.ref RL, .int 0 0] } = h₅ at up₄ hit ⊢
      have N₅ : News h₀ L h₅ ((RL, oR) :: (I, o1) :: (C, oC) :: (D, lst ys) :: news) := fun q hq => ⟨up₄ _ _ (N₄ q hq).1, (N₄ q hq).2⟩
      have zC := (N₅ (C, oC) (.tail _ (.tail _ (.head _)))).1
      refine (fun loop2 => two_start1 loop2 (wpAny_pyIter_listiter hit loop2)) (inner_loop (rv := rv) (I1 := I) (I2 := h₄.objs.size) (o1 := o1) (oR := oR) (ys0 := ys) (m := m)
          (.int (x + (i : Int)) tv) hh hkind hxb hab hRl hRd
          (lt₄ (I, o1) (.tail _ (.head _))) (lt₄ (C, oC) (.tail _ (.tail _ (.head _)))) (lt₄ (D, lst ys) (.tail _ (.tail _ (.tail _ (.head _))))) (lt₄ (RL, oR) (.head _)) LL new₀ (fun q hq => Ne.symm (lt₄ q (.tail _ (.tail _ (.tail _ (.tail _ hq))))))
          (Ne.symm hCI) hCD (offR (C, oC) (.tail _ (.head _))) hCL hC₀ offC
          (Ne.symm hDI) (offR (D, lst ys) (.tail _ (.tail _ (.head _)))) hDL hD₀ offD
          (F₄.keeps up₄) (news_cons (N₅ _ (.tail _ (.head _))) (news_cons (N₅ _ (.tail _ (.tail _ (.tail _ (.head _))))) (news_cons (N₅ _ (.head _)) fun q hq => N₅ q (.tail _ (.tail _ (.tail _ (.tail _ hq)))))))
          (hoC.ns zC) hma₃ hit (Acc i) hA (fun j ys h => hlen i j ys hlt h)
          (fun j v ys' oI2 oC' m₂ h tk' E' hv hA' hC' ha' hb' F' N' => turn i tv rv j v ys' _ oI2 _ _ _ _ _ _ _ m₂ h tk' E' hlt hPR hv hA' hC' ha' hb' F' N') ?_)
      exact fun h₅ tk₅ m₅ ys₅ hA₅ F₅ N₅ hn₅ => BlkAt.step hlt (range_st (h₀ := h₀) (L := L) _ _ _ o1 [] hst₃ eI (N₅ (I, o1) (.head _)).1 (fun b o e => F₅.keep b o e) (fun q hq => nomatch hq) trivial) F₅ hn₅ (fun p hp => N₅ p (.tail _ hp)) (hnext i rv ys₅ hPR hA₅)
    · have e : i = n := Nat.le_antisymm hi (Nat.not_lt.mp hlt)
      rw [e] at hst' hA
      exact W.done _ _ _ hst' fun h₂ tk₂ hk₂ => fin _ _ h₂ tk₂ _ ys hA (fr_wr F' (allc ⟨hI₀, hLI⟩ alln) hk₂) (news_wr N' (fun q hq hm => (off ys q hq).1 (List.mem_singleton.mp hm)) hk₂) offD
          (hn'.at' fun o e => hk₂ _ o (fun q => hCI (List.mem_singleton.mp q).symm) e) hC₀ hD₀ hCL hDL hCD offC
  exact codeAny_compStart_list loop (W.self 0 _ _ _ hst₁ loop)
theorem two_range {K : Value → Addr → Result → Shared → Prop} {r : Addr} {x bd : Int} {t u v : Tok} {n : Nat} (PR : Array Value → Prop) (Acc : Nat → Nat → List Value → Prop)
    (hh : A.handled = none) (F : Fr h₀ L s.heap m) (N : News h₀ L s.heap news) (hr : IsRange s.heap r x bd 1 t u v) (hsm : Builtin.Range.small x bd 1 = true) (hn : Builtin.Range.rangeSize x bd 1 = ((n : Nat) : Int))
    (hcell : ∀ y ∈ scope.names, y.2 ≠ .cell) (hkind : scope.kind = .function) (hxa : scope.names.lookup a = some .local) (hxb : scope.names.lookup b = some .local) (hab : ¬ a = b)
    (hs : ∀ C x, foldedSetIterable iter2 (compEnvC scope cl C env) x = pure x) (h0 : Acc 0 0 []) (hlen : ∀ i j ys, i < n → Acc i j ys → ys.length ≤ sizeLine) (hnext : ∀ i rv ys, PR rv → Acc i rv.size ys → Acc (i + 1) 0 ys)
    (it2 : ∀ i tv ys I1 o1 C oC D m₂ h tk (E' : Value → Shared → Prop), i < n → Acc i 0 ys → NsObj oC m₂ → m₂ a = some (.int (x + (i : Int)) tv) → Fr h₀ L h m → News h₀ L h ((I1, o1) :: (C, oC) :: (D, lst ys) :: news) → Off3 I1 C D news → ((@Ne Nat I1 C) ∧ (@Ne Nat I1 D) ∧ (@Ne Nat C D)) →
      wpAny (model prog w) A (eval iter2 (compEnvC scope cl C env)) (TwoIt h₀ L m { s with heap := h, toks := tk } ((I1, o1) :: (C, oC) :: (D, lst ys) :: news) PR) E' { s with heap := h, toks := tk })
    (turn : ∀ i tv rv j v ys I2 o2 I1 o1 C oC D RL oR m₂ h tk (E' : Value → Shared → Prop), i < n → PR rv → rv[j]? = some v → Acc i j ys → NsObj oC m₂ → m₂ a = some (.int (x + (i : Int)) tv) → m₂ b = some v → Fr h₀ L h m → News h₀ L h ((I2, o2) :: (I1, o1) :: (C, oC) :: (D, lst ys) :: (RL, oR) :: news) →
      wpAny (model prog w) A (testsM ifs (compEnvC scope cl C env)) (fun ok s₄ => ∃ tk', s₄ = { s with heap := h, toks := tk' } ∧ if ok = true then ∀ E'', wpAny (model prog w) A (eval elt (compEnvC scope cl C env)) (TwoEnd h₀ L m { s with heap := h, toks := tk' } ((I2, o2) :: (I1, o1) :: (C, oC) :: (D, lst ys) :: (RL, oR) :: news) (fun y => Acc i (j + 1) (ys ++ [y]))) E'' s₄ else Acc i (j + 1) ys) E' { s with heap := h, toks := tk })
    (fin : ∀ D C h tk m' ys, Acc n 0 ys → Fr h₀ L h m → News h₀ L h ((D, lst ys) :: news) → (∀ p ∈ news, p.1 ≠ D) → h.Ns C m' → h₀.get? C = none → h₀.get? D = none → C ≠ L → D ≠ L → C ≠ D → (∀ p ∈ news, p.1 ≠ C) → K (.ref D) C (.ok .next) { s with heap := h, toks := tk }) :
    TwoSrc prog w A E env elt iter1 iter2 ifs a b pa pb scope cl pos K (.ref r) s := by
  refine wpAny_pyIter_range hr hsm ?_
  have up : ∀ b o, s.heap.get? b = some o → (s.heap.push { cls := .type "range_iterator", data := .fields #[rawInt x, rawInt (Builtin.Range.rangeSize x bd 1), rawInt 1] }).get? b = some o := fun b o e => Heap.get?_push_of_some _ e
  refine two_block PR Acc hh (F.keeps up) (N.grown up) (by show IsRangeIter _ _ _ _ _; rw [hn]; simpa using Heap.get?_push_size _ rfl) (by show s.heap.objs.size < (s.heap.push _).objs.size; rw [Heap.size_push]; exact Nat.lt_succ_self _)
    ⟨next_is_new F, Nat.ne_of_lt F.ns.lt, fun q hq => Nat.ne_of_lt (Heap.lt_size (N q hq).1)⟩ hcell hkind hxa hxb hab hs h0 hlen hnext ?_ ?_ ?_
  · exact it2
  · exact turn
  · exact fin
end
end Mine
end

section
open PySem PySem.W PyProof.Rows PySem.Calls PyProof.V PySem.Spec PyProof.Rows.LCg
namespace Mine
section
variable {prog : Program} {w : World} {A : Around} {E : Value → Shared → Prop} {s : Shared} {h₀ : Heap} {L : Addr} {m : Str → Option Value} {env : Env} {news : List (Addr × Obj)}
theorem filt_src {a : Str} {iter : PySem.Expr} {pa p1 p2 p3 p4 p5 p6 p7 p8 : Pos} {k1 k2 k3 : Nat} {scope : Scope} {cl : List (Str × Addr)} {pos : Pos} {K : Value → Addr → Result → Shared → Prop} {l : Addr} {rv : List Value} {rs : List Int} {k : Nat}
    (hI : IntsAre rv rs) (hh : A.handled = none) (F : Fr h₀ L s.heap m) (N : News h₀ L s.heap news) (hm : (l, listOf rv.toArray k) ∈ news) (hsz : rs.length ≤ 1000)
    (hcell : ∀ y ∈ scope.names, y.2 ≠ .cell) (hkind : scope.kind = .function) (hxa : scope.names.lookup a = some .local) (ha : (a == ("__debug__" : Str)) = false)
    (fin : ∀ D C h tk m' zs, IntsAre zs (rs.filter (fun x => x / 28 % 2 == 0)) → Fr h₀ L h m → News h₀ L h ((D, LCg.lst zs) :: news) → (∀ p ∈ news, p.1 ≠ D) → h.Ns C m' → h₀.get? C = none → h₀.get? D = none → C ≠ L → D ≠ L → C ≠ D → (∀ p ∈ news, p.1 ≠ C) → K (.ref D) C (.ok .next) { s with heap := h, toks := tk }) :
    OneSrc prog w A E env (.Name a p1) iter [.Compare (.BinOp (.BinOp (.Name a p2) .FloorDiv (.Constant (.int 28) k1 p3) p4) .Mod (.Constant (.int 2) k2 p5) p6) [.Eq] [.Constant (.int 0) k3 p7] p8] a pa scope cl pos K (.ref l) s := by
  refine one_list (xs := rv.toArray) (fun i zs => IntsAre zs ((rs.take i).filter (fun x => x / 28 % 2 == 0))) hh F N hm (by rw [List.size_toArray, hI.length]; (first | exact Nat.le_trans (by assumption) (by decide) | (rw [show sizeLine = 16777216 from rfl]; omega))) hcell hkind hxa .nil ?_ ?_
  · intro i x zs hx hA C m₂ s₃ E' hns h1 F₃ N₃
    obtain ⟨v, tv, rfl, hv⟩ := hI.at i x (by simpa using hx)
    have hfun : (compEnvC scope cl C env).scope.kind = .function := hkind
    have et : (rs.take (i + 1)).filter (fun x => x / 28 % 2 == 0) = (rs.take i).filter (fun x => x / 28 % 2 == 0) ++ (if v / 28 % 2 == 0 then [v] else []) := by
      rw [List.take_add_one, hv, List.filter_append]
      simp only [Option.toList, List.filter_cons, List.filter_nil]
    refine wpAny_tests_one (wpAny_isTrue_Compare1 (wpAny_BinOp (wpAny_BinOp ?_)))
    refine wpAny_Name (wpAny_loadName_local hfun (lookup_relabel_local hxa) hns h1 ?_) ha
    refine wpAny_Constant_int (floordiv_int (by decide) (wpAny_Constant_int (mod_int (by decide) (wpAny_Constant_int (eq_int (wpAny_truthy_bool ⟨⟨_, _, rfl, fun _ _ e => e⟩, ?_⟩))))))
    have e0 : ((v.fdiv 28).fmod 2 == 0) = (v / 28 % 2 == 0) := by rw [Int.fdiv_eq_ediv_of_nonneg _ (by decide), Int.fmod_eq_emod_of_nonneg _ (by decide)]
    rw [e0]
    cases hc : (v / 28 % 2 == 0) with
    | false =>
      rw [hc] at et
      simp only [Bool.false_eq_true, if_false, List.append_nil] at et ⊢
      rw [et]
      exact hA
    | true =>
      rw [hc] at et
      simp only [if_true] at et ⊢
      refine wpAny_Name (wpAny_loadName_local hfun (lookup_relabel_local hxa) hns h1 ⟨⟨_, _, rfl, fun _ _ e => e⟩, ?_⟩) ha
      rw [et]
      exact hA.append (.cons _ _ .nil)
  · (try dsimp only)
    rw [List.size_toArray, hI.length, List.take_of_length_le (Nat.le_refl _)]
    exact fin
/-- the test of the second clause: n % 7 - 3 == place -/
theorem place_test {a b : Str} {p1 p2 p3 p4 p5 p6 p7 : Pos} {k1 k2 : Nat} {scope : Scope} {cl : List (Str × Addr)} {C : Addr} {m₂ : Str → Option Value} {n pl : Int} {t1 t2 : Tok} {Q : Bool → Shared → Prop}
    (hkind : scope.kind = .function) (hxa : scope.names.lookup a = some .local) (ha : (a == ("__debug__" : Str)) = false) (hxb : scope.names.lookup b = some .local) (hb : (b == ("__debug__" : Str)) = false)
    (hns : s.heap.Ns C m₂) (h1 : m₂ a = some (.int pl t1)) (h2 : m₂ b = some (.int n t2)) (h : ∀ tk, Q (portOf n == pl) { s with toks := tk }) :
    wpAny (model prog w) A (testsM [.Compare (.BinOp (.BinOp (.Name b p1) .Mod (.Constant (.int 7) k1 p2) p3) .Sub (.Constant (.int 3) k2 p4) p5) [.Eq] [.Name a p6] p7] (compEnvC scope cl C env)) Q E s := by
  have hfun : (compEnvC scope cl C env).scope.kind = .function := hkind
  refine wpAny_tests_one (wpAny_isTrue_Compare1 (wpAny_BinOp (wpAny_BinOp ?_)))
  refine wpAny_Name (wpAny_loadName_local hfun (lookup_relabel_local hxb) hns h2 ?_) hb
  refine wpAny_Constant_int (mod_int (by decide) (wpAny_Constant_int (sub_int ?_)))
  refine wpAny_Name (wpAny_loadName_local hfun (lookup_relabel_local hxa) hns h1 ?_) ha
  refine eq_int (wpAny_truthy_bool ?_)
  have e0 : n.fmod 7 - 3 = portOf n := by rw [Int.fmod_eq_emod_of_nonneg _ (by decide)]; rfl
  rw [e0]
  exact h _
end
end Mine
end

section
open PySem PySem.W PyProof.Rows
namespace Mine
theorem insL_skip {n : Int} {r : List Int} : ∀ {xs : List Int}, (∀ m ∈ xs, portOf m < portOf n) → insL n (xs ++ r) = xs ++ insL n r
  | [], _ => rfl
  | m :: xs, h => by
    have e : insL n (m :: (xs ++ r)) = if portOf m < portOf n then m :: insL n (xs ++ r) else n :: m :: (xs ++ r) := rfl
    rw [List.cons_append, e, if_pos (h m (.head _)), insL_skip (fun k hk => h k (.tail _ hk)), List.cons_append]
theorem insL_head {n : Int} : ∀ {l : List Int}, (∀ m ∈ l, portOf n ≤ portOf m) → insL n l = n :: l
  | [], _ => rfl
  | m :: l, h => by
    unfold insL
    rw [if_neg (by have := h m (.head _); omega)]
noncomputable def atP (l : List Int) (p : Int) : List Int := l.filter (fun n => portOf n == p)
theorem atP_mem {l : List Int} {p m : Int} (h : m ∈ atP l p) : portOf m = p := by
  unfold atP at h
  exact eq_of_beq (List.mem_filter.mp h).2
theorem ins_blocks (n : Int) (l : List Int) : ∀ ps : List Int, ps.Pairwise (· < ·) → portOf n ∈ ps → insL n (ps.flatMap (atP l)) = ps.flatMap (atP (n :: l))
  | [], _, h => nomatch h
  | p :: ps, hs, h => by
    rw [List.flatMap_cons, List.flatMap_cons]
    have hs1 := (List.pairwise_cons.mp hs).1
    have hs2 := (List.pairwise_cons.mp hs).2
    by_cases hp : portOf n = p
    · have e1 : atP (n :: l) p = n :: atP l p := by unfold atP; rw [List.filter_cons, if_pos (by rw [hp]; exact beq_self_eq_true p)]
      have e2 : ps.flatMap (atP (n :: l)) = ps.flatMap (atP l) := by
        rw [List.flatMap_def, List.flatMap_def]
        congr 1
        refine List.map_congr_left fun q hq => ?_
        have := hs1 q hq
        unfold atP
        rw [List.filter_cons, if_neg (by rw [hp]; simp; omega)]
      rw [e1, e2]
      refine insL_head fun m hm => ?_
      rcases List.mem_append.mp hm with hm | hm
      · rw [atP_mem hm, hp]; exact Int.le_refl _
      · obtain ⟨q, hq, hm⟩ := List.mem_flatMap.mp hm
        have := hs1 q hq
        rw [atP_mem hm, hp]; omega
    · have hm : portOf n ∈ ps := by
        rcases List.mem_cons.mp h with h | h
        · exact absurd h hp
        · exact h
      have e1 : atP (n :: l) p = atP l p := by unfold atP; rw [List.filter_cons, if_neg (by simpa using hp)]
      have := hs1 _ hm
      rw [e1, insL_skip (fun m hm' => by rw [atP_mem hm']; exact this), ins_blocks n l ps hs2 hm]
noncomputable def placesL : List Int := (List.range 7).map (fun i : Nat => -3 + (i : Int))
theorem placesL_sorted : placesL.Pairwise (· < ·) := by decide
theorem port_mem (n : Int) : portOf n ∈ placesL := by
  have ⟨k, hk⟩ := Int.eq_ofNat_of_zero_le (Int.emod_nonneg n (show (7 : Int) ≠ 0 by decide))
  have h7 := Int.emod_lt_of_pos n (show (0 : Int) < 7 by decide)
  unfold portOf
  rw [hk] at h7 ⊢
  exact (by decide : ∀ k : Nat, k < 7 → ((k : Int) - 3) ∈ placesL) k (Int.ofNat_lt.mp h7)
theorem rowL_rev : ∀ l : List Int, rowL l.reverse = placesL.flatMap (atP l)
  | [] => by decide
  | n :: l => by rw [List.reverse_cons, rowL_snoc, rowL_rev l]; exact ins_blocks n l _ placesL_sorted (port_mem n)
theorem rowL_blocks (ns : List Int) : rowL ns = placesL.flatMap (atP ns.reverse) := by
  have := rowL_rev ns.reverse
  rwa [List.reverse_reverse] at this
/-- what the two clauses have gathered: i places done, and j numbers at the next -/
noncomputable def accL (l : List Int) (i j : Nat) : List Int := ((List.range i).flatMap (fun k : Nat => atP l (-3 + (k : Int)))) ++ atP (l.take j) (-3 + (i : Int))
theorem accL_zero (l : List Int) : accL l 0 0 = [] := rfl
theorem accL_next (l : List Int) (i : Nat) : accL l (i + 1) 0 = accL l i l.length := by
  unfold accL
  rw [List.range_succ, List.flatMap_append, List.take_length, List.take_zero]
  simp [atP]
theorem accL_end (l : List Int) : accL l 7 0 = placesL.flatMap (atP l) := by
  unfold accL placesL
  rw [List.flatMap_map]
  simp [atP]
theorem accL_step {l : List Int} {i j : Nat} {v : Int} (h : l[j]? = some v) : accL l i (j + 1) = accL l i j ++ (if portOf v == -3 + (i : Int) then [v] else []) := by
  unfold accL
  rw [List.take_add_one, h, List.append_assoc]
  congr 1
  unfold atP
  rw [List.filter_append]
  simp only [Option.toList, List.filter_cons, List.filter_nil]
theorem accL_length (l : List Int) (i j : Nat) : (accL l i j).length ≤ (i + 1) * l.length := by
  have h1 : ∀ p, (atP l p).length ≤ l.length := fun p => List.length_filter_le ..
  have h2 : (atP (l.take j) (-3 + (i : Int))).length ≤ l.length := Nat.le_trans (List.length_filter_le ..) (by rw [List.length_take]; exact Nat.min_le_right ..)
  have h3 : ∀ i : Nat, ((List.range i).flatMap (fun k : Nat => atP l (-3 + (k : Int)))).length ≤ i * l.length := by
    intro i
    induction i with
    | zero => simp
    | succ i ih =>
      rw [List.range_succ, List.flatMap_append, List.length_append, Nat.succ_mul]
      rw [List.flatMap_cons, List.flatMap_nil, List.append_nil]
      exact Nat.add_le_add ih (h1 _)
  unfold accL
  rw [List.length_append, Nat.succ_mul]
  exact Nat.add_le_add (h3 i) h2
end Mine
end

section
open PySem PySem.W PyProof.Rows
namespace Mine
theorem stepL_getD (f : Int → Int → Int) (hf : f 0 0 = 0) (r : List Int) (i : Nat) : (stepL f r).getD i 0 = f (if i = 0 then 0 else r.getD (i - 1) 0) (r.getD i 0) := by
  unfold stepL
  rw [List.getD_eq_getElem?_getD, List.getElem?_zipWith]
  by_cases hi : i < r.length + 1
  · have h1 : (0 :: r)[i]? = some ((0 :: r)[i]'(by simpa using hi)) := List.getElem?_eq_getElem _
    have h2 : (r ++ [0])[i]? = some ((r ++ [0])[i]'(by simpa using hi)) := List.getElem?_eq_getElem _
    rw [h1, h2]
    show f _ _ = _
    congr 1
    · cases i with
      | zero => rfl
      | succ k =>
        have hk : k < r.length := by omega
        simp [hk]
    · rw [List.getElem_append]
      split
      · rename_i h; simp [h]
      · rename_i h; simp [Nat.le_of_not_lt h]
  · have h1 : (0 :: r)[i]? = none := List.getElem?_eq_none (by simp; omega)
    rw [h1]
    have e1 : r.getD i 0 = 0 := by rw [List.getD_eq_getElem?_getD, List.getElem?_eq_none (by omega)]; rfl
    have e2 : r.getD (i - 1) 0 = 0 := by rw [List.getD_eq_getElem?_getD, List.getElem?_eq_none (by omega)]; rfl
    rw [e1, e2, if_neg (by omega), hf]
    rfl
theorem ext_getD {a b : List Int} (hl : a.length = b.length) (h : ∀ i, a.getD i 0 = b.getD i 0) : a = b := by
  refine List.ext_getElem hl fun i h1 h2 => ?_
  have := h i
  rw [List.getD_eq_getElem?_getD, List.getD_eq_getElem?_getD, List.getElem?_eq_getElem h1, List.getElem?_eq_getElem h2] at this
  exact this
theorem step_comm (p q : Int) (r : List Int) : stepL (fun u v => u - q * v) (stepL (fun u v => u - p * v) r) = stepL (fun u v => u - p * v) (stepL (fun u v => u - q * v) r) := by
  refine ext_getD (by rw [stepL_length, stepL_length, stepL_length, stepL_length]) fun i => ?_
  have z : ∀ p : Int, (fun u v : Int => u - p * v) 0 0 = 0 := fun p => by simp
  rw [stepL_getD _ (z q), stepL_getD _ (z p), stepL_getD _ (z p), stepL_getD _ (z p), stepL_getD _ (z q), stepL_getD _ (z q)]
  have e : ∀ a b c : Int, (a - p * b) - q * (b - p * c) = (a - q * b) - p * (b - q * c) := by
    intro a b c
    rw [Int.mul_sub, Int.mul_sub, ← Int.mul_assoc, ← Int.mul_assoc, Int.mul_comm q p, Int.sub_sub, Int.sub_sub, ← Int.add_sub_assoc, ← Int.add_sub_assoc, Int.add_comm (p * b)]
  by_cases hi : i = 0
  · subst hi
    simp only [if_true]
    have := e 0 0 (r.getD 0 0)
    simpa using this
  · simp only [if_neg hi]
    exact e _ _ _
theorem prod_perm {a b : List Int} (h : a.Perm b) : ∀ r : List Int, a.foldl (fun rs p => stepL (fun u v => u - p * v) rs) r = b.foldl (fun rs p => stepL (fun u v => u - p * v) rs) r := by
  induction h with
  | nil => intro r; rfl
  | cons x _ ih => intro r; exact ih _
  | swap x y l => intro r; simp only [List.foldl_cons]; rw [step_comm]
  | trans _ _ ih1 ih2 => intro r; rw [ih1, ih2]
theorem prodL_perm {a b : List Int} (h : a.Perm b) : prodL a = prodL b := prod_perm h [1]
theorem insL_perm (n : Int) : ∀ l : List Int, (insL n l).Perm (n :: l)
  | [] => List.Perm.refl _
  | m :: l => by
    unfold insL
    split
    · exact ((insL_perm n l).cons m).trans (List.Perm.swap ..)
    · exact List.Perm.refl _
theorem foldl_ins_perm : ∀ (ns r : List Int), (ns.foldl (fun r n => insL n r) r).Perm (ns ++ r)
  | [], r => List.Perm.refl _
  | n :: ns, r => by
    rw [List.foldl_cons]
    refine (foldl_ins_perm ns _).trans ?_
    refine ((insL_perm n r).append_left ns).trans ?_
    exact List.perm_middle
theorem rowL_perm (ns : List Int) : (rowL ns).Perm ns := by
  have := foldl_ins_perm ns []
  rwa [List.append_nil] at this
end Mine
end

section
open PySem PySem.W PyProof.Rows
namespace Mine
noncomputable abbrev mulX (p : Int) (r : List Int) : List Int := stepL (fun u v => u - p * v) r
noncomputable def Ep (p u : Int) : List Int → List Int
  | [] => [u]
  | c :: l => (u - p * c) :: Ep p c l
theorem mul_Ep' (p : Int) : ∀ (l : List Int) (u : Int), List.zipWith (fun u v => u - p * v) (u :: l) (l ++ [0]) = Ep p u l
  | [], u => by simp [Ep]
  | c :: l, u => by
    show (u - p * c) :: List.zipWith _ (c :: l) (l ++ [0]) = (u - p * c) :: Ep p c l
    rw [mul_Ep' p l c]
theorem mul_Ep (p : Int) (l : List Int) : mulX p l = Ep p 0 l := mul_Ep' p l 0
/-- changes of sign behind a sign (true: below nought) -/
noncomputable def chW : Bool → List Int → Nat
  | _, [] => 0
  | s, c :: l => if c = 0 then chW s l else (if s = decide (c < 0) then 0 else 1) + chW (decide (c < 0)) l
noncomputable def chV : List Int → Nat
  | [] => 0
  | c :: l => if c = 0 then chV l else chW (decide (c < 0)) l
/-- the sign of c: true below nought -/
noncomputable def Sg (s : Bool) (c : Int) : Prop := c ≠ 0 ∧ decide (c < 0) = s
theorem sg_pos {c : Int} (h : 0 < c) : Sg false c := ⟨Int.ne_of_gt h, decide_eq_false (Int.not_lt.mpr (Int.le_of_lt h))⟩
theorem sg_neg {c : Int} (h : c < 0) : Sg true c := ⟨Int.ne_of_lt h, decide_eq_true h⟩
theorem sg_lt : ∀ {s : Bool} {c : Int}, Sg s c → if s = true then c < 0 else 0 < c
  | true, _, h => of_decide_eq_true h.2
  | false, _, h => Int.lt_iff_le_and_ne.mpr ⟨Int.not_lt.mp (of_decide_eq_false h.2), Ne.symm h.1⟩
theorem sg_all (c : Int) : c = 0 ∨ ∃ s, Sg s c := by
  by_cases h : c = 0
  · exact .inl h
  · exact .inr ⟨_, h, rfl⟩
theorem Sg.not : ∀ {s : Bool} {c : Int}, Sg s c → Sg (!s) (-c)
  | true, _, h => sg_pos (Int.neg_pos_of_neg (sg_lt h))
  | false, _, h => sg_neg (Int.neg_neg_of_pos (sg_lt h))
theorem Sg.sub {p : Int} (hp : 0 < p) : ∀ {s : Bool} {u c : Int}, Sg s u → Sg (!s) c → Sg s (u - p * c)
  | true, _, _, h, h2 => sg_neg (Int.sub_neg_of_lt (Int.lt_trans (sg_lt h) (Int.mul_pos hp (sg_lt h2))))
  | false, _, _, h, h2 => sg_pos (Int.sub_pos_of_lt (Int.lt_trans (Int.mul_neg_of_pos_of_neg hp (sg_lt h2)) (sg_lt h)))
theorem Sg.sub0 {p : Int} (hp : 0 < p) : ∀ {s : Bool} {c : Int}, Sg s c → Sg (!s) (0 - p * c)
  | true, _, h => sg_pos (Int.sub_pos_of_lt (Int.mul_neg_of_pos_of_neg hp (sg_lt h)))
  | false, _, h => sg_neg (Int.sub_neg_of_lt (Int.mul_pos hp (sg_lt h)))
theorem chW_zero (s : Bool) {c : Int} (h : c = 0) (l : List Int) : chW s (c :: l) = chW s l := if_pos h
theorem chW_sg (s : Bool) {t : Bool} {c : Int} (h : Sg t c) (l : List Int) : chW s (c :: l) = (if s = t then 0 else 1) + chW t l := by
  rw [chW, if_neg h.1, h.2]
theorem chW_same {s : Bool} {c : Int} (h : Sg s c) (l : List Int) : chW s (c :: l) = chW s l := by rw [chW_sg s h, if_pos rfl, Nat.zero_add]
theorem chW_turn {s : Bool} {c : Int} (h : Sg s c) (l : List Int) : chW (!s) (c :: l) = 1 + chW s l := by rw [chW_sg _ h, if_neg (by cases s <;> decide)]
theorem chW_turn' {s : Bool} {c : Int} (h : Sg (!s) c) (l : List Int) : chW s (c :: l) = 1 + chW (!s) l := by rw [chW_sg _ h, if_neg (by cases s <;> decide)]
theorem chV_zero {c : Int} (h : c = 0) (l : List Int) : chV (c :: l) = chV l := if_pos h
theorem chV_sg {t : Bool} {c : Int} (h : Sg t c) (l : List Int) : chV (c :: l) = chW t l := by rw [chV, if_neg h.1, h.2]
theorem chW_le {s : Bool} {d : Int} {l : List Int} {n : Nat} (h1 : n ≤ chW s l) (h2 : n ≤ 1 + chW (!s) l) : n ≤ chW s (d :: l) := by
  rcases sg_all d with h | ⟨t, h⟩
  · rw [chW_zero s h]; exact h1
  · by_cases e : t = s
    · rw [e] at h; rw [chW_same h]; exact h1
    · have e2 : t = !s := by cases s <;> cases t <;> first | rfl | exact absurd rfl e
      rw [e2] at h; rw [chW_turn' h]; exact h2
theorem chgB_cons (a b : Bool) (r : List Bool) : chgB (a :: b :: r) = (if a = b then 0 else 1) + chgB (b :: r) := by
  unfold chgB bpairs
  show List.countP _ ((a, b) :: (b :: r).zip r) = _ + List.countP _ ((b :: r).zip ((b :: r).drop 1))
  rw [List.countP_cons, Nat.add_comm]
  congr 1
  cases a <;> cases b <;> rfl
theorem below_zero {c : Int} (h : c = 0) (l : List Int) : belowL (c :: l) = belowL l := by
  unfold belowL
  rw [List.filter_cons, h, if_neg (by decide)]
theorem below_sg {t : Bool} {c : Int} (h : Sg t c) (l : List Int) : belowL (c :: l) = t :: belowL l := by
  unfold belowL
  rw [List.filter_cons, if_pos (bne_iff_ne.mpr h.1), List.map_cons, h.2]
theorem chW_eq : ∀ (l : List Int) (s : Bool), chgB (s :: belowL l) = chW s l
  | [], s => rfl
  | c :: l, s => by
    rcases sg_all c with h | ⟨t, h⟩
    · rw [chW_zero s h, below_zero h, chW_eq l s]
    · rw [below_sg h, chgB_cons, chW_eq l, chW_sg s h]
theorem chV_eq : ∀ l : List Int, chgL l = chV l
  | [] => rfl
  | c :: l => by
    have ih := chV_eq l
    unfold chgL at ih ⊢
    rcases sg_all c with h | ⟨t, h⟩
    · rw [chV_zero h, below_zero h, ih]
    · rw [below_sg h, chW_eq, chV_sg h]
theorem ch_mul {p : Int} (hp : 0 < p) : ∀ (l : List Int) (u : Int),
    (∀ s, Sg s u → 1 + chW s l ≤ chW (!s) (Ep p u l) ∧ chW s l ≤ chW s (Ep p u l)) ∧ (u = 0 → ∀ s, chW s l ≤ chW s (Ep p u l))
  | [], u => ⟨fun s h => ⟨Nat.le_of_eq (chW_turn h []).symm, Nat.zero_le _⟩, fun _ _ => Nat.zero_le _⟩
  | c :: l, u => by
    have ⟨i1, i3⟩ := ch_mul hp l c
    rw [Ep]
    rcases sg_all c with hc | ⟨t, hc⟩
    · have j := i3 hc
      have e : u - p * c = u := by rw [hc, Int.mul_zero, Int.sub_zero]
      rw [e]
      refine ⟨fun s h => ?_, fun h s => ?_⟩
      · rw [chW_zero s hc, chW_turn h, chW_same h]
        exact ⟨Nat.add_le_add_left (j s) 1, j s⟩
      · rw [chW_zero s hc, chW_zero s h]
        exact j s
    · have ⟨j1, j2⟩ := i1 t hc
      have low : ∀ d, chW t (c :: l) ≤ chW t (d :: Ep p c l) := fun d => by
        rw [chW_same hc]; exact chW_le j2 (Nat.le_trans (Nat.le_trans (Nat.le_add_left _ 1) j1) (Nat.le_add_left _ 1))
      refine ⟨fun s h => ?_, fun h s => ?_⟩
      · by_cases e : t = s
        · subst e
          refine ⟨?_, low _⟩
          rw [chW_same hc]
          exact chW_le j1 (by rw [Bool.not_not]; exact Nat.add_le_add_left j2 1)
        · have e2 : t = !s := by cases s <;> cases t <;> first | rfl | exact absurd rfl e
          subst e2
          have hd := Sg.sub hp h hc
          rw [chW_turn' hc, chW_turn hd, chW_same hd]
          rw [Bool.not_not] at j1
          exact ⟨Nat.add_le_add_left j1 1, j1⟩
      · subst h
        by_cases e : t = s
        · subst e
          exact low _
        · have e2 : t = !s := by cases s <;> cases t <;> first | rfl | exact absurd rfl e
          subst e2
          have hd := Sg.sub0 hp hc
          rw [Bool.not_not] at hd j1
          rw [chW_turn' hc, chW_same hd]
          exact j1
noncomputable def Nz (l : List Int) : Prop := ∃ c ∈ l, c ≠ 0
theorem nz_tail {c : Int} {l : List Int} (h : Nz (c :: l)) (hc : c = 0) : Nz l := by
  obtain ⟨d, hd, h⟩ := h
  rcases List.mem_cons.mp hd with rfl | hd
  · exact absurd hc h
  · exact ⟨d, hd, h⟩
theorem chV_mul {p : Int} (hp : 0 < p) : ∀ (l : List Int), Nz l → 1 + chV l ≤ chV (Ep p 0 l)
  | [], h => by obtain ⟨_, h, _⟩ := h; exact nomatch h
  | c :: l, h => by
    rw [Ep]
    rcases sg_all c with hc | ⟨t, hc⟩
    · subst hc
      rw [chV_zero rfl, chV_zero (show 0 - p * 0 = 0 by rw [Int.mul_zero]; rfl)]
      exact chV_mul hp l (nz_tail h rfl)
    · rw [chV_sg hc, chV_sg (Sg.sub0 hp hc)]
      exact ((ch_mul hp l c).1 t hc).1
/-- every other sign turned -/
noncomputable def alt : Bool → List Int → List Int
  | _, [] => []
  | b, c :: l => (if b then -c else c) :: alt (!b) l
theorem Sg.alt {t : Bool} {c : Int} (h : Sg t c) : ∀ b : Bool, Sg (t ^^ b) (if b = true then -c else c)
  | true => by rw [Bool.xor_true, if_pos rfl]; exact h.not
  | false => by rw [Bool.xor_false, if_neg (by decide)]; exact h
theorem alt0 {c : Int} (h : c = 0) : ∀ b : Bool, (if b = true then -c else c) = 0
  | true => by rw [if_pos rfl, h]; rfl
  | false => by rw [if_neg (by decide), h]
theorem alt_bits : ∀ s s' t b : Bool, (if s = t then 0 else 1) + (if s' = (t ^^ b) then 0 else 1) ≤ 1 + (if (s ^^ s' ^^ b) = true then 0 else 1) := by decide
theorem alt_par (t b : Bool) : (t ^^ (t ^^ b) ^^ (!b)) = true := by cases t <;> cases b <;> rfl
theorem alt_bound : ∀ (l : List Int) (s s' b : Bool), chW s l + chW s' (alt b l) ≤ l.length + (if (s ^^ s' ^^ b) = true then 0 else 1)
  | [], s, s', b => Nat.zero_le _
  | c :: l, s, s', b => by
    rw [alt, List.length_cons]
    rcases sg_all c with hc | ⟨t, hc⟩
    · rw [chW_zero _ hc, chW_zero _ (alt0 hc b)]
      refine Nat.le_trans (alt_bound l s s' (!b)) ?_
      rw [Nat.add_assoc]
      exact Nat.add_le_add_left (Nat.le_trans (by split <;> decide) (Nat.le_add_right 1 _)) _
    · rw [chW_sg s hc, chW_sg s' (hc.alt b), Nat.add_add_add_comm]
      have h := alt_bound l t (t ^^ b) (!b)
      rw [alt_par, if_pos rfl, Nat.add_zero] at h
      refine Nat.le_trans (Nat.add_le_add (alt_bits s s' t b) h) ?_
      rw [Nat.add_assoc l.length, Nat.add_comm]
      exact Nat.le_refl _
/-- where a list begins to be other than nought -/
noncomputable def fz : List Int → Nat
  | [] => 0
  | c :: l => if c = 0 then 1 + fz l else 0
theorem altV_bound : ∀ (l : List Int) (b : Bool), Nz l → chV l + chV (alt b l) + fz l + 1 ≤ l.length
  | [], _, h => by obtain ⟨_, h, _⟩ := h; exact nomatch h
  | c :: l, b, h => by
    rw [alt, List.length_cons]
    rcases sg_all c with hc | ⟨t, hc⟩
    · have ih := altV_bound l (!b) (nz_tail h hc)
      rw [chV_zero hc, fz, if_pos hc, chV_zero (alt0 hc b), Nat.add_comm 1 (fz l), ← Nat.add_assoc]
      exact Nat.succ_le_succ ih
    · rw [chV_sg hc, fz, if_neg hc.1, chV_sg (hc.alt b)]
      have ih := alt_bound l t (t ^^ b) (!b)
      rw [alt_par, if_pos rfl] at ih
      exact Nat.succ_le_succ ih
noncomputable def Mo (l : List Int) : Prop := l.getLast? = some 1
theorem Mo.nz {l : List Int} (h : Mo l) : Nz l := ⟨1, List.mem_of_getLast? h, by decide⟩
theorem Ep_last (p : Int) : ∀ (l : List Int) (u : Int), (Ep p u l).getLast? = (u :: l).getLast?
  | [], _ => rfl
  | c :: l, u => by
    have h := Ep_last p l c
    rw [Ep, List.getLast?_cons_cons, ← h]
    cases hE : Ep p c l with
    | nil => cases l <;> exact nomatch hE
    | cons d r => rw [List.getLast?_cons_cons]
theorem Mo.mul {l : List Int} (h : Mo l) (p : Int) : Mo (Ep p 0 l) := by
  unfold Mo at *
  rw [Ep_last]
  cases l with
  | nil => exact nomatch h
  | cons c l => rw [List.getLast?_cons_cons]; exact h
theorem Ep_zero : ∀ (l : List Int) (u : Int), Ep 0 u l = u :: l
  | [], _ => rfl
  | c :: l, u => by rw [Ep, Ep_zero l c]; simp
theorem fz_mul {p : Int} (hp : p ≠ 0) : ∀ {l : List Int}, Nz l → fz (Ep p 0 l) = fz l
  | [], h => by obtain ⟨_, h, _⟩ := h; exact nomatch h
  | c :: l, h => by
    rw [Ep, fz, fz]
    by_cases hc : c = 0
    · rw [if_pos hc, if_pos (by rw [hc]; simp), hc, fz_mul hp (nz_tail h hc)]
    · have : p * c ≠ 0 := Int.mul_ne_zero hp hc
      rw [if_neg hc, if_neg (by omega)]
theorem neg_sub2 (u q : Int) : u - q = -(-u - -q) := by rw [Int.sub_neg, Int.neg_add, Int.neg_neg, Int.sub_eq_add_neg]
theorem alt_mul (p : Int) : ∀ (l : List Int) (u : Int) (b : Bool), alt b (Ep p u l) = (Ep (-p) (if b then u else -u) (alt b l)).map (fun x => -x)
  | [], u, b => by cases b <;> simp [Ep, alt]
  | c :: l, u, b => by
    have h := alt_mul p l c (!b)
    rw [Ep, alt, h, alt, Ep, List.map_cons]
    cases b with
    | false =>
      show (u - p * c) :: _ = -(-u - -p * c) :: _
      rw [Int.neg_mul, ← neg_sub2]
      rfl
    | true =>
      show -(u - p * c) :: _ = -(u - -p * -c) :: _
      rw [Int.neg_mul_neg]
      rfl
theorem chW_map (s : Bool) : ∀ l : List Int, chW s (l.map (fun x => -x)) = chW (!s) l := by
  intro l
  induction l generalizing s with
  | nil => rfl
  | cons c l ih =>
    rw [List.map_cons]
    rcases sg_all c with hc | ⟨t, hc⟩
    · rw [chW_zero s (show -c = 0 by rw [hc]; rfl), chW_zero _ hc, ih]
    · rw [chW_sg s hc.not, chW_sg (!s) hc, ih, Bool.not_not]
      congr 1
      cases s <;> cases t <;> rfl
theorem chV_map : ∀ l : List Int, chV (l.map (fun x => -x)) = chV l
  | [] => rfl
  | c :: l => by
    rw [List.map_cons]
    rcases sg_all c with hc | ⟨t, hc⟩
    · rw [chV_zero (show -c = 0 by rw [hc]; rfl), chV_zero hc, chV_map l]
    · rw [chV_sg hc.not, chV_sg hc, chW_map, Bool.not_not]
theorem alt_nz : ∀ (l : List Int) (b : Bool), Nz l → Nz (alt b l)
  | [], _, h => h
  | c :: l, b, h => by
    rw [alt]
    by_cases hc : c = 0
    · obtain ⟨d, hd, h0⟩ := alt_nz l (!b) (nz_tail h hc)
      exact ⟨d, .tail _ hd, h0⟩
    · exact ⟨_, .head _, (Sg.alt (t := decide (c < 0)) ⟨hc, rfl⟩ b).1⟩
theorem odd_succ (k : Nat) : ((k + 1) % 2 == 1) = !(k % 2 == 1) := by
  rcases Nat.mod_two_eq_zero_or_one k with h | h
  · rw [Nat.add_mod, h]; rfl
  · rw [Nat.add_mod, h]; rfl
theorem turned_alt' : ∀ (l : List Int) (k : Nat), l.mapIdx (fun i c => turnV (i + k) c) = alt (k % 2 == 1) l
  | [], _ => rfl
  | c :: l, k => by
    rw [List.mapIdx_cons, alt, ← odd_succ, ← turned_alt' l (k + 1)]
    congr 1
    · unfold turnV
      rw [Nat.zero_add]
      by_cases hk : k % 2 = 1
      · rw [if_pos hk, if_pos (beq_iff_eq.mpr hk)]
      · rw [if_neg hk, if_neg (fun e => hk (beq_iff_eq.mp e))]
    · congr 1
      funext i c
      rw [Nat.add_assoc, Nat.add_comm 1 k]
theorem turned_alt (l : List Int) : turnedL l = alt false l := turned_alt' l 0
noncomputable def mulAll (g ss : List Int) : List Int := ss.foldl (fun rs p => mulX p rs) g
theorem mulAll_cons (g : List Int) (s : Int) (ss : List Int) : mulAll g (s :: ss) = mulAll (Ep s 0 g) ss := by
  show mulAll (mulX s g) ss = _
  rw [mul_Ep]
theorem prodL_app (a b : List Int) : prodL (a ++ b) = mulAll (mulAll [1] a) b := List.foldl_append
theorem prodL_all (a : List Int) : prodL a = mulAll [1] a := rfl
theorem mulAll_mo : ∀ (ss g : List Int), Mo g → Mo (mulAll g ss)
  | [], _, h => h
  | s :: ss, g, h => by rw [mulAll_cons]; exact mulAll_mo ss _ (h.mul s)
theorem add_step {a b n c : Nat} (h1 : b + n ≤ c) (h2 : 1 + a ≤ b) : a + (n + 1) ≤ c := by
  rw [Nat.add_comm n, ← Nat.add_assoc, Nat.add_comm a]
  exact Nat.le_trans (Nat.add_le_add_right h2 n) h1
theorem pos_all : ∀ (ss g : List Int), (∀ s ∈ ss, 0 < s) → Mo g → chV g + ss.length ≤ chV (mulAll g ss)
  | [], _, _, _ => Nat.le_refl _
  | s :: ss, g, h, hg => by
    rw [mulAll_cons, List.length_cons]
    have h1 := pos_all ss (Ep s 0 g) (fun x hx => h x (.tail _ hx)) (hg.mul s)
    have h2 := chV_mul (h s (.head _)) g hg.nz
    exact add_step h1 h2
theorem neg_all : ∀ (ss g : List Int), (∀ s ∈ ss, s < 0) → Mo g → chV (alt false g) + ss.length ≤ chV (alt false (mulAll g ss))
  | [], _, _, _ => Nat.le_refl _
  | s :: ss, g, h, hg => by
    rw [mulAll_cons, List.length_cons]
    have h1 := neg_all ss (Ep s 0 g) (fun x hx => h x (.tail _ hx)) (hg.mul s)
    have h2 := chV_mul (Int.neg_pos_of_neg (h s (.head _))) (alt false g) (alt_nz g false hg.nz)
    have h3 := alt_mul s g 0 false
    simp only [Bool.false_eq_true, if_false, Int.neg_zero] at h3
    rw [h3, chV_map] at h1
    exact add_step h1 h2
theorem fz_all : ∀ (ss g : List Int), Mo g → fz (mulAll g ss) = fz g + ss.countP (fun s => s == 0)
  | [], _, _ => rfl
  | s :: ss, g, hg => by
    rw [mulAll_cons, List.countP_cons]
    have h1 := fz_all ss (Ep s 0 g) (hg.mul s)
    by_cases hs : s = 0
    · subst hs
      rw [Ep_zero] at h1 ⊢
      rw [h1, fz, if_pos rfl, show ((0 : Int) == 0) = true from rfl, if_pos rfl, Nat.add_comm 1, Nat.add_right_comm, Nat.add_assoc]
    · rw [h1, fz_mul hs hg.nz, show (s == 0) = false from by simpa using hs]
      simp
theorem mulAll_length : ∀ (ss g : List Int), (mulAll g ss).length = g.length + ss.length
  | [], _ => rfl
  | s :: ss, g => by
    rw [mulAll_cons, ← mul_Ep, mulAll_length ss (mulX s g), stepL_length, List.length_cons]
    omega
theorem prodL_split (q : Int → Bool) (ss : List Int) : prodL ss = mulAll (mulAll [1] (ss.filter (fun s => !q s))) (ss.filter q) := by
  rw [← prodL_perm (List.filter_append_perm q ss), ← prodL_perm (List.perm_append_comm (l₁ := ss.filter (fun s => !q s)) (l₂ := ss.filter q)), prodL_app]
theorem one_three (c : Int) : (if decide (0 < c) = true then 1 else 0) + (if decide (c < 0) = true then 1 else 0) + (if (c == 0) = true then 1 else 0) = 1 := by
  rcases Int.lt_trichotomy c 0 with h | h | h
  · rw [if_neg (fun e => Int.lt_asymm h (of_decide_eq_true e)), if_pos (decide_eq_true h), if_neg (fun e => Int.ne_of_lt h (beq_iff_eq.mp e))]
  · rw [h]; rfl
  · rw [if_pos (decide_eq_true h), if_neg (fun e => Int.lt_asymm h (of_decide_eq_true e)), if_neg (fun e => Int.ne_of_gt h (beq_iff_eq.mp e))]
theorem six_add (a b c x y z : Nat) : a + x + (b + y) + (c + z) = a + b + c + (x + y + z) := by rw [Nat.add_add_add_comm a, Nat.add_add_add_comm]
theorem count_three : ∀ l : List Int, l.countP (fun s => decide (0 < s)) + l.countP (fun s => decide (s < 0)) + l.countP (fun s => s == 0) = l.length
  | [] => rfl
  | c :: l => by
    rw [List.countP_cons, List.countP_cons, List.countP_cons, List.length_cons, six_add, count_three l, one_three c]
theorem four_le {a b z f cp cn n k : Nat} {P : Prop} (h1 : a ≤ cp) (h2 : b ≤ cn) (h3 : f = z) (h4 : cp + cn + f + 1 ≤ k) (h5 : k = 1 + n) (h6 : a + b + z = n) (p : P) : cp = a ∧ cn = b ∧ f = z ∧ P := by
  subst h5 h6 h3
  rw [Nat.add_comm 1] at h4
  have h := Nat.le_of_add_le_add_right (Nat.le_of_succ_le_succ h4)
  exact ⟨Nat.le_antisymm (Nat.le_of_add_le_add_right (Nat.le_trans h (Nat.add_le_add_left h2 a))) h1, Nat.le_antisymm (Nat.le_of_add_le_add_left (Nat.le_trans h (Nat.add_le_add_right h1 b))) h2, rfl, p⟩
theorem descartes (ss : List Int) : chgL (prodL ss) = ss.countP (fun s => decide (0 < s)) ∧ chgL (turnedL (prodL ss)) = ss.countP (fun s => decide (s < 0)) ∧ fz (prodL ss) = ss.countP (fun s => s == 0) ∧ Nz (prodL ss) := by
  rw [chV_eq, chV_eq, turned_alt]
  have m1 : Mo [1] := rfl
  have hP : ss.countP (fun s => decide (0 < s)) ≤ chV (prodL ss) := by
    rw [prodL_split (fun s => decide (0 < s)), List.countP_eq_length_filter]
    exact Nat.le_trans (Nat.le_add_left _ _) (pos_all _ _ (fun s hs => of_decide_eq_true (List.mem_filter.mp hs).2) (mulAll_mo _ _ m1))
  have hN : ss.countP (fun s => decide (s < 0)) ≤ chV (alt false (prodL ss)) := by
    rw [prodL_split (fun s => decide (s < 0)), List.countP_eq_length_filter]
    exact Nat.le_trans (Nat.le_add_left _ _) (neg_all _ _ (fun s hs => of_decide_eq_true (List.mem_filter.mp hs).2) (mulAll_mo _ _ m1))
  have hZ : fz (prodL ss) = ss.countP (fun s => s == 0) := by
    have := fz_all ss [1] m1
    rw [show fz [1] = 0 from rfl, Nat.zero_add] at this
    exact this
  have hz : Nz (prodL ss) := (mulAll_mo ss [1] m1).nz
  have hB := altV_bound (prodL ss) false hz
  have hL : (prodL ss).length = 1 + ss.length := mulAll_length ss [1]
  have := count_three ss
  exact four_le hP hN hZ hB hL this hz
theorem fz_spec : ∀ l : List Int, Nz l → fz l < l.length ∧ l.getD (fz l) 0 ≠ 0 ∧ ∀ k, k < fz l → l.getD k 0 = 0
  | [], h => by obtain ⟨_, h, _⟩ := h; exact nomatch h
  | c :: l, h => by
    by_cases hc : c = 0
    · obtain ⟨h1, h2, h3⟩ := fz_spec l (nz_tail h hc)
      rw [fz, if_pos hc, List.length_cons]
      refine ⟨by omega, by rw [Nat.add_comm 1]; simpa using h2, fun k hk => ?_⟩
      cases k with
      | zero => simpa using hc
      | succ k => simpa using h3 k (by omega)
    · rw [fz, if_neg hc]
      exact ⟨Nat.succ_pos _, by simpa using hc, fun k hk => absurd hk (Nat.not_lt_zero _)⟩
theorem nonz_mem {l : List Int} {b : Int} : b ∈ nonzL l ↔ ∃ k : Nat, k < l.length ∧ l.getD k 0 ≠ 0 ∧ (k : Int) = b := by
  unfold nonzL
  simp only [List.mem_map, List.mem_filter, List.mem_range, bne_iff_ne, ne_eq, and_assoc]
theorem nonz_min {l : List Int} (h : Nz l) : ((fz l : Nat) : Int) ∈ nonzL l ∧ ∀ b, b ∈ nonzL l → ((fz l : Nat) : Int) ≤ b := by
  obtain ⟨h1, h2, h3⟩ := fz_spec l h
  refine ⟨nonz_mem.mpr ⟨_, h1, h2, rfl⟩, fun b hb => ?_⟩
  obtain ⟨k, _, hk, rfl⟩ := nonz_mem.mp hb
  have : ¬ k < fz l := fun hlt => hk (h3 k hlt)
  omega
theorem seen_cons (pl c : Int) (f : List Int) : seenL pl (c :: f) = addHead c (mulX (-pl) (seenL pl f)) := by
  unfold seenL
  rw [List.reverse_cons, List.foldl_append]
  show seenStep pl _ c = _
  unfold seenStep
  congr 1
  unfold mulX
  congr 1
  funext u v
  rw [Int.neg_mul]
  omega
noncomputable def add2 (d c : Int) : List Int → List Int
  | x :: y :: r => (x + d) :: (y + c) :: r
  | l => l
theorem Ep_shift (p c u : Int) : ∀ l : List Int, Ep p (u + c) l = addHead c (Ep p u l)
  | [] => rfl
  | d :: l => by rw [Ep, Ep, addHead, Int.sub_eq_add_neg, Int.sub_eq_add_neg, Int.add_right_comm]
theorem mul_addHead (q c : Int) : ∀ {h : List Int}, h ≠ [] → Ep q 0 (addHead c h) = add2 (-(q * c)) c (Ep q 0 h)
  | [], h => absurd rfl h
  | a :: k, _ => by
    rw [addHead, Ep, Ep, Ep_shift]
    cases hE : Ep q a k with
    | nil => cases k <;> exact nomatch hE
    | cons x r =>
      show (0 - q * (a + c)) :: (x + c) :: r = (0 - q * a + -(q * c)) :: (x + c) :: r
      rw [Int.mul_add, Int.zero_sub, Int.zero_sub, Int.neg_add]
theorem addHead_add2 (d e c : Int) : ∀ {h : List Int}, 2 ≤ h.length → addHead d (add2 e c h) = add2 (e + d) c h
  | x :: y :: r, _ => by
    show (x + e + d) :: (y + c) :: r = (x + (e + d)) :: (y + c) :: r
    rw [Int.add_assoc]
  | [x], h => absurd h (by simp)
  | [], h => absurd h (by simp)
theorem addHead_addHead (c d : Int) : ∀ h : List Int, addHead d (addHead c h) = addHead (c + d) h
  | [] => rfl
  | a :: r => by show (a + c + d) :: r = (a + (c + d)) :: r; rw [Int.add_assoc]
theorem seen_addHead (pl c : Int) : ∀ {h : List Int}, h ≠ [] → seenL pl (addHead c h) = addHead c (seenL pl h)
  | [], h => absurd rfl h
  | a :: k, _ => by
    show seenL pl ((a + c) :: k) = _
    rw [seen_cons, seen_cons, addHead_addHead]
theorem Ep_length (p : Int) : ∀ (l : List Int) (u : Int), (Ep p u l).length = l.length + 1
  | [], _ => rfl
  | c :: l, u => by rw [Ep, List.length_cons, Ep_length p l c, List.length_cons]
theorem seen_mul (pl p : Int) : ∀ f : List Int, seenL pl (Ep p 0 f) = Ep (p - pl) 0 (seenL pl f)
  | [] => by
    show seenL pl [0] = Ep (p - pl) 0 []
    rw [seen_cons, mul_Ep]
    rfl
  | c :: g => by
    have ih := seen_mul pl p g
    have n1 : Ep p 0 g ≠ [] := by cases g <;> simp [Ep]
    have n2 : ∀ q u l, Ep q u l ≠ [] := fun q u l => by cases l <;> simp [Ep]
    have hs := Ep_shift p c 0 g
    rw [Int.zero_add] at hs
    rw [Ep, hs, seen_cons, seen_addHead pl c n1, ih, mul_Ep, mul_addHead (-pl) c (n2 _ _ _), addHead_add2 _ _ _ (by rw [Ep_length, Ep_length]; omega),
      seen_cons, mul_Ep, mul_addHead (p - pl) c (n2 _ _ _)]
    have hc : Ep (-pl) 0 (Ep (p - pl) 0 (seenL pl g)) = Ep (p - pl) 0 (Ep (-pl) 0 (seenL pl g)) := by
      rw [← mul_Ep, ← mul_Ep, ← mul_Ep, ← mul_Ep]
      exact step_comm _ _ _
    rw [hc]
    congr 1
    rw [Int.neg_mul, Int.sub_mul, Int.neg_neg, Int.zero_sub, Int.neg_sub, Int.sub_eq_add_neg]
theorem seen_all (pl : Int) : ∀ (ss g : List Int), seenL pl (mulAll g ss) = mulAll (seenL pl g) (ss.map (fun s => s - pl))
  | [], _ => rfl
  | s :: ss, g => by rw [mulAll_cons, seen_all pl ss, seen_mul, List.map_cons, mulAll_cons]
theorem seen_prod (pl : Int) (rs : List Int) : seenL pl (prodL rs) = prodL (rs.map (fun s => s - pl)) := by
  rw [prodL_all, prodL_all, seen_all]
  congr 1
  have e : seenL pl [] = [] := rfl
  rw [seen_cons, mul_Ep, e, Ep, addHead]
  rfl
end Mine
end

section
open PySem PySem.W PyProof.Rows
namespace Mine
theorem count_lt (p : Int) : ∀ l : List Int, (l.map portOf).countP (fun x => decide (x < p)) = clt l p := fun l => by
  unfold clt
  rw [List.countP_map]
  rfl
theorem split_le (p x : Int) : (if (x == p) = true then 1 else 0) + (if decide (x < p) = true then 1 else 0) = (if decide (x ≤ p) = true then 1 else 0) := by
  rcases Int.lt_trichotomy x p with h | h | h
  · rw [if_neg (fun e => Int.ne_of_lt h (eq_of_beq e)), if_pos (decide_eq_true h), if_pos (decide_eq_true (Int.le_of_lt h))]
  · rw [h, if_pos (beq_self_eq_true p), if_neg (fun e => Int.lt_irrefl p (of_decide_eq_true e)), if_pos (decide_eq_true (Int.le_refl p))]
  · rw [if_neg (fun e => Int.ne_of_gt h (eq_of_beq e)), if_neg (fun e => Int.lt_asymm h (of_decide_eq_true e)), if_neg (fun e => Int.not_le.mpr h (of_decide_eq_true e))]
theorem split_gt (p x : Int) : (if decide (p < x) = true then 1 else 0) + (if decide (x ≤ p) = true then 1 else 0) = 1 := by
  by_cases h : p < x
  · rw [if_pos (decide_eq_true h), if_neg (fun e => Int.not_le.mpr h (of_decide_eq_true e))]
  · rw [if_neg (fun e => h (of_decide_eq_true e)), if_pos (decide_eq_true (Int.not_lt.mp h))]
theorem two_add (a b x y : Nat) : a + x + (b + y) = a + b + (x + y) := Nat.add_add_add_comm a x b y
theorem count_both (p : Int) : ∀ l : List Int, (l.map portOf).countP (fun x => x == p) + clt l p = cle l p ∧ (l.map portOf).countP (fun x => decide (p < x)) + cle l p = l.length
  | [] => ⟨rfl, rfl⟩
  | m :: l => by
    have ih := count_both p l
    have e1 := split_le p (portOf m)
    have e2 := split_gt p (portOf m)
    unfold cle clt at *
    rw [List.map_cons, List.countP_cons, List.countP_cons, List.countP_cons, List.countP_cons, List.length_cons]
    exact ⟨by rw [two_add, ih.1, e1], by rw [two_add, ih.2, e2]⟩
theorem count_split (p : Int) (l : List Int) : ((l.map portOf).countP (fun x => x == p) : Int) = (cle l p : Int) - (clt l p : Int) ∧ ((l.map portOf).countP (fun x => decide (p < x)) : Int) = (l.length : Int) - (cle l p : Int) := by
  have h := count_both p l
  exact ⟨by rw [← h.1, Int.natCast_add, Int.add_sub_cancel], by rw [← h.2, Int.natCast_add, Int.add_sub_cancel]⟩
theorem sign_law (ns : List Int) (i : Nat) :
    nonzL (seenL (-3 + (i : Int)) (prodL (ns.map portOf))) ≠ [] ∧ ∀ M, M ∈ nonzL (seenL (-3 + (i : Int)) (prodL (ns.map portOf))) → (∀ b, b ∈ nonzL (seenL (-3 + (i : Int)) (prodL (ns.map portOf))) → M ≤ b) →
      (((chgL (turnedL (seenL (-3 + (i : Int)) (prodL (ns.map portOf)))) : Nat) : Int), M, ((chgL (seenL (-3 + (i : Int)) (prodL (ns.map portOf))) : Nat) : Int)) = tellP (rowL ns) i := by
  rw [seen_prod]
  generalize hpl : -3 + (i : Int) = pl
  obtain ⟨d1, d2, d3, d4⟩ := descartes ((ns.map portOf).map (fun s => s - pl))
  obtain ⟨n1, n2⟩ := nonz_min d4
  obtain ⟨c1, c2⟩ := count_split pl ns
  have c0 := count_lt pl ns
  have p1 : clt (rowL ns) pl = clt ns pl := (rowL_perm ns).countP_eq _
  have p2 : cle (rowL ns) pl = cle ns pl := (rowL_perm ns).countP_eq _
  have e1 : ((ns.map portOf).map (fun s => s - pl)).countP (fun s => decide (0 < s)) = (ns.map portOf).countP (fun x => decide (pl < x)) := by
    rw [List.countP_map]
    congr 1
    funext x
    simp only [Function.comp]
    by_cases h : pl < x
    · rw [decide_eq_true h, decide_eq_true (by omega)]
    · rw [decide_eq_false h, decide_eq_false (by omega)]
  have e2 : ((ns.map portOf).map (fun s => s - pl)).countP (fun s => decide (s < 0)) = (ns.map portOf).countP (fun x => decide (x < pl)) := by
    rw [List.countP_map]
    congr 1
    funext x
    simp only [Function.comp]
    by_cases h : x < pl
    · rw [decide_eq_true h, decide_eq_true (by omega)]
    · rw [decide_eq_false h, decide_eq_false (by omega)]
  have e3 : ((ns.map portOf).map (fun s => s - pl)).countP (fun s => s == 0) = (ns.map portOf).countP (fun x => x == pl) := by
    rw [List.countP_map]
    congr 1
    funext x
    simp only [Function.comp]
    by_cases h : x = pl
    · rw [h, Int.sub_self, beq_self_eq_true, beq_self_eq_true]
    · rw [beq_eq_false_iff_ne.mpr h, beq_eq_false_iff_ne.mpr (by omega)]
  rw [e1] at d1
  rw [e2] at d2
  rw [e3] at d3
  refine ⟨fun e => (by rw [e] at n1; exact nomatch n1), fun M hM hMin => ?_⟩
  have hMe : M = ((fz (prodL ((ns.map portOf).map (fun s => s - pl))) : Nat) : Int) := Int.le_antisymm (hMin _ n1) (n2 M hM)
  rw [d1, d2, hMe, d3, c0, c1, c2]
  unfold tellP
  rw [hpl, p1, p2, rowL_length]
end Mine
end

section
open PySem PySem.W PyProof.Rows
namespace Mine
theorem good_post (v : WData) : PySem.Challenge.rw_sr0032_01.row.claim.post [v] (WData.bool true) [v] = true := by
  have e : PySem.Challenge.rw_sr0032_01.row.claim.post [v] (WData.bool true) [v] = (WShape.has [] (WData.bool true) .bool && WTm.holds [] (.eq .res (.lit (.bool true))) { args := [v], res := some (WData.bool true), after := [v] }) := rfl
  have e2 : same (WData.bool true) (WData.bool true) = true := by simp [same]
  rw [e, Bool.and_eq_true]
  constructor
  · first | rfl | decide +kernel | simp [WShape.has, WShape.arms]
  · simp [WTm.holds, WTm.value, e2]
/-- the law has given True back -/
theorem good_true {C : Str → Option Addr} {M : ExcName → Option Value} {v : WData} {s₁ s' : Shared} (hk : ∀ b o, s₁.heap.get? b = some o → s'.heap.get? b = some o) (ho : s'.os = s₁.os) (hg : s'.gens = #[]) :
    GoodW PySem.Challenge.rw_sr0032_01.row.claim C M [v] s₁ (.ok (.ret (.bool true))) s' := 
  ⟨.inl ⟨.bool true, .bool true, [], rfl, fun _ => rfl, .bool true, good_post v, fun _ => ⟨.nil, fun _ h => nomatch h⟩⟩, hk, ho, hg⟩
end Mine
end

section
open PySem PySem.W PyProof.Rows
namespace Mine
theorem fill30 : PySem.Challenge.rw_sr0032_01.foot = 12 ∧ Mine.hd.heap_39 = Mine.hd.heap_39 := by
  k_fill
  exact ⟨rfl, rfl⟩
theorem port_bd (n : Int) : -3 ≤ portOf n ∧ portOf n ≤ 3 :=
  ⟨(Int.sub_le_sub_right (Int.emod_nonneg n (by decide)) 3 : (0 : Int) - 3 ≤ n % 7 - 3), (Int.sub_le_sub_right (Int.le_of_lt_add_one (Int.emod_lt_of_pos n (by decide))) 3 : n % 7 - 3 ≤ 6 - 3)⟩
@[elab_as_elim] theorem lex_post {w : World} {p : Program} {loose : List Str} {mean : ExcName → Option Value} {mg mb : Str → Option Value} {cs : List Nat} {news news' : List (Addr × Obj)} {r : Value} {G : Value → List (Addr × Obj) → Prop}
    (hp : ∃ (S : LexS) (tl tp : Tok) (kA : Nat) (ps : Array Value), r = .ref S.xI ∧ AllLt S.cT ((153, tabObj ps) :: news) ∧ S.Ok ((153, tabObj ps) :: news) ∧ S.Read w p loose mean mg mb cs ∧ news' = S.led w 1 tl 0 tp kA ((153, tabObj ps) :: news))
    (k : ∀ (S : LexS) tl tp kA ps, AllLt S.cT ((153, tabObj ps) :: news) → S.Ok ((153, tabObj ps) :: news) → S.Read w p loose mean mg mb cs → G (.ref S.xI) (S.led w 1 tl 0 tp kA ((153, tabObj ps) :: news))) : G r news' := by
  obtain ⟨S, tl, tp, kA, ps, rfl, a, b, c, rfl⟩ := hp
  exact k S tl tp kA ps a b c
@[elab_as_elim] theorem drawn_post {news news' : List (Addr × Obj)} {r : Value} {G : Value → List (Addr × Obj) → Prop}
    (hp : ∃ D ds ns, r = .ref D ∧ IntsAre ds ns ∧ ns.length = 5 ∧ (∀ n ∈ ns, 0 ≤ n) ∧ (∀ q ∈ news, q.1 ≠ D) ∧ news' = (D, LCg.lst ds) :: news)
    (k : ∀ D ds ns, IntsAre ds ns → ns.length = 5 → (∀ n ∈ ns, 0 ≤ n) → (∀ q ∈ news, q.1 ≠ D) → G (.ref D) ((D, LCg.lst ds) :: news)) : G r news' := by
  obtain ⟨D, ds, ns, rfl, a, b, c, d, rfl⟩ := hp
  exact k D ds ns a b c d
set_option maxRecDepth 100000 in
set_option maxHeartbeats 8000000 in
theorem law_holds : PySem.Challenge.rw_sr0032_01.Holds := Mine.hd (by
  w_on
  w_strict (
    k_go0
    (all_goals try k_fold)
    refine execs_gQE fun QL EL hQL hEL => ?_
    generalize hg0 : ghostOf _ _ = g₀ at *
    generalize hL0 : Array.size (Heap.objs (Shared.heap _)) = L₀ at *
    repeat' ((fail_if_success (with_reducible show wpAny _ _ (exec (PySem.Stmt.Assign _ (PySem.Expr.ListComp _ _ _ _) _) _) _ _ _)); first
      | ((with_reducible show wpAny _ _ (callWith _ (Value.ref _) _ _ _) _ _ _); (first | k_dflt (refine' callWith_K ?k1 ?k2 ?_; (case k1 => k_asm); (case k2 => k_is); k_whole) | ((try dsimp only); k_dflt (refine' callWith_K0 ?k1 ?k2 ?_; (case k1 => k_in); (case k2 => k_is); k_whole; try dsimp only [List.nil_append, List.cons_append]))))
      | ((with_reducible show wpAny _ _ (call (Value.ref 139) _ _) _ _ _); k_dflt (refine wpAny_call (ConI.last (by k_asm) (by k_asm) (by k_asm) (by k_asm) (by k_asm) (by k_asm) rfl (drawn_c _ _ _ _ _ _ _ _ _ _ (by k_asm) (by first | assumption | exact Nat.le_trans h5' (by decide) | omega)) (by first | exact lt0 (by assumption) (by decide) | exact lt1 (by assumption) (by decide) | exact lt2 (by assumption) (by decide) | exact lt3 (by assumption) (by decide) | exact lt4 (by assumption) (by decide) | ktr_room) (by first | exact lt0 (by assumption) (by decide) | exact lt1 (by assumption) (by decide) | exact lt2 (by assumption) (by decide) | exact lt3 (by assumption) (by decide) | exact lt4 (by assumption) (by decide) | ktr_units) ?_)); intro v news' h' tk' hp; refine drawn_post hp ?_; clear hp v news'; intro DR ds ns hDs hns5 hnn hoffR F' N'; (try dsimp only))
      | (k_unfold; (try dsimp only))
      | (walk1 <;> (try dsimp only))
      | (dsimp only; walk1)
      | (leave1; try dsimp only)
      | fail "no step")
    refine LCg.Assign_ListComp_U (F₀ := by k_asm) (by rfl) (by with_unfolding_all rfl) (by with_unfolding_all rfl) (by decide) (by rfl) (by decide) (by rfl) (by rfl) (by rfl) ?_
    repeat' ((fail_if_success (with_reducible show LCg.CompSrc _ _ _ _ _ _ _ _ _ _ _ _ _ _)); first
      | ((with_reducible show wpAny _ _ (callWith _ (Value.ref _) _ _ _) _ _ _); (first | k_dflt (refine' callWith_K ?k1 ?k2 ?_; (case k1 => k_asm); (case k2 => k_is); k_whole) | ((try dsimp only); k_dflt (refine' callWith_K0 ?k1 ?k2 ?_; (case k1 => k_in); (case k2 => k_is); k_whole; try dsimp only [List.nil_append, List.cons_append]))))
      | (k_unfold; (try dsimp only))
      | (walk1 <;> (try dsimp only))
      | (dsimp only; walk1)
      | (leave1; try dsimp only)
      | fail "no step")
    (with_reducible rename Fr _ _ _ _ => F1)
    (with_reducible rename News _ _ _ _ => N1)
    (with_reducible rename _ = Data.cell (some (Value.ref DR)) => hcD)
    dsimp only [List.cons_append, List.nil_append] at N1
    have hsz5 : ds.toArray.size = 5 := by rw [List.size_toArray, hDs.length, hns5]
    refine LCg.CompSrc.ledger (by rfl) F1 N1 (.head _) (by rw [hsz5]; decide) ?_
    intro g
    clear F1 N1
    refine rest_fix (fun i ys => WordsAre ys (ns.take i)) .nil ?_ ?_
    · rintro i v ys I oI C oC D m₂ h tk E' hi hv hW hC hx F N off ne T9 hT9
      have ⟨n, hn0⟩ := hDs.at i v (by simpa using hv)
      have ⟨tn, hn1⟩ := hn0
      have hn := hn1.2
      rw [hn1.1] at hx
      clear hn0 hn1
      have h0n : 0 ≤ n := hnn n (List.mem_of_getElem? hn)
      repeat' ((fail_if_success (with_reducible show T9 _ _)); first
        | ((with_reducible show wpAny _ _ (callWith _ (Value.ref _) _ _ _) _ _ _); (first | k_dflt (refine' callWith_K ?k1 ?k2 ?_; (case k1 => k_asm); (case k2 => k_is); k_whole) | ((try dsimp only); k_dflt (refine' callWith_K0 ?k1 ?k2 ?_; (case k1 => k_in); (case k2 => k_is); k_whole; try dsimp only [List.nil_append, List.cons_append]))))
        | ((with_reducible show wpAny _ _ (call (Value.ref 146) _ _) _ _ _); k_dflt (refine wpAny_call (Con.l1 (by k_asm) (by k_asm) (by k_asm) (by k_asm) (by k_asm) rfl (reply_c _ _ _ _ _ _ _ _ _ h0n) (by first | exact lt0 (by assumption) (by decide) | exact lt1 (by assumption) (by decide) | exact lt2 (by assumption) (by decide) | exact lt3 (by assumption) (by decide) | exact lt4 (by assumption) (by decide) | ktr_room) (by first | exact lt0 (by assumption) (by decide) | exact lt1 (by assumption) (by decide) | exact lt2 (by assumption) (by decide) | exact lt3 (by assumption) (by decide) | exact lt4 (by assumption) (by decide) | ktr_units) ?_)); intro t3 h' tk' F' N'; (try dsimp only))
        | (k_unfold; (try dsimp only))
        | (walk1 <;> (try dsimp only))
        | (dsimp only; walk1)
        | (leave1; try dsimp only)
        | fail "no step")
      (with_reducible rename Fr _ _ _ _ => F9)
      (with_reducible rename News _ _ _ _ => N9)
      rw [hT9]
      refine LCg.CompEnd.intro F9 N9 _ (fun p hp => hp) off (.inr ⟨_, .head _, rfl, _, rfl⟩) ⟨rfl, ?_⟩
      rw [List.take_add_one, hn]
      exact hW.append (.cons n _ .nil)
    intro dw hdw
    rw [hsz5, List.take_of_length_le (by first | exact Nat.le_of_eq hns5 | omega)] at hdw
    repeat' ((fail_if_success (with_reducible show wpAny _ _ (eval (PySem.Expr.ListComp _ _ _ _) _) _ _ _)); first
      | ((with_reducible show wpAny _ _ (callWith _ (Value.ref _) _ _ _) _ _ _); (first | k_dflt (refine' callWith_K ?k1 ?k2 ?_; (case k1 => k_asm); (case k2 => k_is); k_whole) | ((try dsimp only); k_dflt (refine' callWith_K0 ?k1 ?k2 ?_; (case k1 => k_in); (case k2 => k_is); k_whole; try dsimp only [List.nil_append, List.cons_append]))))
      | (k_unfold; (try dsimp only))
      | (walk1 <;> (try dsimp only))
      | (dsimp only; walk1)
      | (leave1; try dsimp only)
      | fail "no step")
    refine LCg.ListComp_U (F₀ := by k_asm) (by with_unfolding_all rfl) (by decide) (by rfl) (by decide) (by rfl) ?_
    repeat' ((fail_if_success (with_reducible show LCg.CompSrc _ _ _ _ _ _ _ _ _ _ _ _ _ _)); first
      | ((with_reducible show wpAny _ _ (callWith _ (Value.ref _) _ _ _) _ _ _); (first | k_dflt (refine' callWith_K ?k1 ?k2 ?_; (case k1 => k_asm); (case k2 => k_is); k_whole) | ((try dsimp only); k_dflt (refine' callWith_K0 ?k1 ?k2 ?_; (case k1 => k_in); (case k2 => k_is); k_whole; try dsimp only [List.nil_append, List.cons_append]))))
      | (k_unfold; (try dsimp only))
      | (walk1 <;> (try dsimp only))
      | (dsimp only; walk1)
      | (leave1; try dsimp only)
      | fail "no step")
    refine LCg.CompSrc.ledger (by rfl) (by k_asm) (by k_asm) (.tail _ (.head _)) (by rw [hsz5]; decide) ?_
    intro g
    refine rest_fix (fun i ys => StrsAre ys ((ns.take i).map spellS)) .nil ?_ ?_
    · rintro i v ys I oI C oC D m₂ h tk E' hi hv hW hC hx F N off ne T9 hT9
      have ⟨n, hn0⟩ := hDs.at i v (by simpa using hv)
      have ⟨tn, hn1⟩ := hn0
      have hn := hn1.2
      rw [hn1.1] at hx
      clear hn0 hn1
      have h0n : 0 ≤ n := hnn n (List.mem_of_getElem? hn)
      repeat' ((fail_if_success (with_reducible show T9 _ _)); first
        | ((with_reducible show wpAny _ _ (callWith _ (Value.ref _) _ _ _) _ _ _); (first | k_dflt (refine' callWith_K ?k1 ?k2 ?_; (case k1 => k_asm); (case k2 => k_is); k_whole) | ((try dsimp only); k_dflt (refine' callWith_K0 ?k1 ?k2 ?_; (case k1 => k_in); (case k2 => k_is); k_whole; try dsimp only [List.nil_append, List.cons_append]))))
        | ((with_reducible show wpAny _ _ (call (Value.ref 151) _ _) _ _ _); k_dflt (refine wpAny_call (Con.l1 (by k_asm) (by k_asm) (by k_asm) (by k_asm) (by k_asm) rfl (spell_c _ _ _ _ _ _ _ _ _ h0n) (by first | exact lt0 (by assumption) (by decide) | exact lt1 (by assumption) (by decide) | exact lt2 (by assumption) (by decide) | exact lt3 (by assumption) (by decide) | exact lt4 (by assumption) (by decide) | ktr_room) (by first | exact lt0 (by assumption) (by decide) | exact lt1 (by assumption) (by decide) | exact lt2 (by assumption) (by decide) | exact lt3 (by assumption) (by decide) | exact lt4 (by assumption) (by decide) | ktr_units) ?_)); intro t3 h' tk' F' N'; (try dsimp only))
        | (k_unfold; (try dsimp only))
        | (walk1 <;> (try dsimp only))
        | (dsimp only; walk1)
        | (leave1; try dsimp only)
        | fail "no step")
      (with_reducible rename Fr _ _ _ _ => F9)
      (with_reducible rename News _ _ _ _ => N9)
      rw [hT9]
      refine LCg.CompEnd.intro F9 N9 _ (fun p hp => hp) off (.inr ⟨_, .tail _ (.head _), rfl, _, rfl⟩) ⟨rfl, ?_⟩
      rw [List.take_add_one, hn, List.map_append]
      exact kct_snoc hW
    intro sw hsw
    rw [hsz5, List.take_of_length_le (by first | exact Nat.le_of_eq hns5 | omega)] at hsw
    have hsum : ((ns.map spellS).map (·.length)).sum + (ns.map spellS).length ≤ 1048576 := Nat.le_trans (spell_sum ns) (by rw [hns5]; decide)
    have hcl : (ns.flatMap spellL).length ≤ 200 := Nat.le_trans (all_length ns) (by rw [hns5]; decide)
    have h5' : ns.length ≤ 5 := Nat.le_of_eq hns5
    repeat' ((fail_if_success (with_reducible show wpAny _ _ (call (Value.ref 158) _ _) _ _ _)); first
      | ((with_reducible show wpAny _ _ (callWith _ (Value.ref _) _ _ _) _ _ _); (first | k_dflt (refine' callWith_K ?k1 ?k2 ?_; (case k1 => k_asm); (case k2 => k_is); k_whole) | ((try dsimp only); k_dflt (refine' callWith_K0 ?k1 ?k2 ?_; (case k1 => k_in); (case k2 => k_is); k_whole; try dsimp only [List.nil_append, List.cons_append]))))
      | ((with_reducible show wpAny _ _ (call (Value.builtin "str.join") _) _ _ _); k_dflt (refine join_listW (News.isList (by k_asm) (by k_mem)) hsw (by decide) hsum ?_); intro tJ tkJ; rw [join_spell])
      | (k_unfold; (try dsimp only))
      | (walk1 <;> (try dsimp only))
      | (dsimp only; walk1)
      | (leave1; try dsimp only)
      | fail "no step")
    (with_reducible rename Fr _ _ _ _ => F5)
    (with_reducible rename News _ _ _ _ => N5)
    rename_i DD _ _ _ _ o1D DS _ _ o1S
    have N6 := news_rot (l := [_, _, _, _, _]) (x := _) (news_tail N5)
    clear N5
    k_dflt (refine wpAny_call (ConL.last (by assumption) (by k_asm) F5 (by k_asm) N6 (by k_asm) rfl (lex_c _ _ _ _ _ _ _ (ns.flatMap spellL) _ (by first | assumption | exact Nat.le_trans h5' (by decide) | omega) ?g0) (by first | exact lt0 (by assumption) (by decide) | exact lt1 (by assumption) (by decide) | exact lt2 (by assumption) (by decide) | exact lt3 (by assumption) (by decide) | exact lt4 (by assumption) (by decide) | ktr_room) (by first | exact lt0 (by assumption) (by decide) | exact lt1 (by assumption) (by decide) | exact lt2 (by assumption) (by decide) | exact lt3 (by assumption) (by decide) | exact lt4 (by assumption) (by decide) | ktr_units) ?g9))
    case g0 =>
      exact mem_cons_ne (Ne.symm o1D.2.2.2.2) (mem_cons_ne (Ne.symm (hoffR (153, tabObj #[]) (by simp))) (mem_cons_ne (Nat.ne_of_gt (Nat.lt_succ_of_lt (Nat.lt_succ_of_lt (Nat.lt_succ_of_lt (by assumption))))) (mem_cons_ne (Nat.ne_of_gt (Nat.lt_succ_of_lt (Nat.lt_succ_of_lt (by assumption)))) (mem_cons_ne (Nat.ne_of_gt (Nat.lt_succ_of_lt (by assumption))) (fun _ h => nomatch h)))))
    case g9 =>
      intro v news' h' tk' hp
      refine lex_post hp ?_
      clear hp v news'
      intro S tlX tpX kX ps hAL hOk hRd F' N'
      dsimp only
      (with_reducible rename Fr _ _ _ _ => F7)
      (with_reducible rename News _ _ _ _ => N7)
      refine and9 hOk.lt fun q1 q2 q3 q4 q5 q6 q7 q8 q9 => ?_
      have r1 : @Ne Nat DR _ := Ne.symm (hoffR _ (.tail _ (.head _)))
      have r2 : @Ne Nat DD _ := Ne.symm o1D.2.2.1
      have N8 := news_front [_, _, _, _, _, _, _, _, _, _, _, _, _, _] N7
      dsimp only [List.cons_append, List.nil_append] at N8
      refine store_cell (v₀ := none) F7 N8 ?off (by assumption) (by rfl) (by rfl) (by rfl) ?_
      case off =>
        have z0 : @LT.lt Nat _ (_ + 1 + 1) S.cT := hAL.2.2.2.2.1
        have z1 := Nat.lt_trans z0 q1
        have z2 := Nat.lt_trans z1 q2
        have z3 := Nat.lt_trans z2 q3
        have z4 := Nat.lt_trans z3 q4
        have z5 := Nat.lt_trans z4 q5
        have z6 := Nat.lt_trans z5 q6
        have z7 := Nat.lt_trans z6 q7
        have z8 := Nat.lt_trans z7 q8
        exact mem_cons_ne (Nat.ne_of_gt (Nat.lt_trans z8 q9)) (mem_cons_ne (Nat.ne_of_gt z8) (mem_cons_ne (Nat.ne_of_gt z7) (mem_cons_ne (Nat.ne_of_gt z6) (mem_cons_ne (Nat.ne_of_gt z5) (mem_cons_ne (Nat.ne_of_gt z4) (mem_cons_ne (Nat.ne_of_gt z3) (mem_cons_ne (Nat.ne_of_gt z1) (mem_cons_ne (Nat.ne_of_gt z2) (mem_cons_ne (Nat.ne_of_gt z0)
          (mem_cons_ne (Nat.ne_of_lt (Nat.lt_succ_of_lt (Nat.lt_succ_of_lt (by assumption)))) (mem_cons_ne r2 (mem_cons_ne r1 (mem_cons_ne (Nat.ne_of_gt (Nat.lt_succ_self _)) (mem_cons_ne (Nat.ne_of_lt (Nat.lt_succ_self _)) (fun _ h => nomatch h)))))))))))))))
      clear F7 N7 N8
      intro h6 oL hoL F6 N6
      have N9 := news_move [_, _, _, _, _, _, _, _, _, _] N6
      dsimp only [List.cons_append, List.nil_append] at N9
      clear N6
      have hOk2 := LexS.Ok.ofN N9 hOk (by repeat' (first | exact trivial | refine And.intro ⟨_, by k_mem⟩ ?_))
      repeat' ((fail_if_success (with_reducible show LCg.CompSrc _ _ _ _ _ _ _ _ _ _ _ _ _ _)); first
        | ((with_reducible show wpAny _ _ (callWith _ (Value.ref _) _ _ _) _ _ _); (first | k_dflt (refine' callWith_K ?k1 ?k2 ?_; (case k1 => k_asm); (case k2 => k_is); k_whole) | ((try dsimp only); k_dflt (refine' callWith_K0 ?k1 ?k2 ?_; (case k1 => k_in); (case k2 => k_is); k_whole; try dsimp only [List.nil_append, List.cons_append]))))
        | ((with_reducible show wpAny _ _ (exec (PySem.Stmt.Assign _ (PySem.Expr.ListComp (PySem.Expr.Call (PySem.Expr.Attribute _ _ _) _ _ _) _ _ _) _) _) _ _ _); refine LCg.Assign_ListComp_U (F₀ := by k_asm) (by rfl) (by with_unfolding_all rfl) (by with_unfolding_all rfl) (by decide) (by rfl) (by decide) (by rfl) (by rfl) (by rfl) ?_)
        | (k_unfold; (try dsimp only))
        | (walk1 <;> (try dsimp only))
        | (dsimp only; walk1)
        | (leave1; try dsimp only)
        | fail "no step")
      refine LCg.CompSrc.ledger (by rfl) (by k_asm) (by k_asm) (by k_mem) (by rw [hsz5]; decide) ?_
      intro g
      generalize hcs : ns.flatMap spellL = cs at hcl hRd
      refine rest_lex (S := S) (cs := cs) (fun i j ys => j ≤ cs.length ∧ cs.drop j = restAt ns i ∧ WordsAre ys (ns.take i)) ⟨Nat.zero_le _, by rw [← hcs]; rfl, .nil⟩ ?_ ?_
      · intro i v ys j tl tp kA I oI C oC D m₂ h tk E' hi hv hJ hC hx F N off ne T9 hT9
        have hj := hJ.1
        have hdj := hJ.2.1
        have hW := hJ.2.2
        clear hJ
        have ⟨n, hn0⟩ := hDs.at i v (by simpa using hv)
        have ⟨tn, hn1⟩ := hn0
        have hn := hn1.2
        rw [hn1.1] at hx
        clear hn0 hn1
        have hTK := tk_at hn
        rw [← hdj] at hTK
        repeat' ((fail_if_success (with_reducible show T9 _ _)); first
          | ((with_reducible show wpAny _ _ (callWith _ (Value.ref _) _ _ _) _ _ _); (first | k_dflt (refine' callWith_K ?k1 ?k2 ?_; (case k1 => k_asm); (case k2 => k_is); k_whole) | ((try dsimp only); k_dflt (refine' callWith_K0 ?k1 ?k2 ?_; (case k1 => k_in); (case k2 => k_is); k_whole; try dsimp only [List.nil_append, List.cons_append]))))
          | ((with_reducible show wpAny _ _ (call (Value.ref 120) _ _) _ _ _); (try dsimp only [List.append_nil, List.nil_append]); k_dflt (refine wpAny_call (Con.l5pp (by k_asm) (by k_asm) (by k_asm) (by k_asm) (by k_asm) rfl (gettok_m hOk2 ⟨Ne.symm off.2.2.1.1, Ne.symm off.2.2.2.2.2.2.2.2.1.1⟩ ⟨Ne.symm off.2.2.1.2.1, Ne.symm off.2.2.2.2.2.2.2.2.1.2.1⟩ ⟨Ne.symm off.2.2.1.2.2, Ne.symm off.2.2.2.2.2.2.2.2.1.2.2⟩ hRd hj (by first | assumption | exact Nat.le_trans h5' (by decide) | omega) hTK) (by first | exact lt0 (by assumption) (by decide) | exact lt1 (by assumption) (by decide) | exact lt2 (by assumption) (by decide) | exact lt3 (by assumption) (by decide) | exact lt4 (by assumption) (by decide) | ktr_room) (by first | exact lt0 (by assumption) (by decide) | exact lt1 (by assumption) (by decide) | exact lt2 (by assumption) (by decide) | exact lt3 (by assumption) (by decide) | exact lt4 (by assumption) (by decide) | ktr_units) ?_)); intro t3 j2 tl2 tp2 kA2 h' tk' hj2 hdj2 F' N'; (try dsimp only))
          | (k_unfold; (try dsimp only))
          | (walk1 <;> (try dsimp only))
          | (dsimp only; walk1)
          | (leave1; try dsimp only)
          | fail "no step")
        (with_reducible rename Fr _ _ _ _ => F9)
        (with_reducible rename News _ _ _ _ => N9)
        rw [hT9]
        refine LCg.CompEnd.intro F9 N9 _ (fun p hp => hp) off (.inr ⟨_, by k_mem, rfl, _, rfl⟩) ⟨j2, tl2, tp2, kA2, rfl, hj2, hdj2, ?_⟩
        rw [List.take_add_one, hn]
        exact hW.append (.cons n _ .nil)
      intro ww jw tlw tpw kAw hjw
      have hdw2 := hjw.2.1
      have hww := hjw.2.2
      have hjw := hjw.1
      rw [hsz5, List.take_of_length_le (by first | exact Nat.le_of_eq hns5 | omega)] at hww
      have hTE : TK (cs.drop jw) [] [] := by
        rw [hdw2, hsz5]
        have := tk_end (ns := ns)
        rwa [hns5] at this
      repeat' ((fail_if_success (with_reducible show wpAny _ _ (call (Value.ref 120) _ _) _ _ _)); first
        | ((with_reducible show wpAny _ _ (callWith _ (Value.ref _) _ _ _) _ _ _); (first | k_dflt (refine' callWith_K ?k1 ?k2 ?_; (case k1 => k_asm); (case k2 => k_is); k_whole) | ((try dsimp only); k_dflt (refine' callWith_K0 ?k1 ?k2 ?_; (case k1 => k_in); (case k2 => k_is); k_whole; try dsimp only [List.nil_append, List.cons_append]))))
        | (k_unfold; (try dsimp only))
        | (walk1 <;> (try dsimp only))
        | (dsimp only; walk1)
        | (leave1; try dsimp only)
        | fail "no step")
      (with_reducible rename Fr _ _ _ _ => F1)
      (with_reducible rename News _ _ _ _ => N1)
      rename_i DW _ _ o1W
      (try dsimp only [List.append_nil, List.nil_append])
      k_dflt (refine wpAny_call (Con.l5pp (by k_asm) F1 (by k_asm) N1 (by k_asm) rfl (gettok_1 hOk2 ⟨Ne.symm o1W.2.2.1, Ne.symm o1W.2.2.2.2.2.2.2.2.1⟩ hRd hjw (by first | assumption | exact Nat.le_trans h5' (by decide) | omega) hTE) (by first | exact lt0 (by assumption) (by decide) | exact lt1 (by assumption) (by decide) | exact lt2 (by assumption) (by decide) | exact lt3 (by assumption) (by decide) | exact lt4 (by assumption) (by decide) | ktr_room) (by first | exact lt0 (by assumption) (by decide) | exact lt1 (by assumption) (by decide) | exact lt2 (by assumption) (by decide) | exact lt3 (by assumption) (by decide) | exact lt4 (by assumption) (by decide) | ktr_units) ?_))
      clear F1 N1
      intro t3 j2 tl2 tp2 kA2 h' tk' hj2 hdj2 F' N'
      have hln := line_end cs hj2 hdj2
      rw [← hcs, all_count, hcs] at hln
      generalize lineAt cs j2 = ln at hln N'
      dsimp only
      rw [show codesOf [] = Str.ofString "" from rfl]
      have N2 := subN N' (.cons_cons _ (.cons _ (.cons_cons _ (.cons_cons _ (.cons _ (.cons _ (.cons _ (.cons _ (.cons _ (.cons _ (.cons _ (List.Sublist.refl _))))))))))))
      clear N'
      repeat' ((fail_if_success (with_reducible show LCg.CompSrc _ _ _ _ _ _ _ _ _ _ _ _ _ _)); first
        | ((with_reducible show wpAny _ _ (callWith _ (Value.ref _) _ _ _) _ _ _); (first | k_dflt (refine' callWith_K ?k1 ?k2 ?_; (case k1 => k_asm); (case k2 => k_is); k_whole) | ((try dsimp only); k_dflt (refine' callWith_K0 ?k1 ?k2 ?_; (case k1 => k_in); (case k2 => k_is); k_whole; try dsimp only [List.nil_append, List.cons_append]))))
        | ((with_reducible show wpAny _ _ (exec (PySem.Stmt.Assign _ (PySem.Expr.ListComp _ _ _ _) _) _) _ _ _); refine LCg.Assign_ListComp_U (F₀ := by k_asm) (by rfl) (by with_unfolding_all rfl) (by with_unfolding_all rfl) (by decide) (by rfl) (by decide) (by rfl) (by rfl) (by rfl) ?_)
        | (k_unfold; (try dsimp only))
        | (walk1 <;> (try dsimp only))
        | (dsimp only; walk1)
        | (leave1; try dsimp only)
        | fail "no step")
      refine LCg.CompSrc.ledger (by rfl) (by k_asm) (by k_asm) (.head _) (by rw [List.size_toArray, hww.length, hns5]; decide) ?_
      intro g
      refine rest_grow _ (fun i ys tl => TupsIn tl ys (ns.take i)) TupsIn.nil (fun tl => .inr ⟨_, .head _, rfl, _, rfl⟩) ?_ ?_
      · rintro i v ys tl I oI C oC D m₂ h tk E' hi hv hT hC hx F N off ne T9 hT9
        have hi5 : i < ns.length := by rw [List.size_toArray, hww.length] at hi; exact hi
        have ⟨tn, hn⟩ := hww.get hi5
        rw [show v = .str (replyS (ns.getD i 0)) tn from Option.some.inj (hv.symm.trans (List.getElem?_toArray.trans hn))] at hx
        have hni : ns[i]? = some (ns.getD i 0) := by rw [List.getD_eq_getElem?_getD, List.getElem?_eq_getElem hi5]; rfl
        clear hv hn
        generalize ns.getD i 0 = n at hni hx
        dsimp only [List.cons_append, List.nil_append] at N off
        repeat' ((fail_if_success (with_reducible show T9 _ _)); first
          | ((with_reducible show wpAny _ _ (callWith _ (Value.ref _) _ _ _) _ _ _); (first | k_dflt (refine' callWith_K ?k1 ?k2 ?_; (case k1 => k_asm); (case k2 => k_is); k_whole) | ((try dsimp only); k_dflt (refine' callWith_K0 ?k1 ?k2 ?_; (case k1 => k_in); (case k2 => k_is); k_whole; try dsimp only [List.nil_append, List.cons_append]))))
          | ((with_reducible show wpAny _ _ (call (Value.ref 92) _ _) _ _ _); k_dflt (refine wpAny_call (Con.l2p (by k_asm) (by k_asm) (by k_asm) (by k_asm) (by k_asm) rfl (p229_c _ _ _ _ _ _ _ n _ _ _ _) (by first | exact lt0 (by assumption) (by decide) | exact lt1 (by assumption) (by decide) | exact lt2 (by assumption) (by decide) | exact lt3 (by assumption) (by decide) | exact lt4 (by assumption) (by decide) | ktr_room) (by first | exact lt0 (by assumption) (by decide) | exact lt1 (by assumption) (by decide) | exact lt2 (by assumption) (by decide) | exact lt3 (by assumption) (by decide) | exact lt4 (by assumption) (by decide) | ktr_units) ?_)); intro D9 t9 h' tk' hl9 F' N'; (try dsimp only))
          | (k_unfold; (try dsimp only))
          | (walk1 <;> (try dsimp only))
          | (dsimp only; walk1)
          | (leave1; try dsimp only)
          | fail "no step")
        (with_reducible rename Fr _ _ _ _ => F9)
        (with_reducible rename News _ _ _ _ => N9)
        rw [hT9]
        refine ⟨_, _, _, _, rfl, F9, subN N9 (.cons_cons _ (.cons _ (List.Sublist.refl _))), fun q hq => allLt_ne hl9 q (.tail _ hq), ?_⟩
        rw [List.take_add_one, hni]
        exact hT.snoc
      intro ts tl hts hD1
      rw [List.size_toArray, hww.length, List.take_of_length_le (Nat.le_refl _)] at hts
      dsimp only [List.cons_append, List.nil_append]
      repeat' ((fail_if_success (with_reducible show LCp.SrcLP _ _ _ _ _ _ _ _ _ _ _ _ _ _ _)); (fail_if_success (with_reducible show wpAny _ _ (eval (PySem.Expr.ListComp _ _ _ _) _) _ _ _)); first
        | ((with_reducible show wpAny _ _ (callWith _ (Value.ref _) _ _ _) _ _ _); (first | k_dflt (refine' callWith_K ?k1 ?k2 ?_; (case k1 => k_asm); (case k2 => k_is); k_whole) | ((try dsimp only); k_dflt (refine' callWith_K0 ?k1 ?k2 ?_; (case k1 => k_in); (case k2 => k_is); k_whole; try dsimp only [List.nil_append, List.cons_append]))))
        | ((with_reducible show wpAny _ _ (call (Value.ref 172) _ _) _ _ _); k_dflt (refine wpAny_call (Con.l3pp (by k_asm) (by k_asm) (by k_asm) (by k_asm) (by k_asm) rfl (row_m (wv := ww) (by k_mem) hww (by first | assumption | exact Nat.le_trans h5' (by decide) | omega)) (by first | exact lt0 (by assumption) (by decide) | exact lt1 (by assumption) (by decide) | exact lt2 (by assumption) (by decide) | exact lt3 (by assumption) (by decide) | exact lt4 (by assumption) (by decide) | ktr_room) (by first | exact lt0 (by assumption) (by decide) | exact lt1 (by assumption) (by decide) | exact lt2 (by assumption) (by decide) | exact lt3 (by assumption) (by decide) | exact lt4 (by assumption) (by decide) | ktr_units) ?_)); intro DP rw9 kR h' tk' hRw hoffP F' N'; (try dsimp only))
        | (k_unfold; (try dsimp only))
        | (walk1 <;> (try dsimp only))
        | (dsimp only; walk1)
        | (leave1; try dsimp only)
        | fail "no step")
      refine LCp.ListComp_P (F₀ := by k_asm) (by with_unfolding_all rfl) (by decide) (by rfl) (by decide) (by rfl) (by rfl) (by decide) ?_
      repeat' ((fail_if_success (with_reducible show LCp.SrcLP _ _ _ _ _ _ _ _ _ _ _ _ _ _ _)); first
        | ((with_reducible show wpAny _ _ (callWith _ (Value.ref _) _ _ _) _ _ _); (first | k_dflt (refine' callWith_K ?k1 ?k2 ?_; (case k1 => k_asm); (case k2 => k_is); k_whole) | ((try dsimp only); k_dflt (refine' callWith_K0 ?k1 ?k2 ?_; (case k1 => k_in); (case k2 => k_is); k_whole; try dsimp only [List.nil_append, List.cons_append]))))
        | (k_unfold; (try dsimp only))
        | (walk1 <;> (try dsimp only))
        | (dsimp only; walk1)
        | (leave1; try dsimp only)
        | fail "no step")
      refine LCp.SrcLP.ledger (by rfl) (by k_asm) (by k_asm) (its := ts.toArray) (by k_mem) (by rw [List.size_toArray, hts.1, hns5]; decide) ?_
      intro g
      refine rest_ports (hts.mono (fun q hq => by repeat (first | exact hq | refine List.Mem.tail _ ?_))) (.inr ⟨_, by k_mem, rfl, _, rfl⟩) rfl rfl rfl (fun i v hv => List.getElem?_toArray.symm.trans hv) ?_
      intro ps9 hps
      rw [List.size_toArray, hts.1, List.take_of_length_le (Nat.le_refl _)] at hps
      have hpl : (ns.map portOf).length ≤ 6 := by rw [List.length_map, hns5]; decide
      have hpb : ∀ x ∈ ns.map portOf, -3 ≤ x ∧ x ≤ 3 := by
        intro x hx
        have ⟨n, hn⟩ := List.mem_map.mp hx
        rw [← hn.2]
        exact port_bd n
      repeat' ((fail_if_success (with_reducible show wpAny _ _ (storeName _ (Str.ofString "rows") _) _ _ _)); first
        | ((with_reducible show wpAny _ _ (callWith _ (Value.ref _) _ _ _) _ _ _); (first | k_dflt (refine' callWith_K ?k1 ?k2 ?_; (case k1 => k_asm); (case k2 => k_is); k_whole) | ((try dsimp only); k_dflt (refine' callWith_K0 ?k1 ?k2 ?_; (case k1 => k_in); (case k2 => k_is); k_whole; try dsimp only [List.nil_append, List.cons_append]))))
        | ((with_reducible show wpAny _ _ (call (Value.ref 184) _ _) _ _ _); k_dflt (refine wpAny_call (Con.l3pp (by k_asm) (by k_asm) (by k_asm) (by k_asm) (by k_asm) rfl (prod_m (rv := ps9) (by k_mem) hps hpl hpb) (by first | exact lt0 (by assumption) (by decide) | exact lt1 (by assumption) (by decide) | exact lt2 (by assumption) (by decide) | exact lt3 (by assumption) (by decide) | exact lt4 (by assumption) (by decide) | ktr_room) (by first | exact lt0 (by assumption) (by decide) | exact lt1 (by assumption) (by decide) | exact lt2 (by assumption) (by decide) | exact lt3 (by assumption) (by decide) | exact lt4 (by assumption) (by decide) | ktr_units) ?_)); intro DQ qv kQ h' tk' hQv hoffQ F' N'; (try dsimp only))
        | (k_unfold; (try dsimp only))
        | (walk1 <;> (try dsimp only))
        | (dsimp only; walk1)
        | (leave1; try dsimp only)
        | fail "no step")
      (with_reducible rename Fr _ _ _ _ => F7)
      (with_reducible rename News _ _ _ _ => N7)
      have N8 := news_front [_, _, _, _, _, _, _, _, _, _] (subN N7 (.cons_cons _ (.cons _ (List.Sublist.refl _))))
      dsimp only [List.cons_append, List.nil_append] at N8
      clear N7
      rename_i DT _ _ o1T _ _ _ _ _ _ _ _ _ _ o1P
      have s1 : @Ne Nat DQ (_ + 1 + 1 + 1) := Ne.symm (hoffQ _ (.tail _ (.tail _ (.tail _ (.tail _ (.tail _ (.tail _ (.tail _ (.tail _ (.tail _ (.tail _ (.head _))))))))))))
      have s2 : @Ne Nat DP (_ + 1 + 1 + 1) := Ne.symm (hoffP _ (.tail _ (.tail _ (.tail _ (.tail _ (.tail _ (.tail _ (.tail _ (.tail _ (.head _))))))))))
      have s3 : @Ne Nat DR (_ + 1 + 1 + 1) := Ne.symm (hoffR _ (.head _))
      have s4 : @Ne Nat DD _ := Ne.symm o1D.2.1
      have s5 : @Ne Nat DT _ := Ne.symm o1T.2.2.2.2.2.2.2.1
      have s6 : @Ne Nat DW _ := Ne.symm o1W.2.2.2.2.2.2.2.2.2.2.2.2.2.2.1
      refine store_cell (v₀ := none) F7 N8 ?off (by assumption) (by rfl) (by rfl) (by rfl) ?_
      case off =>
        have y0 : @LT.lt Nat _ (_ + 1 + 1 + 1) S.cT := hAL.2.2.2.1
        have c7 := Nat.lt_trans (Nat.lt_trans (Nat.lt_trans (Nat.lt_trans (Nat.lt_trans (Nat.lt_trans (Nat.lt_trans y0 q1) q2) q3) q4) q5) q6) q7
        have c8 := Nat.lt_trans c7 q8
        repeat (refine mem_cons_ne (by first | exact s6 | exact s5 | exact s4 | exact s3 | exact Nat.ne_of_gt c7 | exact Nat.ne_of_gt c8 | exact Nat.ne_of_gt (Nat.lt_trans c8 q9) | exact Nat.ne_of_lt (Nat.lt_succ_self _) | exact Nat.ne_of_lt (Nat.lt_succ_of_lt (Nat.lt_succ_self _)) | exact Nat.ne_of_lt (Nat.lt_succ_of_lt (Nat.lt_succ_of_lt (Nat.lt_succ_of_lt (by assumption)))) | omega) ?_)
        exact fun q hq => Ne.symm (hD1 q hq _ (.tail _ (.tail _ (.tail _ (.tail _ (.tail _ (.tail _ (.tail _ (.head _)))))))))
      clear F7 N8
      intro h6 oQ hoQ F6 N6
      have N9 := news_move [_, _, _, _] N6
      dsimp only [List.cons_append, List.nil_append] at N9
      clear N6
      repeat' ((fail_if_success (with_reducible show wpAny _ _ (eval (PySem.Expr.ListComp _ _ _ _) _) _ _ _)); first
        | ((with_reducible show wpAny _ _ (callWith _ (Value.ref _) _ _ _) _ _ _); (first | k_dflt (refine' callWith_K ?k1 ?k2 ?_; (case k1 => k_asm); (case k2 => k_is); k_whole) | ((try dsimp only); k_dflt (refine' callWith_K0 ?k1 ?k2 ?_; (case k1 => k_in); (case k2 => k_is); k_whole; try dsimp only [List.nil_append, List.cons_append]))))
        | ((with_reducible show wpAny _ _ (compareOp CmpOp.Eq (Value.ref DW) (Value.ref DD)) _ _ _); refine eq_words (xs := ww) (ys := dw) (by k_asm) (by k_mem) (by k_mem) hww hdw (by first | exact lt0 (by assumption) (by decide) | exact lt1 (by assumption) (by decide) | exact lt2 (by assumption) (by decide) | exact lt3 (by assumption) (by decide) | exact lt4 (by assumption) (by decide) | ktr_units) ?_)
        | (k_unfold; (try dsimp only))
        | (walk1 <;> (try dsimp only))
        | (dsimp only; walk1)
        | (leave1; try dsimp only)
        | fail "no step")
      refine one_eval (by with_unfolding_all rfl) rfl (by decide) ?_ (by intro _; rfl)
      repeat' ((fail_if_success (with_reducible show OneSrc _ _ _ _ _ _ _ _ _ _ _ _ _ _ _ _)); first
        | ((with_reducible show wpAny _ _ (callWith _ (Value.ref _) _ _ _) _ _ _); (first | k_dflt (refine' callWith_K ?k1 ?k2 ?_; (case k1 => k_asm); (case k2 => k_is); k_whole) | ((try dsimp only); k_dflt (refine' callWith_K0 ?k1 ?k2 ?_; (case k1 => k_in); (case k2 => k_is); k_whole; try dsimp only [List.nil_append, List.cons_append]))))
        | (k_unfold; (try dsimp only))
        | (walk1 <;> (try dsimp only))
        | (dsimp only; walk1)
        | (leave1; try dsimp only)
        | fail "no step")
      (with_reducible rename Fr _ _ _ _ => F7)
      (with_reducible rename News _ _ _ _ => N7)
      refine filt_src hDs (by rfl) F7 N7 (by k_mem) (by first | assumption | exact Nat.le_trans h5' (by decide) | omega) (by decide) rfl rfl rfl ?_
      intro Dz Cz hz tkz mz zsF hzF Fz Nz offz hnzz hC0z hD0z hCLz hDLz hCDz hoCz
      refine post_eval Fz Nz hnzz hC0z hCLz hCDz hoCz ?_
      clear Fz Nz hnzz hC0z hD0z hCLz hDLz hCDz hoCz F7 N7
      intro hz2 Fz2 Nz2
      have hlz : (ln == 1 + ((ns.filter (fun x => x / 28 % 2 == 0)).length : Int)) = true := by rw [hln]; exact beq_self_eq_true _
      have hlF : (ns.filter (fun x => x / 28 % 2 == 0)).length ≤ 5 := Nat.le_trans (List.length_filter_le ..) (Nat.le_of_eq hns5)
      generalize ns.filter (fun x => x / 28 % 2 == 0) = FN at hzF hlF hlz
      clear hln
      repeat' ((fail_if_success (with_reducible show wpAny _ _ (eval (PySem.Expr.ListComp _ _ _ _) _) _ _ _)); first
        | ((with_reducible show wpAny _ _ (callWith _ (Value.ref _) _ _ _) _ _ _); (first | k_dflt (refine' callWith_K ?k1 ?k2 ?_; (case k1 => k_asm); (case k2 => k_is); k_whole) | ((try dsimp only); k_dflt (refine' callWith_K0 ?k1 ?k2 ?_; (case k1 => k_in); (case k2 => k_is); k_whole; try dsimp only [List.nil_append, List.cons_append]))))
        | rw [hlz]
        | (k_unfold; (try dsimp only))
        | (walk1 <;> (try dsimp only))
        | (dsimp only; walk1)
        | (leave1; try dsimp only)
        | fail "no step")
      refine LCg.ListComp_U (F₀ := by k_asm) (by with_unfolding_all rfl) (by decide) (by rfl) (by decide) (by rfl) ?_
      repeat' ((fail_if_success (with_reducible show LCg.CompSrc _ _ _ _ _ _ _ _ _ _ _ _ _ _)); first
        | ((with_reducible show wpAny _ _ (callWith _ (Value.ref _) _ _ _) _ _ _); (first | k_dflt (refine' callWith_K ?k1 ?k2 ?_; (case k1 => k_asm); (case k2 => k_is); k_whole) | ((try dsimp only); k_dflt (refine' callWith_K0 ?k1 ?k2 ?_; (case k1 => k_in); (case k2 => k_is); k_whole; try dsimp only [List.nil_append, List.cons_append]))))
        | (k_unfold; (try dsimp only))
        | (walk1 <;> (try dsimp only))
        | (dsimp only; walk1)
        | (leave1; try dsimp only)
        | fail "no step")
      refine LCg.CompSrc.ledger (by rfl) (by k_asm) (by k_asm) (its := ds.toArray) (by k_mem) (by rw [hsz5]; decide) ?_
      intro g
      refine rest_grow _ (fun i ys tl => TupsIn tl ys (ns.take i)) TupsIn.nil (fun tl => .inr ⟨_, (by repeat (first | exact List.Mem.head _ | refine List.Mem.tail _ ?_)), rfl, _, rfl⟩) ?_ ?_
      · rintro i v ys tl2 I oI C oC D m₂ h tk E' hi hv hT hC hx F N off ne T9 hT9
        have ⟨n, hn0⟩ := hDs.at i v (by simpa using hv)
        have ⟨tn, hn1⟩ := hn0
        have hn := hn1.2
        rw [hn1.1] at hx
        clear hn0 hn1
        have h0n : 0 ≤ n := hnn n (List.mem_of_getElem? hn)
        have hfm : n.fmod 7 - 3 = portOf n := by rw [Int.fmod_eq_emod_of_nonneg _ (by decide)]; rfl
        dsimp only [List.cons_append, List.nil_append] at N off
        repeat' ((fail_if_success (with_reducible show T9 _ _)); first
          | ((with_reducible show wpAny _ _ (callWith _ (Value.ref _) _ _ _) _ _ _); (first | k_dflt (refine' callWith_K ?k1 ?k2 ?_; (case k1 => k_asm); (case k2 => k_is); k_whole) | ((try dsimp only); k_dflt (refine' callWith_K0 ?k1 ?k2 ?_; (case k1 => k_in); (case k2 => k_is); k_whole; try dsimp only [List.nil_append, List.cons_append]))))
          | ((with_reducible show wpAny _ _ (call (Value.ref 146) _ _) _ _ _); k_dflt (refine wpAny_call (Con.l1 (by k_asm) (by k_asm) (by k_asm) (by k_asm) (by k_asm) rfl (reply_c _ _ _ _ _ _ _ _ _ h0n) (by first | exact lt0 (by assumption) (by decide) | exact lt1 (by assumption) (by decide) | exact lt2 (by assumption) (by decide) | exact lt3 (by assumption) (by decide) | exact lt4 (by assumption) (by decide) | ktr_room) (by first | exact lt0 (by assumption) (by decide) | exact lt1 (by assumption) (by decide) | exact lt2 (by assumption) (by decide) | exact lt3 (by assumption) (by decide) | exact lt4 (by assumption) (by decide) | ktr_units) ?_)); intro t3 h' tk' F' N'; (try dsimp only))
          | (k_unfold; (try dsimp only))
          | (walk1 <;> (try dsimp only))
          | (dsimp only; walk1)
          | (leave1; try dsimp only)
          | fail "no step")
        (with_reducible rename Fr _ _ _ _ => F9)
        (with_reducible rename News _ _ _ _ => N9)
        (with_reducible rename @LT.lt Nat _ _ _ ∧ _ => hl9)
        rw [hfm] at N9
        rw [hT9]
        refine ⟨_, _, _, _, rfl, F9, N9, fun q hq => allLt_ne (by exact hl9) q hq, ?_⟩
        rw [List.take_add_one, hn]
        exact hT.snoc
      intro ts2 tl2 hts2 hD2
      rw [hsz5, List.take_of_length_le (by first | exact Nat.le_of_eq hns5 | omega)] at hts2
      dsimp only [List.cons_append, List.nil_append]
      repeat' ((fail_if_success (with_reducible show wpAny _ _ (eval (PySem.Expr.ListComp _ _ _ _) _) _ _ _)); first
        | ((with_reducible show wpAny _ _ (callWith _ (Value.ref _) _ _ _) _ _ _); (first | k_dflt (refine' callWith_K ?k1 ?k2 ?_; (case k1 => k_asm); (case k2 => k_is); k_whole) | ((try dsimp only); k_dflt (refine' callWith_K0 ?k1 ?k2 ?_; (case k1 => k_in); (case k2 => k_is); k_whole; try dsimp only [List.nil_append, List.cons_append]))))
        | ((with_reducible show wpAny _ _ (compareOp CmpOp.Eq (Value.ref DT) (Value.ref _)) _ _ _); refine eq_tups (xs := ts) (ys := ts2) (by k_asm) (by k_mem) (by k_mem) (hts.mono (fun q hq => by repeat (first | exact List.mem_append.mpr (.inl hq) | refine List.Mem.tail _ ?_))) (hts2.mono (fun q hq => by repeat (first | exact List.mem_append.mpr (.inr hq) | refine List.Mem.tail _ ?_))) (by first | exact lt0 (by assumption) (by decide) | exact lt1 (by assumption) (by decide) | exact lt2 (by assumption) (by decide) | exact lt3 (by assumption) (by decide) | exact lt4 (by assumption) (by decide) | ktr_units) ?_)
        | (k_unfold; (try dsimp only))
        | (walk1 <;> (try dsimp only))
        | (dsimp only; walk1)
        | (leave1; try dsimp only)
        | fail "no step")
      (with_reducible rename Fr _ _ _ _ => F7)
      (with_reducible rename News _ _ _ _ => N7)
      have N8 := subN N7 (.cons _ (.cons _ (List.Sublist.refl _)))
      generalize tl ++ tl2 = tl3 at N8
      clear N7
      refine two_eval (by with_unfolding_all rfl) rfl (by decide) ?_ (by intro _; rfl)
      repeat' ((fail_if_success (with_reducible show TwoSrc _ _ _ _ _ _ _ _ _ _ _ _ _ _ _ _ _ _ _)); first
        | ((with_reducible show wpAny _ _ (callWith _ (Value.ref _) _ _ _) _ _ _); (first | k_dflt (refine' callWith_K ?k1 ?k2 ?_; (case k1 => k_asm); (case k2 => k_is); k_whole) | ((try dsimp only); k_dflt (refine' callWith_K0 ?k1 ?k2 ?_; (case k1 => k_in); (case k2 => k_is); k_whole; try dsimp only [List.nil_append, List.cons_append]))))
        | (k_unfold; (try dsimp only))
        | (walk1 <;> (try dsimp only))
        | (dsimp only; walk1)
        | (leave1; try dsimp only)
        | fail "no step")
      (with_reducible rename Fr _ _ _ _ => F7)
      (with_reducible rename News _ _ _ _ => N7)
      (with_reducible rename IsRange _ _ _ _ _ _ _ _ => hr7)
      have hrl : ns.reverse.length = 5 := by rw [List.length_reverse, hns5]
      refine two_range (n := 7) (fun rv => IntsAre rv.toList ns.reverse) (fun i j ys => WordsAre ys (accL ns.reverse i j)) (by rfl) F7 N7 hr7 (by decide) (by decide) (by decide) rfl rfl rfl (by decide) (fun _ _ => rfl) .nil ?_ ?_ ?_ ?_ ?_
      · intro i j ys hi hA
        have := accL_length ns.reverse i j
        rw [hA.length]
        rw [hrl] at this
        exact Nat.le_trans this (Nat.le_trans (Nat.mul_le_mul_right 5 hi) (by decide))
      · intro i rv ys hPR hA
        have e : rv.size = ns.reverse.length := by rw [← Array.length_toList, hPR.length]
        rw [accL_next, ← e]
        exact hA
      · intro i tv ys I1 o1 C oC D m₂ h tk E' hi hA hC hx F N off ne
        repeat' ((fail_if_success (with_reducible show TwoIt _ _ _ _ _ _ _ _)); first
          | ((with_reducible show wpAny _ _ (callWith _ (Value.ref _) _ _ _) _ _ _); (first | k_dflt (refine' callWith_K ?k1 ?k2 ?_; (case k1 => k_asm); (case k2 => k_is); k_whole) | ((try dsimp only); k_dflt (refine' callWith_K0 ?k1 ?k2 ?_; (case k1 => k_in); (case k2 => k_is); k_whole; try dsimp only [List.nil_append, List.cons_append]))))
          | (k_unfold; (try dsimp only))
          | walk1
          | (dsimp only; walk1)
          | (leave1; try dsimp only)
          | fail "no step")
        (with_reducible rename Fr _ _ _ _ => F9)
        (with_reducible rename News _ _ _ _ => N9)
        (with_reducible rename IntsAre _ (List.reverse ns) => hI9)
        (with_reducible rename @LT.lt Nat _ _ _ ∧ _ => hl9)
        exact ⟨_, _, _, _, _, _, rfl, rfl, F9, N9, fun q hq => allLt_ne (by exact hl9) q hq, rfl, rfl, hI9⟩
      · rintro i tv rv j v ys I2 o2 I1 o1 C oC D RL oR m₂ h tk E' hi hPR hv hA hC hpa hpb F N
        have ⟨n, hn0⟩ := hPR.at j v (by simpa using hv)
        have ⟨tn, hn1⟩ := hn0
        have hn := hn1.2
        rw [hn1.1] at hpb
        clear hn0 hn1
        have h0n : 0 ≤ n := hnn n (List.mem_reverse.mp (List.mem_of_getElem? hn))
        refine place_test rfl rfl (by decide) rfl (by decide) (hC.ns (N (C, oC) (.tail _ (.tail _ (.head _)))).1) hpa hpb (fun tk' => ⟨tk', rfl, ?_⟩)
        rw [accL_step hn]
        cases hc : (portOf n == -3 + (i : Int)) with
        | false =>
          simp only [Bool.false_eq_true, if_false, List.append_nil]
          exact hA
        | true =>
          simp only [if_true]
          intro E''
          repeat' ((fail_if_success (with_reducible show TwoEnd _ _ _ _ _ _ _ _)); first
            | ((with_reducible show wpAny _ _ (callWith _ (Value.ref _) _ _ _) _ _ _); (first | k_dflt (refine' callWith_K ?k1 ?k2 ?_; (case k1 => k_asm); (case k2 => k_is); k_whole) | ((try dsimp only); k_dflt (refine' callWith_K0 ?k1 ?k2 ?_; (case k1 => k_in); (case k2 => k_is); k_whole; try dsimp only [List.nil_append, List.cons_append]))))
            | ((with_reducible show wpAny _ _ (call (Value.ref 146) _ _) _ _ _); k_dflt (refine wpAny_call (Con.l1 (by k_asm) (by k_asm) (by k_asm) (by k_asm) (by k_asm) rfl (reply_c _ _ _ _ _ _ _ _ _ h0n) (by first | exact lt0 (by assumption) (by decide) | exact lt1 (by assumption) (by decide) | exact lt2 (by assumption) (by decide) | exact lt3 (by assumption) (by decide) | exact lt4 (by assumption) (by decide) | ktr_room) (by first | exact lt0 (by assumption) (by decide) | exact lt1 (by assumption) (by decide) | exact lt2 (by assumption) (by decide) | exact lt3 (by assumption) (by decide) | exact lt4 (by assumption) (by decide) | ktr_units) ?_)); intro t3 h' tk' F' N'; (try dsimp only))
            | (k_unfold; (try dsimp only))
            | (walk1 <;> (try dsimp only))
            | (dsimp only; walk1)
            | (leave1; try dsimp only)
            | fail "no step")
          (with_reducible rename Fr _ _ _ _ => F9)
          (with_reducible rename News _ _ _ _ => N9)
          exact ⟨_, _, rfl, F9, N9, hA.append (.cons n _ .nil)⟩
      · intro Dv Cv hv1 tkv mv ysv hAv Fv Nv offv hnv hC0v hD0v hCLv hDLv hCDv hoCv
        have hAv2 : WordsAre ysv (rowL ns) := by rw [rowL_blocks, ← accL_end]; exact hAv
        refine post_eval Fv Nv hnv hC0v hCLv hCDv hoCv ?_
        clear Fv Nv hnv hC0v hD0v hCLv hDLv hCDv hoCv F7 N7 hr7 hAv
        intro hv2 Fv2 Nv2
        repeat' ((fail_if_success (with_reducible show wpAny _ _ (eval (PySem.Expr.ListComp _ _ _ _) _) _ _ _)); first
          | ((with_reducible show wpAny _ _ (callWith _ (Value.ref _) _ _ _) _ _ _); (first | k_dflt (refine' callWith_K ?k1 ?k2 ?_; (case k1 => k_asm); (case k2 => k_is); k_whole) | ((try dsimp only); k_dflt (refine' callWith_K0 ?k1 ?k2 ?_; (case k1 => k_in); (case k2 => k_is); k_whole; try dsimp only [List.nil_append, List.cons_append]))))
          | ((with_reducible show wpAny _ _ (compareOp CmpOp.Eq (Value.ref DP) (Value.ref _)) _ _ _); refine eq_words (xs := rw9) (ys := ysv) (by k_asm) (by k_mem) (by k_mem) hRw hAv2 (by first | exact lt0 (by assumption) (by decide) | exact lt1 (by assumption) (by decide) | exact lt2 (by assumption) (by decide) | exact lt3 (by assumption) (by decide) | exact lt4 (by assumption) (by decide) | ktr_units) ?_)
          | ((with_reducible show wpAny _ _ (call (Value.ref 179) _ _) _ _ _); k_dflt (refine wpAny_call (Con.l4pp (by k_asm) (by k_asm) (by k_asm) (by k_asm) (by k_asm) rfl (halv_m (wv := rw9) (by k_mem) hRw (by rw [rowL_length]; omega) (rowL_sorted ns)) (by first | exact lt0 (by assumption) (by decide) | exact lt1 (by assumption) (by decide) | exact lt2 (by assumption) (by decide) | exact lt3 (by assumption) (by decide) | exact lt4 (by assumption) (by decide) | ktr_room) (by first | exact lt0 (by assumption) (by decide) | exact lt1 (by assumption) (by decide) | exact lt2 (by assumption) (by decide) | exact lt3 (by assumption) (by decide) | exact lt4 (by assumption) (by decide) | ktr_units) ?_)); intro DH kH xsH tlH h' tk' hTH hoffH F' N'; (try dsimp only); dsimp only [List.cons_append, List.nil_append] at N')
          | (k_unfold; (try dsimp only))
          | (walk1 <;> (try dsimp only))
          | (dsimp only; walk1)
          | (leave1; try dsimp only)
          | fail "no step")
        refine LCg.ListComp_U (F₀ := by k_asm) (by with_unfolding_all rfl) (by decide) (by rfl) (by decide) (by rfl) ?_
        repeat' ((fail_if_success (with_reducible show LCg.CompSrc _ _ _ _ _ _ _ _ _ _ _ _ _ _)); first
          | ((with_reducible show wpAny _ _ (callWith _ (Value.ref _) _ _ _) _ _ _); (first | k_dflt (refine' callWith_K ?k1 ?k2 ?_; (case k1 => k_asm); (case k2 => k_is); k_whole) | ((try dsimp only); k_dflt (refine' callWith_K0 ?k1 ?k2 ?_; (case k1 => k_in); (case k2 => k_is); k_whole; try dsimp only [List.nil_append, List.cons_append]))))
          | (k_unfold; (try dsimp only))
          | (walk1 <;> (try dsimp only))
          | (dsimp only; walk1)
          | (leave1; try dsimp only)
          | fail "no step")
        refine LCg.CompSrc.range (n := 7) (by rfl) (by k_asm) (by k_asm) (by k_asm) (by decide) (by decide) (by decide) ?_
        intro g
        have hql : (prodL (ns.map portOf)).length ≤ 6 := by unfold prodL; rw [foldl_prod_length, List.length_map, hns5]; decide
        refine rest_grow _ (fun i ys tl => TripsIn tl ys ((List.range i).map (tellP (rowL ns)))) TripsIn.nil (fun tl => trivial) ?_ ?_
        · intro i v ys tl5 I oI C oC D m₂ h tk E' hi hv hT hC hx F N off ne T9 hT9
          have ⟨tv, hv⟩ := hv
          rw [hv] at hx
          clear hv
          dsimp only [List.cons_append, List.nil_append] at N off
          have hz1 := (sign_law ns i).1
          have hz2 := (sign_law ns i).2
          have hp1 : (-3 : Int) ≤ -3 + (i : Int) := Int.le_add_of_nonneg_right (Int.natCast_nonneg i)
          have hp2 : -3 + (i : Int) ≤ 3 := (Int.add_le_add_left (Int.ofNat_le.mpr (Nat.le_of_lt_succ hi)) (-3) : -3 + (i : Int) ≤ -3 + ((6 : Nat) : Int))
          generalize hpe : -3 + (i : Int) = pl at hx hz1 hz2 hp1 hp2
          repeat' ((fail_if_success (with_reducible show T9 _ _)); first
            | ((with_reducible show wpAny _ _ (callWith _ (Value.ref _) _ _ _) _ _ _); (first | k_dflt (refine' callWith_K ?k1 ?k2 ?_; (case k1 => k_asm); (case k2 => k_is); k_whole) | ((try dsimp only); k_dflt (refine' callWith_K0 ?k1 ?k2 ?_; (case k1 => k_in); (case k2 => k_is); k_whole; try dsimp only [List.nil_append, List.cons_append]))))
            | ((with_reducible show wpAny _ _ (call (Value.ref 199) _ _) _ _ _); k_dflt (refine wpAny_call (Con.l5ppp (by k_asm) (by k_asm) (by k_asm) (by k_asm) (by k_asm) rfl (signs_m (rv := qv) (by k_mem) hQv hql hp1 hp2 hz1) (by first | exact lt0 (by assumption) (by decide) | exact lt1 (by assumption) (by decide) | exact lt2 (by assumption) (by decide) | exact lt3 (by assumption) (by decide) | exact lt4 (by assumption) (by decide) | ktr_room) (by first | exact lt0 (by assumption) (by decide) | exact lt1 (by assumption) (by decide) | exact lt2 (by assumption) (by decide) | exact lt3 (by assumption) (by decide) | exact lt4 (by assumption) (by decide) | ktr_units) ?_)); intro DS9 s1 s2 s3 M9 h' tk' hM1 hM2 hoff9 F' N'; (try dsimp only))
            | (k_unfold; (try dsimp only))
            | (walk1 <;> (try dsimp only))
            | (dsimp only; walk1)
            | (leave1; try dsimp only)
            | fail "no step")
          (with_reducible rename Fr _ _ _ _ => F9)
          (with_reducible rename News _ _ _ _ => N9)
          rw [hz2 M9 hM1 hM2] at N9
          rw [hT9]
          refine ⟨_, _, _, _, rfl, F9, N9, hoff9, ?_⟩
          rw [List.range_succ, List.map_append]
          exact hT.snoc
        intro ts5 tl5 hts5 hD5
        dsimp only [List.cons_append, List.nil_append]
        repeat' ((fail_if_success (with_reducible show _ ∧ GrownAll _ _)); first
          | ((with_reducible show QL _ _); rw [hQL])
          | ((with_reducible show wpAny _ _ (callWith _ (Value.ref _) _ _ _) _ _ _); (first | k_dflt (refine' callWith_K ?k1 ?k2 ?_; (case k1 => k_asm); (case k2 => k_is); k_whole) | ((try dsimp only); k_dflt (refine' callWith_K0 ?k1 ?k2 ?_; (case k1 => k_in); (case k2 => k_is); k_whole; try dsimp only [List.nil_append, List.cons_append]))))
          | ((with_reducible show wpAny _ _ (compareOp CmpOp.Eq (Value.ref DH) (Value.ref _)) _ _ _); refine eq_trips (xs := xsH) (ys := ts5) (by k_asm) (by k_mem) (by k_mem) (hTH.mono (fun q hq => by repeat (first | exact List.mem_append.mpr (.inl (List.mem_append.mpr (.inr hq))) | exact List.mem_append.mpr (.inr (List.mem_append.mpr (.inl hq))) | refine List.Mem.tail _ ?_))) (hts5.mono (fun q hq => by repeat (first | exact List.mem_append.mpr (.inr hq) | exact List.mem_append.mpr (.inr (List.mem_append.mpr (.inr hq))) | refine List.Mem.tail _ ?_))) (by first | exact lt0 (by assumption) (by decide) | exact lt1 (by assumption) (by decide) | exact lt2 (by assumption) (by decide) | exact lt3 (by assumption) (by decide) | exact lt4 (by assumption) (by decide) | ktr_units) ?_)
          | (k_unfold; (try dsimp only))
          | (walk1 <;> (try dsimp only))
          | (dsimp only; walk1)
          | (leave1; try dsimp only)
          | fail "no step")
        exact ⟨good_true (Fr.keep (by k_asm)) rfl (by assumption), GrownAt.of (by k_asm) (by k_mem), trivial⟩))
end Mine
end

theorem PySem.Challenge.cw_sr0032_01_holds : PySem.Challenge.rw_sr0032_01.Holds :=
  Mine.law_holds
