import PyProof.Rows.All
import Wide.All
import OpenK.AllK
import Wide.FinOn
import PySem.Challenge.RW_pe0119_01
open PySem PySem.W PyProof.Rows
set_option Elab.async false
set_option maxRecDepth 100000
set_option compiler.extract_closed false
namespace Mine
section
noncomputable abbrev prg : Program := Challenge.rw_pe0119_01.row.prog
noncomputable section
noncomputable def fnB : List Stmt := prg.main.body.filter fun | .FunctionDef .. => true | _ => false
/-- the object of the function that the k-th def makes -/
noncomputable def fnO (k : Nat) (pm : Value) (c : Addr) : Obj := match (fnB[k]?).getD (.Pass default) with
  | .FunctionDef n ps b _ _ _ sc _ q _ => { cls := .type "function", data := .func { name := n, qualname := q, params := ps, body := .stmts b, scope := sc, globals := 3, closure := [], defaults := .none, kwdefaults := .none, pyModule := pm, code := .ref c } }
  | _ => { cls := .none }
/-- the objects that the walk looks at -/
noncomputable def heapK : Params → Frag := fun P => [
(2, { cls := Value.none, data := Data.dict #[] }),
  (3, { cls := Value.type "dict", data := Data.dict #[{ hash := PyData.keyHash P (Str.ofString "__name__"), key := Value.str (Str.ofString "__name__") 165, val := Value.str (Str.ofString "law_pe0119_01") 293 }, { hash := PyData.keyHash P (Str.ofString "__doc__"), key := Value.str (Str.ofString "__doc__") 166, val := Value.none }, { hash := PyData.keyHash P (Str.ofString "__package__"), key := Value.str (Str.ofString "__package__") 167, val := Value.none }, { hash := PyData.keyHash P (Str.ofString "__loader__"), key := Value.str (Str.ofString "__loader__") 168, val := Value.builtin "__main__.__loader__#opaque" }, { hash := PyData.keyHash P (Str.ofString "__spec__"), key := Value.str (Str.ofString "__spec__") 169, val := Value.none }, { hash := PyData.keyHash P (Str.ofString "__annotations__"), key := Value.str (Str.ofString "__annotations__") 170, val := Value.ref 6 }, { hash := PyData.keyHash P (Str.ofString "__builtins__"), key := Value.str (Str.ofString "__builtins__") 171, val := Value.ref 4 }, { hash := PyData.keyHash P (Str.ofString "__file__"), key := Value.str (Str.ofString "__file__") 173, val := Value.str (Str.ofString "/claim/cut.py") 172 }, { hash := PyData.keyHash P (Str.ofString "__cached__"), key := Value.str (Str.ofString "__cached__") 174, val := Value.none }, { hash := PyData.keyHash P (Str.ofString "rgb_to_yiq"), key := Value.str (Str.ofString "rgb_to_yiq") 200, val := Value.ref 21 }, { hash := PyData.keyHash P (Str.ofString "yiq_to_rgb"), key := Value.str (Str.ofString "yiq_to_rgb") 212, val := Value.ref 28 }, { hash := PyData.keyHash P (Str.ofString "rgb_to_hls"), key := Value.str (Str.ofString "rgb_to_hls") 231, val := Value.ref 35 }, { hash := PyData.keyHash P (Str.ofString "rgb_to_hsv"), key := Value.str (Str.ofString "rgb_to_hsv") 249, val := Value.ref 42 }, { hash := PyData.keyHash P (Str.ofString "_iter_escaped_chars"), key := Value.str (Str.ofString "_iter_escaped_chars") 261, val := Value.ref 49 }, { hash := PyData.keyHash P (Str.ofString "_strip_quoted_realnames"), key := Value.str (Str.ofString "_strip_quoted_realnames") 273, val := Value.ref 56 }, { hash := PyData.keyHash P (Str.ofString "_check_parenthesis"), key := Value.str (Str.ofString "_check_parenthesis") 283, val := Value.ref 63 }, { hash := PyData.keyHash P (Str.ofString "_pre_parse_validation"), key := Value.str (Str.ofString "_pre_parse_validation") 292, val := Value.ref 70 }, { hash := PyData.keyHash P (Str.ofString "_law_piece"), key := Value.str (Str.ofString "_law_piece") 301, val := Value.ref 77 }, { hash := PyData.keyHash P (Str.ofString "_law_turned"), key := Value.str (Str.ofString "_law_turned") 307, val := Value.ref 82 }, { hash := PyData.keyHash P (Str.ofString "_law_levels"), key := Value.str (Str.ofString "_law_levels") 313, val := Value.ref 87 }, { hash := PyData.keyHash P (Str.ofString "_law_lines_hold"), key := Value.str (Str.ofString "_law_lines_hold") 319, val := Value.ref 92 }, { hash := PyData.keyHash P (Str.ofString "_law_walk"), key := Value.str (Str.ofString "_law_walk") 325, val := Value.ref 97 }, { hash := PyData.keyHash P (Str.ofString "law"), key := Value.str (Str.ofString "law") 331, val := Value.ref 102 }] 23 }),
  (20, { cls := Value.type "code", data := Data.fields #[Value.str (Str.ofString "rgb_to_yiq") 189, Value.str (Str.ofString "rgb_to_yiq") 190, Value.str (Str.ofString "/claim/cut.py") 191, Value.int 2 0, Value.int 3 0, Value.int 0 0, Value.int 0 0, Value.int 3 0, Value.ref 15, Value.bool true, Value.int 181 0, Value.ref 16, Value.none, Value.ref 17, Value.ref 18, Value.ref 19, Value.int 198 0, Value.int 2 0, Value.str (Str.ofString "/claim/cut.py") 199] }),
  (21, fnO 0 (Value.str (Str.ofString "cpy313.colorsys") 187) 20),
  (27, { cls := Value.type "code", data := Data.fields #[Value.str (Str.ofString "yiq_to_rgb") 201, Value.str (Str.ofString "yiq_to_rgb") 202, Value.str (Str.ofString "/claim/cut.py") 203, Value.int 7 0, Value.int 3 0, Value.int 0 0, Value.int 0 0, Value.int 3 0, Value.ref 22, Value.bool true, Value.int 181 0, Value.ref 23, Value.none, Value.ref 24, Value.ref 25, Value.ref 26, Value.int 210 0, Value.int 7 0, Value.str (Str.ofString "/claim/cut.py") 211] }),
  (28, fnO 1 (Value.str (Str.ofString "cpy313.colorsys") 187) 27),
  (34, { cls := Value.type "code", data := Data.fields #[Value.str (Str.ofString "rgb_to_hls") 213, Value.str (Str.ofString "rgb_to_hls") 214, Value.str (Str.ofString "/claim/cut.py") 215, Value.int 24 0, Value.int 3 0, Value.int 0 0, Value.int 0 0, Value.int 3 0, Value.ref 29, Value.bool true, Value.int 181 0, Value.ref 30, Value.none, Value.ref 31, Value.ref 32, Value.ref 33, Value.int 229 0, Value.int 24 0, Value.str (Str.ofString "/claim/cut.py") 230] }),
  (35, fnO 2 (Value.str (Str.ofString "cpy313.colorsys") 187) 34),
  (41, { cls := Value.type "code", data := Data.fields #[Value.str (Str.ofString "rgb_to_hsv") 232, Value.str (Str.ofString "rgb_to_hsv") 233, Value.str (Str.ofString "/claim/cut.py") 234, Value.int 47 0, Value.int 3 0, Value.int 0 0, Value.int 0 0, Value.int 3 0, Value.ref 36, Value.bool true, Value.int 181 0, Value.ref 37, Value.none, Value.ref 38, Value.ref 39, Value.ref 40, Value.int 247 0, Value.int 47 0, Value.str (Str.ofString "/claim/cut.py") 248] }),
  (42, fnO 3 (Value.str (Str.ofString "cpy313.colorsys") 187) 41),
  (48, { cls := Value.type "code", data := Data.fields #[Value.str (Str.ofString "_iter_escaped_chars") 252, Value.str (Str.ofString "_iter_escaped_chars") 253, Value.str (Str.ofString "/claim/cut.py") 254, Value.int 67 0, Value.int 1 0, Value.int 0 0, Value.int 0 0, Value.int 35 0, Value.ref 43, Value.bool true, Value.int 181 0, Value.ref 44, Value.none, Value.ref 45, Value.ref 46, Value.ref 47, Value.int 259 0, Value.int 67 0, Value.str (Str.ofString "/claim/cut.py") 260] }),
  (49, fnO 4 (Value.str (Str.ofString "cpy313.email.utils") 250) 48),
  (55, { cls := Value.type "code", data := Data.fields #[Value.str (Str.ofString "_strip_quoted_realnames") 262, Value.str (Str.ofString "_strip_quoted_realnames") 263, Value.str (Str.ofString "/claim/cut.py") 264, Value.int 80 0, Value.int 1 0, Value.int 0 0, Value.int 0 0, Value.int 3 0, Value.ref 50, Value.bool true, Value.int 181 0, Value.ref 51, Value.none, Value.ref 52, Value.ref 53, Value.ref 54, Value.int 271 0, Value.int 80 0, Value.str (Str.ofString "/claim/cut.py") 272] }),
  (56, fnO 5 (Value.str (Str.ofString "cpy313.email.utils") 250) 55),
  (62, { cls := Value.type "code", data := Data.fields #[Value.str (Str.ofString "_check_parenthesis") 274, Value.str (Str.ofString "_check_parenthesis") 275, Value.str (Str.ofString "/claim/cut.py") 276, Value.int 98 0, Value.int 1 0, Value.int 0 0, Value.int 0 0, Value.int 3 0, Value.ref 57, Value.bool true, Value.int 181 0, Value.ref 58, Value.none, Value.ref 59, Value.ref 60, Value.ref 61, Value.int 281 0, Value.int 98 0, Value.str (Str.ofString "/claim/cut.py") 282] }),
  (63, fnO 6 (Value.str (Str.ofString "cpy313.email.utils") 250) 62),
  (69, { cls := Value.type "code", data := Data.fields #[Value.str (Str.ofString "_pre_parse_validation") 284, Value.str (Str.ofString "_pre_parse_validation") 285, Value.str (Str.ofString "/claim/cut.py") 286, Value.int 109 0, Value.int 1 0, Value.int 0 0, Value.int 0 0, Value.int 3 0, Value.ref 64, Value.bool true, Value.int 181 0, Value.ref 65, Value.none, Value.ref 66, Value.ref 67, Value.ref 68, Value.int 290 0, Value.int 109 0, Value.str (Str.ofString "/claim/cut.py") 291] }),
  (70, fnO 7 (Value.str (Str.ofString "cpy313.email.utils") 250) 69),
  (76, { cls := Value.type "code", data := Data.fields #[Value.str (Str.ofString "_law_piece") 295, Value.str (Str.ofString "_law_piece") 296, Value.str (Str.ofString "/claim/cut.py") 297, Value.int 117 0, Value.int 1 0, Value.int 0 0, Value.int 0 0, Value.int 3 0, Value.ref 71, Value.bool true, Value.int 181 0, Value.ref 72, Value.none, Value.ref 73, Value.ref 74, Value.ref 75, Value.int 299 0, Value.int 117 0, Value.str (Str.ofString "/claim/cut.py") 300] }),
  (77, fnO 8 (Value.str (Str.ofString "law_pe0119_01") 293) 76),
  (81, { cls := Value.type "code", data := Data.fields #[Value.str (Str.ofString "_law_turned") 302, Value.str (Str.ofString "_law_turned") 303, Value.str (Str.ofString "/claim/cut.py") 304, Value.int 123 0, Value.int 1 0, Value.int 0 0, Value.int 0 0, Value.int 3 0, Value.ref 78, Value.bool true, Value.int 181 0, Value.ref 79, Value.none, Value.none, Value.none, Value.ref 80, Value.int 305 0, Value.int 123 0, Value.str (Str.ofString "/claim/cut.py") 306] }),
  (82, fnO 9 (Value.str (Str.ofString "law_pe0119_01") 293) 81),
  (86, { cls := Value.type "code", data := Data.fields #[Value.str (Str.ofString "_law_levels") 308, Value.str (Str.ofString "_law_levels") 309, Value.str (Str.ofString "/claim/cut.py") 310, Value.int 126 0, Value.int 1 0, Value.int 0 0, Value.int 0 0, Value.int 3 0, Value.ref 83, Value.bool true, Value.int 181 0, Value.ref 84, Value.none, Value.none, Value.none, Value.ref 85, Value.int 311 0, Value.int 126 0, Value.str (Str.ofString "/claim/cut.py") 312] }),
  (87, fnO 10 (Value.str (Str.ofString "law_pe0119_01") 293) 86),
  (91, { cls := Value.type "code", data := Data.fields #[Value.str (Str.ofString "_law_lines_hold") 314, Value.str (Str.ofString "_law_lines_hold") 315, Value.str (Str.ofString "/claim/cut.py") 316, Value.int 131 0, Value.int 1 0, Value.int 0 0, Value.int 0 0, Value.int 3 0, Value.ref 88, Value.bool true, Value.int 181 0, Value.ref 89, Value.none, Value.none, Value.none, Value.ref 90, Value.int 317 0, Value.int 131 0, Value.str (Str.ofString "/claim/cut.py") 318] }),
  (92, fnO 11 (Value.str (Str.ofString "law_pe0119_01") 293) 91),
  (96, { cls := Value.type "code", data := Data.fields #[Value.str (Str.ofString "_law_walk") 320, Value.str (Str.ofString "_law_walk") 321, Value.str (Str.ofString "/claim/cut.py") 322, Value.int 138 0, Value.int 2 0, Value.int 0 0, Value.int 0 0, Value.int 3 0, Value.ref 93, Value.bool true, Value.int 181 0, Value.ref 94, Value.none, Value.none, Value.none, Value.ref 95, Value.int 323 0, Value.int 138 0, Value.str (Str.ofString "/claim/cut.py") 324] }),
  (97, fnO 12 (Value.str (Str.ofString "law_pe0119_01") 293) 96),
  (101, { cls := Value.type "code", data := Data.fields #[Value.str (Str.ofString "law") 326, Value.str (Str.ofString "law") 327, Value.str (Str.ofString "/claim/cut.py") 328, Value.int 145 0, Value.int 1 0, Value.int 0 0, Value.int 0 0, Value.int 3 0, Value.ref 98, Value.bool true, Value.int 181 0, Value.ref 99, Value.none, Value.none, Value.none, Value.ref 100, Value.int 329 0, Value.int 145 0, Value.str (Str.ofString "/claim/cut.py") 330] }),
  (102, fnO 13 (Value.str (Str.ofString "law_pe0119_01") 293) 101)]
/-- the top: the defs alone -/
noncomputable def viewK : Program := { prg with main := { prg.main with body := fnB } }
end
noncomputable abbrev Keep (h h' : Heap) : Prop := ∀ b o, h.get? b = some o → h'.get? b = some o
/-- the ground on which every call stands -/
structure Gr (w : World) (h : Heap) : Prop where
  X : (heapK w.params).In h
  T : ∃ mean mg mb, Top viewK (looseW viewK []) mean mg mb h
theorem Gr.keep {w : World} {h h' : Heap} (G : Gr w h) (k : Keep h h') : Gr w h' :=
  ⟨G.X.keeps k, let ⟨a, b, c, T⟩ := G.T; ⟨a, b, c, T.keeps k⟩⟩
theorem Gr.lim {w : World} {h : Heap} (G : Gr w h) : h.NoLimit := let ⟨_, _, _, T⟩ := G.T; T.nolimit
end
section
theorem runs_toks {M : Model} {Γ : Ctx} {p : Pos} {t : Sem Fin} {fs : List Frame} {s : Shared} {e : End} {s' : Shared} (h : Runs M Γ p t fs s e s') : s.toks ≤ s'.toks := by
  induction h with
  | fresh _ ih => exact Nat.le_of_succ_le ih
  | done => exact Nat.le_refl _
  | raise => exact Nat.le_refl _
  | yield => exact Nat.le_refl _
  | call _ _ i1 i2 => exact Nat.le_trans i1 i2
  | resumeFresh _ _ _ _ i1 i2 => exact Nat.le_trans i1 i2
  | resumeSuspended _ _ _ _ i1 i2 => exact Nat.le_trans i1 i2
  | segRet _ _ i1 i2 => exact Nat.le_trans i1 i2
  | segGen _ _ i1 i2 => exact Nat.le_trans i1 i2
  | segSuspGen _ _ _ _ i1 i2 => exact Nat.le_trans i1 i2
  | _ => assumption
theorem wakes_toks {M : Model} {Γ : Ctx} {p : Pos} {g : Nat} {r : Resume} {s : Shared} {res : GenResult} {s' : Shared} (h : Wakes M Γ p g r s res s') : s.toks ≤ s'.toks := by
  unfold Wakes at h
  split at h
  · exact h.elim
  · split at h
    · obtain ⟨e, s₁, hr, _, _, rfl⟩ := h; have h2 := runs_toks hr; exact h2
    · obtain ⟨_, rfl⟩ := h; exact Nat.le_refl _
    · obtain ⟨_, rfl⟩ := h; exact Nat.le_refl _
  · obtain ⟨e, s₁, hr, _, _, rfl⟩ := h; have h2 := runs_toks hr; exact h2
  · obtain ⟨_, rfl⟩ := h; exact Nat.le_refl _
  · obtain ⟨_, rfl⟩ := h; exact Nat.le_refl _
theorem wp_toks {α : Type} {M : Model} {Γ : Ctx} (n : Nat) {Q : α → Pos → Shared → Prop} {E : Value → Pos → Shared → Prop} : ∀ (t : Sem α) (p : Pos) (s : Shared), n ≤ s.toks →
    Sem.wp M Γ t (fun a p' s' => n ≤ s'.toks → Q a p' s') (fun e p' s' => n ≤ s'.toks → E e p' s') p s → Sem.wp M Γ t Q E p s := by
  intro t
  induction t with
  | pure a => intro p s hn h; simp only [Sem.wp] at h ⊢; exact h hn
  | raise e => intro p s hn h; simp only [Sem.wp] at h ⊢; exact h hn
  | fresh k ih => intro p s hn h; simp only [Sem.wp] at h ⊢; exact ih _ _ _ (Nat.le_succ_of_le hn) h
  | load a part k ih => intro p s hn h; simp only [Sem.wp] at h ⊢; obtain ⟨o, ho, h⟩ := h; exact ⟨o, ho, ih _ _ _ hn h⟩
  | update a part f k ih => intro p s hn h; simp only [Sem.wp] at h ⊢; exact ⟨h.1, ih _ _ _ hn h.2⟩
  | choose src n k ih => intro p s hn h; simp only [Sem.wp] at h ⊢; exact ⟨h.1, ih _ _ _ hn h.2⟩
  | genState g k ih => intro p s hn h; simp only [Sem.wp] at h ⊢; obtain ⟨st, hs, h⟩ := h; exact ⟨st, hs, ih _ _ _ hn h⟩
  | call c hd g l k ih =>
    intro p s hn h; simp only [Sem.wp] at h ⊢
    obtain ⟨r, s', hr, h⟩ := h
    exact ⟨r, s', hr, ih _ _ _ (Nat.le_trans hn (runs_toks hr)) h⟩
  | resume g r l k ih =>
    intro p s hn h; simp only [Sem.wp] at h ⊢
    obtain ⟨res, s', hr, h⟩ := h
    exact ⟨res, s', hr, ih _ _ _ (Nat.le_trans hn (wakes_toks hr)) h⟩
  | _ => first
    | (intro p s hn h; simp only [Sem.wp] at h; done)
    | (intro p s hn h; simp only [Sem.wp] at h ⊢; rename_i ih; exact ih _ _ _ hn h)
section
variable {α : Type} {M : Model} {A : Around} {t : Sem α} {Q : α → Shared → Prop} {E : Value → Shared → Prop} {s : Shared} {n : Nat}
/-- tokens only grow -/
theorem wpAny_toks (hn : n ≤ s.toks) (h : wpAny M A t (fun a s' => n ≤ s'.toks → Q a s') (fun e s' => n ≤ s'.toks → E e s') s) : wpAny M A t Q E s :=
  fun Γ p hΓ => wp_toks n t p s hn (h Γ p hΓ)
end
/-- no reader has booked a token -/
theorem Gr.booked {w : World} {h : Heap} (G : Gr w h) : NoneBooked h := by
  obtain ⟨mc, hm, _⟩ := G.lim
  refine ⟨mc, hm, ?_⟩
  have X := G.X
  have e : nsIn (heapK w.params) cStatics sharingNotToldKey = some none := by rfl
  obtain ⟨o, es, ep, ho, hd', _, hf⟩ := hm
  unfold nsIn at e
  split at e
  · rename_i c d es' n' sl q
    have := X _ _ q
    rw [ho] at this
    cases this
    cases hd'
    split at e
    · cases e
    · rename_i he
      rw [← hf]
      unfold nsFind findBy
      rw [← Array.find?_toList, he]
      rfl
  · cases e
end
section
open PySem.SeqAt PySem.MeetsSeq
section
variable {M : Model} {A : Around} {E : Value → Shared → Prop} {s : Shared}
theorem isSame_ff {x y : UInt64} {t u : Tok} {Q : Bool → Shared → Prop} (ht : 0 < t) (hu : 0 < u) (hb : NoneBooked s.heap) (hq : ∀ b, Q b s) : wpAny M A (isSame (.float x t) (.float y u)) Q E s := by
  show wpAny M A (isSame.created (x == y && !Float64.isNaN x) t u) Q E s
  have h0 : (t == 0 || u == 0) = false := by
    rw [Bool.or_eq_false_iff]; exact ⟨beq_eq_false_iff_ne.mpr (Nat.ne_of_gt ht), beq_eq_false_iff_ne.mpr (Nat.ne_of_gt hu)⟩
  unfold isSame.created
  refine wpAny_ite ?_
  split
  · rename_i h; rw [h0] at h; exact absurd h Bool.false_ne_true
  refine wpAny_ite ?_
  split
  · exact wpAny_pure (hq _)
  refine wpAny_ite ?_
  split
  · exact wpAny_pure (hq _)
  refine wpAny_bind (wpAny_sharingNotTold_none hb ?_)
  first | rw [if_neg Bool.false_ne_true] | simp only [Bool.false_eq_true, if_false]
  refine wpAny_bind (wpAny_sharingNotTold_none hb ?_)
  first | rw [if_neg Bool.false_ne_true] | simp only [Bool.false_eq_true, if_false]
  exact wpAny_bind (wpAny_rule (wpAny_bind (wpAny_askSetting (wpAny_pure (hq _)))))
end
section
variable {A : Around} {s : Shared}
theorem eqAt_ff {x y : UInt64} {t u : Tok} (hx : (Float64.cmp x y == some .eq) = true) (ht : 0 < t) (hu : 0 < u) (hb : NoneBooked s.heap) : EqAt A s (.float x t) (.float y u) true := fun prog w E Q h => by
  unfold eqBool
  refine wpAny_holding ?_
  refine wpAny_ite_split (fun _ => ?_) (fun _ => ?_)
  · exact wpAny_bind (wpAny_rule (wpAny_pure h))
  · refine wpAny_bind (isSame_ff ht hu hb fun b => ?_)
    cases b with
    | true => exact wpAny_pure h
    | false => exact wpAny_bind (AutoFloatOps.eq_0 (wpAny_truthy_bool (by rw [hx]; exact h)))
theorem eqAt_fi {x : UInt64} {n : Int} {t u : Tok} (hx : (Float64.cmpInt x n == some .eq) = true) : EqAt A s (.float x t) (.int n u) true := fun prog w E Q h => by
  unfold eqBool
  refine wpAny_holding ?_
  refine wpAny_ite_split (fun hab => absurd (eq_of_beq hab) nofun) (fun _ => ?_)
  exact wpAny_bind (PyProof.Rows.eq_fi (wpAny_truthy_bool (by rw [hx]; exact h)))
end
section
variable {prog : Program} {w : World} {A : Around} {E : Value → Shared → Prop} {s : Shared} {Q : Value → Shared → Prop} {l b : Addr}
theorem ne_three {v1 v2 v3 u1 u2 u3 : Value} (hl : s.heap.IsList l #[v1, v2, v3]) (hb : s.heap.IsList b #[u1, u2, u3]) (hu : A.units < cLine)
    (h1 : EqAt A.in1 s v1 u1 true) (h2 : EqAt A.in1 s v2 u2 true) (h3 : EqAt A.in1 s v3 u3 true) (h : Q (.bool false) s) : wpAny (model prog w) A (compareOp .NotEq (.ref l) (.ref b)) Q E s := by
  have := RcNeAt.lists (A := A) (s := s) (e := fun _ => true) hl hb rfl hu (fun j j1 j2 => by
    have hj : j < 3 := j1
    rcases j with _ | _ | _ | j
    · exact h1
    · exact h2
    · exact h3
    · omega)
  exact this prog w E Q h
end
end
section
noncomputable abbrev tupO (vs : List Value) : Obj := { cls := .type "tuple", data := .seq vs.toArray }
/-- what _law_piece gives back -/
noncomputable def pieceS (x : Int) : Str :=
  if x.fmod 10 < 8 then Txt.item (Str.ofString "()") (x.fmod 2)
  else if x.fmod 10 = 8 then
    (if (x.fdiv 10).fmod 4 = 0 then Str.ofString "\"(\"" else if (x.fdiv 10).fmod 4 = 1 then Str.ofString "\")\"" else if (x.fdiv 10).fmod 4 = 2 then Str.ofString "\"\\\"(\"" else Str.ofString "\")\\\\\"")
  else (if (x.fdiv 10).fmod 4 = 0 then Str.ofString "\\(" else if (x.fdiv 10).fmod 4 = 1 then Str.ofString "\\)" else if (x.fdiv 10).fmod 4 = 2 then Str.ofString "\\\"" else Str.ofString "\\\\")
set_option maxHeartbeats 8000000 in
theorem piece_call {w : World} {A : Around} {s : Shared} {R : Result → Shared → Prop} (G : Gr w s.heap) (hroom : A.depth < recursionLimit)
   (x : Int) (t : Tok) (hR : ∀ t' h' tk, Keep s.heap h' → R (.ok (.ret (.str (pieceS x) t'))) { s with heap := h', toks := tk }) :
   codeAny (model prg w) A (.call (.ref 77) ⟨[.int x t], []⟩) R s := by
  refine call_pos_ret hroom (G.X 77 _ rfl) rfl G.lim (codeRec_of G.X (by rfl)) (by rfl) (locs (by rfl)) ?h
  case h =>
    obtain ⟨KX, mean, mg, mb, T⟩ := G
    intro h₁ F
    have N : News s.heap s.heap.objs.size h₁ [] := News.nil
    have e : ∀ u t' h' tk, u = pieceS x → Keep s.heap h' → R (.ok (.ret (.str u t'))) { s with heap := h', toks := tk } := by
      intro u t' h' tk e k; subst e; exact hR t' h' tk k
    clear hR
    repeat' walk1
    all_goals (refine e _ _ _ _ ?_ (Fr.keep (by assumption)); unfold pieceS; simp_all; try (intros; omega))
/-- rgb_to_yiq's three -/
noncomputable def yF (r g b : UInt64) : UInt64 := Float64.add (Float64.add (Float64.mul 4599075939470750515 r) (Float64.mul 4603489467105573601 g)) (Float64.mul 4592590756007337001 b)
noncomputable def iF (r g b : UInt64) : UInt64 := Float64.sub (Float64.mul 4604840546993784750 (Float64.sub r (yF r g b))) (Float64.mul 4598535507515466056 (Float64.sub b (yF r g b)))
noncomputable def qF (r g b : UInt64) : UInt64 := Float64.add (Float64.mul 4602318531202457272 (Float64.sub r (yF r g b))) (Float64.mul 4601057523306793533 (Float64.sub b (yF r g b)))
set_option maxHeartbeats 8000000 in
theorem yiq_call {w : World} {A : Around} {s : Shared} {R : Result → Shared → Prop} (G : Gr w s.heap) (hroom : A.depth < recursionLimit)
   (r g b : UInt64) (t1 t2 t3 : Tok) (hR : ∀ a h' tk u1 u2 u3, Keep s.heap h' → s.heap.get? a = none → h'.get? a = some (tupO [.float (yF r g b) u1, .float (iF r g b) u2, .float (qF r g b) u3]) → R (.ok (.ret (.ref a))) { s with heap := h', toks := tk }) :
   codeAny (model prg w) A (.call (.ref 21) ⟨[.float r t1, .float g t2, .float b t3], []⟩) R s := by
  refine call_pos_ret hroom (G.X 21 _ rfl) rfl G.lim (codeRec_of G.X (by rfl)) (by rfl) (locs (by rfl)) ?h
  case h =>
    obtain ⟨KX, mean, mg, mb, T⟩ := G
    intro h₁ F
    have N : News s.heap s.heap.objs.size h₁ [] := News.nil
    repeat' walk1
    exact hR _ _ _ _ _ _ (Fr.keep (by assumption)) (News.fresh (by assumption) (.head _)) (News.get (by assumption) (.head _))
end
section
/-- a word that shuts a turn's end -/
noncomputable def Shut (P : Prop) : Prop := P
noncomputable abbrev mapOf {h₀ : Heap} {L : Addr} {h : Heap} {m : Str → Option Value} (_ : Fr h₀ L h m) : Str → Option Value := m
noncomputable abbrev Ar (dp un : Nat) (fr : Option (List Env)) (gd : Option (List Code)) : Around := { depth := dp, frames := fr, guards := gd, units := un }
noncomputable def max3F (x y z : UInt64) : UInt64 := if (Float64.cmp x y == some .lt) = true then (if (Float64.cmp y z == some .lt) = true then z else y) else (if (Float64.cmp x z == some .lt) = true then z else x)
noncomputable def min3F (x y z : UInt64) : UInt64 := if (Float64.cmp y x == some .lt) = true then (if (Float64.cmp z y == some .lt) = true then z else y) else (if (Float64.cmp z x == some .lt) = true then z else x)
section
variable {prog : Program} {w : World} {A : Around} {E : Value → Shared → Prop} {s : Shared} {Q : Value → Shared → Prop}
theorem max3_num {a b c : Value} (hh : A.handled = none) (ha : Flt.NumV a) (hb : Flt.NumV b) (hc : Flt.NumV c)
    (h : ∀ h' tk, Keep s.heap h' → Q (if Flt.ltV a b then (if Flt.ltV b c then c else b) else (if Flt.ltV a c then c else a)) { s with heap := h', toks := tk }) :
    wpAny (model prog w) A (call (.builtin "max") [a, b, c]) Q E s := by
  have hT : (s.heap.push { cls := .type "tuple", data := .seq #[a, b, c] }).IsTuple s.heap.objs.size #[a, b, c] := ⟨_, Heap.get?_push_size _ rfl, rfl, 0, rfl⟩
  refine call_max_three (wpAny_pyIter_tuple hT ?_)
  have hsz : (s.heap.push { cls := .type "tuple", data := .seq #[a, b, c] }).objs.size = s.heap.objs.size + 1 := Heap.size_push ..
  refine ⟨_, [_, s.heap.objs.size], [_], _, _, _, _, rfl, Walks.tuple (A := A.in1) hh _ s.heap.objs.size (by rw [hsz]; exact Nat.ne_of_lt (Nat.lt_succ_self _)) #[a, b, c],
    ⟨⟨_, Heap.get?_push_size _ rfl, rfl, rfl⟩, hT.push _⟩, fun d hd => ?_, by simp, Flt.cmpOf_gt #[a, b, c] (by simp [ha, hb, hc]), fun v h' tk hP hk => ?_⟩
  · show d < ((s.heap.push _).push _).objs.size
    rw [Heap.size_push, hsz]
    rcases List.mem_cons.mp hd with rfl | hd
    · rw [hsz]; exact Nat.lt_succ_self _
    · rcases List.mem_cons.mp hd with rfl | hd
      · exact Nat.lt_succ_of_lt (Nat.lt_succ_self _)
      · cases hd
  · have hold : Keep s.heap h' := fun d o e => by
      refine hk d o (fun hm => ?_) (Heap.get?_push_of_some _ (Heap.get?_push_of_some _ e))
      rcases List.mem_cons.mp hm with e1 | hm
      · have := Heap.lt_size e; rw [e1, hsz] at this; exact Nat.lt_irrefl _ (Nat.lt_of_succ_lt this)
      · cases hm
    have := h h' tk hold
    have hv : v = (if Flt.ltV a b then (if Flt.ltV b c then c else b) else (if Flt.ltV a c then c else a)) := by
      cases h1 : Flt.ltV a b <;> cases h2 : Flt.ltV b c <;> cases h3 : Flt.ltV a c <;> simp [argBest, h1, h2, h3] at hP <;> simp [hP]
    rw [hv]; exact this
theorem min3_num {a b c : Value} (hh : A.handled = none) (ha : Flt.NumV a) (hb : Flt.NumV b) (hc : Flt.NumV c)
    (h : ∀ h' tk, Keep s.heap h' → Q (if Flt.ltV b a then (if Flt.ltV c b then c else b) else (if Flt.ltV c a then c else a)) { s with heap := h', toks := tk }) :
    wpAny (model prog w) A (call (.builtin "min") [a, b, c]) Q E s := by
  have hT : (s.heap.push { cls := .type "tuple", data := .seq #[a, b, c] }).IsTuple s.heap.objs.size #[a, b, c] := ⟨_, Heap.get?_push_size _ rfl, rfl, 0, rfl⟩
  refine call_min_three (wpAny_pyIter_tuple hT ?_)
  have hsz : (s.heap.push { cls := .type "tuple", data := .seq #[a, b, c] }).objs.size = s.heap.objs.size + 1 := Heap.size_push ..
  refine ⟨_, [_, s.heap.objs.size], [_], _, _, _, _, rfl, Walks.tuple (A := A.in1) hh _ s.heap.objs.size (by rw [hsz]; exact Nat.ne_of_lt (Nat.lt_succ_self _)) #[a, b, c],
    ⟨⟨_, Heap.get?_push_size _ rfl, rfl, rfl⟩, hT.push _⟩, fun d hd => ?_, by simp, Flt.cmpOf_lt #[a, b, c] (by simp [ha, hb, hc]), fun v h' tk hP hk => ?_⟩
  · show d < ((s.heap.push _).push _).objs.size
    rw [Heap.size_push, hsz]
    rcases List.mem_cons.mp hd with rfl | hd
    · rw [hsz]; exact Nat.lt_succ_self _
    · rcases List.mem_cons.mp hd with rfl | hd
      · exact Nat.lt_succ_of_lt (Nat.lt_succ_self _)
      · cases hd
  · have hold : Keep s.heap h' := fun d o e => by
      refine hk d o (fun hm => ?_) (Heap.get?_push_of_some _ (Heap.get?_push_of_some _ e))
      rcases List.mem_cons.mp hm with e1 | hm
      · have := Heap.lt_size e; rw [e1, hsz] at this; exact Nat.lt_irrefl _ (Nat.lt_of_succ_lt this)
      · cases hm
    have := h h' tk hold
    have hv : v = (if Flt.ltV b a then (if Flt.ltV c b then c else b) else (if Flt.ltV c a then c else a)) := by
      cases h1 : Flt.ltV b a <;> cases h2 : Flt.ltV c b <;> cases h3 : Flt.ltV c a <;> simp [argBest, h1, h2, h3] at hP <;> simp [hP]
    rw [hv]; exact this
variable {h₀ : Heap} {L : Addr} {m : Str → Option Value} {news : List (Addr × Obj)} {x y z : UInt64} {t u v : Tok}
theorem max3_f (hh : A.handled = none) (F : Fr h₀ L s.heap m) (N : News h₀ L s.heap news)
    (h : ∀ h' tk v, Fr h₀ L h' m → News h₀ L h' news → Q (.float (max3F x y z) v) { s with heap := h', toks := tk }) :
    wpAny (model prog w) A (call (.builtin "max") [.float x t, .float y u, .float z v]) Q E s := by
  refine max3_num hh (.float ..) (.float ..) (.float ..) fun h' tk k => ?_
  have e : ∀ {V : Value}, (∃ v', V = Value.float (max3F x y z) v') → Q V { s with heap := h', toks := tk } := by
    rintro V ⟨v', rfl⟩; exact h _ _ _ (F.grownK k) (N.grown k)
  refine e ?_
  unfold max3F
  cases h1 : Flt.ltV (.float x t) (.float y u) <;> cases h2 : Flt.ltV (.float y u) (.float z v) <;> cases h3 : Flt.ltV (.float x t) (.float z v) <;>
    (have g1 : (Float64.cmp x y == some Ordering.lt) = _ := h1; have g2 : (Float64.cmp y z == some Ordering.lt) = _ := h2; have g3 : (Float64.cmp x z == some Ordering.lt) = _ := h3; simp only [g1, g2, g3, if_true, Bool.false_eq_true, if_false]; exact ⟨_, rfl⟩)
theorem min3_f (hh : A.handled = none) (F : Fr h₀ L s.heap m) (N : News h₀ L s.heap news)
    (h : ∀ h' tk v, Fr h₀ L h' m → News h₀ L h' news → Q (.float (min3F x y z) v) { s with heap := h', toks := tk }) :
    wpAny (model prog w) A (call (.builtin "min") [.float x t, .float y u, .float z v]) Q E s := by
  refine min3_num hh (.float ..) (.float ..) (.float ..) fun h' tk k => ?_
  have e : ∀ {V : Value}, (∃ v', V = Value.float (min3F x y z) v') → Q V { s with heap := h', toks := tk } := by
    rintro V ⟨v', rfl⟩; exact h _ _ _ (F.grownK k) (N.grown k)
  refine e ?_
  unfold min3F
  cases h1 : Flt.ltV (.float y u) (.float x t) <;> cases h2 : Flt.ltV (.float z v) (.float y u) <;> cases h3 : Flt.ltV (.float z v) (.float x t) <;>
    (have g1 : (Float64.cmp y x == some Ordering.lt) = _ := h1; have g2 : (Float64.cmp z y == some Ordering.lt) = _ := h2; have g3 : (Float64.cmp z x == some Ordering.lt) = _ := h3; simp only [g1, g2, g3, if_true, Bool.false_eq_true, if_false]; exact ⟨_, rfl⟩)
theorem div_nz (hA : A.handled = none) (hb : Float64.isZero y = false) (h : Q (.float (Float64.div x y) s.toks) { s with toks := s.toks + 1 }) :
    wpAny (model prog w) A (binaryOp .Div (.float x t) (.float y u)) Q E s :=
  truediv_float_or hA (fun e => by rw [hb] at e; cases e) fun _ => h
theorem mod_nz (hb : Float64.isZero y = false) (h : Q (.float (Float64.divmod x y).snd s.toks) { s with toks := s.toks + 1 }) :
    wpAny (model prog w) A (binaryOp .Mod (.float x t) (.float y u)) Q E s :=
  AutoFloatOps.mod_1 (by rw [hb]; exact Bool.false_ne_true) h
end
local macro_rules | `(tactic| walk_at "call builtin:max") => `(tactic| ((with_reducible show wpAny _ _ (call _ [Value.float _ _, Value.float _ _, Value.float _ _]) _ _ _); (rename News _ _ _ _ => N'); (rename Fr _ _ _ _ => F'); refine max3_f rfl F' N' ?_; clear F' N'; intro h' tk' v' F' N'; (try dsimp only)))
local macro_rules | `(tactic| walk_at "call builtin:min") => `(tactic| ((with_reducible show wpAny _ _ (call _ [Value.float _ _, Value.float _ _, Value.float _ _]) _ _ _); (rename News _ _ _ _ => N'); (rename Fr _ _ _ _ => F'); refine min3_f rfl F' N' ?_; clear F' N'; intro h' tk' v' F' N'; (try dsimp only)))
local macro_rules | `(tactic| walk_at "binaryOp Div float float") => `(tactic| (refine div_nz rfl ?hz ?_; (case hz => first | assumption | (with_unfolding_all decide +kernel)); (try dsimp only)))
local macro_rules | `(tactic| walk_at "binaryOp Mod float float") => `(tactic| (refine mod_nz ?hz ?_; (case hz => first | assumption | (with_unfolding_all decide +kernel)); (try dsimp only)))

noncomputable def hueF (mx rg r g b : UInt64) : UInt64 := (Float64.divmod (Float64.div (if (Float64.cmp r mx == some .eq) = true then Float64.sub (Float64.div (Float64.sub mx b) rg) (Float64.div (Float64.sub mx g) rg)
  else if (Float64.cmp g mx == some .eq) = true then Float64.sub (Float64.add 4611686018427387904 (Float64.div (Float64.sub mx r) rg)) (Float64.div (Float64.sub mx b) rg)
  else Float64.sub (Float64.add 4616189618054758400 (Float64.div (Float64.sub mx g) rg)) (Float64.div (Float64.sub mx r) rg)) 4618441417868443648) 4607182418800017408).snd
noncomputable def greyF (r g b : UInt64) : Bool := Float64.cmp (min3F r g b) (max3F r g b) == some .eq
noncomputable def rngF (r g b : UInt64) : UInt64 := Float64.sub (max3F r g b) (min3F r g b)
noncomputable def hue1 (r g b : UInt64) : UInt64 := if greyF r g b = true then 0 else hueF (max3F r g b) (rngF r g b) r g b
noncomputable def sat1 (r g b : UInt64) : UInt64 := if greyF r g b = true then 0 else Float64.div (rngF r g b) (max3F r g b)
set_option maxHeartbeats 8000000 in
theorem hsv_call {w : World} {dp un : Nat} {fr : Option (List Env)} {gd : Option (List Code)} {s : Shared} {R : Result → Shared → Prop} (G : Gr w s.heap) (hroom : dp < recursionLimit)
   (r g b : UInt64) (t1 t2 t3 : Tok) (hz : greyF r g b = false → Float64.isZero (max3F r g b) = false ∧ Float64.isZero (rngF r g b) = false)
   (hR : ∀ a h' tk u1 u2 u3, Keep s.heap h' → s.heap.get? a = none → h'.get? a = some (tupO [.float (hue1 r g b) u1, .float (sat1 r g b) u2, .float (max3F r g b) u3]) → R (.ok (.ret (.ref a))) { s with heap := h', toks := tk }) :
   codeAny (model prg w) (Ar dp un fr gd) (.call (.ref 42) ⟨[.float r t1, .float g t2, .float b t3], []⟩) R s := by
  refine call_pos_ret hroom (G.X 42 _ rfl) rfl G.lim (codeRec_of G.X (by rfl)) (by rfl) (locs (by rfl)) ?h
  case h =>
    w_top on
    obtain ⟨KX, mean, mg, mb, T⟩ := G
    intro h₁ F
    have N : News s.heap s.heap.objs.size h₁ [] := News.nil
    have e : ∀ {a h' tk u1 u2 u3 x1 x2 x3}, h'.get? a = some (tupO [.float x1 u1, .float x2 u2, .float x3 u3]) → x1 = hue1 r g b → x2 = sat1 r g b → x3 = max3F r g b → Keep s.heap h' → s.heap.get? a = none → R (.ok (.ret (.ref a))) { s with heap := h', toks := tk } := by
      intro a h' tk u1 u2 u3 x1 x2 x3 e e1 e2 e3 k f; subst e1 e2 e3; exact hR _ _ _ _ _ _ k f e
    clear hR
    iterate 50 walk1
    · clear hz
      have hc : greyF r g b = true := ‹(Float64.cmp (min3F r g b) (max3F r g b) == some .eq) = true›
      repeat' walk1
      all_goals (have N9 := ‹News s.heap _ _ _›; refine e (N9.get (.head _)) ?_ ?_ rfl (Fr.keep (by assumption)) (N9.fresh (.head _)) <;> simp [hue1, sat1, hc])
    · have hc : greyF r g b = false := ‹(Float64.cmp (min3F r g b) (max3F r g b) == some .eq) = false›
      obtain ⟨z1, z2⟩ := hz hc
      clear hz
      have z3 : Float64.isZero (Float64.sub (max3F r g b) (min3F r g b)) = false := z2
      repeat' walk1
      all_goals (have N9 := ‹News s.heap _ _ _›; refine e (N9.get (.head _)) ?_ ?_ rfl (Fr.keep (by assumption)) (N9.fresh (.head _)) <;> simp_all [hue1, sat1, hueF, rngF])
noncomputable def lightF (r g b : UInt64) : UInt64 := Float64.div (Float64.add (max3F r g b) (min3F r g b)) 4611686018427387904
noncomputable def sat2 (r g b : UInt64) : UInt64 := if greyF r g b = true then 0 else if (Float64.cmp (lightF r g b) 4602678819172646912 == some .lt || Float64.cmp (lightF r g b) 4602678819172646912 == some .eq) = true then Float64.div (rngF r g b) (Float64.add (max3F r g b) (min3F r g b)) else Float64.div (rngF r g b) (Float64.sub (Float64.sub 4611686018427387904 (max3F r g b)) (min3F r g b))
section
variable {r g b : UInt64}
theorem hue1_a (hc : greyF r g b = false) (h : (Float64.cmp r (max3F r g b) == some .eq) = true) : (Float64.divmod (Float64.div (Float64.sub (Float64.div (Float64.sub (max3F r g b) b) (rngF r g b)) (Float64.div (Float64.sub (max3F r g b) g) (rngF r g b))) 4618441417868443648) 4607182418800017408).snd = hue1 r g b := by
  unfold hue1 hueF; rw [hc, if_neg Bool.false_ne_true, if_pos h]
theorem hue1_b (hc : greyF r g b = false) (h : (Float64.cmp r (max3F r g b) == some .eq) = false) (h' : (Float64.cmp g (max3F r g b) == some .eq) = true) : (Float64.divmod (Float64.div (Float64.sub (Float64.add 4611686018427387904 (Float64.div (Float64.sub (max3F r g b) r) (rngF r g b))) (Float64.div (Float64.sub (max3F r g b) b) (rngF r g b))) 4618441417868443648) 4607182418800017408).snd = hue1 r g b := by
  unfold hue1 hueF; rw [hc, if_neg Bool.false_ne_true, if_neg (by rw [h]; exact Bool.false_ne_true), if_pos h']
theorem hue1_c (hc : greyF r g b = false) (h : (Float64.cmp r (max3F r g b) == some .eq) = false) (h' : (Float64.cmp g (max3F r g b) == some .eq) = false) : (Float64.divmod (Float64.div (Float64.sub (Float64.add 4616189618054758400 (Float64.div (Float64.sub (max3F r g b) g) (rngF r g b))) (Float64.div (Float64.sub (max3F r g b) r) (rngF r g b))) 4618441417868443648) 4607182418800017408).snd = hue1 r g b := by
  unfold hue1 hueF; rw [hc, if_neg Bool.false_ne_true, if_neg (by rw [h]; exact Bool.false_ne_true), if_neg (by rw [h']; exact Bool.false_ne_true)]
theorem sat2_a (hc : greyF r g b = false) (h : (Float64.cmp (lightF r g b) 4602678819172646912 == some .lt || Float64.cmp (lightF r g b) 4602678819172646912 == some .eq) = true) : Float64.div (rngF r g b) (Float64.add (max3F r g b) (min3F r g b)) = sat2 r g b := by
  unfold sat2; rw [hc, if_neg Bool.false_ne_true, if_pos h]
theorem sat2_b (hc : greyF r g b = false) (h : (Float64.cmp (lightF r g b) 4602678819172646912 == some .lt || Float64.cmp (lightF r g b) 4602678819172646912 == some .eq) = false) : Float64.div (rngF r g b) (Float64.sub (Float64.sub 4611686018427387904 (max3F r g b)) (min3F r g b)) = sat2 r g b := by
  unfold sat2; rw [hc, if_neg Bool.false_ne_true, if_neg (by rw [h]; exact Bool.false_ne_true)]
theorem sat1_a (hc : greyF r g b = false) : Float64.div (rngF r g b) (max3F r g b) = sat1 r g b := by
  unfold sat1; rw [hc, if_neg Bool.false_ne_true]
end
set_option maxHeartbeats 8000000 in
theorem hls_call {w : World} {dp un : Nat} {fr : Option (List Env)} {gd : Option (List Code)} {s : Shared} {R : Result → Shared → Prop} (G : Gr w s.heap) (hroom : dp < recursionLimit)
   (r g b : UInt64) (t1 t2 t3 : Tok) (hz : greyF r g b = false → Float64.isZero (Float64.add (max3F r g b) (min3F r g b)) = false ∧ Float64.isZero (Float64.sub (Float64.sub 4611686018427387904 (max3F r g b)) (min3F r g b)) = false ∧ Float64.isZero (rngF r g b) = false)
   (hR : ∀ a h' tk u1 u2 u3, Keep s.heap h' → s.heap.get? a = none → h'.get? a = some (tupO [.float (hue1 r g b) u1, .float (lightF r g b) u2, .float (sat2 r g b) u3]) → R (.ok (.ret (.ref a))) { s with heap := h', toks := tk }) :
   codeAny (model prg w) (Ar dp un fr gd) (.call (.ref 35) ⟨[.float r t1, .float g t2, .float b t3], []⟩) R s := by
  refine call_pos_ret hroom (G.X 35 _ rfl) rfl G.lim (codeRec_of G.X (by rfl)) (by rfl) (locs (by rfl)) ?h
  case h =>
    w_top on
    obtain ⟨KX, mean, mg, mb, T⟩ := G
    intro h₁ F
    have N : News s.heap s.heap.objs.size h₁ [] := News.nil
    have e : ∀ {a h' tk u1 u2 u3 x1 x2 x3}, h'.get? a = some (tupO [.float x1 u1, .float x2 u2, .float x3 u3]) → x1 = hue1 r g b → x2 = lightF r g b → x3 = sat2 r g b → Keep s.heap h' → s.heap.get? a = none → R (.ok (.ret (.ref a))) { s with heap := h', toks := tk } := by
      intro a h' tk u1 u2 u3 x1 x2 x3 e e1 e2 e3 k f; subst e1 e2 e3; exact hR _ _ _ _ _ _ k f e
    clear hR
    iterate 62 walk1
    · clear hz
      have hc : greyF r g b = true := ‹(Float64.cmp (min3F r g b) (max3F r g b) == some .eq) = true›
      repeat' walk1
      all_goals (have N9 := ‹News s.heap _ _ _›; refine e (N9.get (.head _)) ?_ rfl ?_ (Fr.keep (by assumption)) (N9.fresh (.head _)) <;> simp [hue1, sat2, hc])
    · have hc : greyF r g b = false := ‹(Float64.cmp (min3F r g b) (max3F r g b) == some .eq) = false›
      obtain ⟨z1, z2, z4⟩ := hz hc
      clear hz
      have z3 : Float64.isZero (Float64.sub (max3F r g b) (min3F r g b)) = false := z4
      iterate 2 walk1
      rename Fr _ _ _ _ => F8
      rename News _ _ _ _ => N8
      refine wpAny_mono (Q := fun f s' => Shut (f = .next ∧ ∃ h' tk x u, s' = { s with heap := h', toks := tk } ∧ x = sat2 r g b ∧ Fr s.heap s.heap.objs.size h' (fun y => if y = Str.ofString "s" then some (.float x u) else mapOf F8 y))) ?_ (fun f s' h => ?_) (fun _ _ h => h)
      · repeat' walk1
        · exact ⟨rfl, _, _, _, _, rfl, sat2_a hc (by assumption), ‹Fr _ _ _ _›⟩
        · exact ⟨rfl, _, _, _, _, rfl, sat2_b hc (by assumption), ‹Fr _ _ _ _›⟩
      obtain ⟨rfl, h9, tk9, x, u, rfl, hx, F9⟩ := h
      have N9 : News s.heap s.heap.objs.size h9 [] := News.nil
      dsimp only [mapOf] at F9 ⊢
      clear F8 N8
      repeat' walk1
      all_goals (have N9 := ‹News s.heap _ _ _›; refine e (N9.get (.head _)) ?_ rfl ?_ (Fr.keep (by assumption)) (N9.fresh (.head _)) <;> first | exact hx | exact hue1_a hc (by assumption) | exact hue1_b hc (by assumption) (by assumption) | exact hue1_c hc (by assumption) (by assumption))
end
section
/-- a component cut at c on the side o -/
noncomputable def cutF (r c : UInt64) (o : Ordering) : UInt64 := if (Float64.cmp r c == some o) = true then c else r
section
variable {prog : Program} {w : World} {A : Around} {E : Value → Shared → Prop} {s : Shared} {Q : Flow → Shared → Prop} {h₀ : Heap} {L a : Addr} {m : Str → Option Value} {news : List (Addr × Obj)} {name : Str} {scope : Scope} {cd : Value}
theorem cut_lt {x : Str} {r c : UInt64} {t : Tok} {p1 p2 p3 p4 p5 p6 p7 : Pos} (F : Fr h₀ L s.heap m) (N : News h₀ L s.heap news) (hv : m x = some (.float r t))
    (h : ∀ h' tk u, Fr h₀ L h' (fun y => if y = x then some (.float (cutF r c .lt) u) else m y) → News h₀ L h' news → Q .next { s with heap := h', toks := tk })
    (hk : scope.kind = .function) (hl : (envOf name scope L a cd).kindOf x = some .local) (hd : (x == ("__debug__" : Str)) = false) :
    wpAny (model prog w) A (exec (.If (.Compare (.Name x p1) [.Lt] [.Constant (.float c) 0 p2] p3) [.Assign [.Name x p4] (.Constant (.float c) 0 p5) p6] [] p7) (envOf name scope L a cd)) Q E s := by
  refine wpAny_If (wpAny_isTrue_Compare1 (ld F hv (AutoFloatOps.wpAny_Constant_float (AutoFloatOps.lt_0 (wpAny_truthy_bool ?_))) hk hl hd))
  cases hc : (Float64.cmp r c == some Ordering.lt) with
  | true =>
    rw [if_pos rfl]
    refine wpAny_execs_cons (wpAny_Assign_Name (AutoFloatOps.wpAny_Constant_float (stN F N (fun h' F' N' => ?_) hk hl)))
    have e : cutF r c .lt = c := by unfold cutF; rw [hc, if_pos rfl]
    rw [e] at h
    exact wpAny_execs_nil (h _ _ _ F' N')
  | false =>
    rw [if_neg Bool.false_ne_true]
    refine wpAny_execs_nil (h s.heap _ t ?_ N)
    have e : (fun y => if y = x then some (Value.float (cutF r c .lt) t) else m y) = m := by
      funext y; unfold cutF; rw [hc, if_neg Bool.false_ne_true]; split
      · rename_i e; rw [e, hv]
      · rfl
    rw [e]; exact F
theorem cut_gt {x : Str} {r c : UInt64} {t : Tok} {p1 p2 p3 p4 p5 p6 p7 : Pos} (F : Fr h₀ L s.heap m) (N : News h₀ L s.heap news) (hv : m x = some (.float r t))
    (h : ∀ h' tk u, Fr h₀ L h' (fun y => if y = x then some (.float (cutF r c .gt) u) else m y) → News h₀ L h' news → Q .next { s with heap := h', toks := tk })
    (hk : scope.kind = .function) (hl : (envOf name scope L a cd).kindOf x = some .local) (hd : (x == ("__debug__" : Str)) = false) :
    wpAny (model prog w) A (exec (.If (.Compare (.Name x p1) [.Gt] [.Constant (.float c) 0 p2] p3) [.Assign [.Name x p4] (.Constant (.float c) 0 p5) p6] [] p7) (envOf name scope L a cd)) Q E s := by
  refine wpAny_If (wpAny_isTrue_Compare1 (ld F hv (AutoFloatOps.wpAny_Constant_float (AutoFloatOps.gt_0 (wpAny_truthy_bool ?_))) hk hl hd))
  cases hc : (Float64.cmp r c == some Ordering.gt) with
  | true =>
    rw [if_pos rfl]
    refine wpAny_execs_cons (wpAny_Assign_Name (AutoFloatOps.wpAny_Constant_float (stN F N (fun h' F' N' => ?_) hk hl)))
    have e : cutF r c .gt = c := by unfold cutF; rw [hc, if_pos rfl]
    rw [e] at h
    exact wpAny_execs_nil (h _ _ _ F' N')
  | false =>
    rw [if_neg Bool.false_ne_true]
    refine wpAny_execs_nil (h s.heap _ t ?_ N)
    have e : (fun y => if y = x then some (Value.float (cutF r c .gt) t) else m y) = m := by
      funext y; unfold cutF; rw [hc, if_neg Bool.false_ne_true]; split
      · rename_i e; rw [e, hv]
      · rfl
    rw [e]; exact F
end
local macro_rules | `(tactic| walk_at "exec If") => `(tactic| ((rename News _ _ _ _ => N'); (rename Fr _ _ _ _ => F'); (first | refine cut_lt F' N' rfl ?_ rfl rfl (by decide) | refine cut_gt F' N' rfl ?_ rfl rfl (by decide)); clear F' N'; intro h' tk' u' F' N'; (try dsimp only)))
/-- yiq_to_rgb's three -/
noncomputable def cutsF (x : UInt64) : UInt64 := cutF (cutF x 0 .lt) 4607182418800017408 .gt
noncomputable def rF (y i q : UInt64) : UInt64 := cutsF (Float64.add (Float64.add y (Float64.mul 4606703976345377586 i)) (Float64.mul 4603791717925830846 q))
noncomputable def gF (y i q : UInt64) : UInt64 := cutsF (Float64.sub (Float64.sub y (Float64.mul 4598621754083818298 i)) (Float64.mul 4603901015759978483 q))
noncomputable def bF (y i q : UInt64) : UInt64 := cutsF (Float64.add (Float64.sub y (Float64.mul 4607671262177584182 i)) (Float64.mul 4610375502138591871 q))
set_option maxHeartbeats 8000000 in
theorem rgb_call {w : World} {dp un : Nat} {fr : Option (List Env)} {gd : Option (List Code)} {s : Shared} {R : Result → Shared → Prop} (G : Gr w s.heap) (hroom : dp < recursionLimit)
   (y i q : UInt64) (t1 t2 t3 : Tok) (hR : ∀ a h' tk u1 u2 u3, Keep s.heap h' → s.heap.get? a = none → h'.get? a = some (tupO [.float (rF y i q) u1, .float (gF y i q) u2, .float (bF y i q) u3]) → R (.ok (.ret (.ref a))) { s with heap := h', toks := tk }) :
   codeAny (model prg w) (Ar dp un fr gd) (.call (.ref 28) ⟨[.float y t1, .float i t2, .float q t3], []⟩) R s := by
  refine call_pos_ret hroom (G.X 28 _ rfl) rfl G.lim (codeRec_of G.X (by rfl)) (by rfl) (locs (by rfl)) ?h
  case h =>
    w_top on
    obtain ⟨KX, mean, mg, mb, T⟩ := G
    intro h₁ F
    have N : News s.heap s.heap.objs.size h₁ [] := News.nil
    repeat' walk1
    exact hR _ _ _ _ _ _ (Fr.keep (by assumption)) (News.fresh (by assumption) (.head _)) (News.get (by assumption) (.head _))
end
section
theorem ite_ite_same (x : Str) (a b : Option Value) (f : Str → Option Value) : (fun y => if y = x then a else if y = x then b else f y) = fun y => if y = x then a else f y := by
  funext y; by_cases h : y = x <;> simp [h]
theorem mem_all {α : Type} {p : α → Prop} {x : α} {xs : List α} (h1 : p x) (h2 : ∀ q ∈ xs, p q) : ∀ q ∈ x :: xs, p q := fun q hq => (List.mem_cons.mp hq).elim (fun e => e ▸ h1) (h2 q)
theorem news_of {h₀ h : Heap} {L : Addr} {x : Addr × Obj} {xs : List (Addr × Obj)} (h1 : h.get? x.1 = some x.2 ∧ x.1 ≠ L ∧ h₀.get? x.1 = none) (h2 : News h₀ L h xs) : News h₀ L h (x :: xs) := mem_all h1 h2
/-- a turn's end behind a name of its own (else it is laid out anew at every step) -/
theorem hide_turn {M : Model} {A : Around} {env : Env} {x : Str} {v : Value} {body : List Stmt} {s : Shared} {E : Value → Shared → Prop} {E' : Value → Shared → Prop} {Q : Flow → Shared → Prop}
    (h : ∀ Q0 : Flow → Shared → Prop, (∀ f s, Q f s → Q0 f s) → wpAny M A (storeName env x v) (fun _ s₂ => wpAny M A (execs body env) Q0 E s₂) E' s) : wpAny M A (storeName env x v) (fun _ s₂ => wpAny M A (execs body env) Q E s₂) E' s := h Q fun _ _ x => x
theorem hide_end {M : Model} {A : Around} {α : Type} {t : Sem α} {s : Shared} {E : Value → Shared → Prop} {Q : α → Shared → Prop}
    (h : ∀ Q0 : α → Shared → Prop, (∀ f s, Q f s → Q0 f s) → wpAny M A t Q0 E s) : wpAny M A t Q E s := h Q fun _ _ x => x
section
variable {prog : Program} {w : World} {A : Around} {env : Env} {R : Result → Shared → Prop} {s : Shared} {h₀ : Heap} {L : Addr}
/-- a for over an iterator of the call's own, its turns told by the frame's map and the ledger -/
theorem loop_walks_t {x : Str} {px : Pos} {body : List Stmt} {It : Addr} {fp : List Addr} {n : Nat} {P : Nat → Value → Prop} {St : Nat → Heap → Prop} (W : Walks prog w A It fp [It] n P St)
    {D : Type} (mf : Nat → D → Str → Option Value) (nf : Nat → D → List (Addr × Obj)) (ok : Nat → D → Prop) (gk : Array GenState → Prop) (T0 : Nat) (hT0 : T0 ≤ s.toks)
    (hIt : h₀.get? It = none) (hItL : It ≠ L) (live : ∀ i h, St i h → ∃ o, h.get? It = some o)
    (hfp : ∀ b ∈ fp, b ≠ It → (∃ o, h₀.get? b = some o) ∨ ∃ o, ∀ j d, ok j d → (b, o) ∈ nf j d)
    (hne : ∀ j d, ok j d → ∀ q ∈ nf j d, q.1 ≠ It)
    (turn : ∀ i d v h g tk o, T0 ≤ tk → i < n → P i v → ok i d → gk g → Fr h₀ L h (mf i d) → News h₀ L h ((It, o) :: nf i d) →
      wpAny (model prog w) A (storeName env x v) (fun _ s₂ => wpAny (model prog w) A (execs body env) (fun f s₃ => match f with
        | .next | .cont => Shut (∃ d' h' g' tk', s₃ = { s with heap := h', gens := g', toks := tk' } ∧ ok (i + 1) d' ∧ gk g' ∧ Fr h₀ L h' (mf (i + 1) d') ∧ News h₀ L h' ((It, o) :: nf (i + 1) d'))
        | .brk => R (.ok .next) s₃
        | .ret u => R (.ok (.ret u)) s₃) (fun _ _ => False) s₂) (fun _ _ => False) { s with heap := h, gens := g, toks := tk })
    (fin : ∀ d h g tk, ok n d → gk g → Fr h₀ L h (mf n d) → News h₀ L h (nf n d) → R (.ok .next) { s with heap := h, gens := g, toks := tk })
    (d : D) (h0 : ok 0 d) (hg : gk s.gens) (F : Fr h₀ L s.heap (mf 0 d)) (N : News h₀ L s.heap (nf 0 d)) (hst : St 0 s.heap) :
    codeAny (model prog w) A (.forLoop (.Name x px) (.ref It) body [] env) R s := by
  refine codeAny_forLoop_any (fun k s' => ∃ i d h g tk, s' = { s with heap := h, gens := g, toks := tk } ∧ T0 ≤ tk ∧ k = n + 1 - i ∧ i ≤ n ∧ St i h ∧ ok i d ∧ gk g ∧ Fr h₀ L h (mf i d) ∧ News h₀ L h (nf i d)) ?_ (n + 1)
    ⟨0, d, s.heap, s.gens, s.toks, rfl, hT0, rfl, Nat.zero_le _, hst, h0, hg, F, N⟩
  rintro k s' ⟨i, d, h, g, tk, rfl, hT, rfl, hi, hst, hok, hgk, F, N⟩
  have up : ∀ h', (∀ b o, b ∉ [It] → h.get? b = some o → h'.get? b = some o) → Fr h₀ L h' (mf i d) ∧ News h₀ L h' (nf i d) := fun h' hk => by
    refine ⟨⟨F.ns.at' fun o e => hk L o (by simpa using Ne.symm hItL) e, fun b o e => hk b o (fun q => ?_) (F.keep b o e), F.above⟩, fun q hq => ⟨hk _ _ (by simpa using hne i d hok q hq) (N q hq).1, (N q hq).2⟩⟩
    simp only [List.mem_cons, List.not_mem_nil, or_false] at q
    subst q; rw [hIt] at e; cases e
  by_cases hlt : i < n
  · refine wpAny_toks (n := T0) hT (W.item i _ _ _ hlt hst fun v h₁ tk₁ hP hst₁ hk₁ hT1 => ?_)
    obtain ⟨F₁, N₁⟩ := up h₁ hk₁
    obtain ⟨o, ho⟩ := live _ _ hst₁
    refine wpAny_of_eq (rfl : letOwnedTupleGo (.Name x px) (.ref It) v = pure ()) ?_
    refine wpAny_assign_Name (wpAny_toks (n := T0) hT1 (wpAny_mono (turn i d v h₁ g tk₁ o hT1 hlt hP hok hgk F₁ (fun q hq => ?_)) (fun _ s₂ h₂ hT2 => wpAny_toks (n := T0) hT2 (wpAny_mono h₂ (fun f s₃ h₃ hT3 => ?_) fun _ _ f => f.elim)) fun _ _ f => f.elim))
    · rcases List.mem_cons.mp hq with rfl | hq
      · exact ⟨ho, hItL, hIt⟩
      · exact N₁ q hq
    · have go : (∃ d' h' g' tk', s₃ = { s with heap := h', gens := g', toks := tk' } ∧ ok (i + 1) d' ∧ gk g' ∧ Fr h₀ L h' (mf (i + 1) d') ∧ News h₀ L h' ((It, o) :: nf (i + 1) d')) →
          ∃ m, m < n + 1 - i ∧ ∃ i d h g tk, s₃ = { s with heap := h, gens := g, toks := tk } ∧ T0 ≤ tk ∧ m = n + 1 - i ∧ i ≤ n ∧ St i h ∧ ok i d ∧ gk g ∧ Fr h₀ L h (mf i d) ∧ News h₀ L h (nf i d) := by
        rintro ⟨d', h', g', tk', rfl, hok', hgk', F', N'⟩
        refine ⟨n + 1 - (i + 1), by omega, i + 1, d', h', g', tk', rfl, hT3, rfl, by omega, ?_, hok', hgk', F', fun q hq => N' q (List.mem_cons_of_mem _ hq)⟩
        refine W.frame _ _ _ hst₁ fun b hb o' e => ?_
        by_cases hbI : b = It
        · subst hbI
          rw [ho] at e; cases e
          exact N'.get (.head _)
        · rcases hfp b hb hbI with ⟨o'', e''⟩ | ⟨o'', m''⟩
          · have := F₁.keep b o'' e''
            rw [e] at this; cases this
            exact F'.keep b _ e''
          · have := N₁.get (m'' i d hok)
            rw [e] at this; cases this
            exact N'.get (List.mem_cons_of_mem _ (m'' _ _ hok'))
      cases f with
      | next => exact go h₃
      | cont => exact go h₃
      | brk => exact h₃
      | ret u => exact h₃
  · have hin : i = n := by omega
    subst hin
    refine W.done _ _ _ hst fun h₁ tk₁ hk₁ => wpAny_execs_nil ?_
    obtain ⟨F₁, N₁⟩ := up h₁ hk₁
    exact fin d h₁ g tk₁ hok hgk F₁ N₁
end
section
variable {prog : Program} {w : World} {A : Around} {env : Env} {R : Result → Shared → Prop} {s : Shared} {h₀ : Heap} {L : Addr}
/-- a for over an iterator of the call's own, its turns told by the frame's map and the ledger -/
theorem loop_walks {x : Str} {px : Pos} {body : List Stmt} {It : Addr} {fp : List Addr} {n : Nat} {P : Nat → Value → Prop} {St : Nat → Heap → Prop} (W : Walks prog w A It fp [It] n P St)
    {D : Type} (mf : Nat → D → Str → Option Value) (nf : Nat → D → List (Addr × Obj)) (ok : Nat → D → Prop) (gk : Array GenState → Prop)
    (hIt : h₀.get? It = none) (hItL : It ≠ L) (live : ∀ i h, St i h → ∃ o, h.get? It = some o)
    (hfp : ∀ b ∈ fp, b ≠ It → (∃ o, h₀.get? b = some o) ∨ ∃ o, ∀ j d, ok j d → (b, o) ∈ nf j d)
    (hne : ∀ j d, ok j d → ∀ q ∈ nf j d, q.1 ≠ It)
    (turn : ∀ i d v h g tk o, i < n → P i v → ok i d → gk g → Fr h₀ L h (mf i d) → News h₀ L h ((It, o) :: nf i d) →
      wpAny (model prog w) A (storeName env x v) (fun _ s₂ => wpAny (model prog w) A (execs body env) (fun f s₃ => match f with
        | .next | .cont => Shut (∃ d' h' g' tk', s₃ = { s with heap := h', gens := g', toks := tk' } ∧ ok (i + 1) d' ∧ gk g' ∧ Fr h₀ L h' (mf (i + 1) d') ∧ News h₀ L h' ((It, o) :: nf (i + 1) d'))
        | .brk => R (.ok .next) s₃
        | .ret u => R (.ok (.ret u)) s₃) (fun _ _ => False) s₂) (fun _ _ => False) { s with heap := h, gens := g, toks := tk })
    (fin : ∀ d h g tk, ok n d → gk g → Fr h₀ L h (mf n d) → News h₀ L h (nf n d) → R (.ok .next) { s with heap := h, gens := g, toks := tk })
    (d : D) (h0 : ok 0 d) (hg : gk s.gens) (F : Fr h₀ L s.heap (mf 0 d)) (N : News h₀ L s.heap (nf 0 d)) (hst : St 0 s.heap) :
    codeAny (model prog w) A (.forLoop (.Name x px) (.ref It) body [] env) R s :=
  loop_walks_t W mf nf ok gk 0 (Nat.zero_le _) hIt hItL live hfp hne (fun i d v h g tk o _ => turn i d v h g tk o) fin d h0 hg F N hst
end
end
section
/-- a name of the globals or of the builtins, in a function's own scope -/
noncomputable abbrev NmOk (env : Env) (x : Str) : Prop := env.scope.kind = .function ∧ env.kindOf x = some .globalImplicit ∧ env.globals = mainGlobals ∧ env.builtins = builtinsNs
section
variable {w : World} {A : Around} {E : Value → Shared → Prop} {s : Shared} {env : Env} {x : Str} {pos : Pos} {v : Value} {Q : Value → Shared → Prop}
theorem nm_fn (G : Gr w s.heap) (e : nsIn (heapK w.params) mainGlobals x = some (some v)) (h : Q v s) (hk : env.scope.kind = .function) (hx : env.kindOf x = some .globalImplicit) (hg : env.globals = mainGlobals)
    (hd : (x == ("__debug__" : Str)) = false) : wpAny (model prg w) A (eval (.Name x pos) env) Q E s := by
  obtain ⟨X, _, mg, mb, T⟩ := G
  exact Calls.Name_function_global hk hx (Calls.loadGlobal_global (env := env) (hg ▸ T.g) (mg_of X T.g e) h) hd
theorem nm_bi (G : Gr w s.heap) (e : nsIn (heapK w.params) mainGlobals x = some none) (hv : bootBuiltins x = some v) (hn : x ≠ "__name__") (h : Q v s) (hk : env.scope.kind = .function) (hx : env.kindOf x = some .globalImplicit)
    (hg : env.globals = mainGlobals) (hb : env.builtins = builtinsNs) (hd : (x == ("__debug__" : Str)) = false) : wpAny (model prg w) A (eval (.Name x pos) env) Q E s := by
  obtain ⟨X, _, mg, mb, T⟩ := G
  exact Calls.Name_function_global hk hx (Calls.loadGlobal_builtin (env := env) (hg ▸ T.g) (mg_none_of X T.g e) (hb ▸ T.b) ((T.builtins x hn).trans hv) h) hd
theorem nm_local {m : Str → Option Value} (hn : s.heap.Ns env.locals m) (hv : m x = some v) (h : Q v s) (hk : env.scope.kind = .function) (hx : env.kindOf x = some .local) (hd : (x == ("__debug__" : Str)) = false) :
    wpAny (model prg w) A (eval (.Name x pos) env) Q E s := wpAny_Name (wpAny_loadName_local hk hx hn hv h) hd
theorem nm_cell {c : Addr} (hc : s.heap.IsCell c (some v)) (h : Q v s) (hk : env.scope.kind = .function) (hx : env.kindOf x = some .cell) (hl : env.cells.lookup x = some c) (hd : (x == ("__debug__" : Str)) = false) :
    wpAny (model prg w) A (eval (.Name x pos) env) Q E s := wpAny_Name (wpAny_loadName_cell hk hx hl hc h) hd
theorem nmB_len (G : Gr w s.heap) (h : Q (.builtin "len") s) (hs : NmOk env (Str.ofString "len")) :
    wpAny (model prg w) A (eval (.Name (Str.ofString "len") pos) env) Q E s := nm_bi G (by rfl) (by decide +kernel) (by decide) h hs.1 hs.2.1 hs.2.2.1 hs.2.2.2 (by decide)
theorem nmB_range (G : Gr w s.heap) (h : Q (.type "range") s) (hs : NmOk env (Str.ofString "range")) :
    wpAny (model prg w) A (eval (.Name (Str.ofString "range") pos) env) Q E s := nm_bi G (by rfl) (by decide +kernel) (by decide) h hs.1 hs.2.1 hs.2.2.1 hs.2.2.2 (by decide)
theorem nmB_min (G : Gr w s.heap) (h : Q (.builtin "min") s) (hs : NmOk env (Str.ofString "min")) :
    wpAny (model prg w) A (eval (.Name (Str.ofString "min") pos) env) Q E s := nm_bi G (by rfl) (by decide +kernel) (by decide) h hs.1 hs.2.1 hs.2.2.1 hs.2.2.2 (by decide)
theorem nmB_max (G : Gr w s.heap) (h : Q (.builtin "max") s) (hs : NmOk env (Str.ofString "max")) :
    wpAny (model prg w) A (eval (.Name (Str.ofString "max") pos) env) Q E s := nm_bi G (by rfl) (by decide +kernel) (by decide) h hs.1 hs.2.1 hs.2.2.1 hs.2.2.2 (by decide)
theorem nmB_sum (G : Gr w s.heap) (h : Q (.builtin "sum") s) (hs : NmOk env (Str.ofString "sum")) :
    wpAny (model prg w) A (eval (.Name (Str.ofString "sum") pos) env) Q E s := nm_bi G (by rfl) (by decide +kernel) (by decide) h hs.1 hs.2.1 hs.2.2.1 hs.2.2.2 (by decide)
theorem nmB_list (G : Gr w s.heap) (h : Q (.type "list") s) (hs : NmOk env (Str.ofString "list")) :
    wpAny (model prg w) A (eval (.Name (Str.ofString "list") pos) env) Q E s := nm_bi G (by rfl) (by decide +kernel) (by decide) h hs.1 hs.2.1 hs.2.2.1 hs.2.2.2 (by decide)
theorem nmB_int (G : Gr w s.heap) (h : Q (.type "int") s) (hs : NmOk env (Str.ofString "int")) :
    wpAny (model prg w) A (eval (.Name (Str.ofString "int") pos) env) Q E s := nm_bi G (by rfl) (by decide +kernel) (by decide) h hs.1 hs.2.1 hs.2.2.1 hs.2.2.2 (by decide)
theorem nmB_enumerate (G : Gr w s.heap) (h : Q (.type "enumerate") s) (hs : NmOk env (Str.ofString "enumerate")) :
    wpAny (model prg w) A (eval (.Name (Str.ofString "enumerate") pos) env) Q E s := nm_bi G (by rfl) (by decide +kernel) (by decide) h hs.1 hs.2.1 hs.2.2.1 hs.2.2.2 (by decide)
theorem nmFrgb_to_yiq (G : Gr w s.heap) (h : Q (.ref 21) s) (hs : NmOk env (Str.ofString "rgb_to_yiq")) :
    wpAny (model prg w) A (eval (.Name (Str.ofString "rgb_to_yiq") pos) env) Q E s := nm_fn G (by rfl) h hs.1 hs.2.1 hs.2.2.1 (by decide)
theorem nmFyiq_to_rgb (G : Gr w s.heap) (h : Q (.ref 28) s) (hs : NmOk env (Str.ofString "yiq_to_rgb")) :
    wpAny (model prg w) A (eval (.Name (Str.ofString "yiq_to_rgb") pos) env) Q E s := nm_fn G (by rfl) h hs.1 hs.2.1 hs.2.2.1 (by decide)
theorem nmFrgb_to_hls (G : Gr w s.heap) (h : Q (.ref 35) s) (hs : NmOk env (Str.ofString "rgb_to_hls")) :
    wpAny (model prg w) A (eval (.Name (Str.ofString "rgb_to_hls") pos) env) Q E s := nm_fn G (by rfl) h hs.1 hs.2.1 hs.2.2.1 (by decide)
theorem nmFrgb_to_hsv (G : Gr w s.heap) (h : Q (.ref 42) s) (hs : NmOk env (Str.ofString "rgb_to_hsv")) :
    wpAny (model prg w) A (eval (.Name (Str.ofString "rgb_to_hsv") pos) env) Q E s := nm_fn G (by rfl) h hs.1 hs.2.1 hs.2.2.1 (by decide)
theorem nmF_iter_escaped_chars (G : Gr w s.heap) (h : Q (.ref 49) s) (hs : NmOk env (Str.ofString "_iter_escaped_chars")) :
    wpAny (model prg w) A (eval (.Name (Str.ofString "_iter_escaped_chars") pos) env) Q E s := nm_fn G (by rfl) h hs.1 hs.2.1 hs.2.2.1 (by decide)
theorem nmF_strip_quoted_realnames (G : Gr w s.heap) (h : Q (.ref 56) s) (hs : NmOk env (Str.ofString "_strip_quoted_realnames")) :
    wpAny (model prg w) A (eval (.Name (Str.ofString "_strip_quoted_realnames") pos) env) Q E s := nm_fn G (by rfl) h hs.1 hs.2.1 hs.2.2.1 (by decide)
theorem nmF_check_parenthesis (G : Gr w s.heap) (h : Q (.ref 63) s) (hs : NmOk env (Str.ofString "_check_parenthesis")) :
    wpAny (model prg w) A (eval (.Name (Str.ofString "_check_parenthesis") pos) env) Q E s := nm_fn G (by rfl) h hs.1 hs.2.1 hs.2.2.1 (by decide)
theorem nmF_pre_parse_validation (G : Gr w s.heap) (h : Q (.ref 70) s) (hs : NmOk env (Str.ofString "_pre_parse_validation")) :
    wpAny (model prg w) A (eval (.Name (Str.ofString "_pre_parse_validation") pos) env) Q E s := nm_fn G (by rfl) h hs.1 hs.2.1 hs.2.2.1 (by decide)
theorem nmF_law_piece (G : Gr w s.heap) (h : Q (.ref 77) s) (hs : NmOk env (Str.ofString "_law_piece")) :
    wpAny (model prg w) A (eval (.Name (Str.ofString "_law_piece") pos) env) Q E s := nm_fn G (by rfl) h hs.1 hs.2.1 hs.2.2.1 (by decide)
theorem nmF_law_turned (G : Gr w s.heap) (h : Q (.ref 82) s) (hs : NmOk env (Str.ofString "_law_turned")) :
    wpAny (model prg w) A (eval (.Name (Str.ofString "_law_turned") pos) env) Q E s := nm_fn G (by rfl) h hs.1 hs.2.1 hs.2.2.1 (by decide)
theorem nmF_law_levels (G : Gr w s.heap) (h : Q (.ref 87) s) (hs : NmOk env (Str.ofString "_law_levels")) :
    wpAny (model prg w) A (eval (.Name (Str.ofString "_law_levels") pos) env) Q E s := nm_fn G (by rfl) h hs.1 hs.2.1 hs.2.2.1 (by decide)
theorem nmF_law_lines_hold (G : Gr w s.heap) (h : Q (.ref 92) s) (hs : NmOk env (Str.ofString "_law_lines_hold")) :
    wpAny (model prg w) A (eval (.Name (Str.ofString "_law_lines_hold") pos) env) Q E s := nm_fn G (by rfl) h hs.1 hs.2.1 hs.2.2.1 (by decide)
theorem nmF_law_walk (G : Gr w s.heap) (h : Q (.ref 97) s) (hs : NmOk env (Str.ofString "_law_walk")) :
    wpAny (model prg w) A (eval (.Name (Str.ofString "_law_walk") pos) env) Q E s := nm_fn G (by rfl) h hs.1 hs.2.1 hs.2.2.1 (by decide)
theorem callWith_G {hX : Heap} {f : Value} {first : List Value} {e : Expr} {rest : List Expr} (G : Gr w hX) (hk : keepIn (heapK w.params) f = true)
    (h : wpAny (model prg w) A (spliced (backTo pos (starEach (e :: rest) env))) (fun vs s₁ => Gr w s₁.heap ∧ wpAny (model prg w) A (call f (first ++ vs)) Q E s₁) E s)
    (he : starEach (e :: rest) env = (false, eval e env) :: starEach rest env) (hplain : (backTo pos (starEach rest env)).any (·.1) = false) :
    wpAny (model prg w) A (callWith pos f first (backTo pos (starEach (e :: rest) env)) []) Q E s :=
  callWith_K G.X hk (wpAny_mono h (fun _ _ h' => ⟨h'.1.X, h'.2⟩) fun _ _ e => e) he hplain
end
section
variable {prog : Program} {w : World} {A : Around} {env : Env} {s₂ : Shared} {h₀ : Heap} {L : Addr} {m : Str → Option Value} {news : List (Addr × Obj)}
theorem comp_fin {Q : Value → Shared → Prop} {elt : Expr} {x : Str} {ifs : List Expr} {scope : Scope} {cl : List (Str × Addr)} {p : Value → Bool} {Fy : Value → Value → Prop}
    {I : Addr} {fp : List Addr} {n : Nat} {P : Nat → Value → Prop} {St : Nat → Heap → Prop} (Wk : Walks prog w A I fp [I] n P St) (hn : n ≤ sizeLine) (hst : St 0 s₂.heap) (hfp : ∀ b ∈ fp, b < s₂.heap.objs.size)
    (hq : QuietOnC prog w A env scope cl x ifs elt [I] P p Fy s₂) (F : Fr h₀ L s₂.heap m) (N : News h₀ L s₂.heap news) (hI0 : h₀.get? I = none) (hIL : I ≠ L) (hIn : ∀ q ∈ news, q.1 ≠ I)
    (hQ : ∀ D h' tk ys e (vs : List Value), Fr h₀ L h' m → News h₀ L h' ((D, PySem.W.listOf ys e) :: news) → (∀ q ∈ news, q.1 ≠ D) → vs.length = n → (∀ j v, vs[j]? = some v → P j v) → Paired Fy (vs.filter p) ys.toList →
      Q (.ref D) { s₂ with heap := h', toks := tk }) :
    ∃ I' fp wr n P St, Value.ref I = .ref I' ∧ Walks prog w A I' fp wr n P St ∧ n ≤ sizeLine ∧ St 0 s₂.heap ∧ (∀ b ∈ fp, b < s₂.heap.objs.size) ∧
      QuietOnC prog w A env scope cl x ifs elt wr P p Fy s₂ ∧
      (∀ D h' tk ys (vs : List Value), s₂.heap.get? D = none → h'.IsList D ys → h'.PlainList D ys → vs.length = n → (∀ j v, vs[j]? = some v → P j v) → Paired Fy (vs.filter p) ys.toList →
        (∀ b o, b ∉ wr → s₂.heap.get? b = some o → h'.get? b = some o) → Q (.ref D) { s₂ with heap := h', toks := tk }) := by
  refine ⟨I, fp, [I], n, P, St, rfl, Wk, hn, hst, hfp, hq, fun D h' tk ys vs hD _ hpl hlen hP hF hk => ?_⟩
  obtain ⟨e, he⟩ := hpl
  have ne : ∀ q ∈ news, q.1 ≠ D := fun q hq e => by have := (N q hq).1; rw [e, hD] at this; cases this
  refine hQ D h' tk ys e vs ⟨F.ns.at' fun o e => hk L o (by simpa using Ne.symm hIL) e, fun b o e => hk b o (fun q => ?_) (F.keep b o e), F.above⟩ (fun q hq => ?_) ne hlen hP hF
  · simp only [List.mem_cons, List.not_mem_nil, or_false] at q
    subst q; rw [hI0] at e; cases e
  · rcases List.mem_cons.mp hq with rfl | hq
    · refine ⟨he, fun q => ?_, ?_⟩
      · obtain ⟨o, _, _, ho, _⟩ := F.ns
        rw [← q, hD] at ho; cases ho
      · cases e' : h₀.get? D with
        | none => rfl
        | some o => have := F.keep D o e'; rw [hD] at this; cases this
    · exact ⟨hk _ _ (by simpa using hIn q hq) (N q hq).1, (N q hq).2⟩
end
end
section
section
variable {prog : Program} {w : World} {A : Around} {E : Value → Shared → Prop} {env : Env} {s : Shared} {h₀ : Heap} {L : Addr} {m : Str → Option Value} {news : List (Addr × Obj)}
  {Q : Value → Shared → Prop} {elt : Expr} {x : Str} {ifs : List Expr} {scope : Scope} {cl : List (Str × Addr)} {p : Value → Bool} {Fy : Value → Value → Prop}
/-- what a comprehension's element and tests do, from any state that keeps h -/
structure Quiet (prog : Program) (w : World) (A : Around) (env : Env) (scope : Scope) (cl : List (Str × Addr)) (x : Str) (ifs : List Expr) (elt : Expr) (P : Nat → Value → Prop) (p : Value → Bool) (Fy : Value → Value → Prop) (h : Heap) : Prop where
  tests : ∀ C i v (s₃ : Shared) m₃ E', P i v → Fr h C s₃.heap m₃ → m₃ x = some v →
    wpAny (model prog w) A (forIn ifs true fun c r => if r = true then do let ok ← isTrue c (compEnvC scope cl C env) (eval c (compEnvC scope cl C env)); pure (ForInStep.yield ok) else pure (ForInStep.yield r))
      (fun ok s₄ => Shut (ok = p v ∧ Keeps s₃ s₄)) E' s₃
  elt : ∀ C i v (s₃ : Shared) m₃ E', P i v → p v = true → Fr h C s₃.heap m₃ → m₃ x = some v →
    wpAny (model prog w) A (eval elt (compEnvC scope cl C env)) (fun y s₄ => Shut (Fy v y ∧ Keeps s₃ s₄)) E' s₃
theorem tests0 {s₃ : Shared} {E' : Value → Shared → Prop} {cenv : Env} {b : Bool} (h : b = true) :
    wpAny (model prog w) A (forIn ([] : List Expr) true fun c r => if r = true then do let ok ← isTrue c cenv (eval c cenv); pure (ForInStep.yield ok) else pure (ForInStep.yield r)) (fun ok s₄ => Shut (ok = b ∧ Keeps s₃ s₄)) E' s₃ := by
  subst h; exact wpAny_pure ⟨rfl, s₃.heap, s₃.toks, rfl, fun _ _ e => e⟩
theorem tests1 {s₃ : Shared} {E' : Value → Shared → Prop} {cenv : Env} {c : Expr} {b : Bool} (h : wpAny (model prog w) A (isTrue c cenv (eval c cenv)) (fun ok s₄ => Shut (ok = b ∧ Keeps s₃ s₄)) E' s₃) :
    wpAny (model prog w) A (forIn [c] true fun c r => if r = true then do let ok ← isTrue c cenv (eval c cenv); pure (ForInStep.yield ok) else pure (ForInStep.yield r)) (fun ok s₄ => Shut (ok = b ∧ Keeps s₃ s₄)) E' s₃ := by
  rw [List.forIn_cons]
  refine wpAny_bind ?_
  rw [if_pos rfl]
  refine wpAny_bind (wpAny_mono h (fun ok s₄ h' => wpAny_pure ?_) fun _ _ e => e)
  exact wpAny_pure h'
theorem Quiet.on {P : Nat → Value → Prop} {o : Obj} (q : Quiet prog w A env scope cl x ifs elt P p Fy s.heap) : QuietOnC prog w A env scope cl x ifs elt [s.heap.objs.size] P p Fy { s with heap := s.heap.push o } where
  tests := fun C i v s₃ m₃ E' hC hP hn hm hk _ => q.tests C i v s₃ m₃ E' hP ⟨hn, fun b o e => hk b o (by simpa using Nat.ne_of_lt (Heap.lt_size e)) (Heap.get?_push_of_some _ e), by rw [Heap.size_push] at hC; exact Nat.le_of_succ_le hC⟩ hm
  elt := fun C i v s₃ m₃ E' hC hP hp hn hm hk _ => q.elt C i v s₃ m₃ E' hP hp ⟨hn, fun b o e => hk b o (by simpa using Nat.ne_of_lt (Heap.lt_size e)) (Heap.get?_push_of_some _ e), by rw [Heap.size_push] at hC; exact Nat.le_of_succ_le hC⟩ hm
theorem fresh_size (F : Fr h₀ L s.heap m) : h₀.get? s.heap.objs.size = none := by
  cases e : h₀.get? s.heap.objs.size with
  | none => rfl
  | some o => exact absurd (Heap.lt_size (F.keep _ _ e)) (Nat.lt_irrefl _)
theorem comp_list {l : Addr} {vs : List Value} (hA : A.handled = none) (hl : s.heap.IsList l vs.toArray) (hsz : vs.length ≤ sizeLine) (F : Fr h₀ L s.heap m) (N : News h₀ L s.heap news)
    (hq : Quiet prog w A env scope cl x ifs elt (fun i v => vs[i]? = some v) p Fy s.heap)
    (hQ : ∀ D h' tk ys e, Fr h₀ L h' m → News h₀ L h' ((D, PySem.W.listOf ys e) :: news) → (∀ q ∈ news, q.1 ≠ D) → Paired Fy (vs.filter p) ys.toList → Q (.ref D) { s with heap := h', toks := tk }) :
    wpAny (model prog w) A (pyIter (.ref l)) (fun it s₂ => ∃ I' fp wr n P St, it = .ref I' ∧ Walks prog w A I' fp wr n P St ∧ n ≤ sizeLine ∧ St 0 s₂.heap ∧ (∀ b ∈ fp, b < s₂.heap.objs.size) ∧
      QuietOnC prog w A env scope cl x ifs elt wr P p Fy s₂ ∧
      (∀ D h' tk ys (vs : List Value), s₂.heap.get? D = none → h'.IsList D ys → h'.PlainList D ys → vs.length = n → (∀ j v, vs[j]? = some v → P j v) → Paired Fy (vs.filter p) ys.toList →
        (∀ b o, b ∉ wr → s₂.heap.get? b = some o → h'.get? b = some o) → Q (.ref D) { s₂ with heap := h', toks := tk })) E s := by
  have hll : l < s.heap.objs.size := let ⟨_, ho, _⟩ := hl; Heap.lt_size ho
  have hk : Keep s.heap (s.heap.push { cls := .type "list_iterator", data := .fields #[.ref l, .int 0 0] }) := fun _ _ e => Heap.get?_push_of_some _ e
  refine wpAny_pyIter_list hl ?_
  refine comp_fin (h₀ := h₀) (L := L) (m := m) (news := news) (Walks.list hA s.heap.objs.size l (Nat.ne_of_lt hll) vs.toArray) (by simpa using hsz) ⟨⟨_, Heap.get?_push_size _ rfl, rfl, rfl⟩, hl.push _⟩ (fun b hb => ?_)
    (Quiet.on ?_) (F.grownK hk) (N.grown hk) (fresh_size F) (Nat.ne_of_gt F.ns.lt) (fun q hq => Nat.ne_of_lt (Heap.lt_size (N q hq).1)) (fun D h' tk ys e vs' F' N' ne hlen hP hF => ?_)
  · show b < (s.heap.push _).objs.size
    rw [Heap.size_push]
    simp only [List.mem_cons, List.not_mem_nil, or_false] at hb
    rcases hb with rfl | rfl
    · exact Nat.lt_succ_self _
    · exact Nat.lt_succ_of_lt hll
  · exact ⟨fun C i v s₃ m₃ E' hP => hq.tests C i v s₃ m₃ E' (by simpa using hP), fun C i v s₃ m₃ E' hP => hq.elt C i v s₃ m₃ E' (by simpa using hP)⟩
  · have e : vs' = vs := by
      apply List.ext_getElem?
      intro j
      rcases Nat.lt_or_ge j vs'.length with h1 | h1
      · have := hP j vs'[j] (by simp [h1])
        simp only [List.getElem?_toArray] at this
        rw [this, List.getElem?_eq_getElem h1]
      · rw [List.getElem?_eq_none h1, List.getElem?_eq_none (by simpa [hlen] using h1)]
    subst e
    exact hQ D h' tk ys e F' N' ne hF
theorem comp_range {r : Addr} {n : Nat} {t u v : Tok} (hA : A.handled = none) (hr : IsRange s.heap r 0 (n : Int) 1 t u v) (hsz : n ≤ 1000) (F : Fr h₀ L s.heap m) (N : News h₀ L s.heap news)
    (hq : Quiet prog w A env scope cl x ifs elt (fun i v => i < n ∧ ∃ t, v = Value.int (i : Int) t) p Fy s.heap)
    (hQ : ∀ D h' tk ys e (vs : List Value), Fr h₀ L h' m → News h₀ L h' ((D, PySem.W.listOf ys e) :: news) → (∀ q ∈ news, q.1 ≠ D) → vs.length = n → (∀ (j : Nat) v, vs[j]? = some v → ∃ t, v = Value.int (j : Int) t) → Paired Fy (vs.filter p) ys.toList →
      Q (.ref D) { s with heap := h', toks := tk }) :
    wpAny (model prog w) A (pyIter (.ref r)) (fun it s₂ => ∃ I' fp wr n P St, it = .ref I' ∧ Walks prog w A I' fp wr n P St ∧ n ≤ sizeLine ∧ St 0 s₂.heap ∧ (∀ b ∈ fp, b < s₂.heap.objs.size) ∧
      QuietOnC prog w A env scope cl x ifs elt wr P p Fy s₂ ∧
      (∀ D h' tk ys (vs : List Value), s₂.heap.get? D = none → h'.IsList D ys → h'.PlainList D ys → vs.length = n → (∀ j v, vs[j]? = some v → P j v) → Paired Fy (vs.filter p) ys.toList →
        (∀ b o, b ∉ wr → s₂.heap.get? b = some o → h'.get? b = some o) → Q (.ref D) { s₂ with heap := h', toks := tk })) E s := by
  have hz : Builtin.Range.rangeSize 0 (n : Int) 1 = (n : Int) := by rw [rangeSize_one]; split <;> omega
  have hk : ∀ o, Keep s.heap (s.heap.push o) := fun _ _ _ e => Heap.get?_push_of_some _ e
  refine wpAny_pyIter_range hr (small_one (by omega) (by omega) (by omega) (by omega)) ?_
  rw [hz]
  have Wr : Walks prog w A s.heap.objs.size [s.heap.objs.size] [s.heap.objs.size] n (fun i v => i < n ∧ ∃ t, v = Value.int (i : Int) t) (fun i h => IsRangeIter h s.heap.objs.size (0 + (i : Nat) * 1) ((n : Int) - (i : Nat)) 1) :=
    have W0 := Walks.range (prog := prog) (w := w) hA s.heap.objs.size 0 1 n
    { W0 with item := fun i s Q E hi st hQ => W0.item i s Q E hi st fun v h' tk hP => hQ v h' tk ⟨hi, by simpa using hP⟩ }
  refine comp_fin (h₀ := h₀) (L := L) (m := m) (news := news) Wr (by rw [sizeLine_eq]; omega) ?_ (fun b hb => ?_)
    (Quiet.on hq) (F.grownK (hk _)) (N.grown (hk _)) (fresh_size F) (Nat.ne_of_gt F.ns.lt) (fun q hq => Nat.ne_of_lt (Heap.lt_size (N q hq).1)) (fun D h' tk ys e vs' F' N' ne hlen hP hF => ?_)
  · show IsRangeIter (s.heap.push _) _ _ _ _
    simp only [Int.natCast_zero, Int.zero_mul, Int.add_zero, Int.sub_zero]
    exact Heap.get?_push_size _ rfl
  · show b < (s.heap.push _).objs.size
    rw [Heap.size_push]
    simp only [List.mem_cons, List.not_mem_nil, or_false] at hb
    subst hb
    exact Nat.lt_succ_self _
  · exact hQ D h' tk ys e vs' F' N' ne hlen (fun j v h => (hP j v h).2) hF
variable {iter : Expr} {px pos : Pos}
theorem comp_rangeE (n : Nat) (p : Value → Bool) (Fy : Value → Value → Prop) (hA : A.handled = none) (hsz : n ≤ 1000)
    (hclos : closureFor scope env = pure cl) (hcell : ∀ y ∈ scope.names, y.2 ≠ .cell) (hkind : scope.kind = .function)
    (hnames : ∀ y ∈ scope.names, y.2 = .local → scope.names.lookup y.1 = some .local) (hx : scope.names.lookup x = some .local)
    (hit : wpAny (model prog w) A (eval iter env) (fun xv s₁ => Shut (∃ r t u v h₁ tk₁, xv = .ref r ∧ s₁ = { s with heap := h₁, toks := tk₁ } ∧ IsRange h₁ r 0 (n : Int) 1 t u v ∧ Fr h₀ L h₁ m ∧ News h₀ L h₁ news)) E s)
    (hq : ∀ h₁, Fr h₀ L h₁ m → News h₀ L h₁ news → Quiet prog w A env scope cl x ifs elt (fun i v => i < n ∧ ∃ t, v = Value.int (i : Int) t) p Fy h₁)
    (hQ : ∀ D h' tk ys e (vs : List Value), Fr h₀ L h' m → News h₀ L h' ((D, PySem.W.listOf ys e) :: news) → (∀ q ∈ news, q.1 ≠ D) → vs.length = n → (∀ (j : Nat) v, vs[j]? = some v → ∃ t, v = Value.int (j : Int) t) → Paired Fy (vs.filter p) ys.toList →
      Q (.ref D) { s with heap := h', toks := tk })
    (hs : ∀ x, foldedSetIterable iter env x = pure x := by intro _; rfl) :
    wpAny (model prog w) A (eval (.ListComp elt [⟨.Name x px, iter, ifs, 0⟩] scope pos) env) Q E s := by
  refine wpAny_ListComp_free p Fy hclos hcell hkind hnames hx (wpAny_mono hit (fun xv s₁ h => ?_) fun _ _ e => e) hs
  obtain ⟨r, t, u, v, h₁, tk₁, rfl, rfl, R, F, N⟩ := h
  exact comp_range (s := { s with heap := h₁, toks := tk₁ }) hA R hsz F N (hq h₁ F N) hQ
theorem comp_listE (ok : List Value → Prop) (p : Value → Bool) (Fy : Value → Value → Prop) (hA : A.handled = none) (hsz : ∀ vs, ok vs → vs.length ≤ sizeLine)
    (hclos : closureFor scope env = pure cl) (hcell : ∀ y ∈ scope.names, y.2 ≠ .cell) (hkind : scope.kind = .function)
    (hnames : ∀ y ∈ scope.names, y.2 = .local → scope.names.lookup y.1 = some .local) (hx : scope.names.lookup x = some .local)
    (hit : wpAny (model prog w) A (eval iter env) (fun xv s₁ => Shut (∃ l vs h₁ tk₁, ok vs ∧ xv = .ref l ∧ s₁ = { s with heap := h₁, toks := tk₁ } ∧ h₁.IsList l vs.toArray ∧ Fr h₀ L h₁ m ∧ News h₀ L h₁ news)) E s)
    (hq : ∀ vs h₁, ok vs → Fr h₀ L h₁ m → News h₀ L h₁ news → Quiet prog w A env scope cl x ifs elt (fun i v => vs[i]? = some v) p Fy h₁)
    (hQ : ∀ vs D h' tk ys e, ok vs → Fr h₀ L h' m → News h₀ L h' ((D, PySem.W.listOf ys e) :: news) → (∀ q ∈ news, q.1 ≠ D) → Paired Fy (vs.filter p) ys.toList → Q (.ref D) { s with heap := h', toks := tk })
    (hs : ∀ x, foldedSetIterable iter env x = pure x := by intro _; rfl) :
    wpAny (model prog w) A (eval (.ListComp elt [⟨.Name x px, iter, ifs, 0⟩] scope pos) env) Q E s := by
  refine wpAny_ListComp_free p Fy hclos hcell hkind hnames hx (wpAny_mono hit (fun xv s₁ h => ?_) fun _ _ e => e) hs
  obtain ⟨l, vs, h₁, tk₁, hok, rfl, rfl, hl, F, N⟩ := h
  exact comp_list (s := { s with heap := h₁, toks := tk₁ }) hA hl (hsz vs hok) F N (hq vs h₁ hok F N) (fun D h' tk ys e F' N' ne hF => hQ vs D h' tk ys e hok F' N' ne hF)
end
section
variable {prog : Program} {w : World} {A : Around} {E : Value → Shared → Prop} {env : Env} {s s₂ : Shared} {h₀ : Heap} {m : Str → Option Value} {news : List (Addr × Obj)}
  {Q : Flow → Shared → Prop} {elt iter : Expr} {x y : Str} {px py pos spos : Pos} {ifs : List Expr} {scope : Scope} {cl : List (Str × Addr)} {p : Value → Bool} {Fy : Value → Value → Prop}
theorem comp_finA {I : Addr} {fp : List Addr} {n : Nat} {P : Nat → Value → Prop} {St : Nat → Heap → Prop} (Wk : Walks prog w A I fp [I] n P St) (hn : n ≤ sizeLine) (hst : St 0 s₂.heap) (hfp : ∀ b ∈ fp, b < s₂.heap.objs.size)
    (hq : QuietOnC prog w A env scope cl x ifs elt [I] P p Fy s₂) (F : Fr h₀ env.locals s₂.heap m) (N : News h₀ env.locals s₂.heap news) (hI0 : h₀.get? I = none) (hIL : I ≠ env.locals) (hIn : ∀ q ∈ news, q.1 ≠ I)
    (hQ : ∀ D h' tk ys e (vs : List Value), Fr h₀ env.locals h' (fun z => if z = y then some (.ref D) else m z) → News h₀ env.locals h' ((D, PySem.W.listOf ys e) :: news) → (∀ q ∈ news, q.1 ≠ D) → vs.length = n → (∀ j v, vs[j]? = some v → P j v) → Paired Fy (vs.filter p) ys.toList →
      Q .next { s₂ with heap := h', toks := tk }) :
    ∃ I' fp wr n P St m, Value.ref I = .ref I' ∧ Walks prog w A I' fp wr n P St ∧ n ≤ sizeLine ∧ St 0 s₂.heap ∧ (∀ b ∈ fp, b < s₂.heap.objs.size) ∧ env.locals ∉ wr ∧ s₂.heap.Ns env.locals m ∧
      QuietOnC prog w A env scope cl x ifs elt wr P p Fy s₂ ∧
      (∀ D h' tk ys (vs : List Value), s₂.heap.get? D = none → h'.IsList D ys → h'.PlainList D ys → vs.length = n → (∀ j v, vs[j]? = some v → P j v) → Paired Fy (vs.filter p) ys.toList →
        h'.Ns env.locals (fun z => if z = y then some (.ref D) else m z) → (∀ b o, b ≠ env.locals → b ∉ wr → s₂.heap.get? b = some o → h'.get? b = some o) → Q .next { s₂ with heap := h', toks := tk }) := by
  refine ⟨I, fp, [I], n, P, St, m, rfl, Wk, hn, hst, hfp, by simpa using Ne.symm hIL, F.ns, hq, fun D h' tk ys vs hD _ hpl hlen hP hF hns hk => ?_⟩
  obtain ⟨e, he⟩ := hpl
  have ne : ∀ q ∈ news, q.1 ≠ D := fun q hq e => by have := (N q hq).1; rw [e, hD] at this; cases this
  refine hQ D h' tk ys e vs ⟨hns, fun b o e => hk b o (fun q => ?_) (fun q => ?_) (F.keep b o e), F.above⟩ (fun q hq => ?_) ne hlen hP hF
  · subst q; exact absurd (Heap.lt_size e) (Nat.not_lt.mpr F.above)
  · simp only [List.mem_cons, List.not_mem_nil, or_false] at q
    subst q; rw [hI0] at e; cases e
  · rcases List.mem_cons.mp hq with rfl | hq
    · refine ⟨he, fun q => ?_, ?_⟩
      · obtain ⟨o, _, _, ho, _⟩ := F.ns
        rw [← q, hD] at ho; cases ho
      · cases e' : h₀.get? D with
        | none => rfl
        | some o => have := F.keep D o e'; rw [hD] at this; cases this
    · exact ⟨hk _ _ (N q hq).2.1 (by simpa using hIn q hq) (N q hq).1, (N q hq).2⟩
theorem comp_listA (ok : List Value → Prop) (p : Value → Bool) (Fy : Value → Value → Prop) (hA : A.handled = none) (hsz : ∀ vs, ok vs → vs.length ≤ sizeLine)
    (hsw : swapsWith (.ListComp elt [⟨.Name x px, iter, ifs, 0⟩] scope pos) (some (.Name y py)) spos.line env = pure true)
    (hclos : closureFor scope env = pure cl) (hcell : ∀ y ∈ scope.names, y.2 ≠ .cell) (hkind : scope.kind = .function)
    (hnames : ∀ y ∈ scope.names, y.2 = .local → scope.names.lookup y.1 = some .local) (hx : scope.names.lookup x = some .local)
    (hy : env.kindOf y = some .local) (hp : (env.scope.kind == .class || (env.scope.kind == .module && env.locals != env.globals)) = false)
    (hit : wpAny (model prog w) A (eval iter env) (fun xv s₁ => Shut (∃ l vs h₁ tk₁, ok vs ∧ xv = .ref l ∧ s₁ = { s with heap := h₁, toks := tk₁ } ∧ h₁.IsList l vs.toArray ∧ Fr h₀ env.locals h₁ m ∧ News h₀ env.locals h₁ news)) E s)
    (hq : ∀ vs h₁, ok vs → Fr h₀ env.locals h₁ m → News h₀ env.locals h₁ news → Quiet prog w A env scope cl x ifs elt (fun i v => vs[i]? = some v) p Fy h₁)
    (hQ : ∀ vs D h' tk ys e, ok vs → Fr h₀ env.locals h' (fun z => if z = y then some (.ref D) else m z) → News h₀ env.locals h' ((D, PySem.W.listOf ys e) :: news) → (∀ q ∈ news, q.1 ≠ D) → Paired Fy (vs.filter p) ys.toList → Q .next { s with heap := h', toks := tk })
    (hs : ∀ x, foldedSetIterable iter env x = pure x := by intro _; rfl) :
    wpAny (model prog w) A (exec (.Assign [.Name y py] (.ListComp elt [⟨.Name x px, iter, ifs, 0⟩] scope pos) spos) env) Q E s := by
  refine wpAny_Assign_ListComp_free p Fy hsw hclos hcell hkind hnames hx hy hp (wpAny_mono hit (fun xv s₁ h => ?_) fun _ _ e => e) hs
  obtain ⟨l, vs, h₁, tk₁, hok, rfl, rfl, hl, F, N⟩ := h
  have hll : l < h₁.objs.size := let ⟨_, ho, _⟩ := hl; Heap.lt_size ho
  have hk : Keep h₁ (h₁.push { cls := .type "list_iterator", data := .fields #[.ref l, .int 0 0] }) := fun _ _ e => Heap.get?_push_of_some _ e
  refine wpAny_pyIter_list hl ?_
  refine comp_finA (h₀ := h₀) (m := m) (news := news) (Walks.list hA h₁.objs.size l (Nat.ne_of_lt hll) vs.toArray) (by simpa using hsz vs hok) ⟨⟨_, Heap.get?_push_size _ rfl, rfl, rfl⟩, hl.push _⟩ (fun b hb => ?_)
    (Quiet.on (s := { s with heap := h₁, toks := tk₁ }) ?_) (F.grownK hk) (N.grown hk) (fresh_size (s := { s with heap := h₁, toks := tk₁ }) F) (Nat.ne_of_gt F.ns.lt) (fun q hq => Nat.ne_of_lt (Heap.lt_size (N q hq).1)) (fun D h' tk ys e vs' F' N' ne hlen hP hF => ?_)
  · show b < (h₁.push _).objs.size
    rw [Heap.size_push]
    simp only [List.mem_cons, List.not_mem_nil, or_false] at hb
    rcases hb with rfl | rfl
    · exact Nat.lt_succ_self _
    · exact Nat.lt_succ_of_lt hll
  · have q := hq vs h₁ hok F N
    exact ⟨fun C i v s₃ m₃ E' hP => q.tests C i v s₃ m₃ E' (by simpa using hP), fun C i v s₃ m₃ E' hP => q.elt C i v s₃ m₃ E' (by simpa using hP)⟩
  · have e : vs' = vs := by
      apply List.ext_getElem?
      intro j
      rcases Nat.lt_or_ge j vs'.length with h1 | h1
      · have := hP j vs'[j] (by simp [h1])
        simp only [List.getElem?_toArray] at this
        rw [this, List.getElem?_eq_getElem h1]
      · rw [List.getElem?_eq_none h1, List.getElem?_eq_none (by simpa [hlen] using h1)]
    subst e
    exact hQ _ D h' tk ys e hok F' N' ne hF
end
/-- all that stood in h stands in h' -/
structure Kp (h h' : Heap) : Prop where
  k : Keep h h'
theorem Kp.refl (h : Heap) : Kp h h := ⟨fun _ _ e => e⟩
theorem Kp.trans {a b c : Heap} (x : Kp a b) (y : Keep b c) : Kp a c := ⟨fun q o e => y q o (x.k q o e)⟩
section
variable {prog : Program} {w : World} {A : Around} {E : Value → Shared → Prop} {s : Shared} {Q : Value → Shared → Prop} {l : Addr} {vs : List Value} {ns : List Int}
theorem min_ints (hh : A.handled = none) (hl : s.heap.IsList l vs.toArray) (hi : IntsAre vs ns) (hne : 0 < ns.length)
    (h : ∀ h' M (t : Tok) tk, Keep s.heap h' → M ∈ ns → (∀ a, a ∈ ns → M ≤ a) → Q (.int M t) { s with heap := h', toks := tk }) :
    wpAny (model prog w) A (call (.builtin "min") [.ref l]) Q E s := by
  obtain ⟨xs, e⟩ := hi.allInts.items
  have hns : ns = xs.toList.map (·.1) := by
    rw [← hi.numsOf, ← nums_intItems, ← e]
  have hsz : 0 < xs.size := by
    have h3 := hne; rw [hns, List.length_map, Array.length_toList] at h3; exact h3
  rw [e] at hl
  refine min_intList hh hl hsz fun v h' tk hv hk => ?_
  obtain ⟨t, rfl⟩ := intItems_at hv
  obtain ⟨h1, h2⟩ := argBest_lt (numAt xs) (xs.size - 1)
  refine h _ _ t tk hk ?_ fun a ha => ?_
  · rw [hns, numAt_eq]; exact getD_mem (by rw [List.length_map, Array.length_toList]; omega)
  · rw [hns] at ha
    obtain ⟨j, hj, rfl⟩ := mem_getD ha
    rw [List.length_map, Array.length_toList] at hj
    rw [← numAt_eq]; exact h2 j (by omega)
theorem max_ints (hh : A.handled = none) (hl : s.heap.IsList l vs.toArray) (hi : IntsAre vs ns) (hne : 0 < ns.length)
    (h : ∀ h' M (t : Tok) tk, Keep s.heap h' → M ∈ ns → (∀ a, a ∈ ns → a ≤ M) → Q (.int M t) { s with heap := h', toks := tk }) :
    wpAny (model prog w) A (call (.builtin "max") [.ref l]) Q E s := by
  obtain ⟨xs, e⟩ := hi.allInts.items
  have hns : ns = xs.toList.map (·.1) := by
    rw [← hi.numsOf, ← nums_intItems, ← e]
  have hsz : 0 < xs.size := by
    have h3 := hne; rw [hns, List.length_map, Array.length_toList] at h3; exact h3
  rw [e] at hl
  refine max_intList hh hl hsz fun v h' tk hv hk => ?_
  obtain ⟨t, rfl⟩ := intItems_at hv
  obtain ⟨h1, h2⟩ := argBest_gt (numAt xs) (xs.size - 1)
  refine h _ _ t tk hk ?_ fun a ha => ?_
  · rw [hns, numAt_eq]; exact getD_mem (by rw [List.length_map, Array.length_toList]; omega)
  · rw [hns] at ha
    obtain ⟨j, hj, rfl⟩ := mem_getD ha
    rw [List.length_map, Array.length_toList] at hj
    rw [← numAt_eq]; exact h2 j (by omega)
end
end
section
section
variable {prog : Program} {w : World} {A : Around} {E : Value → Shared → Prop} {env : Env} {s : Shared} {h₀ : Heap} {L : Addr} {m : Str → Option Value} {news : List (Addr × Obj)}
  {Q : Value → Shared → Prop} {elt : Expr} {x : Str} {ifs : List Expr} {scope : Scope} {cl : List (Str × Addr)} {p : Value → Bool} {Fy : Value → Value → Prop}
/-- what a comprehension's element and tests do, from any state that keeps h -/
structure QuietT (T0 : Nat) (prog : Program) (w : World) (A : Around) (env : Env) (scope : Scope) (cl : List (Str × Addr)) (x : Str) (ifs : List Expr) (elt : Expr) (P : Nat → Value → Prop) (p : Value → Bool) (Fy : Value → Value → Prop) (h : Heap) : Prop where
  tests : ∀ C i v (s₃ : Shared) m₃ E', T0 ≤ s₃.toks → P i v → Fr h C s₃.heap m₃ → m₃ x = some v →
    wpAny (model prog w) A (forIn ifs true fun c r => if r = true then do let ok ← isTrue c (compEnvC scope cl C env) (eval c (compEnvC scope cl C env)); pure (ForInStep.yield ok) else pure (ForInStep.yield r))
      (fun ok s₄ => Shut (ok = p v ∧ Keeps s₃ s₄)) E' s₃
  elt : ∀ C i v (s₃ : Shared) m₃ E', T0 ≤ s₃.toks → P i v → p v = true → Fr h C s₃.heap m₃ → m₃ x = some v →
    wpAny (model prog w) A (eval elt (compEnvC scope cl C env)) (fun y s₄ => Shut (Fy v y ∧ Keeps s₃ s₄)) E' s₃
theorem QuietT.on {T0 : Nat} {P : Nat → Value → Prop} {o : Obj} (hT0 : T0 ≤ s.toks) (q : QuietT T0 prog w A env scope cl x ifs elt P p Fy s.heap) : QuietOnC prog w A env scope cl x ifs elt [s.heap.objs.size] P p Fy { s with heap := s.heap.push o } where
  tests := fun C i v s₃ m₃ E' hC hP hn hm hk ht => q.tests C i v s₃ m₃ E' (Nat.le_trans hT0 ht) hP ⟨hn, fun b o e => hk b o (by simpa using Nat.ne_of_lt (Heap.lt_size e)) (Heap.get?_push_of_some _ e), by rw [Heap.size_push] at hC; exact Nat.le_of_succ_le hC⟩ hm
  elt := fun C i v s₃ m₃ E' hC hP hp hn hm hk ht => q.elt C i v s₃ m₃ E' (Nat.le_trans hT0 ht) hP hp ⟨hn, fun b o e => hk b o (by simpa using Nat.ne_of_lt (Heap.lt_size e)) (Heap.get?_push_of_some _ e), by rw [Heap.size_push] at hC; exact Nat.le_of_succ_le hC⟩ hm
end
section
variable {prog : Program} {w : World} {A : Around} {E : Value → Shared → Prop} {env : Env} {s s₂ : Shared} {h₀ : Heap} {m : Str → Option Value} {news : List (Addr × Obj)}
  {Q : Flow → Shared → Prop} {elt iter : Expr} {x y : Str} {px py pos spos : Pos} {ifs : List Expr} {scope : Scope} {cl : List (Str × Addr)} {p : Value → Bool} {Fy : Value → Value → Prop}
theorem comp_tupleA_t (T0 : Nat) (hT0 : T0 ≤ s.toks) (ok : List Value → Prop) (p : Value → Bool) (Fy : Value → Value → Prop) (hA : A.handled = none) (hsz : ∀ vs, ok vs → vs.length ≤ sizeLine)
    (hsw : swapsWith (.ListComp elt [⟨.Name x px, iter, ifs, 0⟩] scope pos) (some (.Name y py)) spos.line env = pure true)
    (hclos : closureFor scope env = pure cl) (hcell : ∀ y ∈ scope.names, y.2 ≠ .cell) (hkind : scope.kind = .function)
    (hnames : ∀ y ∈ scope.names, y.2 = .local → scope.names.lookup y.1 = some .local) (hx : scope.names.lookup x = some .local)
    (hy : env.kindOf y = some .local) (hp : (env.scope.kind == .class || (env.scope.kind == .module && env.locals != env.globals)) = false)
    (hit : wpAny (model prog w) A (eval iter env) (fun xv s₁ => Shut (∃ l vs h₁ tk₁, ok vs ∧ xv = .ref l ∧ s₁ = { s with heap := h₁, toks := tk₁ } ∧ h₁.IsTuple l vs.toArray ∧ Fr h₀ env.locals h₁ m ∧ News h₀ env.locals h₁ news)) E s)
    (hq : ∀ vs h₁, ok vs → Fr h₀ env.locals h₁ m → News h₀ env.locals h₁ news → QuietT T0 prog w A env scope cl x ifs elt (fun i v => vs[i]? = some v) p Fy h₁)
    (hQ : ∀ vs D h' tk ys e, ok vs → Fr h₀ env.locals h' (fun z => if z = y then some (.ref D) else m z) → News h₀ env.locals h' ((D, PySem.W.listOf ys e) :: news) → (∀ q ∈ news, q.1 ≠ D) → Paired Fy (vs.filter p) ys.toList → Q .next { s with heap := h', toks := tk })
    (hs : ∀ x, foldedSetIterable iter env x = pure x := by intro _; rfl) :
    wpAny (model prog w) A (exec (.Assign [.Name y py] (.ListComp elt [⟨.Name x px, iter, ifs, 0⟩] scope pos) spos) env) Q E s := by
  refine wpAny_Assign_ListComp_free p Fy hsw hclos hcell hkind hnames hx hy hp (wpAny_toks (n := T0) hT0 (wpAny_mono hit (fun xv s₁ h ht => ?_) fun _ _ e _ => e)) hs
  obtain ⟨l, vs, h₁, tk₁, hok, rfl, rfl, hl, F, N⟩ := h
  have hll : l < h₁.objs.size := let ⟨_, ho, _⟩ := hl; Heap.lt_size ho
  have hk : Keep h₁ (h₁.push { cls := .type "tuple_iterator", data := .fields #[.ref l, .int 0 0] }) := fun _ _ e => Heap.get?_push_of_some _ e
  refine wpAny_pyIter_tuple hl ?_
  refine comp_finA (h₀ := h₀) (m := m) (news := news) (Walks.tuple hA h₁.objs.size l (Nat.ne_of_lt hll) vs.toArray) (by simpa using hsz vs hok) ⟨⟨_, Heap.get?_push_size _ rfl, rfl, rfl⟩, hl.push _⟩ (fun b hb => ?_)
    (QuietT.on (s := { s with heap := h₁, toks := tk₁ }) ht ?_) (F.grownK hk) (N.grown hk) (fresh_size (s := { s with heap := h₁, toks := tk₁ }) F) (Nat.ne_of_gt F.ns.lt) (fun q hq => Nat.ne_of_lt (Heap.lt_size (N q hq).1)) (fun D h' tk ys e vs' F' N' ne hlen hP hF => ?_)
  · show b < (h₁.push _).objs.size
    rw [Heap.size_push]
    simp only [List.mem_cons, List.not_mem_nil, or_false] at hb
    rcases hb with rfl | rfl
    · exact Nat.lt_succ_self _
    · exact Nat.lt_succ_of_lt hll
  · have q := hq vs h₁ hok F N
    exact ⟨fun C i v s₃ m₃ E' h2 hP => q.tests C i v s₃ m₃ E' h2 (by simpa using hP), fun C i v s₃ m₃ E' h2 hP => q.elt C i v s₃ m₃ E' h2 (by simpa using hP)⟩
  · have e : vs' = vs := by
      apply List.ext_getElem?
      intro j
      rcases Nat.lt_or_ge j vs'.length with h1 | h1
      · have := hP j vs'[j] (by simp [h1])
        simp only [List.getElem?_toArray] at this
        rw [this, List.getElem?_eq_getElem h1]
      · rw [List.getElem?_eq_none h1, List.getElem?_eq_none (by simpa [hlen] using h1)]
    subst e
    exact hQ _ D h' tk ys e hok F' N' ne hF
end
section
variable {M : Model} {A : Around} {E : Value → Shared → Prop} {s : Shared} {env : Env} {st : Stmt} {rest : List Stmt} {Q : Flow → Shared → Prop}
theorem execs_t (n : Nat) (hn : n ≤ s.toks) (h : wpAny M A (exec st env) (fun f s' => n ≤ s'.toks → match f with | .next => wpAny M A (execs rest env) Q E s' | f => Q f s') E s) : wpAny M A (execs (st :: rest) env) Q E s :=
  wpAny_execs_cons (wpAny_toks hn (wpAny_mono h (fun _ _ x => x) fun _ _ x _ => x))
end
end
section
theorem strsAre_at : ∀ {vs : List Value} {us : List Str}, StrsAre vs us → ∀ {i : Nat} {v : Value}, vs[i]? = some v → ∃ u t, us[i]? = some u ∧ v = .str u t
  | _, _, .nil, _, _, e => by simp at e
  | _, _, .cons y t _, 0, _, e => by simp at e; exact ⟨y, t, by simp, e.symm⟩
  | _, _, .cons _ _ r, i + 1, _, e => by
    obtain ⟨u, t, h1, h2⟩ := strsAre_at r (i := i) (by simpa using e)
    exact ⟨u, t, by simpa using h1, h2⟩
theorem strsAre_length : ∀ {vs : List Value} {us : List Str}, StrsAre vs us → vs.length = us.length
  | _, _, .nil => rfl
  | _, _, .cons _ _ r => congrArg (· + 1) (strsAre_length r)
noncomputable def stepU (u : Str) : Int := if u = Str.ofString "(" then 1 else if u = Str.ofString ")" then -1 else 0
noncomputable def heightsL : Int → List Str → List Int
  | _, [] => []
  | a, u :: us => (a + stepU u) :: heightsL (a + stepU u) us
section
variable {prog : Program} {w : World} {A : Around} {E : Value → Shared → Prop} {s : Shared} {Q : Value → Shared → Prop} {h₀ : Heap} {L d : Addr} {news : List (Addr × Obj)} {o : Obj}
theorem get_step {u : Str} {t t1 t2 t3 t4 t5 : Tok} (N : News h₀ L s.heap news) (hp : (d, o) ∈ news) (lo : (d == sysModules) = false)
    (hd : Obj.IsDictOf (strKind prog w) o (strPairs [(.str (Str.ofString "(") t1, .int 1 t2), (.str (Str.ofString ")") t3, .int (-1) t4)]))
    (hf : PyProof.V.FlatPairs PyData.str (strPairs [(.str (Str.ofString "(") t1, .int 1 t2), (.str (Str.ofString ")") t3, .int (-1) t4)]) (strData [(.str (Str.ofString "(") t1, .int 1 t2), (.str (Str.ofString ")") t3, .int (-1) t4)]))
    (h : ∀ t', Q (.int (stepU u) t') { s with toks := s.toks + 1 }) : wpAny (model prog w) A (call (.builtin "dict.get") [.ref d, .str u t, .int 0 t5]) Q E s := by
  refine call_get2_strTab (TabAt.ofNews N hp lo hd hf) (PyProof.V.Flat.int 0 t5) (fun v hv => ?_)
  have e : (Spec.lookup (PyData.str u) (strData [(.str (Str.ofString "(") t1, .int 1 t2), (.str (Str.ofString ")") t3, .int (-1) t4)])).getD (PyData.int 0) = PyData.int (stepU u) := by
    show (if Spec.same (PyData.str (Str.ofString "(")) (PyData.str u) then some (PyData.int 1) else if Spec.same (PyData.str (Str.ofString ")")) (PyData.str u) then some (PyData.int (-1)) else none).getD (PyData.int 0) = _
    rw [PyProof.V.same_str, PyProof.V.same_str]
    unfold stepU
    by_cases h1 : u = Str.ofString "("
    · subst h1; simp
    · by_cases h2 : u = Str.ofString ")"
      · subst h2; simp [h1, Ne.symm h1]
      · simp [h1, h2, Ne.symm h1, Ne.symm h2]
  rw [e] at hv
  obtain ⟨t', rfl⟩ := hv.int_inv
  exact h _
end
local macro_rules | `(tactic| walk_at "call builtin:dict.get") => `(tactic| ((dsimp only); (rename News _ _ _ _ => N'); (rename Obj.IsDictOf _ _ _ => hd'); (rename PyProof.V.FlatPairs _ _ _ => hf'); (rename (_ == sysModules) = false => lo'); (with_unfolding_all refine get_step N' (.head _) lo' hd' hf' ?_); clear hd' hf'; intro t'; (try dsimp only)))
local macro_rules | `(tactic| walk_at "call builtin:list.append") => `(tactic| ((dsimp only); (rename News _ _ _ _ => N'); (rename Fr _ _ _ _ => F'); (with_unfolding_all refine' append_K F' N' ?u ?_ ?sz); (case u => k_upd); (case sz => first | assumption | (simp; done) | size_fits); clear F' N'; intro h' F' N'; (try dsimp only)))
local macro_rules | `(tactic| walk_at "eval Name") => `(tactic| ((with_reducible show wpAny _ _ (eval _ (compEnvC _ _ _ _)) _ _ _); (rename Fr _ _ _ _ => F'); (first | (with_unfolding_all refine nm_local (Fr.ns F') (by assumption) ?_ rfl rfl (by decide)) | (with_unfolding_all refine nm_cell (Heap.IsCell.keeps (by assumption) (Fr.keep F')) ?_ rfl rfl rfl (by decide))); (try dsimp only)))
local macro_rules | `(tactic| walk_at "eval Name") => `(tactic| ((rename Gr _ _ => G'); (rename Fr _ _ _ _ => F'); (with_reducible first | refine nmB_len ?g ?_ ?n | refine nmB_range ?g ?_ ?n | refine nmB_min ?g ?_ ?n | refine nmB_max ?g ?_ ?n | refine nmB_sum ?g ?_ ?n | refine nmB_list ?g ?_ ?n | refine nmB_int ?g ?_ ?n | refine nmB_enumerate ?g ?_ ?n | refine nmFrgb_to_yiq ?g ?_ ?n | refine nmFyiq_to_rgb ?g ?_ ?n | refine nmFrgb_to_hls ?g ?_ ?n | refine nmFrgb_to_hsv ?g ?_ ?n | refine nmF_iter_escaped_chars ?g ?_ ?n | refine nmF_strip_quoted_realnames ?g ?_ ?n | refine nmF_check_parenthesis ?g ?_ ?n | refine nmF_pre_parse_validation ?g ?_ ?n | refine nmF_law_piece ?g ?_ ?n | refine nmF_law_turned ?g ?_ ?n | refine nmF_law_levels ?g ?_ ?n | refine nmF_law_lines_hold ?g ?_ ?n | refine nmF_law_walk ?g ?_ ?n); (case g => exact Gr.keep G' (Fr.keep F')); (case n => with_unfolding_all exact ⟨rfl, rfl, rfl, rfl⟩); (try dsimp only)))
noncomputable def lvP (hn : List Int) (v : Value) : Bool := match v with
  | .int n _ => hn.all fun a => decide (0 ≤ n + a) && decide (n + a ≤ 4)
  | _ => false
local macro_rules | `(tactic| walk_at "call builtin:min") => `(tactic| ((rename Fr _ _ _ _ => F'); (rename Kp _ _ => K'); (with_unfolding_all refine min_ints rfl (Heap.IsList.at (by assumption) fun o e => Fr.keep F' _ o e) (by assumption) (by assumption) ?_); intro h' M' t' tk' hk' hM1 hM2; (replace F' := Fr.grownK F' hk'); (replace K' := Kp.trans K' hk'); (try dsimp only)))
local macro_rules | `(tactic| walk_at "call builtin:max") => `(tactic| ((rename Fr _ _ _ _ => F'); (rename Kp _ _ => K'); (with_unfolding_all refine max_ints rfl (Heap.IsList.at (by assumption) fun o e => Fr.keep F' _ o e) (by assumption) (by assumption) ?_); intro h' M' t' tk' hk' hM1 hM2; (replace F' := Fr.grownK F' hk'); (replace K' := Kp.trans K' hk'); (try dsimp only)))
section
variable {hn : List Int} {i M1 M2 : Int} {t : Tok}
theorem lvP_t (h1 : ∀ a, a ∈ hn → M1 ≤ a) (h2 : ∀ a, a ∈ hn → a ≤ M2) (h3 : 0 ≤ i + M1) (h4 : i + M2 ≤ 4) : true = lvP hn (.int i t) := by
  symm; unfold lvP; simp only [List.all_eq_true, Bool.and_eq_true, decide_eq_true_eq]
  intro a ha; have := h1 a ha; have := h2 a ha; omega
theorem lvP_f1 (h1 : M1 ∈ hn) (h3 : ¬ 0 ≤ i + M1) : false = lvP hn (.int i t) := by
  symm; unfold lvP; simp only [List.all_eq_false]; exact ⟨M1, h1, by simp; omega⟩
theorem lvP_f2 (h1 : M2 ∈ hn) (h3 : ¬ i + M2 ≤ 4) : false = lvP hn (.int i t) := by
  symm; unfold lvP; simp only [List.all_eq_false]; exact ⟨M2, h1, by simp; omega⟩
end
noncomputable def sumU : List Str → Int
  | [] => 0
  | u :: us => stepU u + sumU us
theorem heights_length : ∀ (us : List Str) (a : Int), (heightsL a us).length = us.length
  | [], _ => rfl
  | _ :: us, a => congrArg (· + 1) (heights_length us _)
theorem heights_last : ∀ (us : List Str) (a : Int), (a :: heightsL a us).getD us.length 0 = a + sumU us
  | [], a => by simp [heightsL, sumU]
  | u :: us, a => by
    have := heights_last us (a + stepU u)
    simp only [heightsL, sumU, List.length_cons, List.getD_cons_succ]
    rw [this]; omega
theorem heights_snoc (u : Str) : ∀ (us : List Str) (a : Int), heightsL a (us ++ [u]) = heightsL a us ++ [a + sumU us + stepU u]
  | [], a => by simp [heightsL, sumU]
  | v :: us, a => by
    simp only [List.cons_append, heightsL, sumU]
    rw [heights_snoc u us (a + stepU v)]
    simp only [List.cons_append, List.cons.injEq, true_and, List.append_cancel_left_eq, and_true]
    omega
/-- the levels that the units leave uncut -/
noncomputable def lvQ (us : List Str) (n : Int) : Bool := (0 :: heightsL 0 us).all fun a => decide (0 ≤ n + a) && decide (n + a ≤ 4)
noncomputable def levelsL (us : List Str) : List Int := [0, 1, 2, 3, 4].filter (lvQ us)
theorem paired_eq : ∀ {l₁ l₂ : List Value}, Paired (fun v y => y = v) l₁ l₂ → l₂ = l₁
  | _, _, .nil => rfl
  | _, _, .cons h t => by rw [h, paired_eq t]
theorem ints_filter {p : Value → Bool} {q : Int → Bool} (h : ∀ n t, p (.int n t) = q n) : ∀ {vs : List Value} {ns : List Int}, IntsAre vs ns → IntsAre (vs.filter p) (ns.filter q)
  | _, _, .nil => .nil
  | _, _, .cons n t r => by
    rw [List.filter_cons, List.filter_cons, h]
    split
    · exact .cons n t (ints_filter h r)
    · exact ints_filter h r
theorem ints_five {vs : List Value} (hl : vs.length = 5) (h : ∀ (j : Nat) v, vs[j]? = some v → ∃ t, v = Value.int (j : Int) t) : IntsAre vs [0, 1, 2, 3, 4] := by
  match vs, hl with
  | [a, b, c, d, e], _ =>
    obtain ⟨_, rfl⟩ := h 0 a rfl; obtain ⟨_, rfl⟩ := h 1 b rfl; obtain ⟨_, rfl⟩ := h 2 c rfl; obtain ⟨_, rfl⟩ := h 3 d rfl; obtain ⟨_, rfl⟩ := h 4 e rfl
    exact .cons _ _ (.cons _ _ (.cons _ _ (.cons _ _ (.cons _ _ .nil))))
structure LvD where
  hv : List Value
  hn : List Int
  ep : Nat
  uv : Option Value
set_option maxHeartbeats 2000000 in
theorem levels_call {w : World} {dp un : Nat} {fr : Option (List Env)} {gd : Option (List Code)} {s : Shared} {R : Result → Shared → Prop} (G : Gr w s.heap) (hroom : dp < recursionLimit)
   {l : Addr} {vs : List Value} {us : List Str} (hl : s.heap.IsList l vs.toArray) (hu : StrsAre vs us) (hus : us.length ≤ 100)
   (hR : ∀ a D h' tk ws e t, Keep s.heap h' → s.heap.get? a = none → s.heap.get? D = none → a ≠ D → h'.get? a = some (tupO [.ref D, .int (sumU us) t]) → h'.get? D = some (W.listOf ws.toArray e) → IntsAre ws (levelsL us) →
      R (.ok (.ret (.ref a))) { s with heap := h', toks := tk }) :
   codeAny (model prg w) (Ar dp un fr gd) (.call (.ref 87) ⟨[.ref l], []⟩) R s := by
  refine call_cellsN_ret (binds := [(Str.ofString "units", .ref l)]) hroom (G.X 87 _ rfl) rfl G.lim (codeRec_of G.X (by rfl)) (by rfl) ?h1 ?h2 ?h
  case h1 => intro x hx; simp only [List.mem_cons, List.not_mem_nil, or_false] at hx; subst hx; exact .inl rfl
  case h2 => decide +kernel
  case h =>
    w_top on
    have G0 := G
    obtain ⟨KX, mean, mg, mb, T⟩ := G
    intro h₁ tk cells F N X0
    have hY := CellsAre.one X0; obtain ⟨o', hE', d1'⟩ := hY; subst hE'; clear X0
    iterate 8 walk1
    refine wpAny_execs_cons (wpAny_For ?_)
    walk1
    rename_i l' h2 l1 h3 o2 F2 N2 d2
    dsimp only
    have F2 : Fr s.heap s.heap.objs.size h3 (fun y => if y = Str.ofString "units" then some (Value.ref l) else none) := F2
    have hl3 : h3.IsList l vs.toArray := hl.at fun o e => F2.keep _ _ e
    refine wpAny_pyIter_list hl3 ?_
    dsimp only
    have hIt0 : s.heap.get? h3.objs.size = none := by
      cases e : s.heap.get? h3.objs.size with
      | none => rfl
      | some o => exact absurd (Heap.lt_size (F2.keep _ _ e)) (Nat.lt_irrefl _)
    have hItL : h3.objs.size ≠ s.heap.objs.size := Nat.ne_of_gt F2.ns.lt
    have hItl := ltN (Heap.lt_size (N2.get (.head _)))
    have hItc := ltN (Heap.lt_size (N2.get (.tail _ (.head _))))
    refine loop_walks (h₀ := s.heap) (L := s.heap.objs.size) (Walks.list rfl h3.objs.size l (fun e => by subst e; obtain ⟨o, ho, _⟩ := hl; rw [hIt0] at ho; cases ho) vs.toArray) (D := LvD)
      (fun _ d => fun y => if y = Str.ofString "unit" then d.uv else if y = Str.ofString "units" then some (Value.ref l) else none)
      (fun _ d => [(l', W.listOf d.hv.toArray d.ep), (s.heap.objs.size + 1, o2)])
      (fun i d => IntsAre d.hv d.hn ∧ d.hn = 0 :: heightsL 0 (us.take i)) (fun g => g = s.gens) hIt0 hItL (fun i h st => let ⟨⟨o, ho, _⟩, _⟩ := st; ⟨o, ho⟩) ?_ ?_ ?_ ?_ ⟨[Value.int 0 tk], [0], 0, none⟩ ?_ rfl ?_ ?_ ?_
    case refine_1 =>
      intro b hb hbI
      simp only [List.mem_cons, List.not_mem_nil, or_false, hbI, false_or] at hb
      subst hb
      obtain ⟨o, ho, _⟩ := hl
      exact .inl ⟨o, ho⟩
    case refine_2 =>
      intro j d _ q hq
      simp only [List.mem_cons, List.not_mem_nil, or_false] at hq
      rcases hq with rfl | rfl
      · exact Nat.ne_of_lt hItl
      · exact Nat.ne_of_lt hItc
    case refine_3 =>
      intro i d v h g tk o hi hP hok hg F N
      obtain ⟨hI, hn⟩ := hok
      subst hg
      obtain ⟨u, t, hu', rfl⟩ := strsAre_at hu (by simpa using hP)
      clear hR hP
      have hsz : d.hv.toArray.size ≤ sizeLine := by
        have h1 := hI.length
        have h2 : (heightsL 0 (us.take i)).length = (us.take i).length := heights_length _ _
        simp only [List.size_toArray, h1, hn, List.length_cons, h2, List.length_take, sizeLine]
        omega
      refine hide_turn fun Q0 hQ0 => ?_
      repeat' walk1
      rename_i h9 F9 N9
      rw [List.push_toArray] at N9
      rw [ite_ite_same] at F9
      refine hQ0 _ _ ⟨⟨d.hv ++ [_], d.hn ++ [_], _, _⟩, h9, s.gens, _, rfl, ⟨hI.append (.cons _ _ .nil), ?_⟩, rfl, F9, fun q hq => N9 q (.tail _ hq)⟩
      have e1 : us.take (i + 1) = us.take i ++ [u] := by rw [List.take_add_one, hu']; rfl
      have e2 : (us.take i).length = i := by have := (List.getElem?_eq_some_iff.mp hu').1; simp; omega
      have e3 := heights_last (us.take i) 0
      have e4 : (-1 + (d.hn.length : Int)).toNat = (us.take i).length := by rw [hn, List.length_cons, heights_length]; omega
      show d.hn ++ [_] = 0 :: heightsL 0 (us.take (i + 1))
      rw [e4, hn, e3, e1, heights_snoc]
      rfl
    case refine_4 =>
      intro d h g tk hok hg F N
      obtain ⟨hI, hn⟩ := hok
      subst hg
      iterate 4 walk1
      refine comp_rangeE (cl := [(Str.ofString "heights", s.heap.objs.size + 1)]) (h₀ := s.heap) (L := s.heap.objs.size) (news := [(l', W.listOf d.hv.toArray d.ep), (s.heap.objs.size + 1, o2)])
        (m := fun y => if y = Str.ofString "unit" then d.uv else if y = Str.ofString "units" then some (Value.ref l) else none) 5 (lvP d.hn) (fun v y => y = v) rfl (by decide) rfl (by decide) rfl (by decide) rfl ?_ ?_ ?_
      · repeat' walk1
        rename_i h5 tk5 t5 u5 v5 R5 F5 N5 K5
        exact ⟨_, _, _, _, _, _, rfl, rfl, R5, F5, N5⟩
      · intro h5 F5 N5
        have hcell : h5.IsCell (s.heap.objs.size + 1) (some (.ref l')) := ⟨o2, N5.get (.tail _ (.head _)), d2⟩
        have hls : h5.IsList l' d.hv.toArray := ⟨_, N5.get (.head _), rfl, _, rfl⟩
        have G3 : Gr w h5 := G0.keep F5.keep
        clear F5 N5 F N F2 N2 G0 KX T
        refine ⟨?_, ?_⟩
        · intro C i v s₃ m₃ E' hP F3 hm
          obtain ⟨_, t, rfl⟩ := hP
          have N3 : News h5 C s₃.heap [] := News.nil
          have hne : 0 < d.hn.length := by rw [hn]; exact Nat.succ_pos _
          have K3 := Kp.refl s₃.heap
          refine tests1 ?_
          clear N3
          have N3 : News h5 C s₃.heap [] := News.nil
          repeat' walk1
          all_goals (have K9 := ‹Kp s₃.heap _›; refine ⟨?_, _, _, rfl, K9.k⟩; first | exact lvP_t (by assumption) (by assumption) (by assumption) (by assumption) | exact lvP_f1 (by assumption) (by assumption) | exact lvP_f2 (by assumption) (by assumption))
        · intro C i v s₃ m₃ E' hP hp F3 hm
          walk1
          exact ⟨rfl, _, _, rfl, fun _ _ e => e⟩
      · intro D h6 tk6 ys e vs' F6 N6 ne hlen hP hF
        have hus' : us.take vs.toArray.size = us := by rw [List.size_toArray, strsAre_length hu, List.take_length]
        rw [hus'] at hn
        have hys : IntsAre ys.toList (levelsL us) := by
          rw [paired_eq hF]
          refine ints_filter (fun n t => ?_) (ints_five hlen hP)
          show (d.hn.all _) = lvQ us n
          rw [hn]; rfl
        repeat' walk1
        rename_i t9 a9 h9 F9 N9 l9
        have e1 : d.hn.getD (-1 + (d.hn.length : Int)).toNat 0 = sumU us := by
          have e4 : (-1 + (d.hn.length : Int)).toNat = us.length := by rw [hn, List.length_cons, heights_length]; omega
          rw [e4, hn, heights_last]; omega
        rw [e1] at N9
        exact hR _ D _ _ ys.toList e _ F9.keep (N9.fresh (.head _)) (N9.fresh (.tail _ (.head _))) (Nat.ne_of_gt l9.1) (N9.get (.head _)) (N9.get (.tail _ (.head _))) hys
    case refine_5 => exact ⟨.cons _ _ .nil, rfl⟩
    case refine_6 =>
      have e : (fun y => if y = Str.ofString "unit" then (none : Option Value) else if y = Str.ofString "units" then some (Value.ref l) else none) = fun y => if y = Str.ofString "units" then some (Value.ref l) else none := by
        funext y
        by_cases h : y = Str.ofString "unit"
        · subst h; rw [if_pos rfl]; rfl
        · rw [if_neg h]
      show Fr _ _ (h3.push _) (fun y => if y = Str.ofString "unit" then (none : Option Value) else if y = Str.ofString "units" then some (Value.ref l) else none)
      rw [e]; exact F2.push _
    case refine_7 => exact N2.grown fun _ _ e => Heap.get?_push_of_some _ e
    case refine_8 => exact ⟨⟨_, Heap.get?_push_size _ rfl, rfl, rfl⟩, hl3.push _⟩
local macro_rules | `(tactic| walk_at "eval Name") => `(tactic| ((rename Fr _ _ _ _ => F'); (with_unfolding_all refine nm_local (Fr.ns F') (by assumption) ?_ rfl rfl (by decide)); (try dsimp only)))
local macro_rules | `(tactic| walk_at "callWith ref") => `(tactic| ((rename Gr _ _ => G'); (with_unfolding_all refine callWith_G G' (by rfl) ?_ (by rfl) (by rfl)); (try dsimp only)))
local macro_rules | `(tactic| walk_at "And") => `(tactic| ((rename Gr _ _ => G'); (rename Fr _ _ _ _ => F'); refine And.intro (Gr.keep G' (Fr.keep F')) ?_; (try dsimp only)))
local macro_rules | `(tactic| walk_at "loadName") => `(tactic| ((rename Fr _ _ _ _ => F'); (with_unfolding_all refine ldn F' (by assumption) ?_); (try dsimp only)))
section
noncomputable def turnU (u : Str) : Str := if u = Str.ofString "(" then Str.ofString ")" else if u = Str.ofString ")" then Str.ofString "(" else u
section
variable {prog : Program} {w : World} {A : Around} {E : Value → Shared → Prop} {s : Shared} {Q : Value → Shared → Prop} {d : Addr} {o : Obj}
theorem get_turn {u : Str} {t t1 t2 t3 t4 t5 : Tok} (ho : s.heap.get? d = some o) (lo : (d == sysModules) = false)
    (hd : Obj.IsDictOf (strKind prog w) o (strPairs [(.str (Str.ofString "(") t1, .str (Str.ofString ")") t2), (.str (Str.ofString ")") t3, .str (Str.ofString "(") t4)]))
    (hf : PyProof.V.FlatPairs PyData.str (strPairs [(.str (Str.ofString "(") t1, .str (Str.ofString ")") t2), (.str (Str.ofString ")") t3, .str (Str.ofString "(") t4)]) (strData [(.str (Str.ofString "(") t1, .str (Str.ofString ")") t2), (.str (Str.ofString ")") t3, .str (Str.ofString "(") t4)]))
    (h : ∀ t', Q (.str (turnU u) t') { s with toks := s.toks + 1 }) : wpAny (model prog w) A (call (.builtin "dict.get") [.ref d, .str u t, .str u t5]) Q E s := by
  refine call_get2_strTab (TabAt.ofObj lo ho hd hf) (PyProof.V.Flat.str u t5) (fun v hv => ?_)
  have e : (Spec.lookup (PyData.str u) (strData [(.str (Str.ofString "(") t1, .str (Str.ofString ")") t2), (.str (Str.ofString ")") t3, .str (Str.ofString "(") t4)])).getD (PyData.str u) = PyData.str (turnU u) := by
    show (if Spec.same (PyData.str (Str.ofString "(")) (PyData.str u) then some (PyData.str (Str.ofString ")")) else if Spec.same (PyData.str (Str.ofString ")")) (PyData.str u) then some (PyData.str (Str.ofString "(")) else none).getD (PyData.str u) = _
    rw [PyProof.V.same_str, PyProof.V.same_str]
    unfold turnU
    by_cases h1 : u = Str.ofString "("
    · subst h1; simp
    · by_cases h2 : u = Str.ofString ")"
      · subst h2; simp [h1, Ne.symm h1]
      · simp [h1, h2, Ne.symm h1, Ne.symm h2]
  rw [e] at hv
  obtain ⟨t', rfl⟩ := hv.str_inv
  exact h _
end
theorem strs_map {f : Str → Str} : ∀ {vs : List Value} {us : List Str} {ys : List Value}, StrsAre vs us → Paired (fun v y => ∃ u t t', v = Value.str u t ∧ y = Value.str (f u) t') vs ys → StrsAre ys (us.map f)
  | _, _, _, .nil, .nil => .nil
  | _, _, _, .cons y t r, .cons h q => by
    obtain ⟨u, t1, t2, e1, rfl⟩ := h
    cases e1
    exact .cons _ _ (strs_map r q)
set_option maxHeartbeats 2000000 in
theorem turned_call {w : World} {dp un : Nat} {fr : Option (List Env)} {gd : Option (List Code)} {s : Shared} {R : Result → Shared → Prop} (G : Gr w s.heap) (hroom : dp < recursionLimit)
   {l : Addr} {vs : List Value} {us : List Str} (hl : s.heap.IsList l vs.toArray) (hu : StrsAre vs us) (hus : us.length ≤ 100)
   (hR : ∀ D h' tk ws e, Keep s.heap h' → s.heap.get? D = none → h'.get? D = some (W.listOf ws.toArray e) → StrsAre ws (us.map turnU) → R (.ok (.ret (.ref D))) { s with heap := h', toks := tk }) :
   codeAny (model prg w) (Ar dp un fr gd) (.call (.ref 82) ⟨[.ref l], []⟩) R s := by
  refine call_cellsN_ret (binds := [(Str.ofString "units", .ref l)]) hroom (G.X 82 _ rfl) rfl G.lim (codeRec_of G.X (by rfl)) (by rfl) ?h1 ?h2 ?h
  case h1 => intro x hx; simp only [List.mem_cons, List.not_mem_nil, or_false] at hx; subst hx; exact .inl rfl
  case h2 => decide +kernel
  case h =>
    w_top on
    have G0 := G
    obtain ⟨KX, mean, mg, mb, T⟩ := G
    intro h₁ tk cells F N X0
    have hY := CellsAre.one X0; obtain ⟨o', hE', d1'⟩ := hY; subst hE'; clear X0
    iterate 14 walk1
    rename_i h2 o2 lo hd hf ap l1 h3 o3 F3 N3 d3
    dsimp only at hd hf d3 ⊢
    have F3 : Fr s.heap s.heap.objs.size h3 (fun y => if y = Str.ofString "units" then some (Value.ref l) else none) := F3
    refine comp_listE (cl := [(Str.ofString "other", s.heap.objs.size + 1)]) (h₀ := s.heap) (L := s.heap.objs.size) (news := [(h₁.objs.size, o2), (s.heap.objs.size + 1, o3)])
        (m := fun y => if y = Str.ofString "units" then some (Value.ref l) else none) (fun v => v = vs) (fun _ => true) (fun v y => ∃ u t t', v = .str u t ∧ y = .str (turnU u) t') rfl ?hsz rfl (by decide) rfl (by decide) rfl ?_ ?_ ?_
    case hsz => intro v e; subst e; rw [strsAre_length hu, sizeLine_eq]; omega
    · walk1
      exact ⟨_, _, _, _, rfl, rfl, rfl, hl.at fun o e => F3.keep _ _ e, F3, N3⟩
    · intro vs' h5 e5 F5 N5
      subst e5
      have hcell : h5.IsCell (s.heap.objs.size + 1) (some (.ref h₁.objs.size)) := ⟨o3, N5.get (.tail _ (.head _)), d3⟩
      have hdo : h5.get? h₁.objs.size = some o2 := N5.get (.head _)
      refine ⟨?_, ?_⟩
      · intro C i v s₃ m₃ E' hP F6 hm
        exact tests0 rfl
      · intro C i v s₃ m₃ E' hP hp F6 hm
        obtain ⟨u, t, hu', rfl⟩ := strsAre_at hu (by simpa using hP)
        have N6 : News h5 C s₃.heap [] := News.nil
        have T6 := TabAt.ofObj lo hdo hd hf
        clear F5 N5 F3 N3 G0 KX T hR
        have hdo3 := F6.keep _ _ hdo
        iterate 9 walk1
        refine get_turn hdo3 lo hd hf (fun t' => ?_)
        exact ⟨⟨u, t, _, rfl, rfl⟩, _, _, rfl, fun _ _ e => e⟩
    · intro vs' D h6 tk6 ys e e5 F6 N6 ne hF
      subst e5
      rw [List.filter_eq_self.mpr (fun _ _ => rfl)] at hF
      exact hR D h6 tk6 ys.toList e F6.keep (N6.fresh (.head _)) (N6.get (.head _)) (strs_map hu hF)
end
section
noncomputable def q4 (a : Int) : UInt64 := Float64.ofFrac false a.natAbs 4
noncomputable def fl (a : Int) : UInt64 := Float64.ofFrac false (a * 262144).natAbs 262144
noncomputable def scF (c : UInt64) : UInt64 := Float64.add (Float64.mul c (Float64.ofInt 1048576)) 4602678819172646912
noncomputable def okAt (x : UInt64) (k : Int) : Bool := !Float64.isNaN x && !Float64.isInf x && (Flt.toInt Float64.truncOf x == k * 262144)
noncomputable def compOk (c : UInt64) (k : Int) : Bool := okAt (scF c) k
noncomputable def liftD (d : Int) : UInt64 := if d = 1 then 4598175219545276416 else if d = -1 then 13821547256400052224 else 0
noncomputable def cutC (d a : Int) : Int := max 0 (min 4 (a + d))
noncomputable def gridOk (a b c d : Int) : Bool :=
  compOk (rF (Float64.add (yF (q4 a) (q4 b) (q4 c)) (liftD d)) (iF (q4 a) (q4 b) (q4 c)) (qF (q4 a) (q4 b) (q4 c))) (cutC d a) &&
  compOk (gF (Float64.add (yF (q4 a) (q4 b) (q4 c)) (liftD d)) (iF (q4 a) (q4 b) (q4 c)) (qF (q4 a) (q4 b) (q4 c))) (cutC d b) &&
  compOk (bF (Float64.add (yF (q4 a) (q4 b) (q4 c)) (liftD d)) (iF (q4 a) (q4 b) (q4 c)) (qF (q4 a) (q4 b) (q4 c))) (cutC d c)
/-- a step that makes the kernel reckon its number first -/
noncomputable def frc (x : UInt64) (f : UInt64 → Bool) : Bool := match x.toNat with
  | 0 => f 0
  | n + 1 => f (UInt64.ofNat (n + 1))
theorem frc_eq (x : UInt64) (f : UInt64 → Bool) : frc x f = f x := by
  have e : UInt64.ofNat x.toNat = x := UInt64.ofNat_toNat
  unfold frc
  split
  · rename_i h; rw [h] at e; rw [← e]; rfl
  · rename_i n h; rw [h] at e; exact congrArg f e
noncomputable def cutK (F : UInt64 → (UInt64 → Bool) → Bool) (x : UInt64) (f : UInt64 → Bool) : Bool := F (cutF x 0 .lt) fun x => F (cutF x 4607182418800017408 .gt) fun x => F (Float64.mul x (Float64.ofInt 1048576)) fun x => F (Float64.add x 4602678819172646912) f
/-- one step of one lift, from the numbers that are the same for each lift -/
noncomputable def stepK (F : UInt64 → (UInt64 → Bool) → Bool) (y0 ri rq gi gq bi bq : UInt64) (a b c d : Int) : Bool :=
  F (Float64.add y0 (liftD d)) fun y =>
  (F (Float64.add y ri) fun r => F (Float64.add r rq) fun r => cutK F r fun r => okAt r (cutC d a)) &&
  (F (Float64.sub y gi) fun g => F (Float64.sub g gq) fun g => cutK F g fun g => okAt g (cutC d b)) &&
  (F (Float64.sub y bi) fun b' => F (Float64.add b' bq) fun b' => cutK F b' fun b' => okAt b' (cutC d c))
noncomputable def gridG (F : UInt64 → (UInt64 → Bool) → Bool) (a b c : Int) : Bool :=
  F (q4 a) fun qa => F (q4 b) fun qb => F (q4 c) fun qc =>
  F (Float64.mul 4599075939470750515 qa) fun y1 => F (Float64.mul 4603489467105573601 qb) fun y2 => F (Float64.mul 4592590756007337001 qc) fun y3 => F (Float64.add y1 y2) fun y1 => F (Float64.add y1 y3) fun y0 =>
  F (Float64.sub qa y0) fun ry => F (Float64.sub qc y0) fun by_ =>
  F (Float64.mul 4604840546993784750 ry) fun i1 => F (Float64.mul 4598535507515466056 by_) fun i2 => F (Float64.sub i1 i2) fun i =>
  F (Float64.mul 4602318531202457272 ry) fun q1 => F (Float64.mul 4601057523306793533 by_) fun q2 => F (Float64.add q1 q2) fun q =>
  F (Float64.mul 4606703976345377586 i) fun ri => F (Float64.mul 4603791717925830846 q) fun rq => F (Float64.mul 4598621754083818298 i) fun gi => F (Float64.mul 4603901015759978483 q) fun gq => F (Float64.mul 4607671262177584182 i) fun bi => F (Float64.mul 4610375502138591871 q) fun bq =>
  stepK F y0 ri rq gi gq bi bq a b c (-1) && stepK F y0 ri rq gi gq bi bq a b c 0 && stepK F y0 ri rq gi gq bi bq a b c 1
noncomputable def gridK (a b c : Int) : Bool := gridG frc a b c
theorem frc_fun : frc = fun x f => f x := funext fun x => funext fun f => frc_eq x f
theorem gridK_eq (a b c : Int) : gridK a b c = (gridOk a b c (-1) && gridOk a b c 0 && gridOk a b c 1) :=
  (congrArg (fun F => gridG F a b c) frc_fun).trans rfl
set_option maxHeartbeats 0
theorem gk_00 : ∀ c ∈ ([0, 1, 2, 3, 4] : List Int), gridK 0 0 c = true := by decide +kernel
theorem gk_01 : ∀ c ∈ ([0, 1, 2, 3, 4] : List Int), gridK 0 1 c = true := by decide +kernel
theorem gk_02 : ∀ c ∈ ([0, 1, 2, 3, 4] : List Int), gridK 0 2 c = true := by decide +kernel
theorem gk_03 : ∀ c ∈ ([0, 1, 2, 3, 4] : List Int), gridK 0 3 c = true := by decide +kernel
theorem gk_04 : ∀ c ∈ ([0, 1, 2, 3, 4] : List Int), gridK 0 4 c = true := by decide +kernel
theorem gk_10 : ∀ c ∈ ([0, 1, 2, 3, 4] : List Int), gridK 1 0 c = true := by decide +kernel
theorem gk_11 : ∀ c ∈ ([0, 1, 2, 3, 4] : List Int), gridK 1 1 c = true := by decide +kernel
theorem gk_12 : ∀ c ∈ ([0, 1, 2, 3, 4] : List Int), gridK 1 2 c = true := by decide +kernel
theorem gk_13 : ∀ c ∈ ([0, 1, 2, 3, 4] : List Int), gridK 1 3 c = true := by decide +kernel
theorem gk_14 : ∀ c ∈ ([0, 1, 2, 3, 4] : List Int), gridK 1 4 c = true := by decide +kernel
theorem gk_20 : ∀ c ∈ ([0, 1, 2, 3, 4] : List Int), gridK 2 0 c = true := by decide +kernel
theorem gk_21 : ∀ c ∈ ([0, 1, 2, 3, 4] : List Int), gridK 2 1 c = true := by decide +kernel
theorem gk_22 : ∀ c ∈ ([0, 1, 2, 3, 4] : List Int), gridK 2 2 c = true := by decide +kernel
theorem gk_23 : ∀ c ∈ ([0, 1, 2, 3, 4] : List Int), gridK 2 3 c = true := by decide +kernel
theorem gk_24 : ∀ c ∈ ([0, 1, 2, 3, 4] : List Int), gridK 2 4 c = true := by decide +kernel
theorem gk_30 : ∀ c ∈ ([0, 1, 2, 3, 4] : List Int), gridK 3 0 c = true := by decide +kernel
theorem gk_31 : ∀ c ∈ ([0, 1, 2, 3, 4] : List Int), gridK 3 1 c = true := by decide +kernel
theorem gk_32 : ∀ c ∈ ([0, 1, 2, 3, 4] : List Int), gridK 3 2 c = true := by decide +kernel
theorem gk_33 : ∀ c ∈ ([0, 1, 2, 3, 4] : List Int), gridK 3 3 c = true := by decide +kernel
theorem gk_34 : ∀ c ∈ ([0, 1, 2, 3, 4] : List Int), gridK 3 4 c = true := by decide +kernel
theorem gk_40 : ∀ c ∈ ([0, 1, 2, 3, 4] : List Int), gridK 4 0 c = true := by decide +kernel
theorem gk_41 : ∀ c ∈ ([0, 1, 2, 3, 4] : List Int), gridK 4 1 c = true := by decide +kernel
theorem gk_42 : ∀ c ∈ ([0, 1, 2, 3, 4] : List Int), gridK 4 2 c = true := by decide +kernel
theorem gk_43 : ∀ c ∈ ([0, 1, 2, 3, 4] : List Int), gridK 4 3 c = true := by decide +kernel
theorem gk_44 : ∀ c ∈ ([0, 1, 2, 3, 4] : List Int), gridK 4 4 c = true := by decide +kernel
theorem gridK_all : ∀ a ∈ ([0, 1, 2, 3, 4] : List Int), ∀ b ∈ ([0, 1, 2, 3, 4] : List Int), ∀ c ∈ ([0, 1, 2, 3, 4] : List Int), gridK a b c = true :=
  mem_all (mem_all gk_00 <| mem_all gk_01 <| mem_all gk_02 <| mem_all gk_03 <| mem_all gk_04 <| fun _ h => absurd h List.not_mem_nil) <|
  mem_all (mem_all gk_10 <| mem_all gk_11 <| mem_all gk_12 <| mem_all gk_13 <| mem_all gk_14 <| fun _ h => absurd h List.not_mem_nil) <|
  mem_all (mem_all gk_20 <| mem_all gk_21 <| mem_all gk_22 <| mem_all gk_23 <| mem_all gk_24 <| fun _ h => absurd h List.not_mem_nil) <|
  mem_all (mem_all gk_30 <| mem_all gk_31 <| mem_all gk_32 <| mem_all gk_33 <| mem_all gk_34 <| fun _ h => absurd h List.not_mem_nil) <|
  mem_all (mem_all gk_40 <| mem_all gk_41 <| mem_all gk_42 <| mem_all gk_43 <| mem_all gk_44 <| fun _ h => absurd h List.not_mem_nil) <| fun _ h => absurd h List.not_mem_nil
theorem grid_all {a b c d : Int} (ha : a ∈ ([0,1,2,3,4] : List Int)) (hb : b ∈ ([0,1,2,3,4] : List Int)) (hc : c ∈ ([0,1,2,3,4] : List Int)) (hd : d ∈ ([-1,0,1] : List Int)) : gridOk a b c d = true := by
  have h := gridK_all a ha b hb c hc
  rw [gridK_eq] at h
  simp only [Bool.and_eq_true] at h
  exact mem_all (p := fun d => gridOk a b c d = true) h.1.1 (mem_all h.1.2 (mem_all h.2 fun _ h => absurd h List.not_mem_nil)) d hd
theorem quarter_all : ∀ a ∈ ([0,1,2,3,4] : List Int), Float64.div (fl a) (Float64.ofInt 4) = q4 a := by decide +kernel
end
section
theorem ar_of {A : Around} (hA : A.handled = none) : A = Ar A.depth A.units A.frames A.guards := by
  obtain ⟨h, d, f, g, u⟩ := A; cases hA; rfl
theorem news_more {h₀ h h' : Heap} {L a : Addr} {m : Str → Option Value} {news : List (Addr × Obj)} {o : Obj} (F : Fr h₀ L h m) (N : News h₀ L h news) (k : Keep h h') (ha : h.get? a = none) (ho : h'.get? a = some o) :
    News h₀ L h' ((a, o) :: news) := fun q hq => by
  rcases List.mem_cons.mp hq with rfl | hq
  · refine ⟨ho, fun e => ?_, ?_⟩
    · obtain ⟨_, _, _, hL, _⟩ := F.ns
      rw [← e, ha] at hL; cases hL
    · cases e : h₀.get? a with
      | none => rfl
      | some o' => have := F.keep _ _ e; rw [ha] at this; cases this
  · exact ⟨k _ _ (N q hq).1, (N q hq).2⟩
section
variable {w : World} {A : Around} {E : Value → Shared → Prop} {s : Shared} {Q : Value → Shared → Prop} {h₀ : Heap} {L : Addr} {m : Str → Option Value} {news : List (Addr × Obj)}
theorem yiq_N {r g b : UInt64} {t1 t2 t3 : Tok} (G : Gr w h₀) (F : Fr h₀ L s.heap m) (N : News h₀ L s.heap news) (hroom : A.depth < recursionLimit)
    (h : ∀ a h' tk u1 u2 u3, Fr h₀ L h' m → News h₀ L h' ((a, tupO [.float (yF r g b) u1, .float (iF r g b) u2, .float (qF r g b) u3]) :: news) → Q (.ref a) { s with heap := h', toks := tk }) :
    wpAny (model prg w) A (call (.ref 21) [.float r t1, .float g t2, .float b t3]) Q E s :=
  wpAny_call (yiq_call (G.keep F.keep) hroom r g b t1 t2 t3 fun a h' tk u1 u2 u3 k ha ho => h a h' tk u1 u2 u3 (F.grownK k) (news_more F N k ha ho))
theorem rgb_N {y i q : UInt64} {t1 t2 t3 : Tok} (hA : A.handled = none) (G : Gr w h₀) (F : Fr h₀ L s.heap m) (N : News h₀ L s.heap news) (hroom : A.depth < recursionLimit)
    (h : ∀ a h' tk u1 u2 u3, Fr h₀ L h' m → News h₀ L h' ((a, tupO [.float (rF y i q) u1, .float (gF y i q) u2, .float (bF y i q) u3]) :: news) → Q (.ref a) { s with heap := h', toks := tk }) :
    wpAny (model prg w) A (call (.ref 28) [.float y t1, .float i t2, .float q t3]) Q E s := by
  rw [ar_of hA]
  exact wpAny_call (rgb_call (G.keep F.keep) hroom y i q t1 t2 t3 fun a h' tk u1 u2 u3 k ha ho => h a h' tk u1 u2 u3 (F.grownK k) (news_more F N k ha ho))
end
section
variable {prog : Program} {w : World} {A : Around} {E : Value → Shared → Prop} {s : Shared} {Q : Value → Shared → Prop} {t u : Tok} {a : Int}
theorem mem_five (h0 : 0 ≤ a) (h4 : a ≤ 4) : a ∈ ([0, 1, 2, 3, 4] : List Int) := by
  obtain ⟨n, rfl⟩ := Int.eq_ofNat_of_zero_le h0
  have h : n < 5 := Nat.lt_succ_of_le (Int.ofNat_le.mp h4)
  exact (by decide : ∀ n : Nat, n < 5 → (n : Int) ∈ ([0, 1, 2, 3, 4] : List Int)) n h
theorem div4_int (hA : A.handled = none) (h0 : 0 ≤ a) (h4 : a ≤ 4) (h : ∀ t' tk, Q (.float (q4 a) t') { s with toks := tk }) : wpAny (model prog w) A (binaryOp .Div (.int a t) (.int 4 u)) Q E s := by
  refine Flt.div_ii_fits hA (Nat.lt_of_le_of_lt (by omega : a.natAbs ≤ 4) (by decide)) (fun e => by cases e) fun _ _ => ?_
  have e : (decide (a < 0) != decide ((4 : Int) < 0)) = false := by
    rw [decide_eq_false (by omega : ¬ a < 0)]; rfl
  rw [e]; exact h _ _
theorem div4_float (hA : A.handled = none) (h0 : 0 ≤ a) (h4 : a ≤ 4) (h : ∀ t' tk, Q (.float (q4 a) t') { s with toks := tk }) : wpAny (model prog w) A (binaryOp .Div (.float (fl a) t) (.int 4 u)) Q E s := by
  refine Flt.truediv_fi hA (fun ho => absurd ho (by decide +kernel)) (fun e => by cases e) fun _ _ => ?_
  rw [quarter_all a (mem_five h0 h4)]; exact h _ _
theorem pow2 {n : Int} {v : Int} (h0 : 0 ≤ n) (h1 : n ≤ 1000) (e : (2 : Int) ^ n.toNat = v) (h : ∀ t' tk, Q (.int v t') { s with toks := tk }) : wpAny (model prog w) A (binaryOp .Pow (.int 2 t) (.int n u)) Q E s := by
  subst e; exact pow_int_small h0 (by omega) (by decide) (h _ _)
theorem mul_sc {c : UInt64} (h : ∀ t' tk, Q (.float (Float64.mul c (Float64.ofInt 1048576)) t') { s with toks := tk }) : wpAny (model prog w) A (binaryOp .Mult (.float c t) (.int 1048576 u)) Q E s :=
  mul_fi_fits (Nat.lt_of_lt_of_le (by decide : (1048576 : Int).natAbs < 2 ^ 21) (Nat.pow_le_pow_right (by decide) (by decide))) (h _ _)
theorem int_sc {c : UInt64} {k : Int} (hA : A.handled = none) (hc : compOk c k = true) (h : ∀ t' tk, Q (.int (k * 262144) t') { s with toks := tk }) : wpAny (model prog w) A (call (.type "int") [.float (Float64.add (Float64.mul c (Float64.ofInt 1048576)) 4602678819172646912) t]) Q E s := by
  have hc : okAt (Float64.add (Float64.mul c (Float64.ofInt 1048576)) 4602678819172646912) k = true := hc
  unfold okAt at hc
  simp only [Bool.and_eq_true, Bool.not_eq_true', beq_iff_eq] at hc
  obtain ⟨⟨h1, h2⟩, h3⟩ := hc
  refine Flt.call_int_float3 hA (fun e => by rw [h1] at e; cases e) (fun e => by rw [h2] at e; cases e) fun _ => ?_
  rw [h3]; exact h _ _
theorem div_sc {k : Int} (hA : A.handled = none) (h0 : 0 ≤ k) (h4 : k ≤ 4) (h : ∀ tk, Q (.float (fl k) tk) { s with toks := tk + 1 }) : wpAny (model prog w) A (binaryOp .Div (.int (k * 262144) t) (.int 262144 u)) Q E s := by
  refine Flt.div_ii_fits hA (Nat.lt_of_lt_of_le (by omega : (k * 262144).natAbs < 2 ^ 30) (Nat.pow_le_pow_right (by decide) (by decide))) (fun e => by cases e) fun _ _ => ?_
  have e : (decide (k * 262144 < 0) != decide ((262144 : Int) < 0)) = false := by
    rw [decide_eq_false (by omega : ¬ k * 262144 < 0)]; rfl
  rw [e]; exact h _
theorem get_lift {d : Addr} {o : Obj} {x : Str} {t1 t2 t3 t4 t5 : Tok} (ho : s.heap.get? d = some o) (lo : (d == sysModules) = false)
    (hd : Obj.IsDictOf (strKind prog w) o (strPairs [(.str (Str.ofString "(") t1, .float 4598175219545276416 t2), (.str (Str.ofString ")") t3, .float (Float64.neg 4598175219545276416) t4)]))
    (h : ∀ t' tk, Q (.float (liftD (stepU x)) t') { s with toks := tk }) : wpAny (model prog w) A (call (.builtin "dict.get") [.ref d, .str x t, .float 0 t5]) Q E s := by
  have hD : s.heap.DictOf (strKind prog w) d (strPairs [(.str (Str.ofString "(") t1, .float 4598175219545276416 t2), (.str (Str.ofString ")") t3, .float (Float64.neg 4598175219545276416) t4)]) := Heap.dictOf_iff.mpr ⟨o, ho, hd⟩
  refine call_meetsIn PySem.F.slot_dict_get hD.typeIs PySem.F.entry_dict_get (PySem.F.args_dict_get_3 _ _ _) (meets_dict_get_default (strKind prog w) d (strKind_is prog w x t) lo (.float 0 t5)) ⟨_, hD.mapOf, ?_⟩
  have e : ∃ t', (valueAt (strPairs [(.str (Str.ofString "(") t1, .float 4598175219545276416 t2), (.str (Str.ofString ")") t3, .float (Float64.neg 4598175219545276416) t4)]) x).getD (.float 0 t5) = Value.float (liftD (stepU x)) t' := by
    have hn : Float64.neg 4598175219545276416 = 13821547256400052224 := by decide +kernel
    rw [hn]
    unfold valueAt stepU liftD
    simp only [strPairs, List.find?_cons, List.find?_nil]
    by_cases h1 : x = Str.ofString "("
    · subst h1; exact ⟨t2, by simp⟩
    · by_cases h2 : x = Str.ofString ")"
      · subst h2; exact ⟨t4, by simp [h1, Ne.symm h1]⟩
      · exact ⟨t5, by simp [h1, h2, Ne.symm h1, Ne.symm h2]⟩
  obtain ⟨t', e⟩ := e
  rw [e]; exact h _ _
end
local macro_rules | `(tactic| walk_at "binaryOp Pow int int") => `(tactic| (first | (with_unfolding_all refine pow2 (v := 1048576) (by decide) (by decide) (by decide) ?_) | (with_unfolding_all refine pow2 (v := 262144) (by decide) (by decide) (by decide) ?_)); intro t' tk'; (try dsimp only))
local macro_rules | `(tactic| walk_at "binaryOp Mult float int") => `(tactic| ((with_unfolding_all refine mul_sc ?_); intro t' tk'; (try dsimp only)))
local macro_rules | `(tactic| walk_at "call type:int") => `(tactic| ((with_unfolding_all refine int_sc rfl (by assumption) ?_); intro t' tk'; (try dsimp only)))
local macro_rules | `(tactic| walk_at "call builtin:dict.get") => `(tactic| ((dsimp only); (rename News _ _ _ _ => N'); (rename Obj.IsDictOf _ _ _ => hd'); (rename (_ == sysModules) = false => lo'); (with_unfolding_all refine get_lift (News.get N' (.head _)) lo' hd' ?_); intro t' tk'; (try dsimp only)))
local macro_rules | `(tactic| walk_at "binaryOp Div int int") => `(tactic| ((with_reducible show wpAny _ _ (binaryOp _ (Value.int (_ * 262144) _) _) _ _ _); with_unfolding_all refine div_sc rfl (by assumption) (by assumption) ?_; intro tk'; (try dsimp only)))
local macro_rules | `(tactic| walk_at "binaryOp Div int int") => `(tactic| ((with_reducible show wpAny _ _ (binaryOp _ _ (Value.int 4 _)) _ _ _); with_unfolding_all refine div4_int rfl (by assumption) (by assumption) ?_; intro t' tk'; (try dsimp only)))
local macro_rules | `(tactic| walk_at "binaryOp Div float int") => `(tactic| (with_unfolding_all refine div4_float rfl (by assumption) (by assumption) ?_; intro t' tk'; (try dsimp only)))
local macro_rules | `(tactic| walk_at "call ref") => `(tactic| ((rename Gr _ _ => G'); (rename News _ _ _ _ => N'); (rename Fr _ _ _ _ => F'); first
  | ((with_reducible show wpAny _ _ (call (Value.ref 21) _) _ _ _); (with_unfolding_all refine yiq_N G' F' N' ?hr ?_); (case hr => (simp only [depth_deeper]; omega)); (try clear F' N'); intro a' h' tk' u1' u2' u3' F' N'; (try dsimp only))
  | ((with_reducible show wpAny _ _ (call (Value.ref 28) _) _ _ _); (with_unfolding_all refine rgb_N rfl G' F' N' ?hr ?_); (case hr => (simp only [depth_deeper]; omega)); (try clear F' N'); intro a' h' tk' u1' u2' u3' F' N'; (try dsimp only))))
local macro_rules | `(tactic| walk_at "execs cons") => `(tactic| ((try dsimp only); (rename (2 ≤ _) => ht'); (with_reducible refine execs_t 2 ht' ?_); try dsimp only))
/-- the colour as the program holds it: three ints, or three floats -/
inductive ColV : List Value → Int → Int → Int → Prop
  | ints (a b c : Int) (t1 t2 t3 : Tok) : ColV [.int a t1, .int b t2, .int c t3] a b c
  | floats (a b c : Int) (t1 t2 t3 : Tok) : ColV [.float (fl a) t1, .float (fl b) t2, .float (fl c) t3] a b c
noncomputable def kOf (v : Value) : Int := match v with
  | .float c _ => (Flt.toInt Float64.truncOf (scF c)).fdiv 262144
  | _ => 0
theorem kOf_of {c : UInt64} {t : Tok} {k : Int} (h : compOk c k = true) : kOf (.float c t) = k := by
  unfold compOk okAt at h
  simp only [Bool.and_eq_true, beq_iff_eq] at h
  show (Flt.toInt Float64.truncOf (scF c)).fdiv 262144 = k
  rw [h.2, Int.mul_fdiv_cancel _ (by decide)]
theorem cutC_in (d a : Int) : 0 ≤ cutC d a ∧ cutC d a ≤ 4 := ⟨Int.le_max_left _ _, Int.max_le.mpr ⟨by decide, Int.min_le_left _ _⟩⟩
theorem stepU_in (u : Str) : stepU u ∈ ([-1, 0, 1] : List Int) := by
  unfold stepU
  split
  · decide
  · split <;> decide
structure WkD where
  mm : Str → Option Value
  lp : Addr
  own : List (Addr × Obj)
  pv : List Value
  a : Int
  b : Int
  c : Int
noncomputable def walk3 : List Str → Int × Int × Int → Int × Int × Int
  | [], p => p
  | u :: us, p => walk3 us (cutC (stepU u) p.1, cutC (stepU u) p.2.1, cutC (stepU u) p.2.2)
noncomputable def QV (v : Value) (a : Int) : Prop := (∃ t, v = .int a t) ∨ ∃ t, v = .float (fl a) t
section
variable {w : World} {A : Around} {E : Value → Shared → Prop} {s : Shared} {Q : Value → Shared → Prop} {u : Tok} {a : Int} {v : Value}
theorem div4_any (hA : A.handled = none) (hv : QV v a) (h0 : 0 ≤ a) (h4 : a ≤ 4) (h : ∀ t' tk, Q (.float (q4 a) t') { s with toks := tk }) : wpAny (model prg w) A (binaryOp .Div v (.int 4 u)) Q E s := by
  rcases hv with ⟨t, rfl⟩ | ⟨t, rfl⟩
  · exact div4_int hA h0 h4 h
  · exact div4_float hA h0 h4 h
end
set_option maxHeartbeats 8000000 in
theorem walk_call {w : World} {dp un : Nat} {fr : Option (List Env)} {gd : Option (List Code)} {s : Shared} {R : Result → Shared → Prop} (G : Gr w s.heap) (htk : 2 ≤ s.toks) (hroom : dp + 3 < recursionLimit)
   {l l0 : Addr} {vs v0 : List Value} {us : List Str} {a b c : Int} (hl0 : s.heap.IsList l0 v0.toArray) (hc0 : ColV v0 a b c) (hl : s.heap.IsList l vs.toArray) (hu : StrsAre vs us) (hus : us.length ≤ 100) (hne : us ≠ [])
   (ha : 0 ≤ a ∧ a ≤ 4) (hb : 0 ≤ b ∧ b ≤ 4) (hc : 0 ≤ c ∧ c ≤ 4)
   (hR : ∀ D h' tk ws e t1 t2 t3, Keep s.heap h' → s.heap.get? D = none → h'.get? D = some (W.listOf ws.toArray e) → ws = [.float (fl (walk3 us (a, b, c)).1) t1, .float (fl (walk3 us (a, b, c)).2.1) t2, .float (fl (walk3 us (a, b, c)).2.2) t3] → (0 < t1 ∧ 0 < t2 ∧ 0 < t3) → R (.ok (.ret (.ref D))) { s with heap := h', toks := tk }) :
   codeAny (model prg w) (Ar dp un fr gd) (.call (.ref 97) ⟨[.ref l0, .ref l], []⟩) R s := by
  refine call_pos_ret (by show dp < recursionLimit; omega) (G.X 97 _ rfl) rfl G.lim (codeRec_of G.X (by rfl)) (by rfl) (locs (by rfl)) ?h
  case h =>
    w_top on
    have G0 := G
    obtain ⟨KX, mean, mg, mb, T⟩ := G
    intro h₁ F
    have N : News s.heap s.heap.objs.size h₁ [] := News.nil
    iterate 5 walk1
    refine wpAny_For ?_
    walk1
    rename_i h3 F2 N2
    obtain ⟨m2, hm2, F2⟩ : ∃ m2 : Str → Option Value, m2 (Str.ofString "parts") = some (.ref l0) ∧ Fr s.heap s.heap.objs.size h3 m2 := ⟨_, rfl, F2⟩
    (try dsimp only)
    have hl3 : h3.IsList l vs.toArray := hl.at fun o e => F2.keep _ _ e
    refine wpAny_pyIter_list hl3 ?_
    (try dsimp only)
    have hIt0 : s.heap.get? h3.objs.size = none := fresh_size (s := ⟨h3, s.gens, s.drawn, s.toks, s.os⟩) F2
    have hItL : h3.objs.size ≠ s.heap.objs.size := Nat.ne_of_gt F2.ns.lt
    refine loop_walks_t (h₀ := s.heap) (L := s.heap.objs.size) (Walks.list rfl h3.objs.size l (fun e => by subst e; obtain ⟨o, ho, _⟩ := hl; rw [hIt0] at ho; cases ho) vs.toArray) (D := WkD)
      (fun _ d => d.mm) (fun _ d => d.own)
      (fun i d => d.mm (Str.ofString "parts") = some (.ref d.lp) ∧ (0 ≤ d.a ∧ d.a ≤ 4) ∧ (0 ≤ d.b ∧ d.b ≤ 4) ∧ (0 ≤ d.c ∧ d.c ≤ 4) ∧ walk3 (us.drop i) (d.a, d.b, d.c) = walk3 us (a, b, c) ∧
        ((i = 0 ∧ d.own = [] ∧ d.lp = l0 ∧ d.pv = v0 ∧ d.a = a ∧ d.b = b ∧ d.c = c) ∨ (0 < i ∧ d.lp ≠ h3.objs.size ∧ (∃ e, d.own = [(d.lp, W.listOf d.pv.toArray e)]) ∧ ∃ t1 t2 t3, (0 < t1 ∧ 0 < t2 ∧ 0 < t3) ∧ d.pv = [.float (fl d.a) t1, .float (fl d.b) t2, .float (fl d.c) t3])))
      (fun g => g = s.gens) 2 (by show 2 ≤ s.toks + _ + 1; omega) hIt0 hItL (fun i h st => let ⟨⟨o, ho, _⟩, _⟩ := st; ⟨o, ho⟩) ?_ ?_ ?_ ?_ ⟨m2, l0, [], v0, a, b, c⟩ ?_ rfl ?_ ?_ ?_
    case refine_1 =>
      intro x hx hxI
      simp only [List.mem_cons, List.not_mem_nil, or_false, hxI, false_or] at hx
      subst hx
      obtain ⟨o, ho, _⟩ := hl
      exact .inl ⟨o, ho⟩
    case refine_2 =>
      intro j d hok q hq
      rcases hok.2.2.2.2.2 with ⟨_, h1, _⟩ | ⟨_, h1, ⟨e, h2⟩, _⟩
      · rw [h1] at hq; cases hq
      · rw [h2, List.mem_singleton] at hq; subst hq; exact h1
    case refine_3 =>
      intro i d v h g tk o hT hi hP hok hg F N
      obtain ⟨hm, ha, hb, hc, hw, hcase⟩ := hok
      subst hg
      obtain ⟨u, t, hu', rfl⟩ := strsAre_at hu (by simpa using hP)
      obtain ⟨mm, lp, own, pv, a', b', c'⟩ := d
      dsimp only at *
      obtain ⟨ha1, ha2⟩ := ha
      obtain ⟨hb1, hb2⟩ := hb
      obtain ⟨hc1, hc2⟩ := hc
      clear hR
      obtain ⟨v1, v2, v3, hq1, hq2, hq3, hlp⟩ : ∃ v1 v2 v3, QV v1 a' ∧ QV v2 b' ∧ QV v3 c' ∧ ∀ h', Keep s.heap h' → (∀ q ∈ own, h'.get? q.1 = some q.2) → h'.IsList lp [v1, v2, v3].toArray := by
        rcases hcase with ⟨_, h1, h2, h3, h4, h5, h6⟩ | ⟨_, _, ⟨e, h1⟩, t1, t2, t3, _, h2⟩
        · subst h1 h2 h3 h4 h5 h6
          cases hc0
          · exact ⟨_, _, _, .inl ⟨_, rfl⟩, .inl ⟨_, rfl⟩, .inl ⟨_, rfl⟩, fun h' k _ => hl0.at fun o e => k _ o e⟩
          · exact ⟨_, _, _, .inr ⟨_, rfl⟩, .inr ⟨_, rfl⟩, .inr ⟨_, rfl⟩, fun h' k _ => hl0.at fun o e => k _ o e⟩
        · subst h1 h2
          exact ⟨_, _, _, .inr ⟨_, rfl⟩, .inr ⟨_, rfl⟩, .inr ⟨_, rfl⟩, fun h' _ hq => ⟨_, hq _ (.head _), rfl, _, rfl⟩⟩
      clear hcase hc0 hl0
      refine hide_turn fun Q0 hQ0 => ?_
      refine wpAny_toks (n := 2) hT ?_
      iterate 12 walk1
      rename Fr _ _ _ _ => F'
      rename News _ _ _ _ => N'
      with_unfolding_all refine PyProof.Rows.item_list (hlp _ (Fr.keep F') fun q hq => (N' q (.tail _ hq)).1) (by decide) (by decide) rfl ?_
      (try dsimp only)
      walk1
      with_unfolding_all refine div4_any rfl hq1 (by assumption) (by assumption) ?_; intro t' tk'; (try dsimp only)
      iterate 5 walk1
      rename Fr _ _ _ _ => F'
      rename News _ _ _ _ => N'
      with_unfolding_all refine PyProof.Rows.item_list (hlp _ (Fr.keep F') fun q hq => (N' q (.tail _ hq)).1) (by decide) (by decide) rfl ?_
      (try dsimp only)
      walk1
      with_unfolding_all refine div4_any rfl hq2 (by assumption) (by assumption) ?_; intro t' tk'; (try dsimp only)
      iterate 5 walk1
      rename Fr _ _ _ _ => F'
      rename News _ _ _ _ => N'
      with_unfolding_all refine PyProof.Rows.item_list (hlp _ (Fr.keep F') fun q hq => (N' q (.tail _ hq)).1) (by decide) (by decide) rfl ?_
      (try dsimp only)
      walk1
      with_unfolding_all refine div4_any rfl hq3 (by assumption) (by assumption) ?_; intro t' tk'; (try dsimp only)
      iterate 40 walk1
      rename_i h9 F9 N9 hT8
      have G9 := ‹Gr w s.heap›
      have hdr : us.drop i = u :: us.drop (i + 1) := List.drop_eq_getElem?_toList_append.trans (by rw [hu']; rfl)
      rw [hdr] at hw
      refine comp_tupleA_t 2 hT8 (m := mapOf F9) (cl := []) (h₀ := s.heap) (news := (h3.objs.size, o) :: own) (fun vs => ∃ u1 u2 u3, vs = [.float (rF (Float64.add (yF (q4 a') (q4 b') (q4 c')) (liftD (stepU u))) (iF (q4 a') (q4 b') (q4 c')) (qF (q4 a') (q4 b') (q4 c'))) u1,
        .float (gF (Float64.add (yF (q4 a') (q4 b') (q4 c')) (liftD (stepU u))) (iF (q4 a') (q4 b') (q4 c')) (qF (q4 a') (q4 b') (q4 c'))) u2, .float (bF (Float64.add (yF (q4 a') (q4 b') (q4 c')) (liftD (stepU u))) (iF (q4 a') (q4 b') (q4 c')) (qF (q4 a') (q4 b') (q4 c'))) u3])
        (fun _ => true) (fun v y => ∃ t', 0 < t' ∧ y = .float (fl (kOf v)) t') rfl ?hsz rfl rfl (by decide) rfl (by decide) rfl rfl rfl ?hit ?hq ?hQ
      case hsz => rintro v ⟨_, _, _, rfl⟩; rw [sizeLine_eq]; exact Nat.le_of_lt (by simp)
      case hit =>
        iterate 14 walk1
        rename Gr _ _ => G'
        rename News _ _ _ _ => N'
        rename Fr _ _ _ _ => F'
        with_unfolding_all refine rgb_N rfl G' F' N' ?hr ?_
        case hr => simp only [depth_deeper]; omega
        intro a8 h8 tk8 v1 v2 v3 F8 N8
        exact ⟨_, _, _, _, ⟨_, _, _, rfl⟩, rfl, rfl, ⟨_, N8.get (.head _), rfl, _, rfl⟩, F8, fun q hq => N8 q (.tail _ (.tail _ (.tail _ hq)))⟩
      case hq =>
        rintro vs' h5 ⟨u1, u2, u3, rfl⟩ F5 N5
        dsimp only [mapOf] at F5
        have G5 : Gr w h5 := G9.keep F5.keep
        have hg := grid_all (mem_five ha1 ha2) (mem_five hb1 hb2) (mem_five hc1 hc2) (stepU_in u)
        unfold gridOk at hg
        simp only [Bool.and_eq_true] at hg
        obtain ⟨⟨g1, g2⟩, g3⟩ := hg
        have hka := cutC_in (stepU u) a'
        have hkb := cutC_in (stepU u) b'
        have hkc := cutC_in (stepU u) c'
        clear F9 N9 F5 N5 KX T G9
        refine ⟨fun C i v s₃ m₃ E' _ hP F6 hm6 => tests0 rfl, fun C i v s₃ m₃ E' h2 hP hp F6 hm6 => ?_⟩
        have hv : ∃ x t k, v = Value.float x t ∧ compOk x k = true ∧ 0 ≤ k ∧ k ≤ 4 := by
          rcases i with _ | _ | _ | i
          · cases hP; exact ⟨_, _, _, rfl, g1, hka.1, hka.2⟩
          · cases hP; exact ⟨_, _, _, rfl, g2, hkb.1, hkb.2⟩
          · cases hP; exact ⟨_, _, _, rfl, g3, hkc.1, hkc.2⟩
          · cases hP
        obtain ⟨x, t0, k, rfl, gk, hk0, hk4⟩ := hv
        have N6 : News h5 C s₃.heap [] := News.nil
        clear g1 g2 g3 hP
        have gk2 := gk
        refine wpAny_toks (n := 2) h2 ?_
        repeat' walk1
        rename_i h2
        have e9 := kOf_of (t := t0) gk2
        rw [e9]
        exact ⟨⟨_, Nat.lt_of_succ_le (Nat.le_of_succ_le_succ h2), rfl⟩, _, _, rfl, fun _ _ e => e⟩
      case hQ =>
        rintro vs' D h6 tk6 ys e6 ⟨u1, u2, u3, rfl⟩ F6 N6 ne hF
        dsimp only [mapOf] at F6
        have hg := grid_all (mem_five ha1 ha2) (mem_five hb1 hb2) (mem_five hc1 hc2) (stepU_in u)
        unfold gridOk at hg
        simp only [Bool.and_eq_true] at hg
        obtain ⟨⟨g1, g2⟩, g3⟩ := hg
        rw [List.filter_eq_self.mpr (fun _ _ => rfl)] at hF
        obtain ⟨ys⟩ := ys
        have hys : ∃ t1 t2 t3, (0 < t1 ∧ 0 < t2 ∧ 0 < t3) ∧ ys = [Value.float (fl (cutC (stepU u) a')) t1, .float (fl (cutC (stepU u) b')) t2, .float (fl (cutC (stepU u) c')) t3] := by
          replace hF : Paired _ _ ys := hF
          cases hF with | cons e1 hF =>
          cases hF with | cons e2 hF =>
          cases hF with | cons e3 hF =>
          cases hF
          obtain ⟨t1, z1, rfl⟩ := e1; obtain ⟨t2, z2, rfl⟩ := e2; obtain ⟨t3, z3, rfl⟩ := e3
          rw [kOf_of g1, kOf_of g2, kOf_of g3]
          exact ⟨_, _, _, ⟨z1, z2, z3⟩, rfl⟩
        have hka := cutC_in (stepU u) a'
        have hkb := cutC_in (stepU u) b'
        have hkc := cutC_in (stepU u) c'
        have hD : D ≠ h3.objs.size := fun e => ne _ (.head _) e.symm
        have F7 := F6
        have N7 : News s.heap s.heap.objs.size h6 [(h3.objs.size, o), (D, W.listOf ys.toArray e6)] := fun q hq => N6 q (by simp only [List.mem_cons, List.not_mem_nil, or_false] at hq ⊢; exact hq.elim (fun e => .inr (.inl e)) .inl)
        clear N6 F6 F9 N9
        iterate 2 walk1
        refine hQ0 _ _ ⟨⟨_, D, [(D, W.listOf ys.toArray e6)], ys, _, _, _⟩, _, _, _, rfl, ⟨rfl, hka, hkb, hkc, hw, .inr ⟨Nat.succ_pos _, hD, ⟨_, rfl⟩, hys⟩⟩, rfl, F7, N7⟩
    case refine_4 =>
      intro d h g tk hok hg F N
      obtain ⟨hm, ha, hb, hc, hw, hcase⟩ := hok
      subst hg
      rcases hcase with ⟨h0, _⟩ | ⟨hi0, hlp, ⟨e, ho⟩, t1, t2, t3, hz, hpv⟩
      · have e1 := strsAre_length hu
        rw [List.size_toArray] at h0
        exact absurd (List.length_eq_zero_iff.mp (e1.symm.trans h0)) hne
      · have hd0 : us.drop vs.toArray.size = [] := by rw [List.size_toArray, strsAre_length hu, List.drop_length]
        rw [hd0] at hw
        rw [ho] at N
        have hN := N.get (.head _)
        have hNf := N.fresh (.head _)
        have hk := F.keep
        repeat' walk1
        rw [hpv] at hN
        have hN : h.get? d.lp = some (W.listOf [Value.float (fl d.a) t1, .float (fl d.b) t2, .float (fl d.c) t3].toArray e) := hN
        have hw : (d.a, d.b, d.c) = walk3 us (a, b, c) := hw
        exact hR _ _ _ _ _ t1 t2 t3 hk hNf hN (by rw [← hw]) hz
    case refine_5 => exact ⟨hm2, ha, hb, hc, rfl, .inl ⟨rfl, rfl, rfl, rfl, rfl, rfl, rfl⟩⟩
    case refine_6 => exact F2.push _
    case refine_7 => exact N2.grown fun _ _ e => Heap.get?_push_of_some _ e
    case refine_8 => exact ⟨⟨_, Heap.get?_push_size _ rfl, rfl, rfl⟩, hl3.push _⟩
end
section
section
variable {M : Model} {A : Around} {R : GenEnd} {Y : Protocol} {n : Nat} {s₀ : Shared} {c : Code} {fs : List Frame} {s : Shared} {env : Env}
  {K : Flow → Sem Fin} {H : Value → Sem Fin} {gd : Bool → Bool} {lv : List Value → List Value}
/-- a statement that does not yield -/
theorem seg_plain {st : Stmt} (h : wpAny M (A.over c fs) (exec st env) (fun f s' => Seg M A R Y n s₀ c (K f) fs s') (fun _ _ => False) s) :
    Seg M A R Y n s₀ c ((exec st env).wrap K H gd lv) fs s :=
  seg_wrap (wpAny_mono h (fun _ _ e => e) fun _ _ e => e.elim)
theorem seg_If {test : Expr} {body orelse : List Stmt} {pos : Pos}
    (h : wpAny M (A.over c fs) (isTrue test env (eval test env)) (fun b s' => if b = true then Seg M A R Y n s₀ c ((execs body env).wrap K H gd lv) fs s' else Seg M A R Y n s₀ c ((execs orelse env).wrap K H gd lv) fs s') (fun _ _ => False) s) :
    Seg M A R Y n s₀ c ((exec (.If test body orelse pos) env).wrap K H gd lv) fs s := by
  rw [exec_If]
  refine seg_bind_wrap (wpAny_standAt ?_)
  refine seg_bind_wrap (wpAny_mono h (fun b s' h' => ?_) fun _ _ e => e.elim)
  cases b with
  | true => exact h'
  | false => exact h'
/-- the frame that a for leaves under its loop -/
noncomputable def forFrame (env : Env) (K : Flow → Sem Fin) (H : Value → Sem Fin) (gd : Bool → Bool) (lv : List Value → List Value) (c : Code) (p : Pos) : Frame :=
  .ret (fun r => ((match r with | .ok f => (.pure f : Sem Flow) | .error e => .raise e).onRaise fun (x : Value) => do
        if (← field x 1) == Value.none then unsupported "frame.own-activation:exception-without-traceback"
        setFlight x env.frame).wrap K H gd lv) none (gd false) (lv []) c p []
theorem seg_For {target iter : Expr} {body orelse : List Stmt} {pos : Pos}
    (h : wpAny M (A.over c fs) (eval iter env) (fun x s₁ => wpAny M (A.over c fs) (pyIter x) (fun it s₂ =>
      ∀ p, Seg M A R Y n s₀ (.forLoop target it body orelse env) (M.den (.forLoop target it body orelse env)) (forFrame env K H gd lv c p :: fs) s₂) (fun _ _ => False) s₁) (fun _ _ => False) s)
    (hs : ∀ x, foldedSetIterable iter env x = pure x := by intro _; rfl) :
    Seg M A R Y n s₀ c ((exec (.For target iter body orelse pos) env).wrap K H gd lv) fs s := by
  rw [exec_For]
  refine seg_bind_wrap (wpAny_standAt ?_)
  refine seg_bind_wrap (wpAny_mono h (fun x s₁ h₁ => ?_) fun _ _ e => e.elim)
  refine seg_bind_wrap (wpAny_of_eq (hs x) ?_)
  refine seg_bind_wrap (wpAny_standAt ?_)
  refine seg_bind_wrap (wpAny_holding (wpAny_mono h₁ (fun it s₂ h₂ => ?_) fun _ _ e => e.elim))
  exact seg_call h₂
end
section
variable {prog : Program} {w : World} {A : Around} {R : GenEnd} {Y : Protocol} {n : Nat} {s₀ : Shared} {fs : List Frame} {s : Shared} {env cenv : Env} {c : Code} {p : Pos}
  {K : Flow → Sem Fin} {H : Value → Sem Fin} {gd : Bool → Bool} {lv : List Value → List Value}
/-- one turn of a for whose body may yield -/
theorem seg_forTurn {target : Expr} {I : Value} {body : List Stmt}
    (h : wpAny (model prog w) (A.over (.forLoop target I body [] env) (forFrame cenv K H gd lv c p :: fs)) (pyNext I) (fun r s₁ => match r with
      | none => Seg (model prog w) A R Y n s₀ c (K .next) fs s₁
      | some v => wpAny (model prog w) (A.over (.forLoop target I body [] env) (forFrame cenv K H gd lv c p :: fs)) (letOwnedTupleGo target I v) (fun _ s₂ =>
          wpAny (model prog w) (A.over (.forLoop target I body [] env) (forFrame cenv K H gd lv c p :: fs)) (assign target env v) (fun _ s₃ =>
            Seg (model prog w) A R Y n s₀ (.forLoop target I body [] env) ((execs body env).wrap (fun f => match f with
              | .next | .cont => .pure (.again (.forLoop target I body [] env))
              | .brk => .pure (.done .next)
              | .ret v => .pure (.done (.ret v))) (fun e => (do noteFrame e env; theTreesLotGoes e : Sem Unit).wrap (fun _ => .raise e) .raise id id) id id) (forFrame cenv K H gd lv c p :: fs) s₃) (fun _ _ => False) s₂) (fun _ _ => False) s₁) (fun _ _ => False) s) :
    Seg (model prog w) A R Y n s₀ (.forLoop target I body [] env) ((model prog w).den (.forLoop target I body [] env)) (forFrame cenv K H gd lv c p :: fs) s := by
  show Seg _ A R Y n s₀ _ ((forTurn target I body [] env).onRaise (fun x => do noteFrame x env; theTreesLotGoes x)) _ s
  unfold forTurn
  rw [Sem.onRaise_eq_wrap]
  refine seg_bind_wrap (wpAny_standAt ?_)
  refine seg_bind_wrap (wpAny_onRaise (wpAny_mono h (fun r s₁ h₁ => ?_) fun _ _ e => e.elim))
  cases r with
  | none =>
    refine seg_again rfl ?_
    exact seg_leaf (.ok .next) h₁
  | some v =>
    refine seg_bind_wrap (wpAny_mono h₁ (fun _ s₂ h₂ => ?_) fun _ _ e => e.elim)
    refine seg_bind_wrap (wpAny_mono h₂ (fun _ s₃ h₃ => ?_) fun _ _ e => e.elim)
    rw [Sem.bind_eq_wrap', Sem.wrap_wrap]
    rw [Sem.wrap_congr (execs body env) _ _ (K' := fun f => match f with
              | .next | .cont => .pure (.again (.forLoop target I body [] env))
              | .brk => .pure (.done .next)
              | .ret v => .pure (.done (.ret v))) (H' := (fun e => (do noteFrame e env; theTreesLotGoes e : Sem Unit).wrap (fun _ => .raise e) .raise id id))
        (fun f => by cases f <;> rfl)
        (fun e => by first | exact Sem.bind_eq_wrap _ _ | (show (do noteFrame e env; theTreesLotGoes e : Sem Unit).bind (fun _ => .raise e) = _; rw [Sem.bind_eq_wrap]))]
    exact h₃
end
end
section
section
variable {prog : Program} {w : World} {A : Around} {R : GenEnd} {Y : Protocol} {fs : List Frame} {env cenv : Env} {c : Code} {p : Pos}
  {K : Flow → Sem Fin} {H : Value → Sem Fin} {gd : Bool → Bool} {lv : List Value → List Value}
/-- a for whose body may yield, by fuel -/
theorem seg_for_ind {target : Expr} {I : Value} {body : List Stmt} (J : Nat → Nat → Shared → Shared → Prop)
    (turn : ∀ k n s₀ s, J k n s₀ s → (∀ k' n' s₀' s', k' < k → J k' n' s₀' s' → Seg (model prog w) A R Y n' s₀' (.forLoop target I body [] env) (.pure (.again (.forLoop target I body [] env))) (forFrame cenv K H gd lv c p :: fs) s') →
      wpAny (model prog w) (A.over (.forLoop target I body [] env) (forFrame cenv K H gd lv c p :: fs)) (pyNext I) (fun r s₁ => match r with
      | none => Seg (model prog w) A R Y n s₀ c (K .next) fs s₁
      | some v => wpAny (model prog w) (A.over (.forLoop target I body [] env) (forFrame cenv K H gd lv c p :: fs)) (letOwnedTupleGo target I v) (fun _ s₂ =>
          wpAny (model prog w) (A.over (.forLoop target I body [] env) (forFrame cenv K H gd lv c p :: fs)) (assign target env v) (fun _ s₃ =>
            Seg (model prog w) A R Y n s₀ (.forLoop target I body [] env) ((execs body env).wrap (fun f => match f with
              | .next | .cont => .pure (.again (.forLoop target I body [] env))
              | .brk => .pure (.done .next)
              | .ret v => .pure (.done (.ret v))) (fun e => (do noteFrame e env; theTreesLotGoes e : Sem Unit).wrap (fun _ => .raise e) .raise id id) id id) (forFrame cenv K H gd lv c p :: fs) s₃) (fun _ _ => False) s₂) (fun _ _ => False) s₁) (fun _ _ => False) s) :
    ∀ k n s₀ s, J k n s₀ s → Seg (model prog w) A R Y n s₀ (.forLoop target I body [] env) ((model prog w).den (.forLoop target I body [] env)) (forFrame cenv K H gd lv c p :: fs) s := by
  intro k
  induction k using Nat.strongRecOn with
  | ind k ih => exact fun n s₀ s hJ => seg_forTurn (turn k n s₀ s hJ fun k' n' s₀' s' hk hJ' => seg_again rfl (ih k' hk n' s₀' s' hJ'))
end
/-- a call that makes a generator -/
theorem call_gen {prog : Program} {w : World} {A : Around} {R : Result → Shared → Prop} {s : Shared} {name : Str} {params : Arguments} {body : List Stmt} {scope : Scope}
    {pm cd doc : Value} {a : Addr} {o : Obj} {args : List Value}
    (hroom : A.depth < recursionLimit) (ho : s.heap.get? a = some o) (hdata : o.data = .func (Calls.docDef name params body scope pm cd doc)) (hlim : s.heap.NoLimit) (hcd : s.heap.CodeRec cd name)
    (hbind : bindArgs (Calls.docDef name params body scope pm cd doc) ⟨args, []⟩ = pure ((params.args.map (·.arg)).zip args))
    (hloc : ∀ x ∈ (params.args.map (·.arg)).zip args, scope.names.lookup x.1 = some .local)
    (h : ∀ h₁ o₁ tk, Fr s.heap s.heap.objs.size h₁ (fun x => ((params.args.map (·.arg)).zip args).reverse.lookup x) → h₁.objs.size = s.heap.objs.size + 1 → (h₁.push o₁).IsGen h₁.objs.size s.gens.size →
      R (.ok (.ret (.ref h₁.objs.size))) { s with heap := h₁.push o₁, gens := s.gens.push (.fresh (.func body (envOf name scope s.heap.objs.size a cd))), toks := tk })
    (hco : scope.isCoroutine = false := by rfl) (hgen : scope.isGenerator = true := by rfl) (hk : scope.kind = .function := by rfl)
    (hcell : ∀ x ∈ scope.names, x.2 ≠ .cell := by decide) :
    codeAny (model prog w) A (.call (.ref a) ⟨args, []⟩) R s := by
  refine codeAny_call_generator hroom ho hdata hco hgen rfl hcd ?_
  rw [hbind]
  refine wpAny_pure (wpAny_newFunctionEnv hcell hloc (fun h₁ hns hsb => ⟨hlim.fresh _ hsb, ?_⟩) hk)
  refine h h₁ _ _ ⟨hns, fun b o e => hsb.extBut b o (Nat.ne_of_lt (Heap.lt_size e)) (Heap.get?_push_of_some _ e), Nat.le_refl _⟩ ?_ ⟨_, _, _, Heap.get?_push_size _ rfl, rfl, rfl, rfl⟩
  · exact hsb.1.trans (Heap.size_push _ _)
section
variable {prog : Program} {w : World} {A : Around} {E : Value → Shared → Prop} {s : Shared}
/-- a wake of a generator, with what it left bare -/
theorem next_gen {a : Addr} {g n : Nat} {gs : GenState} {P : Nat → Shared → Shared → Prop} {Y : Protocol} {Q : Option Value → Shared → Prop} (hh : A.handled = none)
    (hl : s.heap.NoLimit) (hroom : A.depth < recursionLimit)
    (hg : s.heap.IsGen a g) (hgs : s.gens[g]? = some gs)
    (hgo : gs.Goes (model prog w) A.in1 (fun n s₀ r s₁ => r = .ok (.ret .none) ∧ P n s₀ s₁) Y n (.send .none) (s.setGen g .running))
    (hY : ∀ v s₁ gs', gs'.bare = true → Y (n - 1) (s.setGen g .running) v s₁ (fun r' s'' => match n with
        | 0 => False
        | m + 1 => gs'.Goes (model prog w) A.in1 (fun n s₀ r s₁ => r = .ok (.ret .none) ∧ P n s₀ s₁) Y m r' s'') → Q (some v) (s₁.setGen g gs'))
    (hP : ∀ s₁, P n (s.setGen g .running) s₁ → ∀ h', Keep s₁.heap h' → Q none { s₁.setGen g .finished with heap := h' }) :
    wpAny (model prog w) A (pyNext (.ref a)) Q E s := by
  unfold pyNext
  refine wpAny_bind (wpAny_attempt (wpAny_callSpecial?_slot (name := Str.ofString "__next__") hg.typeIs slot_gen_next
    (wpAny_call_entry slot_gen_next hg.typeIs entry_gen_next ?_ (args_gen_next _))))
  show wpAny _ _ (Builtin.Generator.genWake (.ref a) (.send .none)) _ _ s
  unfold Builtin.Generator.genWake
  refine wpAny_bind (wpAny_holding (wpAny_genNumber hg (wpAny_bind (wpAny_genState hgs ?_))))
  cases gs with
  | running => exact hgo.elim
  | finished => exact hgo.elim
  | _ =>
    refine wpAny_bind (wpAny_roomToWake hl hroom ?_)
    show wpAny _ _ (.resume g (.send .none) [] _) _ _ s
    refine wpAny_resumeQ hgs hgo (fun x s₁ hx => ?_) (fun v s₁ gs' hb hv => ?_)
    · obtain ⟨rfl, hp⟩ := hx
      show wpAny _ _ (newExc (.type "StopIteration") [] >>= _) _ _ _
      refine wpAny_bind ?_
      simp only [newExc, newTuple]
      refine wpAny_bind (wpAny_newObj_type ?_ (by size_fits))
      refine wpAny_bind (m := firstArgMember _ _) (wpAny_of_eq (a := Value.none) (by first | rfl | (simp only [firstArgMember]; rfl)) ?_)
      refine wpAny_newObj_type ?_ (by size_fits)
      simp only [raiseNew]
      refine wpAny_bind (wpAny_bind (wpAny_handled ?_))
      rw [show A.in1.handled = none from hh]
      refine wpAny_throw ?_
      refine wpAny_bind (wpAny_isInstance (T := "StopIteration") (b := true) ⟨_, Heap.get?_push_size _ rfl, rfl⟩ isSubtype_stop ?_)
      exact wpAny_pure (hP s₁ hp _ fun b o hb => Heap.get?_push_of_some _ (Heap.get?_push_of_some _ hb))
    · exact wpAny_pure ⟨v, rfl, wpAny_pure (hY v s₁ gs' hb hv)⟩
end
/-- what `_iter_escaped_chars` tells, from place i on -/
noncomputable def escL : List Nat → Nat → Bool → List (Nat × Str)
  | [], i, true => [(i - 1, ⟨#[92]⟩)]
  | [], _, false => []
  | c :: cs, i, true => (i, ⟨#[92, c]⟩) :: escL cs (i + 1) false
  | c :: cs, i, false => if c = 92 then escL cs (i + 1) true else (i, ⟨#[c]⟩) :: escL cs (i + 1) false
end
section
noncomputable def EscY (C e it : Addr) (hB : Heap) (all : List (Nat × Str)) : Protocol := fun m s₀ v s kap =>
  ∃ T p ch t u, ∃ own : List (Addr × Obj), ∃ h' tk, all[all.length - 1 - m]? = some (p, ch) ∧ v = .ref T ∧ s = { s₀ with heap := h', toks := tk } ∧ h'.get? T = some (tupO [.int (p : Nat) t, .str ch u]) ∧ s₀.heap.get? T = none ∧
    T ∉ [C, e, it] ∧ (∀ b o, b ∉ [C, e, it] → s₀.heap.get? b = some o → h'.get? b = some o) ∧ (∀ q : Addr × Obj, q ∈ own → q.1 ∈ [C, e, it] ∧ h'.get? q.1 = some q.2) ∧
    ∀ s'' : Shared, Keep hB s''.heap → (∀ q : Addr × Obj, q ∈ own → s''.heap.get? q.1 = some q.2) → kap (.send .none) s''
noncomputable def EscP (C e it : Addr) : Nat → Shared → Shared → Prop := fun n s₀ s₁ => n = 0 ∧ ∃ h' tk, s₁ = { s₀ with heap := h', toks := tk } ∧ ∀ b o, b ∉ [C, e, it] → s₀.heap.get? b = some o → h'.get? b = some o
noncomputable def EscGo (w : World) (A : Around) (C e it : Addr) (hB : Heap) (all : List (Nat × Str)) (n : Nat) (gs : GenState) (s : Shared) : Prop :=
  gs.Goes (model prg w) A (fun n s₀ r s₁ => r = .ok (.ret .none) ∧ EscP C e it n s₀ s₁) (EscY C e it hB all) n (.send .none) s
theorem esc_here {all pre rest : List (Nat × Str)} {q : Nat × Str} (h : all = pre ++ q :: rest) : all[all.length - 1 - rest.length]? = some q := by
  subst h
  rw [List.length_append, List.length_cons]
  have e : pre.length + (rest.length + 1) - 1 - rest.length = pre.length := by omega
  rw [e, List.getElem?_append_right (Nat.le_refl _), Nat.sub_self]; rfl
theorem own3 {h : Heap} {a b c : Addr} {x y z : Obj} (ha : h.get? a = some x) (hb : h.get? b = some y) (hc : h.get? c = some z) (q : Addr × Obj) (hq : q ∈ [(a, x), (b, y), (c, z)]) : q.1 ∈ [a, b, c] ∧ h.get? q.1 = some q.2 := by
  simp only [List.mem_cons, List.not_mem_nil, or_false] at hq
  rcases hq with rfl | rfl | rfl
  · exact ⟨by simp, ha⟩
  · exact ⟨by simp, hb⟩
  · exact ⟨by simp, hc⟩
theorem own3' {h : Heap} {a b c : Addr} {x y z : Obj} (H : ∀ q : Addr × Obj, q ∈ [(a, x), (b, y), (c, z)] → h.get? q.1 = some q.2) : h.get? a = some x ∧ h.get? b = some y ∧ h.get? c = some z :=
  ⟨H (a, x) (by simp), H (b, y) (by simp), H (c, z) (by simp)⟩
/-- how a turn of `_iter_escaped_chars` finds things -/
noncomputable def EscInv (x : Str) (t : Tok) (C It : Addr) (hB : Heap) (all : List (Nat × Str)) (k n : Nat) (s₀ s1 : Shared) : Prop := ∃ i esc m h' tk, k = x.cps.size - i ∧ i ≤ x.cps.size ∧ n = (escL (x.cps.toList.drop i) i esc).length ∧ (∃ pre, all = pre ++ escL (x.cps.toList.drop i) i esc) ∧
      s1 = { s₀ with heap := h', toks := tk } ∧ (∃ old, IsEnum h' (It + 1) It i old) ∧ h'.IsStrIter It "str_ascii_iterator" x t i ∧ h'.Ns C m ∧ m (Str.ofString "escape") = some (.bool esc) ∧
      (0 < i → ∃ t, m (Str.ofString "pos") = some (.int ((i - 1 : Nat) : Int) t)) ∧ (esc = true → 0 < i) ∧ Keep hB h' ∧ (∀ b o, b ∉ [C, It + 1, It] → s₀.heap.get? b = some o → h'.get? b = some o)
set_option maxHeartbeats 2000000 in
theorem esc_call {w : World} {A : Around} {s : Shared} {R : Result → Shared → Prop} (G : Gr w s.heap) (hroom : A.depth < recursionLimit) {x : Str} {t : Tok} (hx : x.cps.all (· < 128) = true)
   (hR : ∀ h' tk gs oC, Keep s.heap h' → h'.IsGen (s.heap.objs.size + 1) s.gens.size → h'.get? s.heap.objs.size = some oC → gs.bare = true →
     (∀ A' hB s'', Gr w hB → A'.handled = none → Keep hB s''.heap → hB.objs.size ≤ s.heap.objs.size → s''.heap.get? s.heap.objs.size = some oC →
       EscGo w A' s.heap.objs.size (s''.heap.objs.size + 1) s''.heap.objs.size hB (escL x.cps.toList 0 false) (escL x.cps.toList 0 false).length gs s'') →
     R (.ok (.ret (.ref (s.heap.objs.size + 1)))) { s with heap := h', gens := s.gens.push gs, toks := tk }) :
   codeAny (model prg w) A (.call (.ref 49) ⟨[.str x t], []⟩) R s := by
  refine call_gen hroom (G.X 49 _ rfl) rfl G.lim (codeRec_of G.X (by rfl)) (by rfl) (locs (by rfl)) ?h
  case h =>
    w_top on
    intro h₁ o₁ tk F hsz hgen
    obtain ⟨m0, hm0, F⟩ : ∃ m0 : Str → Option Value, m0 (Str.ofString "addr") = some (.str x t) ∧ Fr s.heap s.heap.objs.size h₁ m0 := ⟨_, rfl, F⟩
    obtain ⟨oC, a1, a2, hoC, ens⟩ := F.ns
    have hns1 : ∀ h' : Heap, h'.get? s.heap.objs.size = some oC → h'.Ns s.heap.objs.size m0 := fun h' e => ⟨oC, a1, a2, e, ens⟩
    rw [hsz] at hgen ⊢
    refine hR _ _ _ oC (fun b o e => Heap.get?_push_of_some _ (F.keep b o e)) hgen (Heap.get?_push_of_some _ hoC) rfl ?_
    clear hR hgen
    intro A' hB s'' GB hA' hk hlt hC
    refine ⟨rfl, seg_func ?_⟩
    have hN := hns1 _ hC
    refine seg_execs_cons (seg_plain (wpAny_Assign_Name ?_))
    clear F hoC
    have keepC : ∀ {h h' : Heap} (hs : Heap.SameBut s.heap.objs.size h h'), Keep hB h → Keep hB h' := fun hs hk b o e => hs.extBut b o (fun q => absurd (Heap.lt_size e) (by rw [q]; exact Nat.not_lt.mpr hlt)) (hk b o e)
    walk1
    refine wpAny_storeName_local rfl hN (fun h2 hn2 hs2 => ?_)
    dsimp only
    replace hs2 : Heap.SameBut s.heap.objs.size s''.heap h2 := hs2
    replace hn2 : h2.Ns s.heap.objs.size _ := hn2
    have hk2 := keepC hs2 hk
    refine seg_execs_cons (seg_plain (wpAny_Assign_Name ?_))
    walk1
    refine wpAny_storeName_local rfl hn2 (fun h3 hn3 hs3 => ?_)
    dsimp only
    replace hs3 : Heap.SameBut s.heap.objs.size h2 h3 := hs3
    replace hn3 : h3.Ns s.heap.objs.size _ := hn3
    have hk3 := keepC hs3 hk2
    refine seg_execs_cons (seg_For ?_)
    have F3 : Fr hB s.heap.objs.size h3 _ := ⟨hn3, hk3, hlt⟩
    have N3 : News hB s.heap.objs.size h3 [] := News.nil
    have GB0 := GB
    obtain ⟨KX, mean, mg, mb, T⟩ := GB
    iterate 6 walk1
    refine call_enumerate_str (fun h4 he hit hsz4 hk4 => ?_)
    have hz3 : h3.objs.size = s''.heap.objs.size := hs3.1.trans hs2.1
    simp only [hz3] at he hit ⊢
    refine wpAny_pyIter_enum he ?_
    intro p
    have hCit : s.heap.objs.size < s''.heap.objs.size := Heap.lt_size hC
    have hk04 : ∀ b o, b ∉ [s.heap.objs.size, s''.heap.objs.size + 1, s''.heap.objs.size] → s''.heap.get? b = some o → h4.get? b = some o := fun b o hb e =>
      hk4 b o (hs3.extBut b o (fun q => hb (by simp [q])) (hs2.extBut b o (fun q => hb (by simp [q])) e))
    have hit : h4.IsStrIter s''.heap.objs.size "str_ascii_iterator" x t 0 := by simpa [strIterType, hx] using hit
    have hn4 := hn3.keeps hk4
    have hkB4 : Keep hB h4 := fun b o e => hk4 b o (hk3 b o e)
    have hBit : hB.get? s''.heap.objs.size = none := Heap.get?_none_of_le (Nat.le_trans hlt (Nat.le_of_lt hCit))
    have hBe : hB.get? (s''.heap.objs.size + 1) = none := Heap.get?_none_of_le (Nat.le_trans hlt (Nat.le_of_lt (Nat.lt_succ_of_lt hCit)))
    have hBC : hB.get? s.heap.objs.size = none := Heap.get?_none_of_le hlt
    clear hns1 hN hn2 hs2 hk2 hn3 hs3 hk3 hk4 hsz4 KX T F hsz
    generalize hIt : s''.heap.objs.size = It at *
    generalize hCC : s.heap.objs.size = C at *
    obtain ⟨all, hall⟩ : ∃ all, all = escL x.cps.toList 0 false := ⟨_, rfl⟩
    rw [← hall]
    refine seg_for_ind (EscInv x t C It hB all) ?_ x.cps.size _ _ _
      ⟨0, false, _, h4, _, rfl, Nat.zero_le _, by rw [hall]; rfl, ⟨[], by rw [hall]; rfl⟩, rfl, ⟨_, he⟩, hit, hn4, rfl, fun h => absurd h (Nat.lt_irrefl _), fun h => (by cases h), hkB4, hk04⟩
    rintro k n s₀ s1 ⟨i, esc, m, h5, tk5, rfl, hi, rfl, ⟨pre, hpre⟩, rfl, ⟨old, he5⟩, hit5, hn5, hesc, hpos, hep, hk5, hs5⟩ IH
    clear hn4 hk04 he hit hkB4 N3
    rename Fr _ _ _ _ => Fx
    clear Fx
    have W : ∀ A2 : Around, A2.handled = none → WalksT prg w A2 (It + 1) [It + 1, It] [It + 1, It] x.cps.size _ _ _ := fun A2 h2 => WalksT.enumerateD (Draws.strAscii (A := A2.in1) h2 It x t) (It + 1) (Nat.succ_ne_self _) (by simp) (by simp)
    by_cases hlt2 : i < x.cps.size
    · refine (W _ ?hh).item i { s₀ with heap := h5, toks := tk5 } _ _ hlt2 ⟨⟨old, he5⟩, hit5⟩ ?_
      case hh => exact hA'
      intro T vals h6 tk6 hPt hTge hTup hMid hk6
      obtain ⟨tt, v, ⟨ch, u, hch, rfl⟩, rfl⟩ := hPt
      dsimp only at hTge hk6 ⊢
      have hTw := (W _ (rfl : Around.handled ⟨none, 0, none, none, 0⟩ = none)).apart i T _ hMid
      refine (W _ ?hh).go _ _ _ i T { s₀ with heap := h6, toks := tk6 } _ _ hMid (fun h7 hst7 hk7 => ?_)
      case hh => exact hA'
      dsimp only at hk7 ⊢
      have hTup7 : h7.IsTuple T #[.int (i : Int) tt, .str ⟨#[ch]⟩ u] := let ⟨o, ho, r⟩ := hTup; ⟨o, hk7 _ _ hTw ho, r⟩
      refine wpAny_assign_Tuple (s := { s₀ with heap := h7, toks := tk6 }) ?hh hTup7 rfl rfl (fun h8 hs8 => ?_)
      case hh => exact hA'
      replace hs8 : Heap.ExtBut h7.objs.size h7 h8 := hs8
      have h78 : Keep h7 h8 := fun b o e => hs8 b o (Nat.ne_of_lt (Heap.lt_size e)) e
      have h58 : ∀ b o, b ∉ [It + 1, It] → h5.get? b = some o → h8.get? b = some o := fun b o hb e => h78 b o (hk7 b o hb (hk6 b o hb e))
      have hst8 := (W _ (rfl : Around.handled ⟨none, 0, none, none, 0⟩ = none)).frame (i + 1) h7 h8 hst7 fun b hb o e => h78 b o e
      have hCn : C ∉ [It + 1, It] := by simp only [List.mem_cons, List.not_mem_nil, or_false, not_or]; exact ⟨Nat.ne_of_lt (Nat.lt_succ_of_lt hCit), Nat.ne_of_lt hCit⟩
      have hn8 : h8.Ns C m := hn5.at' fun o e => h58 _ o hCn e
      have hnB : ∀ b o, hB.get? b = some o → b ∉ [C, It + 1, It] := fun b o e hb => by
        simp only [List.mem_cons, List.not_mem_nil, or_false] at hb
        rcases hb with rfl | rfl | rfl
        · rw [hBC] at e; cases e
        · rw [hBe] at e; cases e
        · rw [hBit] at e; cases e
      have sub3 : ∀ b, b ∉ [C, It + 1, It] → b ∉ [It + 1, It] := fun b hb h => hb (List.mem_cons_of_mem _ h)
      walk1
      walk1
      refine wpAny_storeName_local rfl hn8 (fun h9 hn9 hs9 => ?_)
      replace hs9 : Heap.SameBut C h8 h9 := hs9
      replace hn9 : h9.Ns C _ := hn9
      dsimp only
      walk1
      walk1
      refine wpAny_storeName_local rfl hn9 (fun h10 hn10 hs10 => ?_)
      replace hs10 : Heap.SameBut C h9 h10 := hs10
      replace hn10 : h10.Ns C _ := hn10
      dsimp only
      walk1
      have h0_10 : ∀ b o, b ∉ [C, It + 1, It] → s₀.heap.get? b = some o → h10.get? b = some o := fun b o hb e =>
        hs10.extBut b o (fun q => hb (by simp [q])) (hs9.extBut b o (fun q => hb (by simp [q])) (h58 b o (sub3 b hb) (hs5 b o hb e)))
      have hk10 : Keep hB h10 := keepC hs10 (keepC hs9 fun b o e => h58 b o (sub3 b (hnB b o e)) (hk5 b o e))
      have up10 : ∀ b ∈ [It + 1, It], ∀ o, h8.get? b = some o → h10.get? b = some o := fun b hb o e => hs10.extBut b o (fun q => hCn (q ▸ hb)) (hs9.extBut b o (fun q => hCn (q ▸ hb)) e)
      have hst10 := (W _ (rfl : Around.handled ⟨none, 0, none, none, 0⟩ = none)).frame (i + 1) h8 h10 hst8 up10
      obtain ⟨⟨old10, he10⟩, hit10⟩ := hst10
      clear hs10 hs9 hn9 hn8 hst8 h58 h78 hs8 hTup7 hst7 hk7 hTup hMid hk6 he5 hit5 hn5 hk5 hs5 up10
      refine seg_execs_cons (seg_If ?_)
      obtain ⟨m10, hmE, hmP, hmC, hnM⟩ : ∃ m10 : Str → Option Value, m10 (Str.ofString "escape") = some (.bool esc) ∧ m10 (Str.ofString "pos") = some (.int (i : Int) tt) ∧ m10 (Str.ofString "ch") = some (.str ⟨#[ch]⟩ u) ∧ h10.Ns C m10 :=
        ⟨fun x => if x = Str.ofString "ch" then some (Value.str ⟨#[ch]⟩ u) else if x = Str.ofString "pos" then some (Value.int (i : Int) tt) else m x, hesc, rfl, rfl, hn10⟩
      clear hn10
      have hn10 := hnM
      clear hnM
      have F10 : Fr hB C h10 m10 := ⟨hn10, hk10, hlt⟩
      have N10 : News hB C h10 [] := News.nil
      have hdr : x.cps.toList.drop i = ch :: x.cps.toList.drop (i + 1) := List.drop_eq_getElem?_toList_append.trans (by rw [Array.getElem?_toList, hch]; rfl)
      rw [hdr] at hpre ⊢
      cases esc with
      | true =>
        walk1
        walk1
        refine wpAny_of_eq (rfl : truthy (.bool true) = pure true) ?_
        rw [if_pos rfl]
        refine seg_execs_cons (seg_Expr_Yield rfl rfl rfl (wpAny_Tuple ?_))
        iterate 8 walk1
        obtain ⟨oC2, b1, b2, hoC2, ens2⟩ := hn10
        obtain ⟨oi, hoi, oir⟩ := hit10
        have hz10 : ∀ b, b ∈ [C, It + 1, It] → b ≠ h10.objs.size := fun b hb => by
          simp only [List.mem_cons, List.not_mem_nil, or_false] at hb
          rcases hb with rfl | rfl | rfl
          · exact Nat.ne_of_lt (Heap.lt_size hoC2)
          · exact Nat.ne_of_lt (Heap.lt_size he10)
          · exact Nat.ne_of_lt (Heap.lt_size hoi)
        have hT0 : s₀.heap.get? h10.objs.size = none := by
          cases e : s₀.heap.get? h10.objs.size with
          | none => rfl
          | some o => exact absurd (Heap.lt_size (h0_10 _ o (fun hb => hz10 _ hb rfl) e)) (Nat.lt_irrefl _)
        refine ⟨by rw [sizeLine_eq]; exact Nat.le_of_lt (by simp), fun kap hkap => ⟨h10.objs.size, i, ⟨#[92, ch]⟩, _, _, [(C, oC2), (It + 1, _), (It, oi)], _, _, esc_here hpre, rfl, rfl, Heap.get?_push_size _ rfl, hT0, fun hb => hz10 _ hb rfl,
          fun b o hb e => Heap.get?_push_of_some _ (h0_10 b o hb e), own3 (Heap.get?_push_of_some _ hoC2) (Heap.get?_push_of_some _ he10) (Heap.get?_push_of_some _ hoi), ?_⟩⟩
        intro s2 hkB hown
        obtain ⟨hC2, hE2, hI2⟩ := own3' hown
        refine hkap .none s2 ?_
        have hn2 : s2.heap.Ns C m10 := ⟨oC2, b1, b2, hC2, ens2⟩
        refine seg_execs_cons (seg_plain (wpAny_Assign_Name ?_))
        walk1
        refine wpAny_storeName_local rfl hn2 (fun h11 hn11 hs11 => ?_)
        replace hs11 : Heap.SameBut C s2.heap h11 := hs11
        have hne1 : It + 1 ≠ C := fun q => hCn (by simp [← q])
        have hne2 : It ≠ C := fun q => hCn (by simp [← q])
        refine seg_execs_nil (IH (x.cps.size - (i + 1)) _ s2 _ (by omega) ⟨i + 1, false, _, h11, _, rfl, hlt2, rfl, ⟨pre ++ [(i, ⟨#[92, ch]⟩)], by rw [hpre]; simp [escL]⟩, rfl, ⟨_, hs11.extBut _ _ hne1 hE2⟩, ⟨oi, hs11.extBut _ _ hne2 hI2, oir⟩, hn11, rfl, fun _ => ⟨tt, hmP⟩, fun h => (by cases h),
          keepC hs11 hkB, fun b o hb e => hs11.extBut b o (fun q => hb (by simp [q])) e⟩)
      | false =>
        walk1
        walk1
        refine wpAny_of_eq (rfl : truthy (.bool false) = pure false) ?_
        rw [if_neg Bool.false_ne_true]
        refine seg_execs_cons (seg_If ?_)
        iterate 4 walk1
        have hne1 : It + 1 ≠ C := fun q => hCn (by simp [← q])
        have hne2 : It ≠ C := fun q => hCn (by simp [← q])
        by_cases h92 : ch = 92
        · subst h92
          have e : escL (92 :: x.cps.toList.drop (i + 1)) i false = escL (x.cps.toList.drop (i + 1)) (i + 1) true := by simp [escL]
          rw [e] at hpre ⊢
          have hb : ((⟨#[92]⟩ : Str) == Str.ofString "\\") = true := by decide +kernel
          rw [hb]
          refine wpAny_of_eq (rfl : truthy (.bool true) = pure true) ?_
          rw [if_pos rfl]
          refine seg_execs_cons (seg_plain (wpAny_Assign_Name ?_))
          dsimp only
          walk1
          refine wpAny_storeName_local rfl hn10 (fun h11 hn11 hs11 => ?_)
          replace hs11 : Heap.SameBut C h10 h11 := hs11
          obtain ⟨oi, hoi, oir⟩ := hit10
          refine seg_execs_nil (IH (x.cps.size - (i + 1)) _ s₀ _ (by omega) ⟨i + 1, true, _, h11, _, rfl, hlt2, rfl, ⟨pre, hpre⟩, rfl, ⟨_, hs11.extBut _ _ hne1 he10⟩, ⟨oi, hs11.extBut _ _ hne2 hoi, oir⟩, hn11, rfl, fun _ => ⟨tt, hmP⟩, fun _ => Nat.succ_pos _,
            keepC hs11 hk10, fun b o hb e => hs11.extBut b o (fun q => hb (by simp [q])) (h0_10 b o hb e)⟩)
        · have e : escL (ch :: x.cps.toList.drop (i + 1)) i false = (i, ⟨#[ch]⟩) :: escL (x.cps.toList.drop (i + 1)) (i + 1) false := by simp [escL, h92]
          rw [e] at hpre ⊢
          have hb : ((⟨#[ch]⟩ : Str) == Str.ofString "\\") = false := by
            rw [(by decide +kernel : Str.ofString "\\" = ⟨#[92]⟩), beq_eq_false_iff_ne]; intro q; exact h92 (by have := congrArg Str.cps q; simpa using this)
          rw [hb]
          refine wpAny_of_eq (rfl : truthy (.bool false) = pure false) ?_
          rw [if_neg Bool.false_ne_true]
          refine seg_execs_cons (seg_Expr_Yield rfl rfl rfl (wpAny_Tuple ?_))
          dsimp only
          iterate 5 walk1
          obtain ⟨oC2, b1, b2, hoC2, ens2⟩ := hn10
          obtain ⟨oi, hoi, oir⟩ := hit10
          have hz10 : ∀ b, b ∈ [C, It + 1, It] → b ≠ h10.objs.size := fun b hb => by
            simp only [List.mem_cons, List.not_mem_nil, or_false] at hb
            rcases hb with rfl | rfl | rfl
            · exact Nat.ne_of_lt (Heap.lt_size hoC2)
            · exact Nat.ne_of_lt (Heap.lt_size he10)
            · exact Nat.ne_of_lt (Heap.lt_size hoi)
          have hT0 : s₀.heap.get? h10.objs.size = none := by
            cases e : s₀.heap.get? h10.objs.size with
            | none => rfl
            | some o => exact absurd (Heap.lt_size (h0_10 _ o (fun hb => hz10 _ hb rfl) e)) (Nat.lt_irrefl _)
          refine ⟨by rw [sizeLine_eq]; exact Nat.le_of_lt (by simp), fun kap hkap => ⟨h10.objs.size, i, ⟨#[ch]⟩, _, _, [(C, oC2), (It + 1, _), (It, oi)], _, _, esc_here hpre, rfl, rfl, Heap.get?_push_size _ rfl, hT0, fun hb => hz10 _ hb rfl,
            fun b o hb e => Heap.get?_push_of_some _ (h0_10 b o hb e), own3 (Heap.get?_push_of_some _ hoC2) (Heap.get?_push_of_some _ he10) (Heap.get?_push_of_some _ hoi), ?_⟩⟩
          intro s2 hkB hown
          obtain ⟨hC2, hE2, hI2⟩ := own3' hown
          refine hkap .none s2 ?_
          have hn2 : s2.heap.Ns C m10 := ⟨oC2, b1, b2, hC2, ens2⟩
          refine seg_execs_nil (IH (x.cps.size - (i + 1)) _ s2 _ (by omega) ⟨i + 1, false, _, s2.heap, s2.toks, rfl, hlt2, rfl, ⟨pre ++ [(i, ⟨#[ch]⟩)], by rw [hpre]; simp⟩, rfl, ⟨_, hE2⟩, ⟨oi, hI2, oir⟩, hn2, hmE, fun _ => ⟨tt, hmP⟩, fun h => (by cases h),
            hkB, fun b o hb e => e⟩)
    · have hie : i = x.cps.size := Nat.le_antisymm hi (Nat.le_of_not_lt hlt2)
      have hd0 : x.cps.toList.drop i = [] := by rw [hie]; exact List.drop_of_length_le (by simp)
      rw [hd0] at hpre ⊢
      refine wpAny_pyNext_enum_endD (s := { s₀ with heap := h5, toks := tk5 }) (Draws.strAscii ?hh It x t) he5 (by rw [← hie]; exact hit5) (fun h6 hx6 => ?_)
      case hh => exact hA'
      dsimp only at hx6 ⊢
      replace hx6 : Heap.ExtBut It h5 h6 := hx6
      have hk6 : ∀ b o, b ∉ [It + 1, It] → h5.get? b = some o → h6.get? b = some o := fun b o hb e => hx6 b o (fun q => hb (by simp [q])) e
      have he6 : It + 1 < h6.objs.size := Heap.lt_size (hx6 _ _ (Nat.succ_ne_self _) he5)
      have hCn : C ∉ [It + 1, It] := by simp only [List.mem_cons, List.not_mem_nil, or_false, not_or]; exact ⟨Nat.ne_of_lt (Nat.lt_succ_of_lt hCit), Nat.ne_of_lt hCit⟩
      have hnB : ∀ b o, hB.get? b = some o → b ∉ [C, It + 1, It] := fun b o e hb => by
        simp only [List.mem_cons, List.not_mem_nil, or_false] at hb
        rcases hb with rfl | rfl | rfl
        · rw [hBC] at e; cases e
        · rw [hBe] at e; cases e
        · rw [hBit] at e; cases e
      have sub3 : ∀ b, b ∉ [C, It + 1, It] → b ∉ [It + 1, It] := fun b hb h => hb (List.mem_cons_of_mem _ h)
      have hn6 : h6.Ns C m := hn5.at' fun o e => hk6 _ o hCn e
      have h06 : ∀ b o, b ∉ [C, It + 1, It] → s₀.heap.get? b = some o → h6.get? b = some o := fun b o hb e => hk6 b o (sub3 b hb) (hs5 b o hb e)
      have hkB6 : Keep hB h6 := fun b o e => hk6 b o (sub3 b (hnB b o e)) (hk5 b o e)
      have F6 : Fr hB C h6 m := ⟨hn6, hkB6, hlt⟩
      have N6 : News hB C h6 [] := News.nil
      refine seg_execs_cons (seg_If ?_)
      cases esc with
      | true =>
        obtain ⟨tp, hmP⟩ := hpos (hep rfl)
        walk1
        walk1
        refine wpAny_of_eq (rfl : truthy (.bool true) = pure true) ?_
        rw [if_pos rfl]
        refine seg_execs_cons (seg_Expr_Yield rfl rfl rfl (wpAny_Tuple ?_))
        iterate 5 walk1
        obtain ⟨oC2, b1, b2, hoC2, ens2⟩ := hn6
        have hz6 : ∀ b, b ∈ [C, It + 1, It] → b ≠ h6.objs.size := fun b hb => by
          simp only [List.mem_cons, List.not_mem_nil, or_false] at hb
          rcases hb with rfl | rfl | rfl
          · exact Nat.ne_of_lt (Heap.lt_size hoC2)
          · exact Nat.ne_of_lt he6
          · exact Nat.ne_of_lt (Nat.lt_of_succ_lt he6)
        have hT0 : s₀.heap.get? h6.objs.size = none := by
          cases e : s₀.heap.get? h6.objs.size with
          | none => rfl
          | some o => exact absurd (Heap.lt_size (h06 _ o (fun hb => hz6 _ hb rfl) e)) (Nat.lt_irrefl _)
        refine ⟨by rw [sizeLine_eq]; exact Nat.le_of_lt (by simp), fun kap hkap => ⟨h6.objs.size, i - 1, ⟨#[92]⟩, _, _, [(C, oC2)], _, _, esc_here (rest := []) hpre, rfl, rfl, Heap.get?_push_size _ rfl, hT0, fun hb => hz6 _ hb rfl,
          fun b o hb e => Heap.get?_push_of_some _ (h06 b o hb e), fun q hq => ?_, ?_⟩⟩
        · rw [List.mem_singleton] at hq; subst hq; exact ⟨.head _, Heap.get?_push_of_some _ hoC2⟩
        intro s2 hkB hown
        refine hkap .none s2 ?_
        refine seg_execs_nil ?_
        exact seg_end (.ok (.ret .none)) ⟨rfl, rfl, s2.heap, s2.toks, rfl, fun b o _ e => e⟩
      | false =>
        walk1
        walk1
        refine wpAny_of_eq (rfl : truthy (.bool false) = pure false) ?_
        rw [if_neg Bool.false_ne_true]
        refine seg_execs_nil ?_
        exact seg_end (.ok (.ret .none)) ⟨rfl, rfl, _, _, rfl, h06⟩
end
section
noncomputable def Bare (g : Array GenState) : Prop := ∀ x ∈ g, x.bare = true
theorem Bare.set {g : Array GenState} {x : GenState} {i : Nat} (h : Bare g) (hx : x.bare = true) : Bare (g.setIfInBounds i x) := by
  intro y hy
  obtain ⟨j, hj, rfl⟩ := Array.mem_iff_getElem.mp hy
  rw [Array.size_setIfInBounds] at hj
  by_cases e : i = j
  · subst e; rw [Array.getElem_setIfInBounds_self]; exact hx
  · rw [Array.getElem_setIfInBounds_ne hj e]; exact h _ (Array.getElem_mem hj)
theorem Bare.push {g : Array GenState} {x : GenState} (h : Bare g) (hx : x.bare = true) : Bare (g.push x) := by
  intro y hy
  rcases Array.mem_push.mp hy with hy | rfl
  · exact h y hy
  · exact hx
section
variable {w : World} {A : Around} {E : Value → Shared → Prop} {s : Shared}
theorem go_gen {elts : List Expr} {k : Nat} {pos : Pos} {a T g : Addr} {Q : Unit → Shared → Prop} {prog : Program} (hg : s.heap.IsGen a g) (h : Q () s) :
    wpAny (model prog w) A (letOwnedTupleGo (.Tuple elts k pos) (.ref a) (.ref T)) Q E s := by
  obtain ⟨o, nm, qn, ho, hc, hd, hs⟩ := hg
  unfold letOwnedTupleGo
  refine wpAny_bind (wpAny_load ho ?_)
  rw [hc, hd]
  exact wpAny_pure h
/-- a wake of `_iter_escaped_chars` -/
theorem next_esc {C e it a : Addr} {hB : Heap} {all : List (Nat × Str)} {g j : Nat} {gs : GenState} {Q : Option Value → Shared → Prop} (hh : A.handled = none)
    (hl : s.heap.NoLimit) (hroom : A.depth < recursionLimit) (hg : s.heap.IsGen a g) (hgs : s.gens[g]? = some gs) (hj : j ≤ all.length) (hkB : Keep hB s.heap) (hnB : ∀ b, b ∈ [C, e, it] → hB.get? b = none)
    (hgo : EscGo w A.in1 C e it hB all (all.length - j) gs (s.setGen g .running))
    (hY : j < all.length → ∀ T p ch t u (own : List (Addr × Obj)) h' tk gs', all[j]? = some (p, ch) → h'.get? T = some (tupO [.int (p : Nat) t, .str ch u]) → s.heap.get? T = none → T ∉ [C, e, it] →
      (∀ b o, b ∉ [C, e, it] → s.heap.get? b = some o → h'.get? b = some o) → (∀ q : Addr × Obj, q ∈ own → q.1 ∈ [C, e, it] ∧ h'.get? q.1 = some q.2) → gs'.bare = true →
      (∀ s'' : Shared, Keep hB s''.heap → (∀ q : Addr × Obj, q ∈ own → s''.heap.get? q.1 = some q.2) → EscGo w A.in1 C e it hB all (all.length - (j + 1)) gs' s'') →
      Q (some (.ref T)) { s with heap := h', gens := s.gens.setIfInBounds g gs', toks := tk })
    (hP : j = all.length → ∀ h' tk, (∀ b o, b ∉ [C, e, it] → s.heap.get? b = some o → h'.get? b = some o) → Q none { s with heap := h', gens := s.gens.setIfInBounds g .finished, toks := tk }) :
    wpAny (model prg w) A (pyNext (.ref a)) Q E s := by
  have hset : ∀ x, (s.gens.setIfInBounds g .running).setIfInBounds g x = s.gens.setIfInBounds g x := fun x => by
    rw [Array.setIfInBounds_setIfInBounds]
  refine next_gen hh hl hroom hg hgs hgo (fun v s₁ gs' hb hy => ?_) (fun s₁ hp h' hk => ?_)
  · obtain ⟨T, p, ch, t, u, own, h', tk, hi, rfl, rfl, hT, hT0, hTn, hkp, hown, hres⟩ := hy
    have hlt : j < all.length := by
      rcases Nat.lt_or_ge j all.length with h | h
      · exact h
      · have e0 : all.length - j = 0 := by omega
        rw [e0] at hres
        exact (hres { s with heap := h' } (fun b o e' => hkp b o (fun hb => by rw [hnB b hb] at e'; cases e') (hkB b o e')) (fun q hq => (hown q hq).2)).elim
    have ej : all.length - 1 - (all.length - j - 1) = j := by omega
    rw [ej] at hi
    obtain ⟨m, em⟩ : ∃ m, all.length - j = m + 1 := ⟨all.length - j - 1, by omega⟩
    have em' : all.length - (j + 1) = m := by omega
    have := hY hlt T p ch t u own h' tk gs' hi hT hT0 hTn hkp hown hb (fun s'' k q => by
      have h2 := hres s'' k q
      rw [em] at h2
      rw [em']; exact h2)
    show Q _ { s with heap := h', gens := (s.gens.setIfInBounds g .running).setIfInBounds g gs', toks := tk }
    rw [hset]; exact this
  · obtain ⟨hn, h1, tk, rfl, hkp⟩ := hp
    show Q _ { s with heap := h', gens := (s.gens.setIfInBounds g .running).setIfInBounds g .finished, toks := tk }
    rw [hset]
    exact hP (by omega) h' tk fun b o hb e => hk b o (hkp b o hb e)
end
end
section
/-- a for over `_iter_escaped_chars`'s generator -/
theorem loop_esc {w : World} {A : Around} {name : Str} {scope : Scope} {L fa : Addr} {cd : Value} {x y : Str} {k : Nat} {px py pt : Pos} {body : List Stmt} {R : Result → Shared → Prop} {s : Shared} {h₀ : Heap} {a C : Addr} {g : Nat} {gs : GenState} {oC oG : Obj} {all : List (Nat × Str)}
    (hA : A.handled = none) (hroom : A.depth < recursionLimit) (G : Gr w h₀) {D : Type} (mf : D → Str → Option Value) (nf : D → List (Addr × Obj)) (ok : Nat → D → Prop) (ads : List Addr)
    (hads : ∀ b ∈ ads, b ≠ a ∧ b ≠ C ∧ b < s.heap.objs.size) (hnf : ∀ i d, ok i d → ∀ q ∈ nf d, q.1 ∈ ads)
    (hg : s.heap.IsGen a g) (hgs : s.gens[g]? = some gs) (hb : Bare s.gens) (ha : s.heap.get? a = some oG) (hC : s.heap.get? C = some oC) (ha0 : h₀.get? a = none) (haL : a ≠ L) (hC0 : h₀.get? C = none) (hCL : C ≠ L) (haC : a ≠ C)
    (fresh : ∀ A' (s'' : Shared), A'.handled = none → s''.heap = s.heap → EscGo w A' C (s''.heap.objs.size + 1) s''.heap.objs.size h₀ all all.length gs s'')
    (turn : ∀ i d p ch t u h gn tk (own : List (Addr × Obj)), all[i]? = some (p, ch) → ok i d → Bare gn → Fr h₀ L h (fun z => if z = y then some (.str ch u) else if z = x then some (.int (p : Nat) t) else mf d z) → News h₀ L h (nf d ++ own) →
      (∀ q ∈ nf d, ∀ r ∈ own, r.1 ≠ q.1) →
      wpAny (model prg w) A (execs body (envOf name scope L fa cd)) (fun f s₃ => match f with
        | .next | .cont => Shut (∃ d' h' tk', s₃ = { s with heap := h', gens := gn, toks := tk' } ∧ ok (i + 1) d' ∧ Fr h₀ L h' (mf d') ∧ News h₀ L h' (nf d' ++ own))
        | .brk => R (.ok .next) s₃
        | .ret u => R (.ok (.ret u)) s₃) (fun _ _ => False) { s with heap := h, gens := gn, toks := tk })
    (fin : ∀ d h gn tk, ok all.length d → Bare gn → Fr h₀ L h (mf d) → News h₀ L h (nf d) → R (.ok .next) { s with heap := h, gens := gn, toks := tk })
    (d : D) (h0 : ok 0 d) (F : Fr h₀ L s.heap (mf d)) (N : News h₀ L s.heap (nf d))
    (hk : scope.kind = .function := by rfl) (hlx : (envOf name scope L fa cd).kindOf x = some .local := by rfl) (hly : (envOf name scope L fa cd).kindOf y = some .local := by rfl) :
    codeAny (model prg w) A (.forLoop (.Tuple [.Name x px, .Name y py] k pt) (.ref a) body [] (envOf name scope L fa cd)) R s := by
  have hLs : L < s.heap.objs.size := F.ns.lt
  have has : a < s.heap.objs.size := Heap.lt_size ha
  have hCs : C < s.heap.objs.size := Heap.lt_size hC
  have h0s : h₀.objs.size ≤ s.heap.objs.size := Nat.le_of_lt (Nat.lt_of_le_of_lt F.above hLs)
  have hfp0 : ∀ b, b ∈ [C, s.heap.objs.size + 1, s.heap.objs.size] → h₀.get? b = none := fun b hb => by
    simp only [List.mem_cons, List.not_mem_nil, or_false] at hb
    rcases hb with rfl | rfl | rfl
    · exact hC0
    · cases e : h₀.get? (s.heap.objs.size + 1) with
      | none => rfl
      | some o => exact absurd (Heap.lt_size e) (Nat.not_lt.mpr (Nat.le_succ_of_le h0s))
    · cases e : h₀.get? s.heap.objs.size with
      | none => rfl
      | some o => exact absurd (Heap.lt_size e) (Nat.not_lt.mpr h0s)
  have hfpL : ∀ b, b ∈ [C, s.heap.objs.size + 1, s.heap.objs.size] → b ≠ L := fun b hb => by
    simp only [List.mem_cons, List.not_mem_nil, or_false] at hb
    rcases hb with rfl | rfl | rfl
    · exact hCL
    · exact Nat.ne_of_gt (Nat.lt_succ_of_lt hLs)
    · exact Nat.ne_of_gt hLs
  have hfpa : a ∉ [C, s.heap.objs.size + 1, s.heap.objs.size] := by
    simp only [List.mem_cons, List.not_mem_nil, or_false, not_or]
    exact ⟨haC, Nat.ne_of_lt (Nat.lt_succ_of_lt has), Nat.ne_of_lt has⟩
  have hfpd : ∀ b ∈ ads, b ∉ [C, s.heap.objs.size + 1, s.heap.objs.size] := fun b hb => by
    obtain ⟨_, h2, h3⟩ := hads b hb
    simp only [List.mem_cons, List.not_mem_nil, or_false, not_or]
    exact ⟨h2, Nat.ne_of_lt (Nat.lt_succ_of_lt h3), Nat.ne_of_lt h3⟩
  refine codeAny_forLoop_any (fun k s' => ∃ i d h gn tk gs, ∃ own : List (Addr × Obj), s' = { s with heap := h, gens := gn, toks := tk } ∧ k = all.length + 1 - i ∧ i ≤ all.length ∧ ok i d ∧ Bare gn ∧ gn[g]? = some gs ∧ (i = 0 → h = s.heap) ∧
      (∀ s'' : Shared, (i = 0 → s''.heap = s.heap) → Keep h₀ s''.heap → (∀ q : Addr × Obj, q ∈ own → s''.heap.get? q.1 = some q.2) → EscGo w A.in1 C (s.heap.objs.size + 1) s.heap.objs.size h₀ all (all.length - i) gs s'') ∧
      (∀ q : Addr × Obj, q ∈ own → q.1 ∈ [C, s.heap.objs.size + 1, s.heap.objs.size]) ∧ Fr h₀ L h (mf d) ∧ News h₀ L h (nf d ++ (a, oG) :: own)) ?_ (all.length + 1)
    ⟨0, d, s.heap, s.gens, s.toks, gs, [(C, oC)], rfl, rfl, Nat.zero_le _, h0, hb, hgs, fun _ => rfl, ?_, ?_, F, ?_⟩
  rotate_left
  · intro s'' he _ _
    have := fresh A.in1 s'' hA (he rfl)
    rw [he rfl] at this
    exact this
  · intro q hq; rw [List.mem_singleton] at hq; subst hq; exact .head _
  · intro q hq
    rcases List.mem_append.mp hq with hq | hq
    · exact N q hq
    · simp only [List.mem_cons, List.not_mem_nil, or_false] at hq
      rcases hq with rfl | rfl
      · exact ⟨ha, haL, ha0⟩
      · exact ⟨hC, hCL, hC0⟩
  rintro kk s' ⟨i, d, h, gn, tk, gs, own, rfl, rfl, hi, hok, hbn, hgn, hz, hgo, hown, F, N⟩
  have hNa : h.get? a = some oG := N.get (List.mem_append_right _ (.head _))
  have hGn : h.IsGen a g := by
    obtain ⟨o, nm, qn, ho, r⟩ := hg
    rw [ha] at ho; cases ho
    exact ⟨oG, nm, qn, hNa, r⟩
  have up : ∀ h', (∀ b o, b ∉ [C, s.heap.objs.size + 1, s.heap.objs.size] → h.get? b = some o → h'.get? b = some o) → Fr h₀ L h' (mf d) ∧ News h₀ L h' (nf d) ∧ h'.get? a = some oG := fun h' hk => by
    refine ⟨⟨F.ns.at' fun o e => hk L o (fun q => hfpL _ q rfl) e, fun b o e => hk b o (fun q => ?_) (F.keep b o e), F.above⟩, fun q hq => ?_, hk _ _ hfpa hNa⟩
    · rw [hfp0 b q] at e; cases e
    · have z := N q (List.mem_append_left _ hq)
      exact ⟨hk _ _ (hfpd _ (hnf i d hok q hq)) z.1, z.2⟩
  refine next_esc (j := i) hA (G.keep F.keep).lim hroom hGn hgn hi F.keep hfp0 (hgo _ hz F.keep fun q hq => N.get (List.mem_append_right _ (.tail _ hq))) ?_ ?_
  · intro hlt T p ch t u own' h' tk' gs' hall hT hT0 hTn hkp hown' hbare hres
    obtain ⟨F', N', hNa'⟩ := up h' hkp
    have hGn' : h'.IsGen a g := by
      obtain ⟨o, nm, qn, ho, r⟩ := hg
      rw [ha] at ho; cases ho
      exact ⟨oG, nm, qn, hNa', r⟩
    refine go_gen hGn' ?_
    have ht : h'.IsTuple T #[.int (p : Nat) t, .str ch u] := ⟨_, hT, rfl, _, rfl⟩
    refine wpAny_assign_Tuple hA ht rfl rfl fun h₃ hx₃ => ?_
    replace hx₃ : Heap.ExtBut h'.objs.size h' h₃ := hx₃
    have up₃ : ∀ b o, h'.get? b = some o → h₃.get? b = some o := fun b o x => hx₃ b o (Nat.ne_of_lt (Heap.lt_size x)) x
    have F₃ := F'.grownK up₃
    have N₃ : News h₀ L h₃ (nf d ++ (a, oG) :: own') := fun q hq => by
      rcases List.mem_append.mp hq with hq | hq
      · exact (N'.grown up₃) q hq
      · rcases List.mem_cons.mp hq with rfl | hq
        · exact ⟨up₃ _ _ hNa', haL, ha0⟩
        · exact ⟨up₃ _ _ (hown' q hq).2, hfpL _ (hown' q hq).1, hfp0 _ (hown' q hq).1⟩
    have hap : ∀ q ∈ nf d, ∀ r ∈ (a, oG) :: own', r.1 ≠ q.1 := fun q hq r hr e => by
      have hq' := hnf i d hok q hq
      rcases List.mem_cons.mp hr with rfl | hr
      · exact (hads _ hq').1 e.symm
      · exact hfpd _ hq' (e ▸ (hown' r hr).1)
    show wpAny _ A (do holding [Value.str ch u] (assign (.Name x px) (envOf name scope L fa cd) (.int (p : Nat) t)); do holding [] (assign (.Name y py) (envOf name scope L fa cd) (.str ch u)); pure ()) _ _ _
    refine wpAny_bind (wpAny_holding (wpAny_assign_Name (stN F₃ N₃ (fun h₄ F₄ N₄ => ?_) hk hlx)))
    refine wpAny_bind (wpAny_holding (wpAny_assign_Name (stN F₄ N₄ (fun h₅ F₅ N₅ => wpAny_pure ?_) hk hly)))
    refine wpAny_mono (turn i d p ch t u h₅ (gn.setIfInBounds g gs') _ ((a, oG) :: own') hall hok (hbn.set hbare) F₅ N₅ hap) (fun f s₃ h₃ => ?_) fun _ _ e => e.elim
    have go : Shut (∃ d' h' tk', s₃ = { s with heap := h', gens := gn.setIfInBounds g gs', toks := tk' } ∧ ok (i + 1) d' ∧ Fr h₀ L h' (mf d') ∧ News h₀ L h' (nf d' ++ (a, oG) :: own')) →
          ∃ m, m < all.length + 1 - i ∧ ∃ i d h gn tk gs, ∃ own : List (Addr × Obj), s₃ = { s with heap := h, gens := gn, toks := tk } ∧ m = all.length + 1 - i ∧ i ≤ all.length ∧ ok i d ∧ Bare gn ∧ gn[g]? = some gs ∧ (i = 0 → h = s.heap) ∧
      (∀ s'' : Shared, (i = 0 → s''.heap = s.heap) → Keep h₀ s''.heap → (∀ q : Addr × Obj, q ∈ own → s''.heap.get? q.1 = some q.2) → EscGo w A.in1 C (s.heap.objs.size + 1) s.heap.objs.size h₀ all (all.length - i) gs s'') ∧
      (∀ q : Addr × Obj, q ∈ own → q.1 ∈ [C, s.heap.objs.size + 1, s.heap.objs.size]) ∧ Fr h₀ L h (mf d) ∧ News h₀ L h (nf d ++ (a, oG) :: own) := by
      rintro ⟨d', h9, tk9, rfl, hok', F9, N9⟩
      refine ⟨all.length + 1 - (i + 1), by omega, i + 1, d', h9, _, tk9, gs', own', rfl, rfl, hlt, hok', hbn.set hbare, ?_, fun e => absurd e (Nat.succ_ne_zero _), fun s'' _ k q => hres s'' k q, fun q hq => (hown' q hq).1, F9, N9⟩
      rw [Array.getElem?_setIfInBounds_self_of_lt]
      exact (Array.getElem?_eq_some_iff.mp hgn).1
    cases f with
    | next => exact go h₃
    | cont => exact go h₃
    | brk => exact h₃
    | ret u => exact h₃
  · intro hin h' tk' hkp
    obtain ⟨F', N', _⟩ := up h' hkp
    refine wpAny_execs_nil ?_
    exact fin d h' _ tk' (hin ▸ hok) (hbn.set rfl) F' N'
/-- the whole of `for pos, ch in _iter_escaped_chars(x)`, from its call on -/
theorem for_esc {w : World} {A : Around} {name : Str} {scope : Scope} {L fa : Addr} {cd : Value} {x y z : Str} {tz : Tok} {k : Nat} {px py pt : Pos} {body : List Stmt} {R : Result → Shared → Prop} {E E' : Value → Shared → Prop} {s : Shared} {h₀ : Heap}
    (hA : A.handled = none) (hroom : A.depth < recursionLimit) (G : Gr w h₀) (hz : z.cps.all (· < 128) = true) {D : Type} (mf : D → Str → Option Value) (nf : D → List (Addr × Obj)) (ok : Nat → D → Prop) (ads : List Addr)
    (hads : ∀ b ∈ ads, b < s.heap.objs.size) (hnf : ∀ i d, ok i d → ∀ q ∈ nf d, q.1 ∈ ads) (hb : Bare s.gens)
    (turn : ∀ i d p ch t u h gn tk (own : List (Addr × Obj)), (escL z.cps.toList 0 false)[i]? = some (p, ch) → ok i d → Bare gn → Fr h₀ L h (fun z => if z = y then some (.str ch u) else if z = x then some (.int (p : Nat) t) else mf d z) → News h₀ L h (nf d ++ own) →
      (∀ q ∈ nf d, ∀ r ∈ own, r.1 ≠ q.1) →
      wpAny (model prg w) A (execs body (envOf name scope L fa cd)) (fun f s₃ => match f with
        | .next | .cont => Shut (∃ d' h' tk', s₃ = { s with heap := h', gens := gn, toks := tk' } ∧ ok (i + 1) d' ∧ Fr h₀ L h' (mf d') ∧ News h₀ L h' (nf d' ++ own))
        | .brk => R (.ok .next) s₃
        | .ret u => R (.ok (.ret u)) s₃) (fun _ _ => False) { s with heap := h, gens := gn, toks := tk })
    (fin : ∀ d h gn tk, ok (escL z.cps.toList 0 false).length d → Bare gn → Fr h₀ L h (mf d) → News h₀ L h (nf d) → R (.ok .next) { s with heap := h, gens := gn, toks := tk })
    (d : D) (h0 : ok 0 d) (F : Fr h₀ L s.heap (mf d)) (N : News h₀ L s.heap (nf d))
    (hk : scope.kind = .function := by rfl) (hlx : (envOf name scope L fa cd).kindOf x = some .local := by rfl) (hly : (envOf name scope L fa cd).kindOf y = some .local := by rfl) :
    wpAny (model prg w) A (call (.ref 49) [.str z tz]) (fun v s₁ => wpAny (model prg w) A (pyIter v) (fun it s₂ => codeAny (model prg w) A (.forLoop (.Tuple [.Name x px, .Name y py] k pt) it body [] (envOf name scope L fa cd)) R s₂) E' s₁) E s := by
  have hLs : L < s.heap.objs.size := F.ns.lt
  have h0s : h₀.objs.size ≤ s.heap.objs.size := Nat.le_of_lt (Nat.lt_of_le_of_lt F.above hLs)
  have hn0 : ∀ b, s.heap.objs.size ≤ b → h₀.get? b = none := fun b hb => by
    cases e : h₀.get? b with
    | none => rfl
    | some o => exact absurd (Heap.lt_size e) (Nat.not_lt.mpr (Nat.le_trans h0s hb))
  refine wpAny_call (esc_call (G.keep F.keep) hroom hz fun h' tk gs oC hkp hgen hC hbare fresh => wpAny_pyIter_gen hgen ?_)
  obtain ⟨oG, nm, qn, hG, hr⟩ := hgen
  have hs' := Heap.lt_size hG
  refine loop_esc (s := { s with heap := h', gens := s.gens.push gs, toks := tk }) (a := s.heap.objs.size + 1) (C := s.heap.objs.size) (g := s.gens.size) (gs := gs) (oC := oC) (oG := oG) hA hroom G mf nf ok ads
    (fun b hb => ⟨Nat.ne_of_lt (Nat.lt_succ_of_lt (hads b hb)), Nat.ne_of_lt (hads b hb), Nat.lt_trans (Nat.lt_succ_of_lt (hads b hb)) hs'⟩) hnf ⟨oG, nm, qn, hG, hr⟩ ?_ (hb.push hbare) hG hC
    (hn0 _ (Nat.le_succ _)) (Nat.ne_of_gt (Nat.lt_succ_of_lt hLs)) (hn0 _ (Nat.le_refl _)) (Nat.ne_of_gt hLs) (Nat.succ_ne_self _) (fun A' s'' hA' he => fresh A' h₀ s'' G hA' ?_ h0s ?_) turn fin d h0 (F.grownK hkp) (N.grown hkp) hk hlx hly
  · show (s.gens.push gs)[s.gens.size]? = some gs
    rw [Array.getElem?_push_size]
  · rw [he]; exact fun b o e => hkp b o (F.keep b o e)
  · rw [he]; exact hC
end
section
theorem ok_ascii {u : Str} (h : u.cps.all (· < 128) = true) : PyData.strOk u = true := by
  unfold PyData.strOk
  rw [Array.all_eq_true] at h ⊢
  intro i hi
  have := h i hi
  simp only [decide_eq_true_eq] at this ⊢
  omega
theorem chars_append (x y : Str) : (x ++ y).cps.toList = x.cps.toList ++ y.cps.toList := by
  show (x.cps ++ y.cps).toList = _
  simp
theorem foldl_rep (c : Nat) : ∀ (n : Nat) (acc : Array Nat), ((List.replicate n #[c]).foldl (· ++ ·) acc).toList = acc.toList ++ List.replicate n c
  | 0, acc => by simp
  | n + 1, acc => by
    rw [List.replicate_succ, List.foldl_cons, foldl_rep c n, List.replicate_succ]
    simp
theorem chars_mul (c : Nat) (n : Int) : (Txt.mul ⟨#[c]⟩ n).cps.toList = List.replicate n.toNat c := by
  unfold Txt.mul
  by_cases h1 : n < 1
  · rw [if_pos h1]
    have : n.toNat = 0 := by omega
    rw [this]; rfl
  · rw [if_neg h1]
    by_cases h2 : (n == 1 || (⟨#[c]⟩ : Str).length == 0) = true
    · rw [if_pos h2]
      have : n = 1 := by
        simp only [Str.length, Bool.or_eq_true, beq_iff_eq] at h2
        rcases h2 with h2 | h2
        · exact h2
        · simp at h2
      subst this; rfl
    · rw [if_neg h2]
      show ((List.replicate n.toNat #[c]).foldl (· ++ ·) #[]).toList = _
      rw [foldl_rep]; simp
theorem chars_sj : ∀ us : List Str, (Str.join (Str.ofString "") us).cps.toList = us.flatMap (·.cps.toList)
  | [] => rfl
  | [x] => by show x.cps.toList = _; simp
  | x :: y :: r => by
    show (x ++ Str.ofString "" ++ Str.join (Str.ofString "") (y :: r)).cps.toList = _
    rw [chars_append, chars_append, chars_sj (y :: r), List.flatMap_cons]
    have : (Str.ofString "").cps.toList = [] := by decide
    rw [this, List.append_nil]; simp
theorem chars_join (us : List Str) : (Txt.join (Str.ofString "") us).cps.toList = us.flatMap (·.cps.toList) := by
  unfold Txt.join
  rw [PySem.StrLaws.glued_eq_join]
  exact chars_sj us
theorem len_chars (x : Str) : x.length = x.cps.toList.length := by simp [Str.length]
theorem len_mul {c : Nat} {n : Int} (h : n ≤ 30) : (Txt.mul ⟨#[c]⟩ n).length ≤ 30 := by
  rw [len_chars, chars_mul, List.length_replicate]; omega
theorem flat_len : ∀ us : List Str, (∀ u ∈ us, u.length ≤ 2) → (us.flatMap (·.cps.toList)).length ≤ 2 * us.length
  | [], _ => by simp
  | u :: r, h => by
    have h1 := flat_len r fun v hv => h v (.tail _ hv)
    have h2 := h u (.head _)
    rw [len_chars] at h2
    rw [List.flatMap_cons, List.length_append, List.length_cons]; omega
theorem len_join {us : List Str} (h1 : us.length ≤ 20) (h2 : ∀ u ∈ us, u.length ≤ 2) : (Txt.join (Str.ofString "") us).length ≤ 40 := by
  rw [len_chars, chars_join]
  have := flat_len us h2
  omega
theorem str_ext {x y : Str} (h : x.cps.toList = y.cps.toList) : x = y := by
  obtain ⟨a⟩ := x; obtain ⟨b⟩ := y
  congr 1
  exact Array.toList_inj.mp h
end
section
/-- what `_strip_quoted_realnames` gathers -/
noncomputable def stripGo (x : Str) : List (Nat × Str) → Int → Option Int → List Str → List Str
  | [], st, _, res => if st < x.length then res ++ [Txt.slice x (some st) none] else res
  | (p, ch) :: r, st, op, res => if ch = Str.ofString "\"" then
      (match op with
        | none => stripGo x r st (some (p : Int)) res
        | some o => stripGo x r ((p : Int) + 1) none (if st ≠ o then res ++ [Txt.slice x (some st) (some o)] else res))
      else stripGo x r st op res
theorem stripGo_cons (x : Str) (p : Nat) (ch : Str) (r : List (Nat × Str)) (st : Int) (op : Option Int) (res : List Str) : stripGo x ((p, ch) :: r) st op res = if ch = Str.ofString "\"" then
      (match op with
        | none => stripGo x r st (some (p : Int)) res
        | some o => stripGo x r ((p : Int) + 1) none (if st ≠ o then res ++ [Txt.slice x (some st) (some o)] else res))
      else stripGo x r st op res := rfl
theorem escL_len : ∀ (cs : List Nat) (i : Nat) (b : Bool), (escL cs i b).length ≤ cs.length + 1
  | [], _, true => by simp [escL]
  | [], _, false => by simp [escL]
  | c :: cs, i, true => by simp only [escL, List.length_cons]; have := escL_len cs (i + 1) false; omega
  | c :: cs, i, false => by
    have h1 := escL_len cs (i + 1) false
    have h2 := escL_len cs (i + 1) true
    simp only [escL]
    split <;> simp only [List.length_cons] <;> omega
theorem sum_le_mul : ∀ (l : List Str), (∀ y ∈ l, y.length ≤ 200) → (l.map (·.length)).sum ≤ l.length * 200
  | [], _ => by simp
  | y :: l, h => by
    have h1 := sum_le_mul l fun z hz => h z (.tail _ hz)
    have h2 := h y (.head _)
    simp only [List.map_cons, List.sum_cons, List.length_cons]; omega
theorem strip_wt {l : List Str} (h1 : l.length ≤ 202) (h2 : ∀ y ∈ l, y.length ≤ 200) : (l.map (·.length)).sum + l.length ≤ 1048576 := by
  have := sum_le_mul l h2
  omega
structure StD where
  mm : Str → Option Value
  st : Int
  op : Option Int
  res : List Str
  rv : List Value
  ep : Nat
noncomputable def opV (op : Option Int) (v : Value) : Prop := match op with
  | none => v = .none
  | some o => ∃ t, v = .int o t
noncomputable def stripS (x : Str) : Str := if (Builtin.Str.occurrences x (Str.ofString "\"") 0 x.length 1).isEmpty = true then x else Txt.join (Str.ofString "") (stripGo x (escL x.cps.toList 0 false) 0 none [])
local macro_rules | `(tactic| walk_at "call builtin:list.append") => `(tactic| ((dsimp only); (rename News _ _ _ _ => N'); (rename Fr _ _ _ _ => F'); (with_unfolding_all refine' append_K F' N' (Upd.head (by assumption)) ?_ ?sz); (case sz => first | assumption | (simp; done) | size_fits); clear F' N'; intro h' F' N'; (try dsimp only)))
set_option maxHeartbeats 2000000 in
theorem strip_call {w : World} {dp un : Nat} {fr : Option (List Env)} {gd : Option (List Code)} {s : Shared} {R : Result → Shared → Prop} (G : Gr w s.heap) (hroom : dp + 5 < recursionLimit) (hb : Bare s.gens) {x : Str} {t : Tok} (hx : x.cps.all (· < 128) = true) (hxl : x.length ≤ 200)
   (hR : ∀ t' h' g' tk, Keep s.heap h' → Bare g' → R (.ok (.ret (.str (stripS x) t'))) { s with heap := h', gens := g', toks := tk }) :
   codeAny (model prg w) (Ar dp un fr gd) (.call (.ref 56) ⟨[.str x t], []⟩) R s := by
  refine call_pos_ret (Nat.lt_of_le_of_lt (Nat.le_add_right _ _) hroom) (G.X 56 _ rfl) rfl G.lim (codeRec_of G.X (by rfl)) (by rfl) (locs (by rfl)) ?h
  case h =>
    w_top on
    have G0 := G
    obtain ⟨KX, mean, mg, mb, T⟩ := G
    intro h₁ F
    have N : News s.heap s.heap.objs.size h₁ [] := News.nil
    repeat' walk1
    · rename_i he
      have e : stripS x = x := by unfold stripS; rw [if_pos he]
      rw [e] at hR
      exact hR _ _ _ _ F.keep hb
    · rename_i he _ _ l2 _ l1 h2 F2 N2
      have e : stripS x = Txt.join (Str.ofString "") (stripGo x (escL x.cps.toList 0 false) 0 none []) := by unfold stripS; rw [if_neg (by rw [he]; exact Bool.false_ne_true)]
      rw [e] at hR
      refine wpAny_For ?_
      have FN := And.intro F2 N2
      iterate 7 walk1
      obtain ⟨F3, N3⟩ := FN
      have G0 := ‹Gr w s.heap›
      dsimp only [List.nil_append]
      refine for_esc rfl (by simp only [depth_deeper]; omega) G0 hx (D := StD) (fun d => d.mm) (fun d => [(l2, W.listOf d.rv.toArray d.ep)])
        (fun i d => d.mm (Str.ofString "addr") = some (.str x t) ∧ (∃ t1, d.mm (Str.ofString "start") = some (.int d.st t1)) ∧ (∃ v, d.mm (Str.ofString "open_pos") = some v ∧ opV d.op v) ∧ d.mm (Str.ofString "result") = some (.ref l2) ∧
          StrsAre d.rv d.res ∧ d.res.length ≤ i ∧ (∀ y ∈ d.res, y.length ≤ x.length) ∧ stripGo x ((escL x.cps.toList 0 false).drop i) d.st d.op d.res = stripGo x (escL x.cps.toList 0 false) 0 none []) [l2]
        (fun b hb => by rw [List.mem_singleton] at hb; subst hb; exact Heap.lt_size (N3.get (.head _))) (fun i d _ q hq => by rw [List.mem_singleton] at hq; subst hq; exact .head _) hb ?turn ?fin ⟨_, 0, none, [], [], 0⟩ ?ok F3 N3
      case ok => exact ⟨rfl, ⟨_, rfl⟩, ⟨_, rfl, rfl⟩, rfl, .nil, Nat.zero_le _, fun _ h => absurd h List.not_mem_nil, rfl⟩
      case turn =>
        intro i d p ch tp tc h gn tk own hall hok hbn F N hap
        obtain ⟨mm, st, op, res, rv, ep⟩ := d
        dsimp only at *
        obtain ⟨h1, ⟨t2, h2⟩, ⟨v3, h3, h3'⟩, h4, hS, hlen, hw, hgo⟩ := hok
        obtain ⟨M, m1, m2, m3, m4, m5, m6, F⟩ : ∃ M : Str → Option Value, M (Str.ofString "addr") = some (.str x t) ∧ M (Str.ofString "start") = some (.int st t2) ∧ M (Str.ofString "open_pos") = some v3 ∧ M (Str.ofString "result") = some (.ref l2) ∧
            M (Str.ofString "pos") = some (.int (p : Nat) tp) ∧ M (Str.ofString "ch") = some (.str ch tc) ∧ Fr s.heap s.heap.objs.size h M := ⟨mapOf F, h1, h2, h3, h4, rfl, rfl, F⟩
        clear h1 h2 h3 h4 F3 N3 hR
        have hdr : (escL x.cps.toList 0 false).drop i = (p, ch) :: (escL x.cps.toList 0 false).drop (i + 1) := List.drop_eq_getElem?_toList_append.trans (by rw [hall]; rfl)
        rw [hdr, stripGo_cons] at hgo
        replace N : News s.heap s.heap.objs.size h ((l2, W.listOf rv.toArray ep) :: own) := N
        replace hap : ∀ r ∈ own, r.1 ≠ l2 := hap _ (.head _)
        have hil : i < (escL x.cps.toList 0 false).length := (List.getElem?_eq_some_iff.mp hall).1
        have hsz : rv.toArray.size ≤ sizeLine := by
          rw [List.size_toArray, strsAre_length hS, sizeLine_eq]; have := escL_len x.cps.toList 0 false; have e9 : x.cps.toList.length = x.length := by simp [Str.length]
          omega
        refine hide_end fun Q0 hQ0 => ?_
        cases op with
        | none =>
          cases h3'
          repeat' walk1
          · rename Fr _ _ _ _ => F9
            rename News _ _ _ _ => N9
            have hq : ch = Str.ofString "\"" := eq_of_beq (by assumption)
            rw [if_pos hq] at hgo
            exact hQ0 _ _ ⟨⟨mapOf F9, st, some (p : Int), res, rv, ep⟩, _, _, rfl, ⟨m1, ⟨_, m2⟩, ⟨_, rfl, _, rfl⟩, m4, hS, Nat.le_succ_of_le hlen, hw, hgo⟩, F9, N9⟩
          · rename Fr _ _ _ _ => F9
            rename News _ _ _ _ => N9
            have hq : ¬ ch = Str.ofString "\"" := ne_of_beq_false (by assumption)
            rw [if_neg hq] at hgo
            exact hQ0 _ _ ⟨⟨mapOf F9, st, none, res, rv, ep⟩, _, _, rfl, ⟨m1, ⟨_, m2⟩, ⟨_, m3, rfl⟩, m4, hS, Nat.le_succ_of_le hlen, hw, hgo⟩, F9, N9⟩
        | some o =>
          obtain ⟨t3, rfl⟩ := h3'
          repeat' walk1
          · rename Fr _ _ _ _ => F9
            rename News _ _ _ _ => N9
            have hq : ch = Str.ofString "\"" := eq_of_beq (by assumption)
            rw [if_pos hq] at hgo
            dsimp only at hgo
            rw [if_pos (by assumption)] at hgo
            rw [List.push_toArray] at N9
            refine hQ0 _ _ ⟨⟨mapOf F9, (p : Int) + 1, none, res ++ [_], rv ++ [_], ep + 1⟩, _, _, rfl, ⟨m1, ⟨_, rfl⟩, ⟨_, rfl, rfl⟩, m4, strsAre_append hS (.cons _ _ .nil), ?_, ?_, hgo⟩, F9, N9⟩
            · simp only [List.length_append, List.length_singleton]; omega
            · intro y hy
              rcases List.mem_append.mp hy with hy | hy
              · exact hw y hy
              · rw [List.mem_singleton] at hy; subst hy; exact PyProof.Txt.length_slice_le x _ _
          · rename Fr _ _ _ _ => F9
            rename News _ _ _ _ => N9
            have hq : ch = Str.ofString "\"" := eq_of_beq (by assumption)
            rw [if_pos hq] at hgo
            dsimp only at hgo
            rw [if_neg (fun h => h (by assumption))] at hgo
            exact hQ0 _ _ ⟨⟨mapOf F9, (p : Int) + 1, none, res, rv, ep⟩, _, _, rfl, ⟨m1, ⟨_, rfl⟩, ⟨_, rfl, rfl⟩, m4, hS, Nat.le_succ_of_le hlen, hw, hgo⟩, F9, N9⟩
          · rename Fr _ _ _ _ => F9
            rename News _ _ _ _ => N9
            have hq : ¬ ch = Str.ofString "\"" := ne_of_beq_false (by assumption)
            rw [if_neg hq] at hgo
            exact hQ0 _ _ ⟨⟨mapOf F9, st, some o, res, rv, ep⟩, _, _, rfl, ⟨m1, ⟨_, m2⟩, ⟨_, m3, _, rfl⟩, m4, hS, Nat.le_succ_of_le hlen, hw, hgo⟩, F9, N9⟩
      case fin =>
        intro d h gn tk hok hbn F N
        obtain ⟨mm, st, op, res, rv, ep⟩ := d
        dsimp only at *
        obtain ⟨m1, ⟨t2, m2⟩, ⟨v3, m3, h3'⟩, m4, hS, hlen, hw, hgo⟩ := hok
        rw [List.drop_length] at hgo
        have hgo : (if st < x.length then res ++ [Txt.slice x (some st) none] else res) = _ := hgo
        clear F3 N3
        have hln : res.length ≤ 201 := by
          have := escL_len x.cps.toList 0 false; have e9 : x.cps.toList.length = x.length := by simp [Str.length]
          omega
        have hsz : rv.toArray.size ≤ sizeLine := by
          rw [List.size_toArray, strsAre_length hS, sizeLine_eq]; omega
        repeat' walk1
        · rename Fr _ _ _ _ => F9
          rename News _ _ _ _ => N9
          rw [List.push_toArray] at N9
          rw [if_pos (by assumption)] at hgo
          refine join_listW (items := (rv ++ [_]).toArray) (N9.isList (.head _)) (strsAre_append hS (.cons _ _ .nil)) (by decide) ?_ (fun t' k => ?_)
          · refine strip_wt ?_ ?_
            · simp only [List.length_append, List.length_singleton]; omega
            · intro y hy
              rcases List.mem_append.mp hy with hy | hy
              · exact Nat.le_trans (hw y hy) hxl
              · rw [List.mem_singleton] at hy; subst hy; exact Nat.le_trans (PyProof.Txt.length_slice_le x _ _) hxl
          · rw [hgo]; exact hR _ _ _ _ F9.keep hbn
        · rename Fr _ _ _ _ => F9
          rename News _ _ _ _ => N9
          rw [if_neg (by first | assumption | omega)] at hgo
          refine join_listW (items := rv.toArray) (N9.isList (.head _)) hS (by decide) (strip_wt (by omega) fun y hy => Nat.le_trans (hw y hy) hxl) (fun t' k => ?_)
          rw [hgo]; exact hR _ _ _ _ F9.keep hbn
end
section
noncomputable def checkGo : List (Nat × Str) → Int → Bool
  | [], o => decide (o = 0)
  | (_, ch) :: r, o => if ch = Str.ofString "(" then checkGo r (o + 1) else if ch = Str.ofString ")" then (if o - 1 < 0 then false else checkGo r (o - 1)) else checkGo r o
theorem checkGo_cons (p : Nat) (ch : Str) (r : List (Nat × Str)) (o : Int) : checkGo ((p, ch) :: r) o = if ch = Str.ofString "(" then checkGo r (o + 1) else if ch = Str.ofString ")" then (if o - 1 < 0 then false else checkGo r (o - 1)) else checkGo r o := rfl
noncomputable def checkB (x : Str) : Bool := checkGo (escL (stripS x).cps.toList 0 false) 0
section
variable {w : World} {A : Around} {E : Value → Shared → Prop} {s : Shared} {Q : Value → Shared → Prop} {h₀ : Heap} {L : Addr} {m : Str → Option Value} {news : List (Addr × Obj)}
theorem strip_N {x : Str} {t : Tok} (hA : A.handled = none) (G : Gr w h₀) (F : Fr h₀ L s.heap m) (N : News h₀ L s.heap news) (hroom : A.depth + 5 < recursionLimit) (hb : Bare s.gens) (hx : x.cps.all (· < 128) = true) (hxl : x.length ≤ 200)
    (h : ∀ t' h' g' tk, Fr h₀ L h' m → News h₀ L h' news → Bare g' → Q (.str (stripS x) t') { s with heap := h', gens := g', toks := tk }) :
    wpAny (model prg w) A (call (.ref 56) [.str x t]) Q E s := by
  rw [ar_of hA]
  exact wpAny_call (strip_call (G.keep F.keep) hroom hb hx hxl fun t' h' g' tk k hb' => h t' h' g' tk (F.grownK k) (N.grown k) hb')
end
structure ChD where
  mm : Str → Option Value
  o : Int
set_option maxHeartbeats 2000000 in
theorem check_call {w : World} {dp un : Nat} {fr : Option (List Env)} {gd : Option (List Code)} {s : Shared} {R : Result → Shared → Prop} (G : Gr w s.heap) (hroom : dp + 10 < recursionLimit) (hb : Bare s.gens) {x : Str} {t : Tok} (hx : x.cps.all (· < 128) = true) (hxl : x.length ≤ 200)
   (hx2 : (stripS x).cps.all (· < 128) = true)
   (hR : ∀ h' g' tk, Keep s.heap h' → Bare g' → R (.ok (.ret (.bool (checkB x)))) { s with heap := h', gens := g', toks := tk }) :
   codeAny (model prg w) (Ar dp un fr gd) (.call (.ref 63) ⟨[.str x t], []⟩) R s := by
  refine call_pos_ret (Nat.lt_of_le_of_lt (Nat.le_add_right _ _) hroom) (G.X 63 _ rfl) rfl G.lim (codeRec_of G.X (by rfl)) (by rfl) (locs (by rfl)) ?h
  case h =>
    w_top on
    have G0 := G
    obtain ⟨KX, mean, mg, mb, T⟩ := G
    intro h₁ F
    have N : News s.heap s.heap.objs.size h₁ [] := News.nil
    have hRe : ∀ b h' g' tk, b = checkB x → Keep s.heap h' → Bare g' → R (.ok (.ret (.bool b))) { s with heap := h', gens := g', toks := tk } := fun b h' g' tk e k q => e ▸ hR h' g' tk k q
    clear hR
    repeat' walk1
    with_unfolding_all refine strip_N rfl ‹Gr w s.heap› (by assumption) N (by simp only [depth_deeper]; omega) hb hx hxl ?_
    intro t2 h2 g2 tk2 F2 N2 hb2
    repeat' walk1
    rename Fr _ _ _ _ => F3
    rename News _ _ _ _ => N3
    refine wpAny_For ?_
    have FN := And.intro F3 N3
    repeat' walk1
    obtain ⟨F3, N3⟩ := FN
    have G0 := ‹Gr w s.heap›
    dsimp only [List.nil_append]
    refine for_esc rfl (by simp only [depth_deeper]; omega) G0 hx2 (D := ChD) (fun d => d.mm) (fun d => [])
        (fun i d => (∃ t1, d.mm (Str.ofString "opens") = some (.int d.o t1)) ∧ checkGo ((escL (stripS x).cps.toList 0 false).drop i) d.o = checkB x) []
        (fun b hb => by cases hb) (fun i d _ q hq => by cases hq) hb2 ?turn ?fin ⟨_, 0⟩ ?ok F3 N3
    case ok => exact ⟨⟨_, rfl⟩, rfl⟩
    case turn =>
      intro i d p ch tp tc h gn tk own hall hok hbn F N hap
      obtain ⟨mm, o⟩ := d
      dsimp only at *
      obtain ⟨⟨t2, h2⟩, hgo⟩ := hok
      obtain ⟨M, m2, m6, F⟩ : ∃ M : Str → Option Value, M (Str.ofString "opens") = some (.int o t2) ∧ M (Str.ofString "ch") = some (.str ch tc) ∧ Fr s.heap s.heap.objs.size h M := ⟨mapOf F, h2, rfl, F⟩
      clear h2 F3 N3
      have hdr : (escL (stripS x).cps.toList 0 false).drop i = (p, ch) :: (escL (stripS x).cps.toList 0 false).drop (i + 1) := List.drop_eq_getElem?_toList_append.trans (by rw [hall]; rfl)
      rw [hdr, checkGo_cons] at hgo
      refine hide_end fun Q0 hQ0 => ?_
      repeat' walk1
      · rename Fr _ _ _ _ => F9
        rename News _ _ _ _ => N9
        have hq : ch = Str.ofString "(" := eq_of_beq (by assumption)
        rw [if_pos hq] at hgo
        exact hQ0 _ _ ⟨⟨mapOf F9, o + 1⟩, _, _, rfl, ⟨⟨_, rfl⟩, hgo⟩, F9, N9⟩
      · rename Fr _ _ _ _ => F9
        rename News _ _ _ _ => N9
        have hq : ch = Str.ofString ")" := eq_of_beq (by assumption)
        have hq2 : ¬ ch = Str.ofString "(" := ne_of_beq_false (by assumption)
        rw [if_neg hq2, if_pos hq, if_pos (by omega)] at hgo
        exact hQ0 _ _ (hRe _ _ _ _ hgo F9.keep hbn)
      · rename Fr _ _ _ _ => F9
        rename News _ _ _ _ => N9
        have hq : ch = Str.ofString ")" := eq_of_beq (by assumption)
        have hq2 : ¬ ch = Str.ofString "(" := ne_of_beq_false (by assumption)
        rw [if_neg hq2, if_pos hq, if_neg (by omega)] at hgo
        exact hQ0 _ _ ⟨⟨mapOf F9, o - 1⟩, _, _, rfl, ⟨⟨_, rfl⟩, hgo⟩, F9, N9⟩
      · rename Fr _ _ _ _ => F9
        rename News _ _ _ _ => N9
        have hq2 : ¬ ch = Str.ofString "(" := ne_of_beq_false (by assumption)
        have hq : ¬ ch = Str.ofString ")" := ne_of_beq_false (by assumption)
        rw [if_neg hq2, if_neg hq] at hgo
        exact hQ0 _ _ ⟨⟨mapOf F9, o⟩, _, _, rfl, ⟨⟨_, m2⟩, hgo⟩, F9, N9⟩
    case fin =>
      intro d h gn tk hok hbn F N
      obtain ⟨mm, o⟩ := d
      dsimp only at *
      obtain ⟨⟨t2, m2⟩, hgo⟩ := hok
      rw [List.drop_length] at hgo
      clear F3 N3
      have hgo : decide (o = 0) = checkB x := hgo
      have hk := F.keep
      repeat' walk1
      exact hRe _ _ _ _ ((by by_cases h : o = 0 <;> simp [h] : (o == 0) = decide (o = 0)).trans hgo) hk hbn
end
section
noncomputable def keepU (x : Str) : Str := if checkB x = true then x else Str.ofString "('', '')"
/-- a text that the checks may be asked of -/
noncomputable def Txok (x : Str) : Prop := x.cps.all (· < 128) = true ∧ x.length ≤ 200 ∧ (stripS x).cps.all (· < 128) = true
section
variable {w : World} {A : Around} {E : Value → Shared → Prop} {s : Shared} {Q : Value → Shared → Prop} {h₀ : Heap} {L : Addr} {m : Str → Option Value} {news : List (Addr × Obj)}
theorem check_N {x : Str} {t : Tok} (hA : A.handled = none) (G : Gr w h₀) (F : Fr h₀ L s.heap m) (N : News h₀ L s.heap news) (hroom : A.depth + 10 < recursionLimit) (hb : Bare s.gens) (hx : Txok x)
    (h : ∀ h' g' tk, Fr h₀ L h' m → News h₀ L h' news → Bare g' → Q (.bool (checkB x)) { s with heap := h', gens := g', toks := tk }) :
    wpAny (model prg w) A (call (.ref 63) [.str x t]) Q E s := by
  rw [ar_of hA]
  exact wpAny_call (check_call (G.keep F.keep) hroom hb hx.1 hx.2.1 hx.2.2 fun h' g' tk k hb' => h h' g' tk (F.grownK k) (N.grown k) hb')
end
structure PpD where
  mm : Str → Option Value
  rv : List Value
  ep : Nat
set_option maxHeartbeats 2000000 in
theorem parse_call {w : World} {dp un : Nat} {fr : Option (List Env)} {gd : Option (List Code)} {s : Shared} {R : Result → Shared → Prop} (G : Gr w s.heap) (hroom : dp + 15 < recursionLimit) (hb : Bare s.gens)
   {l : Addr} {vs : List Value} {us : List Str} (hl : s.heap.IsList l vs.toArray) (hu : StrsAre vs us) (hus : us.length ≤ 100) (hok : ∀ x ∈ us, Txok x)
   (hR : ∀ D h' g' tk ws e, Keep s.heap h' → s.heap.get? D = none → h'.get? D = some (W.listOf ws.toArray e) → StrsAre ws (us.map keepU) → Bare g' → R (.ok (.ret (.ref D))) { s with heap := h', gens := g', toks := tk }) :
   codeAny (model prg w) (Ar dp un fr gd) (.call (.ref 70) ⟨[.ref l], []⟩) R s := by
  refine call_pos_ret (Nat.lt_of_le_of_lt (Nat.le_add_right _ _) hroom) (G.X 70 _ rfl) rfl G.lim (codeRec_of G.X (by rfl)) (by rfl) (locs (by rfl)) ?h
  case h =>
    w_top on
    have G0 := G
    obtain ⟨KX, mean, mg, mb, T⟩ := G
    intro h₁ F
    have N : News s.heap s.heap.objs.size h₁ [] := News.nil
    iterate 6 walk1
    rename_i l' h2 l1 h3 F3 N3
    refine wpAny_execs_cons (wpAny_For ?_)
    have FN := And.intro F3 N3
    walk1
    obtain ⟨F3, N3⟩ := FN
    dsimp only
    have hl3 : h3.IsList l vs.toArray := hl.at fun o e => F3.keep _ _ e
    refine wpAny_pyIter_list hl3 ?_
    dsimp only
    have hIt0 : s.heap.get? h3.objs.size = none := fresh_size (s := ⟨h3, s.gens, s.drawn, s.toks, s.os⟩) F3
    have hItL : h3.objs.size ≠ s.heap.objs.size := Nat.ne_of_gt F3.ns.lt
    have hItl := ltN (Heap.lt_size (N3.get (.head _)))
    refine loop_walks (h₀ := s.heap) (L := s.heap.objs.size) (Walks.list rfl h3.objs.size l (fun e => by subst e; obtain ⟨o, ho, _⟩ := hl; rw [hIt0] at ho; cases ho) vs.toArray) (D := PpD)
      (fun _ d => d.mm) (fun _ d => [(l', W.listOf d.rv.toArray d.ep)])
      (fun i d => d.mm (Str.ofString "accepted_values") = some (.ref l') ∧ StrsAre d.rv ((us.take i).map keepU)) Bare hIt0 hItL (fun i h st => let ⟨⟨o, ho, _⟩, _⟩ := st; ⟨o, ho⟩) ?_ ?_ ?_ ?_ ⟨mapOf F3, [], 0⟩ ?_ hb ?_ ?_ ?_
    case refine_1 =>
      intro b hb hbI
      simp only [List.mem_cons, List.not_mem_nil, or_false, hbI, false_or] at hb
      subst hb
      obtain ⟨o, ho, _⟩ := hl
      exact .inl ⟨o, ho⟩
    case refine_2 =>
      intro j d _ q hq
      rw [List.mem_singleton] at hq; subst hq
      exact Nat.ne_of_lt hItl
    case refine_3 =>
      intro i d v h g tk o hi hP hok' hg F N
      obtain ⟨mm, rv, ep⟩ := d
      dsimp only at *
      obtain ⟨hm, hI⟩ := hok'
      obtain ⟨u, t, hu', rfl⟩ := strsAre_at hu (by simpa using hP)
      clear hR hP F3 N3
      have hx : Txok u := hok u (List.mem_of_getElem? hu')
      have hsz : rv.toArray.size ≤ sizeLine := by
        rw [List.size_toArray, strsAre_length hI, sizeLine_eq, List.length_map, List.length_take]
        omega
      have e1 : (us.take (i + 1)).map keepU = (us.take i).map keepU ++ [keepU u] := by rw [List.take_add_one, hu']; simp
      refine hide_turn fun Q0 hQ0 => ?_
      repeat' walk1
      rename Fr _ _ _ _ => F4
      rename News _ _ _ _ => N4
      with_unfolding_all refine check_N rfl ‹Gr w s.heap› F4 N4 (by simp only [depth_deeper]; omega) hg hx ?_
      intro h5 g5 tk5 F5 N5 hb5
      clear F4 N4
      cases hc : checkB u
      · have e2 : keepU u = Str.ofString "('', '')" := by unfold keepU; rw [if_neg (by rw [hc]; exact Bool.false_ne_true)]
        repeat' walk1
        rename Fr _ _ _ _ => F9
        rename News _ _ _ _ => N9
        rw [List.push_toArray] at N9
        refine hQ0 _ _ ⟨⟨mapOf F9, rv ++ [_], _⟩, _, _, _, rfl, ⟨hm, ?_⟩, hb5, F9, N9⟩
        rw [e1, e2]; exact strsAre_append hI (.cons _ _ .nil)
      · have e2 : keepU u = u := by unfold keepU; rw [if_pos hc]
        repeat' walk1
        rename Fr _ _ _ _ => F9
        rename News _ _ _ _ => N9
        rw [List.push_toArray] at N9
        refine hQ0 _ _ ⟨⟨mapOf F9, rv ++ [_], _⟩, _, _, _, rfl, ⟨hm, ?_⟩, hb5, F9, N9⟩
        rw [e1, e2]; exact strsAre_append hI (.cons _ _ .nil)
    case refine_4 =>
      intro d h g tk hok hg F N
      obtain ⟨mm, rv, ep⟩ := d
      dsimp only at *
      obtain ⟨hm, hI⟩ := hok
      have hus' : us.take vs.toArray.size = us := by rw [List.size_toArray, strsAre_length hu, List.take_length]
      rw [hus'] at hI
      have hk := F.keep
      have hf := N.fresh (.head _)
      have hgt := N.get (.head _)
      repeat' walk1
      exact hR _ _ _ _ _ _ hk hf hgt hI hg
    case refine_5 => exact ⟨rfl, .nil⟩
    case refine_6 => exact F3.push _
    case refine_7 => exact N3.grown fun _ _ e => Heap.get?_push_of_some _ e
    case refine_8 => exact ⟨⟨_, Heap.get?_push_size _ rfl, rfl, rfl⟩, hl3.push _⟩
end
section
section
variable {prog : Program} {w : World} {A : Around} {env : Env} {R : Result → Shared → Prop} {s : Shared} {h₀ : Heap} {L : Addr}
/-- a for over a range, from its iterator on -/
theorem for_range {x : Str} {px : Pos} {body : List Stmt} {r : Addr} {n : Nat} {t u v : Tok} {E : Value → Shared → Prop} (hA : A.handled = none) (hr : IsRange s.heap r 0 (n : Int) 1 t u v) (hn : n ≤ 1000)
    {D : Type} (mf : D → Str → Option Value) (nf : D → List (Addr × Obj)) (ok : Nat → D → Prop) (gk : Array GenState → Prop) (ads : List Addr) (hads : ∀ b ∈ ads, b < s.heap.objs.size) (hnf : ∀ i d, ok i d → ∀ q ∈ nf d, q.1 ∈ ads)
    (turn : ∀ i d t h g tk o, i < n → ok i d → gk g → Fr h₀ L h (mf d) → News h₀ L h ((s.heap.objs.size, o) :: nf d) →
      wpAny (model prog w) A (storeName env x (.int (i : Nat) t)) (fun _ s₂ => wpAny (model prog w) A (execs body env) (fun f s₃ => match f with
        | .next | .cont => Shut (∃ d' h' g' tk', s₃ = { s with heap := h', gens := g', toks := tk' } ∧ ok (i + 1) d' ∧ gk g' ∧ Fr h₀ L h' (mf d') ∧ News h₀ L h' ((s.heap.objs.size, o) :: nf d'))
        | .brk => R (.ok .next) s₃
        | .ret u => R (.ok (.ret u)) s₃) (fun _ _ => False) s₂) (fun _ _ => False) { s with heap := h, gens := g, toks := tk })
    (fin : ∀ d h g tk, ok n d → gk g → Fr h₀ L h (mf d) → News h₀ L h (nf d) → R (.ok .next) { s with heap := h, gens := g, toks := tk })
    (d : D) (h0 : ok 0 d) (hg : gk s.gens) (F : Fr h₀ L s.heap (mf d)) (N : News h₀ L s.heap (nf d)) :
    wpAny (model prog w) A (pyIter (.ref r)) (fun it s₂ => codeAny (model prog w) A (.forLoop (.Name x px) it body [] env) R s₂) E s := by
  have hz : Builtin.Range.rangeSize 0 (n : Int) 1 = (n : Int) := by rw [rangeSize_one]; split <;> omega
  have hk : ∀ o, Keep s.heap (s.heap.push o) := fun _ _ _ e => Heap.get?_push_of_some _ e
  refine wpAny_pyIter_range hr (small_one (by omega) (by omega) (by omega) (by omega)) ?_
  rw [hz]
  have Wr : Walks prog w A s.heap.objs.size [s.heap.objs.size] [s.heap.objs.size] n (fun i v => ∃ t, v = Value.int (i : Int) t) (fun i h => IsRangeIter h s.heap.objs.size (0 + (i : Nat) * 1) ((n : Int) - (i : Nat)) 1) :=
    have W0 := Walks.range (prog := prog) (w := w) hA s.heap.objs.size 0 1 n
    { W0 with item := fun i s Q E hi st hQ => W0.item i s Q E hi st fun v h' tk hP => hQ v h' tk (by simpa using hP) }
  refine loop_walks (s := { s with heap := s.heap.push _ }) (h₀ := h₀) (L := L) Wr (D := D) (fun _ d => mf d) (fun _ d => nf d) ok gk (fresh_size F) (Nat.ne_of_gt F.ns.lt) (fun i h st => ⟨_, st⟩)
    (fun b hb hbI => absurd (List.mem_singleton.mp hb) hbI) (fun j d hok q hq => Nat.ne_of_lt (hads _ (hnf j d hok q hq))) ?_ fin d h0 hg (F.grownK (hk _)) (N.grown (hk _)) ?_
  · rintro i d v h g tk o hi ⟨t, rfl⟩ hok hg F N
    exact turn i d t h g tk o hi hok hg F N
  · show IsRangeIter (s.heap.push _) _ _ _ _
    simp only [Int.natCast_zero, Int.zero_mul, Int.add_zero, Int.sub_zero]
    exact Heap.get?_push_size _ rfl
end
end
section
section
variable {w : World} {A : Around} {E : Value → Shared → Prop} {s : Shared} {Q : Value → Shared → Prop} {h₀ : Heap} {L : Addr} {m : Str → Option Value} {news : List (Addr × Obj)}
theorem levels_N {l : Addr} {vs : List Value} {us : List Str} (hA : A.handled = none) (G : Gr w h₀) (F : Fr h₀ L s.heap m) (N : News h₀ L s.heap news) (hroom : A.depth < recursionLimit)
    (hl : s.heap.IsList l vs.toArray) (hu : StrsAre vs us) (hus : us.length ≤ 100)
    (h : ∀ a D h' tk ws e t, Fr h₀ L h' m → News h₀ L h' ((a, tupO [.ref D, .int (sumU us) t]) :: (D, W.listOf ws.toArray e) :: news) → IntsAre ws (levelsL us) → (∀ p ∈ news, p.1 ≠ a ∧ p.1 ≠ D) → a ≠ D → Q (.ref a) { s with heap := h', toks := tk }) :
    wpAny (model prg w) A (call (.ref 87) [.ref l]) Q E s := by
  rw [ar_of hA]
  refine wpAny_call (levels_call (G.keep F.keep) hroom hl hu hus fun a D h' tk ws e t k ha hD hne hoa hoD hi => ?_)
  refine h a D h' tk ws e t (F.grownK k) (fun q hq => ?_) hi (fun p hp => ⟨fun e => ?_, fun e => ?_⟩) hne
  · rcases List.mem_cons.mp hq with rfl | hq
    · exact news_more F N k ha hoa _ (.head _)
    · exact news_more F N k hD hoD q hq
  · have := (N p hp).1; rw [e, ha] at this; cases this
  · have := (N p hp).1; rw [e, hD] at this; cases this
theorem turned_N {l : Addr} {vs : List Value} {us : List Str} (hA : A.handled = none) (G : Gr w h₀) (F : Fr h₀ L s.heap m) (N : News h₀ L s.heap news) (hroom : A.depth < recursionLimit)
    (hl : s.heap.IsList l vs.toArray) (hu : StrsAre vs us) (hus : us.length ≤ 100)
    (h : ∀ D h' tk ws e, Fr h₀ L h' m → News h₀ L h' ((D, W.listOf ws.toArray e) :: news) → StrsAre ws (us.map turnU) → (∀ p ∈ news, p.1 ≠ D) → Q (.ref D) { s with heap := h', toks := tk }) :
    wpAny (model prg w) A (call (.ref 82) [.ref l]) Q E s := by
  rw [ar_of hA]
  refine wpAny_call (turned_call (G.keep F.keep) hroom hl hu hus fun D h' tk ws e k hD hoD hi => ?_)
  refine h D h' tk ws e (F.grownK k) (news_more F N k hD hoD) hi (fun p hp e => ?_)
  have := (N p hp).1; rw [e, hD] at this; cases this
theorem parse_N {l : Addr} {vs : List Value} {us : List Str} (hA : A.handled = none) (G : Gr w h₀) (F : Fr h₀ L s.heap m) (N : News h₀ L s.heap news) (hroom : A.depth + 15 < recursionLimit) (hb : Bare s.gens)
    (hl : s.heap.IsList l vs.toArray) (hu : StrsAre vs us) (hus : us.length ≤ 100) (hok : ∀ x ∈ us, Txok x)
    (h : ∀ D h' g' tk ws e, Fr h₀ L h' m → News h₀ L h' ((D, W.listOf ws.toArray e) :: news) → StrsAre ws (us.map keepU) → (∀ p ∈ news, p.1 ≠ D) → Bare g' → Q (.ref D) { s with heap := h', gens := g', toks := tk }) :
    wpAny (model prg w) A (call (.ref 70) [.ref l]) Q E s := by
  rw [ar_of hA]
  refine wpAny_call (parse_call (G.keep F.keep) hroom hb hl hu hus hok fun D h' g' tk ws e k hD hoD hi hb' => ?_)
  refine h D h' g' tk ws e (F.grownK k) (news_more F N k hD hoD) hi (fun p hp e => ?_) hb'
  have := (N p hp).1; rw [e, hD] at this; cases this
end
theorem stepU_le (u : Str) : -1 ≤ stepU u ∧ stepU u ≤ 1 := by unfold stepU; split <;> (try split) <;> decide
theorem sumU_le : ∀ us : List Str, -(us.length : Int) ≤ sumU us ∧ sumU us ≤ us.length
  | [] => by simp [sumU]
  | u :: us => by have := sumU_le us; have := stepU_le u; simp only [sumU, List.length_cons]; omega
theorem turn_len {u : Str} (h : u.length ≤ 2) : (turnU u).length ≤ 2 := by
  unfold turnU
  split
  · decide
  · split
    · decide
    · exact h
section
variable {prog : Program} {w : World} {A : Around} {E : Value → Shared → Prop} {s : Shared} {Q : Value → Shared → Prop} {x y : Str} {t u : Tok} {a b : Nat}
theorem len_cat (hx : x.length ≤ a) (hy : y.length ≤ b) : (x ++ y).length ≤ a + b := by
  have : (x ++ y).length = x.length + y.length := PySem.Str.length_append x y
  omega
theorem add_ln (hx : x.length ≤ a) (hy : y.length ≤ b) (hab : a + b ≤ 1000) (h : ∀ t' k, Q (.str (x ++ y) t') { s with toks := k }) : wpAny (model prog w) A (binaryOp .Add (.str x t) (.str y u)) Q E s :=
  SB.add h (by rw [sizeLine_eq]; omega)
end
local macro_rules | `(tactic| walk_at "my_len") => `(tactic| first | exact len_join (by assumption) (by assumption) | exact len_mul (by omega) | exact len_cat (by walk_at "my_len") (by walk_at "my_len") | (show _ ≤ 10; decide))
local macro_rules | `(tactic| walk_at "binaryOp Add str str") => `(tactic| ((dsimp only); (refine add_ln (by walk_at "my_len") (by walk_at "my_len") (by decide) ?_); intro t' k'; (try dsimp only)))
/-- a line of `_law_lines_hold` -/
noncomputable def lineU (us : List Str) (n : Int) : Str := Txt.mul (Str.ofString "(") n ++ Txt.join (Str.ofString "") us ++ Txt.mul (Str.ofString ")") (n + sumU us) ++ Txt.mul (Str.ofString "(") (4 - n) ++ Txt.join (Str.ofString "") (us.map turnU) ++ Txt.mul (Str.ofString ")") (4 - n - sumU us)
noncomputable def pickU (us : List Str) (n : Int) : Str := if n ∈ levelsL us then lineU us n else Str.ofString "('', '')"
noncomputable def linesOk (us : List Str) : Prop := (([0, 1, 2, 3, 4] : List Int).map (lineU us)).map keepU = ([0, 1, 2, 3, 4] : List Int).map (pickU us)
theorem const_ok : PyData.strOk (Str.ofString "('', '')") = true := by decide +kernel
theorem picks_of {f : Int → Str} : ∀ {vs ys : List Value} {ns : List Int}, IntsAre vs ns → Paired (fun v y => ∃ n t t', v = Value.int n t ∧ y = Value.str (f n) t') vs ys → StrsAre ys (ns.map f)
  | _, _, _, .nil, .nil => .nil
  | _, _, _, .cons n t r, .cons h q => by
    obtain ⟨n', t', t2, e1, rfl⟩ := h
    cases e1
    exact .cons _ _ (picks_of r q)
theorem strs_carried : ∀ {vs : List Value} {us : List Str}, StrsAre vs us → CarriedAll vs (us.map PyData.str)
  | _, _, .nil => .nil
  | _, _, .cons _ t r => .cons (.str _ t) (strs_carried r)
theorem strs_canLay : ∀ us : List Str, (∀ u ∈ us, PyData.strOk u = true) → PyData.canLayAll0 (us.map PyData.str) = true
  | [], _ => rfl
  | u :: r, h => by
    have h1 := strs_canLay r fun v hv => h v (.tail _ hv)
    have h2 := h u (.head _)
    simp [PyData.canLayAll0, PyData.canLay0, h1, h2]
theorem strs_depth : ∀ us : List Str, PyData.depthAll (us.map PyData.str) = 0
  | [] => rfl
  | _ :: r => by simp [PyData.depthAll, PyData.depth, strs_depth r]
theorem strs_sameAll : ∀ ns ms : List Str, PySem.Spec.sameAll (ns.map PyData.str) (ms.map PyData.str) = decide (ns = ms)
  | [], [] => by simp [PySem.Spec.sameAll]
  | [], _ :: _ => by simp [PySem.Spec.sameAll]
  | _ :: _, [] => by simp [PySem.Spec.sameAll]
  | a :: r, b :: t => by
    simp only [List.map_cons, PySem.Spec.sameAll, PySem.Spec.same, strs_sameAll r t]
    by_cases h : a = b <;> by_cases h' : r = t <;> simp [h, h']
theorem keep_ok {x : Str} (h : x.cps.all (· < 128) = true) : PyData.strOk (keepU x) = true := by
  unfold keepU; split
  · exact ok_ascii h
  · exact const_ok
theorem pick_ok {us : List Str} {n : Int} (h : (lineU us n).cps.all (· < 128) = true) : PyData.strOk (pickU us n) = true := by
  unfold pickU; split
  · exact ok_ascii h
  · exact const_ok
section
variable {prog : Program} {w : World} {A : Around} {E : Value → Shared → Prop} {s : Shared} {a b : Addr} {xs ys : List Value} {ns ms : List Str} {Q : Value → Shared → Prop}
theorem eq_strs (ha : s.heap.IsList a xs.toArray) (hb : s.heap.IsList b ys.toArray) (hi : StrsAre xs ns) (hj : StrsAre ys ms) (hx : ∀ u ∈ ns, PyData.strOk u = true) (hy : ∀ u ∈ ms, PyData.strOk u = true) (hu : A.units + 64 < cLine) (h : Q (.bool (decide (ns = ms))) s) :
    wpAny (model prog w) A (compareOp .Eq (.ref a) (.ref b)) Q E s := by
  have hs : ∀ us : List Str, (∀ u ∈ us, PyData.strOk u = true) → PySem.SeqAt.shaped (.list (us.map PyData.str)) = true := fun us h => by
    simp [PySem.SeqAt.shaped, PyData.canLay0, PyData.depth, strs_canLay us h, strs_depth]
  exact eq_dataH_same (reads_newData ha (strs_carried hi)) (reads_newData hb (strs_carried hj)) (hs _ hx) (hs _ hy) hu (PySem.SeqAt.noMix_of_shape (.list .str) rfl _ _ (list_map_has fun _ => rfl) (list_map_has fun _ => rfl)) (by simp only [PySem.Spec.same]; rw [strs_sameAll]; exact h)
end
theorem take5 {i : Nat} (h : i < 5) : ([0, 1, 2, 3, 4] : List Int).take (i + 1) = ([0, 1, 2, 3, 4] : List Int).take i ++ [(i : Int)] := by
  rcases i with _ | _ | _ | _ | _ | i
  · rfl
  · rfl
  · rfl
  · rfl
  · rfl
  · omega
structure LnD where
  mm : Str → Option Value
  rv : List Value
  ep : Nat
set_option maxHeartbeats 2000000 in
theorem lines_call {w : World} {dp un : Nat} {fr : Option (List Env)} {gd : Option (List Code)} {s : Shared} {R : Result → Shared → Prop} (G : Gr w s.heap) (hroom : dp + 20 < recursionLimit) (hun : un + 100 < cLine) (hb : Bare s.gens)
   {l : Addr} {vs : List Value} {us : List Str} (hl : s.heap.IsList l vs.toArray) (hu : StrsAre vs us) (hus : us.length ≤ 20) (huw : ∀ u ∈ us, u.length ≤ 2)
   (htx : ∀ x ∈ ([0, 1, 2, 3, 4] : List Int).map (lineU us), Txok x)
   (hR : ∀ h' g' tk, Keep s.heap h' → Bare g' → ∀ b : Bool, (b = true ↔ linesOk us) → R (.ok (.ret (.bool b))) { s with heap := h', gens := g', toks := tk }) :
   codeAny (model prg w) (Ar dp un fr gd) (.call (.ref 92) ⟨[.ref l], []⟩) R s := by
  refine call_cellsN_ret (binds := [(Str.ofString "units", .ref l)]) (Nat.lt_of_le_of_lt (Nat.le_add_right _ _) hroom) (G.X 92 _ rfl) rfl G.lim (codeRec_of G.X (by rfl)) (by rfl) ?h1 ?h2 ?h
  case h1 => intro x hx; simp only [List.mem_cons, List.not_mem_nil, or_false] at hx; subst hx; exact .inl rfl
  case h2 => decide +kernel
  case h =>
    w_top on
    have G0 := G
    obtain ⟨KX, mean, mg, mb, T⟩ := G
    intro h₁ tk cells F N X0
    have hY := CellsAre.two X0; obtain ⟨o1, o2, hE', d1, d2⟩ := hY; subst hE'; clear X0
    repeat' walk1
    rename Fr _ _ _ _ => F2
    rename News _ _ _ _ => N2
    with_unfolding_all refine levels_N rfl ‹Gr w s.heap› F2 N2 (by simp only [depth_deeper]; omega) (hl.at fun o e => F2.keep _ _ e) hu (by omega) ?_
    intro a3 D3 h3 tk3 ws3 e3 t3 F3 N3 hI3 hne3 haD
    clear F2 N2
    iterate 15 walk1
    rename_i o4 d4 h4 l5 h5 F5 N5 l1 h6 o6 F6 N6 d6
    refine wpAny_For ?_
    have FN := And.intro F6 N6
    have hl5 : ∀ p ∈ [(a3, tupO [.ref D3, .int (sumU us) t3]), (D3, W.listOf ws3.toArray e3), (s.heap.objs.size + 1 + 1, o1), (s.heap.objs.size + 1, o4)], p.1 < l5 := l1
    clear F5 N5
    iterate 7 walk1
    obtain ⟨F6, N6⟩ := FN
    rename_i h7 tk7 t7 u7 v7 R7 F7 N7 K7
    clear N6 F6
    dsimp only
    have hD3 := ltN (l1 (D3, _) (.tail _ (.head _)))
    have ha3 := ltN (l1 (a3, _) (.head _))
    have hc1 := ltN (l1 (s.heap.objs.size + 1 + 1, o1) (.tail _ (.tail _ (.head _))))
    have hc2 := ltN (l1 (s.heap.objs.size + 1, o4) (.tail _ (.tail _ (.tail _ (.head _)))))
    have hsh := sumU_le us
    refine for_range (h₀ := s.heap) (L := s.heap.objs.size) rfl R7 (by decide) (D := LnD) (fun d => d.mm) (fun d => [(l5, W.listOf d.rv.toArray d.ep), (D3, W.listOf ws3.toArray e3), (s.heap.objs.size + 1 + 1, o6), (s.heap.objs.size + 1, o4)])
      (fun i d => d.mm (Str.ofString "units") = some (.ref l) ∧ d.mm (Str.ofString "shift") = some (.int (sumU us) t3) ∧ StrsAre d.rv ((([0, 1, 2, 3, 4] : List Int).take i).map (lineU us))) Bare
      [l5, D3, s.heap.objs.size + 1 + 1, s.heap.objs.size + 1] ?hads ?hnf ?turn ?fin ⟨mapOf F7, [], 0⟩ ⟨rfl, rfl, .nil⟩ hb F7 ?hN
    case hads =>
      intro b hb
      simp only [List.mem_cons, List.not_mem_nil, or_false] at hb
      rcases hb with rfl | rfl | rfl | rfl
      · exact Heap.lt_size (N7.get (.head _))
      · exact Heap.lt_size (N7.get (.tail _ (.tail _ (.head _))))
      · exact Heap.lt_size (N7.get (.tail _ (.tail _ (.tail _ (.head _)))))
      · exact Heap.lt_size (N7.get (.tail _ (.tail _ (.tail _ (.tail _ (.head _))))))
    case hN =>
      intro q hq
      simp only [List.mem_cons, List.not_mem_nil, or_false] at hq
      rcases hq with rfl | rfl | rfl | rfl
      · exact N7 _ (.head _)
      · exact N7 _ (.tail _ (.tail _ (.head _)))
      · exact N7 _ (.tail _ (.tail _ (.tail _ (.head _))))
      · exact N7 _ (.tail _ (.tail _ (.tail _ (.tail _ (.head _)))))
    case hnf =>
      intro i d _ q hq
      simp only [List.mem_cons, List.not_mem_nil, or_false] at hq
      rcases hq with rfl | rfl | rfl | rfl <;> simp
    case turn =>
      intro i d t h g tk o hi hok hg F N
      obtain ⟨mm, rv, ep⟩ := d
      dsimp only at *
      obtain ⟨hmu, hms, hS⟩ := hok
      clear hR F7 R7
      have hl57 := ltN (Heap.lt_size (N7.get (.head _)))
      have hsz : rv.toArray.size ≤ sizeLine := by
        rw [List.size_toArray, strsAre_length hS, sizeLine_eq, List.length_map, List.length_take]
        simp only [List.length_cons, List.length_nil]; omega
      clear N7
      have hw1 : (us.map (·.length)).sum + us.length ≤ 1048576 := strip_wt (by omega) fun y hy => Nat.le_trans (huw y hy) (by decide)
      have htl : (us.map turnU).length ≤ 20 := by rw [List.length_map]; exact hus
      have htw : ∀ u ∈ us.map turnU, u.length ≤ 2 := fun u hu => by
        obtain ⟨v, hv, rfl⟩ := List.mem_map.mp hu
        exact turn_len (huw v hv)
      have hw2 : ((us.map turnU).map (·.length)).sum + (us.map turnU).length ≤ 1048576 := strip_wt (by omega) fun y hy => Nat.le_trans (htw y hy) (by decide)
      refine hide_turn fun Q0 hQ0 => ?_
      repeat' walk1
      rename Fr _ _ _ _ => F8
      with_unfolding_all refine join_listW (items := vs.toArray) (hl.at fun o e => F8.keep _ _ e) hu (by decide) hw1 (fun t8 k8 => ?_)
      repeat' walk1
      rename Fr _ _ _ _ => F9
      rename News _ _ _ _ => N9
      with_unfolding_all refine turned_N rfl ‹Gr w s.heap› F9 N9 (by simp only [depth_deeper]; omega) (hl.at fun o e => F9.keep _ _ e) hu (by omega) ?_
      intro DT hT tkT wsT eT FT NT hST hneT
      clear F9 N9
      repeat' walk1
      with_unfolding_all refine join_listW (items := wsT.toArray) (NT.isList (.head _)) hST (by decide) hw2 (fun t9 k9 => ?_)
      have hz1 : @Ne Nat l5 DT := hneT (l5, _) (.tail _ (.head _))
      repeat' walk1
      rename Fr _ _ _ _ => F9
      rename News _ _ _ _ => N9
      with_unfolding_all refine append_K (D := l5) F9 N9 (Upd.tail (Ne.symm hz1) (Upd.tail (Nat.ne_of_gt hl57) (Upd.head ?_))) ?_ hsz
      · intro p hp
        simp only [List.mem_cons, List.not_mem_nil, or_false] at hp
        rcases hp with rfl | rfl | rfl
        · exact Nat.ne_of_lt hD3
        · exact Nat.ne_of_lt hc1
        · exact Nat.ne_of_lt hc2
      intro h10 F10 N10
      clear F9 N9
      repeat' walk1
      rename Fr _ _ _ _ => F9
      rename News _ _ _ _ => N9
      rw [List.push_toArray] at N9
      refine hQ0 _ _ ⟨⟨mapOf F9, rv ++ [_], ep + 1⟩, _, _, _, rfl, ⟨hmu, hms, ?_⟩, hg, F9, fun q hq => N9 q (.tail _ hq)⟩
      rw [take5 hi, List.map_append]
      exact strsAre_append hS (.cons _ _ .nil)
    case fin =>
      intro d h g tk hok hg F N
      obtain ⟨mm, rv, ep⟩ := d
      dsimp only at *
      obtain ⟨hmu, hms, hS⟩ := hok
      replace hS : StrsAre rv (([0, 1, 2, 3, 4] : List Int).map (lineU us)) := hS
      clear F7 N7 R7
      iterate 10 walk1
      rename Fr _ _ _ _ => F8
      rename News _ _ _ _ => N8
      with_unfolding_all refine parse_N rfl ‹Gr w s.heap› F8 N8 (by simp only [depth_deeper]; omega) hg (N8.isList (.head _)) hS (by simp) htx ?_
      intro D9 h9 g9 tk9 ws9 e9 F9 N9 hS9 hne9 hb9
      clear F8 N8
      refine comp_rangeE (cl := [(Str.ofString "lines", s.heap.objs.size + 1 + 1), (Str.ofString "levels", s.heap.objs.size + 1)]) (h₀ := s.heap) (L := s.heap.objs.size) (m := mm)
        (news := [(D9, W.listOf ws9.toArray e9), (l5, W.listOf rv.toArray ep), (D3, W.listOf ws3.toArray e3), (s.heap.objs.size + 1 + 1, o6), (s.heap.objs.size + 1, o4)]) 5 (fun _ => true) (fun v y => ∃ n t t', v = .int n t ∧ y = .str (pickU us n) t') rfl (by decide) rfl (by decide) rfl (by decide) rfl ?_ ?_ ?_
      · repeat' walk1
        rename IsRange _ _ _ _ _ _ _ _ => R9
        rename Fr _ _ _ _ => F10
        rename News _ _ _ _ => N10
        exact ⟨_, _, _, _, _, _, rfl, rfl, R9, F10, N10⟩
      · intro h5 F5 N5
        have hc1 : h5.IsCell (s.heap.objs.size + 1 + 1) (some (.ref l5)) := ⟨o6, N5.get (.tail _ (.tail _ (.tail _ (.head _)))), d6⟩
        have hc2 : h5.IsCell (s.heap.objs.size + 1) (some (.ref D3)) := ⟨o4, N5.get (.tail _ (.tail _ (.tail _ (.tail _ (.head _))))), d4⟩
        have hls : h5.IsList l5 rv.toArray := N5.isList (.tail _ (.head _))
        have hlv : h5.IsList D3 ws3.toArray := N5.isList (.tail _ (.tail _ (.head _)))
        have hI3 := ‹IntsAre ws3 (levelsL us)›
        refine ⟨fun C i v s₃ m₃ E' hP F6 hm6 => tests0 rfl, fun C i v s₃ m₃ E' hP hp F6 hm6 => ?_⟩
        obtain ⟨hi5, t, rfl⟩ := hP
        have N6 : News h5 C s₃.heap [] := News.nil
        clear F5 N5 F9 N9
        repeat' walk1
        · rename_i hin t2
          refine ⟨⟨(i : Int), t, t2, rfl, ?_⟩, _, _, rfl, fun _ _ e => e⟩
          have e1 : pickU us (i : Int) = lineU us (i : Int) := by
            unfold pickU; rw [if_pos (by obtain ⟨x, hx, e⟩ := List.any_eq_true.mp hin; exact eq_of_beq e ▸ hx)]
          rw [e1]
          rcases i with _ | _ | _ | _ | _ | i
          · rfl
          · rfl
          · rfl
          · rfl
          · rfl
          · omega
        · rename_i hin
          refine ⟨⟨(i : Int), t, s₃.toks, rfl, ?_⟩, _, _, rfl, fun _ _ e => e⟩
          have e1 : pickU us (i : Int) = Str.ofString "('', '')" := by
            unfold pickU
            rw [if_neg (fun hx => by have := List.any_eq_false.mp hin _ hx; simp at this)]
          rw [e1]
      · intro D10 h10 tk10 ys e10 vs' F10 N10 ne10 hlen hP hF
        rw [List.filter_eq_self.mpr (fun _ _ => rfl)] at hF
        have hys : StrsAre ys.toList (([0, 1, 2, 3, 4] : List Int).map (pickU us)) := by
          have := picks_of (f := pickU us) (ints_five hlen hP) hF
          exact this
        refine eq_strs (N10.isList (.tail _ (.head _))) (ys := ys.toList) (by rw [Array.toArray_toList]; exact N10.isList (.head _)) hS9 hys ?_ ?_ (by simp only [units_deeper]; omega) ?_
        · intro u hu
          obtain ⟨x, hx, rfl⟩ := List.mem_map.mp hu
          exact keep_ok (htx x hx).1
        · intro u hu
          obtain ⟨n, hn, rfl⟩ := List.mem_map.mp hu
          exact pick_ok (htx _ (List.mem_map.mpr ⟨n, hn, rfl⟩)).1
        · have e9 : ((([0, 1, 2, 3, 4] : List Int).map (lineU us)).map keepU = ([0, 1, 2, 3, 4] : List Int).map (pickU us)) = linesOk us := rfl
          refine hR _ _ _ F10.keep hb9 _ ?_
          exact decide_eq_true_iff
end
section
/-- a unit's signs -/
inductive UnitC : List Nat → Prop
  | op : UnitC [40]
  | cl : UnitC [41]
  | esc (c : Nat) : c < 128 → UnitC [92, c]
/-- a quoted stretch's signs -/
inductive QuoC : List Nat → Prop
  | a : QuoC [34, 40, 34]
  | b : QuoC [34, 41, 34]
  | c : QuoC [34, 92, 34, 40, 34]
  | d : QuoC [34, 41, 92, 92, 34]
noncomputable def dueL : Nat → List Str → List (Nat × Str)
  | _, [] => []
  | i, u :: us => (i + u.length - 1, u) :: dueL (i + u.length) us
theorem eta_chars (u : Str) : u = ⟨u.cps.toList.toArray⟩ := by cases u; simp
theorem escL_unit {u : Str} (h : UnitC u.cps.toList) (rest : List Nat) (i : Nat) : escL (u.cps.toList ++ rest) i false = (i + u.length - 1, u) :: escL rest (i + u.length) false := by
  have e := eta_chars u
  rw [len_chars]
  generalize u.cps.toList = cs at h e
  cases h <;> simp [escL, e]
theorem escL_units : ∀ (us : List Str) (i : Nat), (∀ u ∈ us, UnitC u.cps.toList) → escL (us.flatMap (·.cps.toList)) i false = dueL i us
  | [], i, _ => rfl
  | u :: us, i, h => by
    rw [List.flatMap_cons, escL_unit (h u (.head _)), escL_units us _ fun v hv => h v (.tail _ hv)]
    rfl
theorem unit_ne_q {u : Str} (h : UnitC u.cps.toList) : ¬ u = Str.ofString "\"" := fun e => by
  rw [e, (by decide : (Str.ofString "\"").cps.toList = [34])] at h
  cases h
noncomputable def isU (u : Str) : Bool := decide (u.cps.toList.head? ≠ some 34)
theorem unit_isU {u : Str} (h : UnitC u.cps.toList) : isU u = true := by
  unfold isU; generalize u.cps.toList = cs at h; cases h <;> simp
theorem quo_isU {u : Str} (h : QuoC u.cps.toList) : isU u = false := by
  unfold isU; generalize u.cps.toList = cs at h; cases h <;> simp
theorem slice_chars {x : Str} {i j : Nat} (h1 : i ≤ j) (h2 : j ≤ x.cps.toList.length) : (Txt.slice x (some (i : Int)) (some (j : Int))).cps.toList = (x.cps.toList.drop i).take (j - i) := by
  rw [beq_iff_eq.mp (slice_closesL (x := x) (i := i) (j := j) (by omega) (by omega) (by rw [len_chars]; omega))]
  show ((x.cps.toList.drop (i : Int).toNat).take ((j : Int) - i).toNat) = _
  rw [Int.toNat_natCast, (by omega : ((j : Int) - i).toNat = j - i)]
theorem slice_chars_from {x : Str} {i : Nat} (h1 : i ≤ x.cps.toList.length) : (Txt.slice x (some (i : Int)) none).cps.toList = x.cps.toList.drop i := by
  rw [slice_from_eq (b := (x.length : Int)) (by omega) (by rw [len_chars]; omega) rfl]
  show ((x.cps.toList.drop (i : Int).toNat).take ((x.length : Int) - i).toNat) = _
  rw [Int.toNat_natCast]
  exact List.take_of_length_le (by rw [List.length_drop, len_chars]; omega)
theorem strip_end (x : Str) (st : Nat) (res : List Str) (h : st ≤ x.cps.toList.length) : (stripGo x [] st none res).flatMap (·.cps.toList) = res.flatMap (·.cps.toList) ++ x.cps.toList.drop st := by
  unfold stripGo
  by_cases h1 : (st : Int) < x.length
  · rw [if_pos h1, List.flatMap_append, List.flatMap_cons, List.flatMap_nil, List.append_nil, slice_chars_from h]
  · rw [if_neg h1, List.drop_of_length_le (by rw [len_chars] at h1; omega), List.append_nil]
theorem strip_close (x : Str) (st i : Nat) (k : Int) (res : List Str) (p : Nat) (r : List (Nat × Str)) (hk : k = (i : Int)) : stripGo x ((p, ⟨#[34]⟩) :: r) st (some k) res = stripGo x r ((p + 1 : Nat) : Int) none (if st ≠ i then res ++ [Txt.slice x (some (st : Int)) (some (i : Int))] else res) := by
  subst hk
  rw [stripGo_cons, if_pos (by decide)]
  by_cases h : st = i
  · subst h; simp
  · have : ¬ ((st : Int) = (i : Int)) := by omega
    simp only [ne_eq, this, h, not_false_eq_true, if_true]
    rfl
theorem strip_skip {x : Str} {p : Nat} {ch : Str} {r : List (Nat × Str)} {st : Int} {op : Option Int} {res : List Str} (h : ¬ ch = Str.ofString "\"") : stripGo x ((p, ch) :: r) st op res = stripGo x r st op res := by
  rw [stripGo_cons, if_neg h]
theorem strip_open {x : Str} {p : Nat} {r : List (Nat × Str)} {st : Int} {res : List Str} : stripGo x ((p, ⟨#[34]⟩) :: r) st none res = stripGo x r st (some (p : Int)) res := by
  rw [stripGo_cons, if_pos (by decide)]
theorem strip_quo {x q : Str} (h : QuoC q.cps.toList) (rest : List Nat) (i st : Nat) (res : List Str) :
    stripGo x (escL (q.cps.toList ++ rest) i false) st none res = stripGo x (escL rest (i + q.cps.toList.length) false) ((i + q.cps.toList.length : Nat) : Int) none (if st ≠ i then res ++ [Txt.slice x (some (st : Int)) (some (i : Int))] else res) := by
  generalize q.cps.toList = cs at h
  cases h
  · simp only [escL, List.cons_append, List.nil_append, if_false, if_neg (by decide : ¬ (34 = 92)), if_neg (by decide : ¬ (40 = 92))]
    rw [strip_open, strip_skip (by decide), strip_close _ _ _ _ _ _ _ rfl]
    rfl
  · simp only [escL, List.cons_append, List.nil_append, if_false, if_neg (by decide : ¬ (34 = 92)), if_neg (by decide : ¬ (41 = 92))]
    rw [strip_open, strip_skip (by decide), strip_close _ _ _ _ _ _ _ rfl]
    rfl
  · simp only [escL, List.cons_append, List.nil_append, if_false, if_true, if_neg (by decide : ¬ (34 = 92)), if_neg (by decide : ¬ (40 = 92))]
    rw [strip_open, strip_skip (by decide), strip_skip (by decide), strip_close _ _ _ _ _ _ _ rfl]
    rfl
  · simp only [escL, List.cons_append, List.nil_append, if_false, if_true, if_neg (by decide : ¬ (34 = 92)), if_neg (by decide : ¬ (41 = 92))]
    rw [strip_open, strip_skip (by decide), strip_skip (by decide), strip_close _ _ _ _ _ _ _ rfl]
    rfl
theorem strip_pieces (x : Str) : ∀ (ps : List Str) (pre : List Nat) (st : Nat) (res : List Str), (∀ p ∈ ps, UnitC p.cps.toList ∨ QuoC p.cps.toList) → x.cps.toList = pre ++ ps.flatMap (·.cps.toList) → st ≤ pre.length →
    (stripGo x (escL (ps.flatMap (·.cps.toList)) pre.length false) st none res).flatMap (·.cps.toList) = res.flatMap (·.cps.toList) ++ pre.drop st ++ (ps.filter isU).flatMap (·.cps.toList)
  | [], pre, st, res, _, hx, hst => by
    show (stripGo x [] _ _ _).flatMap _ = _
    rw [List.flatMap_nil, List.append_nil] at hx
    rw [strip_end x st res (by rw [hx]; exact hst), hx]; simp
  | p :: ps, pre, st, res, h, hx, hst => by
    have hr : ∀ q ∈ ps, UnitC q.cps.toList ∨ QuoC q.cps.toList := fun q hq => h q (.tail _ hq)
    rw [List.flatMap_cons] at hx ⊢
    have hx2 : x.cps.toList = (pre ++ p.cps.toList) ++ ps.flatMap (·.cps.toList) := by rw [hx]; simp
    rcases h p (.head _) with hu | hq
    · rw [escL_unit hu, strip_skip (unit_ne_q hu), List.filter_cons_of_pos (by rw [unit_isU hu])]
      have := strip_pieces x ps (pre ++ p.cps.toList) st res hr hx2 (by rw [List.length_append]; omega)
      rw [List.length_append] at this
      rw [len_chars, this, List.drop_append_of_le_length hst, List.flatMap_cons]
      simp
    · rw [strip_quo hq, List.filter_cons_of_neg (by rw [quo_isU hq]; exact Bool.false_ne_true)]
      have := strip_pieces x ps (pre ++ p.cps.toList) (pre.length + p.cps.toList.length) (if st ≠ pre.length then res ++ [Txt.slice x (some (st : Int)) (some (pre.length : Int))] else res) hr hx2 (by rw [List.length_append]; omega)
      rw [List.length_append] at this
      rw [this, List.drop_of_length_le (by rw [List.length_append]; omega), List.append_nil]
      congr 1
      by_cases h1 : st = pre.length
      · subst h1; simp
      · have e : (Txt.slice x (some (st : Int)) (some (pre.length : Int))).cps.toList = pre.drop st := by
          rw [slice_chars hst (by rw [hx, List.length_append]; omega), hx, List.drop_append_of_le_length hst, List.take_append_of_le_length (by rw [List.length_drop]; omega), List.take_of_length_le (by rw [List.length_drop]; omega)]
        rw [if_pos h1, List.flatMap_append, List.flatMap_cons, List.flatMap_nil, List.append_nil, e]
/-- what is left of pieces when the quoted stretches are struck -/
theorem strip_chars (x : Str) (ps : List Str) (h : ∀ p ∈ ps, UnitC p.cps.toList ∨ QuoC p.cps.toList) (hx : x.cps.toList = ps.flatMap (·.cps.toList)) : (stripS x).cps.toList = (ps.filter isU).flatMap (·.cps.toList) := by
  unfold stripS
  have hf := PySem.StrLaws.found_one x 34
  by_cases h1 : (Builtin.Str.occurrences x (Str.ofString "\"") 0 x.length 1).isEmpty = true
  · rw [if_pos h1, hx]
    have h34 : 34 ∉ x.cps.toList := fun hm => by
      have e : (Builtin.Str.occurrences x ⟨#[34]⟩ 0 x.length 1).isEmpty = true := h1
      rw [e, decide_eq_true hm] at hf; cases hf
    have : ps.filter isU = ps := List.filter_eq_self.mpr fun p hp => by
      rcases h p hp with hu | hq
      · exact unit_isU hu
      · refine absurd ?_ h34
        rw [hx, List.mem_flatMap]
        refine ⟨p, hp, ?_⟩
        generalize p.cps.toList = cs at hq
        cases hq <;> simp
    rw [this]
  · rw [if_neg h1, chars_join]
    have := strip_pieces x ps [] 0 [] h (by simpa using hx) (Nat.le_refl _)
    rw [← hx] at this
    simpa using this
/-! ## the brackets -/
theorem checkGo_units : ∀ (us : List Str) (i : Nat) (o : Int), 0 ≤ o → (checkGo (dueL i us) o = true ↔ (∀ a ∈ heightsL o us, 0 ≤ a) ∧ o + sumU us = 0)
  | [], i, o, _ => by simp [dueL, checkGo, heightsL, sumU]
  | u :: us, i, o, h => by
    simp only [dueL, checkGo_cons, heightsL, sumU, List.forall_mem_cons]
    by_cases h1 : u = Str.ofString "("
    · have hs : stepU u = 1 := by rw [h1]; rfl
      rw [if_pos h1, hs, checkGo_units us _ _ (by omega)]
      exact ⟨fun ⟨a, b⟩ => ⟨⟨by omega, a⟩, by omega⟩, fun ⟨⟨_, a⟩, b⟩ => ⟨a, by omega⟩⟩
    · rw [if_neg h1]
      by_cases h2 : u = Str.ofString ")"
      · have hs : stepU u = -1 := by rw [h2]; rfl
        rw [if_pos h2, hs]
        by_cases h3 : o - 1 < 0
        · rw [if_pos h3]
          exact ⟨fun e => (by cases e), fun ⟨⟨a, _⟩, _⟩ => by omega⟩
        · rw [if_neg h3, checkGo_units us _ _ (by omega), (by omega : o + -1 = o - 1)]
          exact ⟨fun ⟨a, b⟩ => ⟨⟨by omega, a⟩, by omega⟩, fun ⟨⟨_, a⟩, b⟩ => ⟨a, by omega⟩⟩
      · have hs : stepU u = 0 := by unfold stepU; rw [if_neg h1, if_neg h2]
        rw [if_neg h2, hs, checkGo_units us _ _ h, (by omega : o + 0 = o)]
        exact ⟨fun ⟨a, b⟩ => ⟨⟨by omega, a⟩, by omega⟩, fun ⟨⟨_, a⟩, b⟩ => ⟨a, by omega⟩⟩
theorem check_units {x : Str} {us : List Str} (h : ∀ u ∈ us, UnitC u.cps.toList) (hx : x.cps.toList = us.flatMap (·.cps.toList)) : checkB x = true ↔ (∀ a ∈ heightsL 0 us, 0 ≤ a) ∧ sumU us = 0 := by
  unfold checkB
  have hf : us.filter isU = us := List.filter_eq_self.mpr fun p hp => unit_isU (h p hp)
  rw [strip_chars x us (fun p hp => .inl (h p hp)) hx, hf, escL_units us 0 h, checkGo_units us 0 0 (Int.le_refl _)]
  simp
theorem heights_app : ∀ (us vs : List Str) (a : Int), heightsL a (us ++ vs) = heightsL a us ++ heightsL (a + sumU us) vs
  | [], vs, a => by simp [heightsL, sumU]
  | u :: us, vs, a => by
    simp only [List.cons_append, heightsL, sumU]
    rw [heights_app us vs, (by omega : a + stepU u + sumU us = a + (stepU u + sumU us))]
theorem sum_app : ∀ (us vs : List Str), sumU (us ++ vs) = sumU us + sumU vs
  | [], vs => by simp [sumU]
  | u :: us, vs => by simp only [List.cons_append, sumU]; rw [sum_app us vs]; omega
theorem heights_mem : ∀ (us : List Str) (a b : Int), b ∈ heightsL a us ↔ b - a ∈ heightsL 0 us
  | [], a, b => by simp [heightsL]
  | u :: us, a, b => by
    simp only [heightsL, List.mem_cons]
    rw [heights_mem us (a + stepU u) b, heights_mem us (0 + stepU u) (b - a), (by omega : b - (a + stepU u) = b - a - (0 + stepU u))]
    exact or_congr_left (by omega)
theorem step_turn (u : Str) : stepU (turnU u) = -stepU u := by
  unfold turnU
  split
  · rename_i h; rw [h]; rfl
  · rename_i h
    split
    · rename_i h'; rw [h']; rfl
    · rename_i h'
      unfold stepU; rw [if_neg h, if_neg h']; rfl
theorem sum_turn : ∀ us : List Str, sumU (us.map turnU) = -sumU us
  | [] => rfl
  | u :: us => by simp only [List.map_cons, sumU]; rw [sum_turn us, step_turn]; omega
theorem heights_turn : ∀ (us : List Str) (a b : Int), b ∈ heightsL a (us.map turnU) ↔ -b ∈ heightsL (-a) us
  | [], a, b => by simp [heightsL]
  | u :: us, a, b => by
    simp only [List.map_cons, heightsL, List.mem_cons, step_turn]
    rw [heights_turn us, (by omega : -(a + -stepU u) = -a + stepU u)]
    exact or_congr_left (by omega)
theorem turn_unit {u : Str} (h : UnitC u.cps.toList) : UnitC (turnU u).cps.toList := by
  unfold turnU
  split
  · exact .cl
  · split
    · exact .op
    · exact h
noncomputable abbrev opS : Str := Str.ofString "("
noncomputable abbrev clS : Str := Str.ofString ")"
theorem st_op : stepU opS = 1 := by decide
theorem st_cl : stepU clS = -1 := by decide
theorem sum_ops : ∀ n : Nat, sumU (List.replicate n opS) = n
  | 0 => rfl
  | n + 1 => by
    simp only [List.replicate_succ, sumU]
    rw [sum_ops n, st_op]; omega
theorem sum_cls : ∀ n : Nat, sumU (List.replicate n clS) = -(n : Int)
  | 0 => rfl
  | n + 1 => by
    simp only [List.replicate_succ, sumU]
    rw [sum_cls n, st_cl]; omega
theorem heights_ops : ∀ (n : Nat) (a b : Int), b ∈ heightsL a (List.replicate n opS) → a ≤ b
  | 0, a, b, h => by simp [heightsL] at h
  | n + 1, a, b, h => by
    simp only [List.replicate_succ, heightsL, List.mem_cons, st_op] at h
    rcases h with h | h
    · omega
    · have := heights_ops n _ _ h; omega
theorem heights_cls : ∀ (n : Nat) (a b : Int), b ∈ heightsL a (List.replicate n clS) → a - n ≤ b
  | 0, a, b, h => by simp [heightsL] at h
  | n + 1, a, b, h => by
    simp only [List.replicate_succ, heightsL, List.mem_cons, st_cl] at h
    rcases h with h | h
    · omega
    · have := heights_cls n _ _ h; omega
/-- the units of a line -/
noncomputable def lineL (us : List Str) (n : Int) : List Str :=
  List.replicate n.toNat opS ++ (us ++ (List.replicate (n + sumU us).toNat clS ++ (List.replicate (4 - n).toNat opS ++ (us.map turnU ++ List.replicate (4 - n - sumU us).toNat clS))))
theorem flat_rep (c : Nat) : ∀ n : Nat, (List.replicate n (⟨#[c]⟩ : Str)).flatMap (·.cps.toList) = List.replicate n c
  | 0 => rfl
  | n + 1 => by rw [List.replicate_succ, List.flatMap_cons, flat_rep c n]; rfl
theorem line_chars (us : List Str) (n : Int) : (lineU us n).cps.toList = (lineL us n).flatMap (·.cps.toList) := by
  unfold lineU lineL
  simp only [chars_append, chars_join, List.flatMap_append]
  rw [(by decide : Str.ofString "(" = ⟨#[40]⟩), (by decide : Str.ofString ")" = ⟨#[41]⟩)]
  simp only [chars_mul, flat_rep, (by decide : opS = ⟨#[40]⟩), (by decide : clS = ⟨#[41]⟩), List.append_assoc]
theorem line_units {us : List Str} (n : Int) (h : ∀ u ∈ us, UnitC u.cps.toList) : ∀ u ∈ lineL us n, UnitC u.cps.toList := by
  intro u hu
  unfold lineL at hu
  simp only [List.mem_append, List.mem_replicate, List.mem_map] at hu
  rcases hu with ⟨_, rfl⟩ | hu | ⟨_, rfl⟩ | ⟨_, rfl⟩ | ⟨v, hv, rfl⟩ | ⟨_, rfl⟩
  · exact .op
  · exact h u hu
  · exact .cl
  · exact .op
  · exact turn_unit (h v hv)
  · exact .cl
theorem lvQ_iff (us : List Str) (n : Int) : lvQ us n = true ↔ ∀ a ∈ 0 :: heightsL 0 us, 0 ≤ n + a ∧ n + a ≤ 4 := by
  unfold lvQ; simp only [List.all_eq_true, Bool.and_eq_true, decide_eq_true_eq]
theorem sum_mem : ∀ (us : List Str) (a : Int), a + sumU us ∈ a :: heightsL a us
  | [], a => by simp [sumU]
  | u :: us, a => by
    have := sum_mem us (a + stepU u)
    simp only [sumU, heightsL]
    rw [(by omega : a + (stepU u + sumU us) = a + stepU u + sumU us)]
    exact .tail _ this
theorem check_line {us : List Str} (h : ∀ u ∈ us, UnitC u.cps.toList) {n : Int} (h0 : 0 ≤ n) (h4 : n ≤ 4) : checkB (lineU us n) = true ↔ lvQ us n = true := by
  rw [check_units (line_units n h) (line_chars us n), lvQ_iff]
  unfold lineL
  simp only [heights_app, sum_app, sum_ops, sum_cls, sum_turn, List.mem_append]
  have en : ((n.toNat : Nat) : Int) = n := by omega
  have e4 : (((4 - n).toNat : Nat) : Int) = 4 - n := by omega
  rw [en, e4]
  constructor
  · rintro ⟨hh, hs⟩ a ha
    have hge : ∀ b ∈ 0 :: heightsL 0 us, 0 ≤ n + b := fun b hb => by
      rcases List.mem_cons.mp hb with rfl | hb
      · omega
      · exact hh (n + b) (.inr (.inl ((heights_mem us _ _).mpr (by rw [(by omega : n + b - (0 + n) = b)]; exact hb))))
    refine ⟨hge a ha, ?_⟩
    rcases List.mem_cons.mp ha with rfl | ha
    · omega
    · have h1 := hge _ (sum_mem us 0)
      have e1 : (((n + sumU us).toNat : Nat) : Int) = n + sumU us := by omega
      have := hh (4 - n - a) (.inr (.inr (.inr (.inr (.inl ((heights_turn us _ _).mpr ((heights_mem us _ _).mpr ?_)))))))
      · omega
      · rw [e1, (by omega : -(4 - n - a) - -(0 + n + sumU us + -(n + sumU us) + (4 - n)) = a)]; exact ha
  · intro hh
    have h1 := (hh _ (sum_mem us 0)).1
    have h2 := (hh _ (sum_mem us 0)).2
    have e1 : (((n + sumU us).toNat : Nat) : Int) = n + sumU us := by omega
    have e2 : (((4 - n - sumU us).toNat : Nat) : Int) = 4 - n - sumU us := by omega
    rw [e1, e2]
    refine ⟨?_, by omega⟩
    rintro a (ha | ha | ha | ha | ha | ha)
    · have := heights_ops _ _ _ ha; omega
    · have := (hh _ (.tail _ ((heights_mem us _ _).mp ha))).1; omega
    · have := heights_cls _ _ _ ha; omega
    · have := heights_ops _ _ _ ha; omega
    · have := (hh _ (.tail _ ((heights_mem us _ _).mp ((heights_turn us _ _).mp ha)))).2; omega
    · have := heights_cls _ _ _ ha; omega
theorem mem_levels {us : List Str} {n : Int} (h0 : 0 ≤ n) (h4 : n ≤ 4) : n ∈ levelsL us ↔ lvQ us n = true := by
  unfold levelsL; rw [List.mem_filter]
  exact ⟨fun h => h.2, fun h => ⟨mem_five h0 h4, h⟩⟩
/-- the lines hold -/
theorem lines_hold {us : List Str} (h : ∀ u ∈ us, UnitC u.cps.toList) : linesOk us := by
  unfold linesOk
  rw [List.map_map]
  refine List.map_congr_left fun n hn => ?_
  have h04 : 0 ≤ n ∧ n ≤ 4 := by
    simp only [List.mem_cons, List.not_mem_nil, or_false] at hn; omega
  show keepU (lineU us n) = pickU us n
  unfold keepU pickU
  by_cases hc : lvQ us n = true
  · rw [if_pos ((check_line h h04.1 h04.2).mpr hc), if_pos ((mem_levels h04.1 h04.2).mpr hc)]
  · rw [if_neg (fun e => hc ((check_line h h04.1 h04.2).mp e)), if_neg (fun e => hc ((mem_levels h04.1 h04.2).mp e))]
theorem unit_ascii {us : List Str} (h : ∀ u ∈ us, UnitC u.cps.toList) : ∀ c ∈ us.flatMap (·.cps.toList), c < 128 := by
  intro c hc
  obtain ⟨u, hu, hc⟩ := List.mem_flatMap.mp hc
  have := h u hu
  generalize u.cps.toList = cs at this hc
  cases this
  · rw [List.mem_singleton] at hc; omega
  · rw [List.mem_singleton] at hc; omega
  · simp only [List.mem_cons, List.not_mem_nil, or_false] at hc; omega
theorem ascii_of {x : Str} (h : ∀ c ∈ x.cps.toList, c < 128) : x.cps.all (· < 128) = true := by
  rw [Array.all_eq_true_iff_forall_mem]
  intro c hc
  exact decide_eq_true (h c (by simpa using hc))
theorem unit_len {u : Str} (h : UnitC u.cps.toList) : u.length ≤ 2 ∧ 1 ≤ u.length := by
  rw [len_chars]; generalize u.cps.toList = cs at h; cases h <;> simp
theorem units_ok {x : Str} {us : List Str} (h : ∀ u ∈ us, UnitC u.cps.toList) (hl : us.length ≤ 100) (hx : x.cps.toList = us.flatMap (·.cps.toList)) : Txok x := by
  have hf : us.filter isU = us := List.filter_eq_self.mpr fun p hp => unit_isU (h p hp)
  refine ⟨ascii_of (by rw [hx]; exact unit_ascii h), ?_, ascii_of ?_⟩
  · rw [len_chars, hx]
    have := flat_len us fun u hu => (unit_len (h u hu)).1
    omega
  · rw [strip_chars x us (fun p hp => .inl (h p hp)) hx, hf]; exact unit_ascii h
theorem line_len (us : List Str) {n : Int} (h0 : 0 ≤ n) (h4 : n ≤ 4) (hl : us.length ≤ 20) : (lineL us n).length ≤ 100 := by
  have := sumU_le us
  unfold lineL
  simp only [List.length_append, List.length_replicate, List.length_map]
  omega
theorem lines_ok {us : List Str} (h : ∀ u ∈ us, UnitC u.cps.toList) (hl : us.length ≤ 20) : ∀ x ∈ ([0, 1, 2, 3, 4] : List Int).map (lineU us), Txok x := by
  intro x hx
  obtain ⟨n, hn, rfl⟩ := List.mem_map.mp hx
  have h04 : 0 ≤ n ∧ n ≤ 4 := by
    simp only [List.mem_cons, List.not_mem_nil, or_false] at hn; omega
  exact units_ok (line_units n h) (line_len us h04.1 h04.2 hl) (line_chars us n)
end
section
theorem fmod2 (x : Int) : x.fmod 2 = 0 ∨ x.fmod 2 = 1 := by
  have h1 := Int.fmod_nonneg_of_pos x (b := 2) (by decide)
  have h2 := Int.fmod_lt_of_pos x (b := 2) (by decide)
  omega
/-- a piece is a unit or a quoted stretch -/
theorem piece_kind (x : Int) : UnitC (pieceS x).cps.toList ∨ QuoC (pieceS x).cps.toList := by
  unfold pieceS
  split
  · rcases fmod2 x with h | h <;> rw [h]
    · exact .inl (by rw [(by decide +kernel : (Txt.item (Str.ofString "()") 0).cps.toList = [40])]; exact .op)
    · exact .inl (by rw [(by decide +kernel : (Txt.item (Str.ofString "()") 1).cps.toList = [41])]; exact .cl)
  · split
    · right
      split
      · exact .a
      · split
        · exact .b
        · split
          · exact .c
          · exact .d
    · left
      split
      · exact .esc 40 (by decide)
      · split
        · exact .esc 41 (by decide)
        · split
          · exact .esc 34 (by decide)
          · exact .esc 92 (by decide)
/-! ## numbers -/
noncomputable def w1 : List Str → Int → Int
  | [], p => p
  | u :: us, p => w1 us (cutC (stepU u) p)
theorem walk3_w1 : ∀ (us : List Str) (a b c : Int), walk3 us (a, b, c) = (w1 us a, w1 us b, w1 us c)
  | [], _, _, _ => rfl
  | u :: us, a, b, c => walk3_w1 us _ _ _
theorem w1_app : ∀ (us vs : List Str) (p : Int), w1 (us ++ vs) p = w1 vs (w1 us p)
  | [], _, _ => rfl
  | u :: us, vs, p => w1_app us vs _
theorem w1_in : ∀ (us : List Str) (p : Int), 0 ≤ p → p ≤ 4 → 0 ≤ w1 us p ∧ w1 us p ≤ 4
  | [], _, h0, h4 => ⟨h0, h4⟩
  | u :: us, p, _, _ => w1_in us _ (cutC_in _ _).1 (cutC_in _ _).2
noncomputable def loL : List Str → Int
  | [] => 0
  | u :: us => max 0 (loL us - stepU u)
noncomputable def hiL : List Str → Int
  | [] => 4
  | u :: us => min 4 (hiL us - stepU u)
theorem loL_nn : ∀ us : List Str, 0 ≤ loL us
  | [] => Int.le_refl _
  | u :: us => by unfold loL; omega
theorem hiL_le : ∀ us : List Str, hiL us ≤ 4
  | [] => Int.le_refl _
  | u :: us => by unfold hiL; omega
theorem lvQ_lohi : ∀ (us : List Str) (n : Int), lvQ us n = true ↔ loL us ≤ n ∧ n ≤ hiL us
  | [], n => by
    rw [lvQ_iff]; simp [heightsL, loL, hiL]
  | u :: us, n => by
    have ih := lvQ_lohi us (n + stepU u)
    rw [lvQ_iff] at ih ⊢
    have e : (∀ a ∈ 0 :: heightsL 0 (u :: us), 0 ≤ n + a ∧ n + a ≤ 4) ↔ (0 ≤ n ∧ n ≤ 4) ∧ ∀ a ∈ 0 :: heightsL 0 us, 0 ≤ n + stepU u + a ∧ n + stepU u + a ≤ 4 := by
      constructor
      · intro h
        refine ⟨by have := h 0 (.head _); omega, fun a ha => ?_⟩
        have := h (stepU u + a) (.tail _ ?_)
        · omega
        · simp only [heightsL]
          rcases List.mem_cons.mp ha with rfl | ha
          · exact List.mem_cons.mpr (.inl (by omega))
          · exact List.mem_cons.mpr (.inr <| (heights_mem us _ _).mpr (by rw [(by omega : stepU u + a - (0 + stepU u) = a)]; exact ha))
      · rintro ⟨h0, h⟩ a ha
        rcases List.mem_cons.mp ha with rfl | ha
        · omega
        · simp only [heightsL, List.mem_cons] at ha
          rcases ha with rfl | ha
          · have := h 0 (.head _); omega
          · have := h (a - (0 + stepU u)) (.tail _ ((heights_mem us _ _).mp ha)); omega
    rw [e, ih]
    show (0 ≤ n ∧ n ≤ 4) ∧ loL us ≤ n + stepU u ∧ n + stepU u ≤ hiL us ↔ max 0 (loL us - stepU u) ≤ n ∧ n ≤ min 4 (hiL us - stepU u)
    rw [Int.max_le, Int.le_min]
    exact ⟨fun ⟨⟨a, b⟩, c, d⟩ => ⟨⟨a, Int.sub_right_le_of_le_add c⟩, b, Int.le_sub_right_of_add_le d⟩, fun ⟨⟨a, c⟩, b, d⟩ => ⟨⟨a, b⟩, Int.le_add_of_sub_right_le c, Int.add_le_of_le_sub_right d⟩⟩
theorem step_in (u : Str) : -1 ≤ stepU u ∧ stepU u ≤ 1 := stepU_le u
theorem clamp_tab : ∀ lo ∈ ([0, 1, 2, 3, 4] : List Int), ∀ hi ∈ ([0, 1, 2, 3, 4] : List Int), ∀ s ∈ ([-1, 0, 1] : List Int), lo ≤ hi →
    (∀ p ∈ ([0, 1, 2, 3, 4] : List Int), max 0 (lo - s) ≤ min 4 (hi - s) → max lo (min hi (cutC s p)) = max (max 0 (lo - s)) (min (min 4 (hi - s)) p) + s) ∧ (¬ max 0 (lo - s) ≤ min 4 (hi - s) → lo = hi) := by decide +kernel
theorem lo_le_of {lo hi s : Int} (h : max 0 (lo - s) ≤ min 4 (hi - s)) : lo ≤ hi := by
  have := Int.le_trans (Int.le_max_right 0 (lo - s)) (Int.le_trans h (Int.min_le_right 4 (hi - s)))
  omega
theorem lo_five {us : List Str} (h : loL us ≤ hiL us) : loL us ∈ ([0, 1, 2, 3, 4] : List Int) := mem_five (loL_nn us) (Int.le_trans h (hiL_le us))
theorem hi_five {us : List Str} (h : loL us ≤ hiL us) : hiL us ∈ ([0, 1, 2, 3, 4] : List Int) := mem_five (Int.le_trans (loL_nn us) h) (hiL_le us)
/-- walked by units that leave a level uncut -/
theorem w1_clamp : ∀ (us : List Str) (p : Int), loL us ≤ hiL us → 0 ≤ p → p ≤ 4 → w1 us p = max (loL us) (min (hiL us) p) + sumU us
  | [], p, _, h0, h4 => by simp only [w1, loL, hiL, sumU]; omega
  | u :: us, p, h, h0, h4 => by
    have h : max 0 (loL us - stepU u) ≤ min 4 (hiL us - stepU u) := h
    have hl := lo_le_of h
    show w1 us (cutC (stepU u) p) = max (max 0 (loL us - stepU u)) (min (min 4 (hiL us - stepU u)) p) + (stepU u + sumU us)
    rw [w1_clamp us (cutC (stepU u) p) hl (cutC_in _ _).1 (cutC_in _ _).2, (clamp_tab _ (lo_five hl) _ (hi_five hl) _ (stepU_in u) hl).1 _ (mem_five h0 h4) h, Int.add_assoc]
theorem lo_eq_hi (u : Str) (us : List Str) (h : loL us ≤ hiL us) (h' : ¬ loL (u :: us) ≤ hiL (u :: us)) : loL us = hiL us :=
  (clamp_tab _ (lo_five h) _ (hi_five h) _ (stepU_in u) h).2 h'
/-- the whole row's walk, told by its longest ending that leaves a level uncut -/
theorem w1_ending (us : List Str) (k : Nat) (p : Int) (h0 : 0 ≤ p) (h4 : p ≤ 4) (he : loL (us.drop k) ≤ hiL (us.drop k)) (hk : k = 0 ∨ ¬ loL (us.drop (k - 1)) ≤ hiL (us.drop (k - 1))) :
    w1 us p = max (loL (us.drop k)) (min (hiL (us.drop k)) p) + sumU (us.drop k) := by
  rcases hk with rfl | hk
  · exact w1_clamp us p he h0 h4
  · have hkl : k - 1 < us.length := by
      rcases Nat.lt_or_ge (k - 1) us.length with h | h
      · exact h
      · rw [List.drop_of_length_le h] at hk
        exact absurd (by decide) hk
    have hk0 : 0 < k := by
      rcases Nat.eq_zero_or_pos k with h | h
      · subst h; exact absurd he hk
      · exact h
    have e1 : us.drop (k - 1) = us[k - 1] :: us.drop k := by
      have := List.drop_eq_getElem_cons hkl
      rw [this, (by omega : k - 1 + 1 = k)]
    rw [e1] at hk
    have e2 := lo_eq_hi _ _ he hk
    have e3 : us = us.take k ++ us.drop k := (List.take_append_drop k us).symm
    have hq := w1_in (us.take k) p h0 h4
    have e4 : w1 us p = w1 (us.drop k) (w1 (us.take k) p) := by
      conv => lhs; rw [e3]
      exact w1_app _ _ _
    rw [e4, w1_clamp _ _ he hq.1 hq.2, ← e2, Int.max_eq_left (Int.min_le_left _ _), Int.max_eq_left (Int.min_le_left _ _)]
theorem w1_back : ∀ (us : List Str) (p : Int), loL us ≤ p → p ≤ hiL us → w1 (us.map turnU).reverse (p + sumU us) = p
  | [], p, _, _ => by simp [w1, sumU]
  | u :: us, p, h1, h2 => by
    have h1 : max 0 (loL us - stepU u) ≤ p := h1
    have h2 : p ≤ min 4 (hiL us - stepU u) := h2
    simp only [List.map_cons, List.reverse_cons, sumU]
    rw [w1_app, ← Int.add_assoc, w1_back us (p + stepU u) (Int.le_add_of_sub_right_le (Int.le_trans (Int.le_max_right _ _) h1)) (Int.add_le_of_le_sub_right (Int.le_trans h2 (Int.min_le_right _ _)))]
    simp only [w1, step_turn, cutC]
    rw [Int.add_neg_cancel_right, Int.min_eq_right (Int.le_trans h2 (Int.min_le_left _ _)), Int.max_eq_right (Int.le_trans (Int.le_max_left _ _) h1)]
theorem levels_filter (us : List Str) : levelsL us = ([0, 1, 2, 3, 4] : List Int).filter fun n => decide (loL us ≤ n) && decide (n ≤ hiL us) := by
  unfold levelsL
  refine List.filter_congr fun n _ => ?_
  have := lvQ_lohi us n
  rw [Bool.eq_iff_iff, this]; simp
theorem lev_tab : ∀ lo ∈ ([0, 1, 2, 3, 4] : List Int), ∀ hi ∈ ([0, 1, 2, 3, 4] : List Int), lo ≤ hi → 0 < (([0, 1, 2, 3, 4] : List Int).filter fun n => decide (lo ≤ n) && decide (n ≤ hi)).length ∧
    (([0, 1, 2, 3, 4] : List Int).filter fun n => decide (lo ≤ n) && decide (n ≤ hi)).getD 0 0 = lo ∧
    (([0, 1, 2, 3, 4] : List Int).filter fun n => decide (lo ≤ n) && decide (n ≤ hi)).getD ((([0, 1, 2, 3, 4] : List Int).filter fun n => decide (lo ≤ n) && decide (n ≤ hi)).length - 1) 0 = hi := by decide
theorem levels_ne (us : List Str) : levelsL us ≠ [] ↔ loL us ≤ hiL us := by
  have h1 := loL_nn us
  have h2 := hiL_le us
  rw [levels_filter]
  constructor
  · intro h
    obtain ⟨n, hn⟩ := List.exists_mem_of_ne_nil _ h
    rw [List.mem_filter] at hn
    have := hn.2
    simp only [Bool.and_eq_true, decide_eq_true_eq] at this
    omega
  · intro h e
    have : loL us ∈ ([0, 1, 2, 3, 4] : List Int).filter fun n => decide (loL us ≤ n) && decide (n ≤ hiL us) := by
      rw [List.mem_filter]
      exact ⟨mem_five h1 (by omega), by simp; exact h⟩
    rw [e] at this; cases this
theorem levels_ends (us : List Str) (h : loL us ≤ hiL us) : 0 < (levelsL us).length ∧ (levelsL us).getD 0 0 = loL us ∧ (levelsL us).getD ((levelsL us).length - 1) 0 = hiL us := by
  have h1 := loL_nn us
  have h2 := hiL_le us
  rw [levels_filter]
  exact lev_tab _ (mem_five h1 (by omega)) _ (mem_five (by omega) h2) h
theorem levels_len (us : List Str) : (levelsL us).length ≤ 5 := by
  unfold levelsL; exact Nat.le_trans (List.length_filter_le _ _) (Nat.le_refl _)
/-! ## the colours -/
noncomputable def mx3 (a b c : Int) : Int := max a (max b c)
noncomputable def mn3 (a b c : Int) : Int := min a (min b c)
theorem mx3_is {a b c M : Int} (h1 : M = a ∨ M = b ∨ M = c) (h2 : a ≤ M ∧ b ≤ M ∧ c ≤ M) : M = mx3 a b c :=
  Int.le_antisymm (h1.elim (fun e => e ▸ Int.le_max_left _ _) fun h => h.elim (fun e => e ▸ Int.le_trans (Int.le_max_left _ _) (Int.le_max_right _ _)) fun e => e ▸ Int.le_trans (Int.le_max_right _ _) (Int.le_max_right _ _)) (Int.max_le.mpr ⟨h2.1, Int.max_le.mpr h2.2⟩)
theorem mn3_is {a b c M : Int} (h1 : M = a ∨ M = b ∨ M = c) (h2 : M ≤ a ∧ M ≤ b ∧ M ≤ c) : M = mn3 a b c :=
  Int.le_antisymm (Int.le_min.mpr ⟨h2.1, Int.le_min.mpr h2.2⟩) (h1.elim (fun e => e ▸ Int.min_le_left _ _) fun h => h.elim (fun e => e ▸ Int.le_trans (Int.min_le_right _ _) (Int.min_le_left _ _)) fun e => e ▸ Int.le_trans (Int.min_le_right _ _) (Int.min_le_right _ _))
theorem mx3_add (a b c d : Int) : mx3 (a + d) (b + d) (c + d) = mx3 a b c + d := by unfold mx3; rw [Int.max_add_right, Int.max_add_right]
theorem mn3_add (a b c d : Int) : mn3 (a + d) (b + d) (c + d) = mn3 a b c + d := by unfold mn3; rw [Int.min_add_right, Int.min_add_right]
noncomputable def cmpE (x y : UInt64) : Bool := Float64.cmp x y == some .eq
noncomputable def colOk (a b c : Int) : Bool :=
  frc (q4 a) fun x => frc (q4 b) fun y => frc (q4 c) fun z =>
  (greyF x y z == decide (mx3 a b c = mn3 a b c)) &&
  (greyF x y z || (!Float64.isZero (max3F x y z) && !Float64.isZero (rngF x y z) && !Float64.isZero (Float64.add (max3F x y z) (min3F x y z)) && !Float64.isZero (Float64.sub (Float64.sub 4611686018427387904 (max3F x y z)) (min3F x y z)))) &&
  (Float64.cmpInt (Float64.mul (max3F x y z) (Float64.ofInt 4)) (mx3 a b c) == some .eq) &&
  (Float64.cmpInt (Float64.mul (lightF x y z) (Float64.ofInt 8)) (mx3 a b c + mn3 a b c) == some .eq) &&
  (cmpE (sat1 x y z) 0 == decide (mx3 a b c = mn3 a b c)) &&
  (cmpE (sat2 x y z) 0 == decide (mx3 a b c = mn3 a b c)) &&
  (hue1 x y z == hue1 (q4 (a - mn3 a b c)) (q4 (b - mn3 a b c)) (q4 (c - mn3 a b c))) && cmpE (hue1 x y z) (hue1 x y z)
/-- the hue, each number reckoned once -/
noncomputable def hueK (F : UInt64 → (UInt64 → Bool) → Bool) (mx rg r g b : UInt64) (f : UInt64 → Bool) : Bool :=
  F (Float64.sub mx r) fun r1 => F (Float64.sub mx g) fun g1 => F (Float64.sub mx b) fun b1 =>
  F (Float64.div r1 rg) fun rc => F (Float64.div g1 rg) fun gc => F (Float64.div b1 rg) fun bc =>
  cond (Float64.cmp r mx == some .eq) (F (Float64.sub bc gc) fun h => F (Float64.div h 4618441417868443648) fun h => F (Float64.divmod h 4607182418800017408).snd f)
    (cond (Float64.cmp g mx == some .eq) (F (Float64.add 4611686018427387904 rc) fun t => F (Float64.sub t bc) fun h => F (Float64.div h 4618441417868443648) fun h => F (Float64.divmod h 4607182418800017408).snd f)
      (F (Float64.add 4616189618054758400 gc) fun t => F (Float64.sub t rc) fun h => F (Float64.div h 4618441417868443648) fun h => F (Float64.divmod h 4607182418800017408).snd f))
theorem hueK_eq (mx rg r g b : UInt64) (f : UInt64 → Bool) : hueK (fun x f => f x) mx rg r g b f = f (hueF mx rg r g b) := by
  unfold hueF
  show cond _ _ (cond _ _ _) = _
  cases Float64.cmp r mx == some .eq
  · cases Float64.cmp g mx == some .eq <;> rfl
  · rfl
/-- a colour's hue, for one that is not grey -/
noncomputable def hueN (F : UInt64 → (UInt64 → Bool) → Bool) (x y z : UInt64) (f : UInt64 → Bool) : Bool :=
  F (max3F x y z) fun mx => F (min3F x y z) fun mn => F (Float64.sub mx mn) fun rg => cond (Float64.cmp mn mx == some .eq) (f 0) (hueK F mx rg x y z f)
theorem hueN_eq (x y z : UInt64) (f : UInt64 → Bool) : hueN (fun x f => f x) x y z f = f (hue1 x y z) := by
  unfold hue1
  show cond (greyF x y z) (f 0) (hueK (fun x f => f x) (max3F x y z) (rngF x y z) x y z f) = _
  rw [hueK_eq]
  cases greyF x y z <;> rfl
noncomputable def colRest (M m : Int) (mx h s1 s2 l h0 : UInt64) : Bool :=
  (Float64.cmpInt (Float64.mul mx (Float64.ofInt 4)) M == some .eq) && (Float64.cmpInt (Float64.mul l (Float64.ofInt 8)) (M + m) == some .eq) &&
  (cmpE s1 0 == decide (M = m)) && (cmpE s2 0 == decide (M = m)) && (h == h0) && cmpE h h
noncomputable def colG (F : UInt64 → (UInt64 → Bool) → Bool) (a b c : Int) : Bool :=
  F (q4 (a - mn3 a b c)) fun x0 => F (q4 (b - mn3 a b c)) fun y0 => F (q4 (c - mn3 a b c)) fun z0 => hueN F x0 y0 z0 fun h0 =>
  F (q4 a) fun x => F (q4 b) fun y => F (q4 c) fun z => F (max3F x y z) fun mx => F (min3F x y z) fun mn => F (Float64.add mx mn) fun sm => F (Float64.div sm 4611686018427387904) fun l =>
  cond (Float64.cmp mn mx == some .eq) (decide (mx3 a b c = mn3 a b c) && colRest (mx3 a b c) (mn3 a b c) mx 0 0 0 l h0)
    (!decide (mx3 a b c = mn3 a b c) && (F (Float64.sub mx mn) fun rg => F (Float64.sub (Float64.sub 4611686018427387904 mx) mn) fun sx =>
      !Float64.isZero mx && !Float64.isZero rg && !Float64.isZero sm && !Float64.isZero sx &&
      hueK F mx rg x y z fun h => F (Float64.div rg mx) fun s1 => F (if (Float64.cmp l 4602678819172646912 == some .lt || Float64.cmp l 4602678819172646912 == some .eq) = true then Float64.div rg sm else Float64.div rg sx) fun s2 =>
      colRest (mx3 a b c) (mn3 a b c) mx h s1 s2 l h0))
noncomputable def colFast (a b c : Int) : Bool := colG frc a b c
theorem andT {a b : Bool} (h1 : a = true) (h2 : b = true) : (a && b) = true := by rw [h1, h2]; rfl
theorem col_rest {M m : Int} {mx h s1 s2 l h0 : UInt64} {A B : Bool} (hr : colRest M m mx h s1 s2 l h0 = true) (hA : A = true) (hB : B = true) : (A && B && (Float64.cmpInt (Float64.mul mx (Float64.ofInt 4)) M == some .eq) && (Float64.cmpInt (Float64.mul l (Float64.ofInt 8)) (M + m) == some .eq) &&
    (cmpE s1 0 == decide (M = m)) && (cmpE s2 0 == decide (M = m)) && (h == h0) && cmpE h h) = true := by
  rw [hA, hB]; exact hr
theorem and_two {a b : Bool} (h : (a && b) = true) : a = true ∧ b = true := by rwa [Bool.and_eq_true] at h
theorem col_fast {a b c : Int} (h : colFast a b c = true) : colOk a b c = true := by
  replace h : colG frc a b c = true := h
  rw [frc_fun] at h
  unfold colG at h
  simp only [hueN_eq, hueK_eq] at h
  unfold colOk
  rw [frc_fun]
  show ((greyF (q4 a) (q4 b) (q4 c) == _) && (greyF (q4 a) (q4 b) (q4 c) || _) && _ && _ && _ && _ && _ && _) = true
  replace h : cond (greyF (q4 a) (q4 b) (q4 c)) _ _ = true := h
  unfold hue1 sat1 sat2
  cases hg : greyF (q4 a) (q4 b) (q4 c)
  · rw [hg] at h
    obtain ⟨h1, h⟩ := and_two h
    obtain ⟨hz, h⟩ := and_two h
    exact col_rest h (by rw [Bool.not_eq_true'] at h1; rw [h1]; rfl) hz
  · rw [hg] at h
    obtain ⟨h1, h⟩ := and_two h
    exact col_rest h (by rw [h1]; rfl) rfl
set_option maxHeartbeats 0
theorem ck_00 : ∀ c ∈ ([0, 1, 2, 3, 4] : List Int), colFast 0 0 c = true := by decide +kernel
theorem ck_01 : ∀ c ∈ ([0, 1, 2, 3, 4] : List Int), colFast 0 1 c = true := by decide +kernel
theorem ck_02 : ∀ c ∈ ([0, 1, 2, 3, 4] : List Int), colFast 0 2 c = true := by decide +kernel
theorem ck_03 : ∀ c ∈ ([0, 1, 2, 3, 4] : List Int), colFast 0 3 c = true := by decide +kernel
theorem ck_04 : ∀ c ∈ ([0, 1, 2, 3, 4] : List Int), colFast 0 4 c = true := by decide +kernel
theorem ck_10 : ∀ c ∈ ([0, 1, 2, 3, 4] : List Int), colFast 1 0 c = true := by decide +kernel
theorem ck_11 : ∀ c ∈ ([0, 1, 2, 3, 4] : List Int), colFast 1 1 c = true := by decide +kernel
theorem ck_12 : ∀ c ∈ ([0, 1, 2, 3, 4] : List Int), colFast 1 2 c = true := by decide +kernel
theorem ck_13 : ∀ c ∈ ([0, 1, 2, 3, 4] : List Int), colFast 1 3 c = true := by decide +kernel
theorem ck_14 : ∀ c ∈ ([0, 1, 2, 3, 4] : List Int), colFast 1 4 c = true := by decide +kernel
theorem ck_20 : ∀ c ∈ ([0, 1, 2, 3, 4] : List Int), colFast 2 0 c = true := by decide +kernel
theorem ck_21 : ∀ c ∈ ([0, 1, 2, 3, 4] : List Int), colFast 2 1 c = true := by decide +kernel
theorem ck_22 : ∀ c ∈ ([0, 1, 2, 3, 4] : List Int), colFast 2 2 c = true := by decide +kernel
theorem ck_23 : ∀ c ∈ ([0, 1, 2, 3, 4] : List Int), colFast 2 3 c = true := by decide +kernel
theorem ck_24 : ∀ c ∈ ([0, 1, 2, 3, 4] : List Int), colFast 2 4 c = true := by decide +kernel
theorem ck_30 : ∀ c ∈ ([0, 1, 2, 3, 4] : List Int), colFast 3 0 c = true := by decide +kernel
theorem ck_31 : ∀ c ∈ ([0, 1, 2, 3, 4] : List Int), colFast 3 1 c = true := by decide +kernel
theorem ck_32 : ∀ c ∈ ([0, 1, 2, 3, 4] : List Int), colFast 3 2 c = true := by decide +kernel
theorem ck_33 : ∀ c ∈ ([0, 1, 2, 3, 4] : List Int), colFast 3 3 c = true := by decide +kernel
theorem ck_34 : ∀ c ∈ ([0, 1, 2, 3, 4] : List Int), colFast 3 4 c = true := by decide +kernel
theorem ck_40 : ∀ c ∈ ([0, 1, 2, 3, 4] : List Int), colFast 4 0 c = true := by decide +kernel
theorem ck_41 : ∀ c ∈ ([0, 1, 2, 3, 4] : List Int), colFast 4 1 c = true := by decide +kernel
theorem ck_42 : ∀ c ∈ ([0, 1, 2, 3, 4] : List Int), colFast 4 2 c = true := by decide +kernel
theorem ck_43 : ∀ c ∈ ([0, 1, 2, 3, 4] : List Int), colFast 4 3 c = true := by decide +kernel
theorem ck_44 : ∀ c ∈ ([0, 1, 2, 3, 4] : List Int), colFast 4 4 c = true := by decide +kernel
theorem colK_all : ∀ a ∈ ([0, 1, 2, 3, 4] : List Int), ∀ b ∈ ([0, 1, 2, 3, 4] : List Int), ∀ c ∈ ([0, 1, 2, 3, 4] : List Int), colFast a b c = true :=
  mem_all (mem_all ck_00 <| mem_all ck_01 <| mem_all ck_02 <| mem_all ck_03 <| mem_all ck_04 <| fun _ h => absurd h List.not_mem_nil) <|
  mem_all (mem_all ck_10 <| mem_all ck_11 <| mem_all ck_12 <| mem_all ck_13 <| mem_all ck_14 <| fun _ h => absurd h List.not_mem_nil) <|
  mem_all (mem_all ck_20 <| mem_all ck_21 <| mem_all ck_22 <| mem_all ck_23 <| mem_all ck_24 <| fun _ h => absurd h List.not_mem_nil) <|
  mem_all (mem_all ck_30 <| mem_all ck_31 <| mem_all ck_32 <| mem_all ck_33 <| mem_all ck_34 <| fun _ h => absurd h List.not_mem_nil) <|
  mem_all (mem_all ck_40 <| mem_all ck_41 <| mem_all ck_42 <| mem_all ck_43 <| mem_all ck_44 <| fun _ h => absurd h List.not_mem_nil) <| fun _ h => absurd h List.not_mem_nil
theorem col_all : ∀ a ∈ ([0, 1, 2, 3, 4] : List Int), ∀ b ∈ ([0, 1, 2, 3, 4] : List Int), ∀ c ∈ ([0, 1, 2, 3, 4] : List Int), colOk a b c = true := fun a ha b hb c hc => col_fast (colK_all a ha b hb c hc)
theorem fl_self : ∀ a ∈ ([0, 1, 2, 3, 4] : List Int), cmpE (fl a) (fl a) = true ∧ (Float64.cmpInt (fl a) a == some .eq) = true := by decide +kernel
end
section
noncomputable def lawSt : Stmt := (Challenge.pw_pe0119_01.main.body.getLast?).getD (.Pass default)
noncomputable def lawBody : List Stmt := match lawSt with | .FunctionDef _ _ b _ _ _ _ _ _ _ => b | _ => []
noncomputable def lawScope : Scope := match lawSt with | .FunctionDef _ _ _ _ _ _ sc _ _ _ => sc | _ => default
noncomputable abbrev lawEnv (L : Addr) : Env := envOfC (Str.ofString "law") lawScope L 102 (.ref 101)
section
variable {w : World} {A : Around} {E : Value → Shared → Prop} {s : Shared} {Q : Value → Shared → Prop} {h₀ : Heap} {L : Addr} {m : Str → Option Value} {news : List (Addr × Obj)}
theorem hsv_N {r g b : UInt64} {t1 t2 t3 : Tok} (hA : A.handled = none) (G : Gr w h₀) (F : Fr h₀ L s.heap m) (N : News h₀ L s.heap news) (hroom : A.depth < recursionLimit)
    (hz : greyF r g b = false → Float64.isZero (max3F r g b) = false ∧ Float64.isZero (rngF r g b) = false)
    (h : ∀ a h' tk u1 u2 u3, Fr h₀ L h' m → News h₀ L h' ((a, tupO [.float (hue1 r g b) u1, .float (sat1 r g b) u2, .float (max3F r g b) u3]) :: news) → Q (.ref a) { s with heap := h', toks := tk }) :
    wpAny (model prg w) A (call (.ref 42) [.float r t1, .float g t2, .float b t3]) Q E s := by
  rw [ar_of hA]
  exact wpAny_call (hsv_call (G.keep F.keep) hroom r g b t1 t2 t3 hz fun a h' tk u1 u2 u3 k ha ho => h a h' tk u1 u2 u3 (F.grownK k) (news_more F N k ha ho))
theorem hls_N {r g b : UInt64} {t1 t2 t3 : Tok} (hA : A.handled = none) (G : Gr w h₀) (F : Fr h₀ L s.heap m) (N : News h₀ L s.heap news) (hroom : A.depth < recursionLimit)
    (hz : greyF r g b = false → Float64.isZero (Float64.add (max3F r g b) (min3F r g b)) = false ∧ Float64.isZero (Float64.sub (Float64.sub 4611686018427387904 (max3F r g b)) (min3F r g b)) = false ∧ Float64.isZero (rngF r g b) = false)
    (h : ∀ a h' tk u1 u2 u3, Fr h₀ L h' m → News h₀ L h' ((a, tupO [.float (hue1 r g b) u1, .float (lightF r g b) u2, .float (sat2 r g b) u3]) :: news) → Q (.ref a) { s with heap := h', toks := tk }) :
    wpAny (model prg w) A (call (.ref 35) [.float r t1, .float g t2, .float b t3]) Q E s := by
  rw [ar_of hA]
  exact wpAny_call (hls_call (G.keep F.keep) hroom r g b t1 t2 t3 hz fun a h' tk u1 u2 u3 k ha ho => h a h' tk u1 u2 u3 (F.grownK k) (news_more F N k ha ho))
theorem walk_N {l l0 : Addr} {vs v0 : List Value} {us : List Str} {a b c : Int} (hA : A.handled = none) (G : Gr w h₀) (htk : 2 ≤ s.toks) (F : Fr h₀ L s.heap m) (N : News h₀ L s.heap news) (hroom : A.depth + 3 < recursionLimit)
    (hl0 : s.heap.IsList l0 v0.toArray) (hc0 : ColV v0 a b c) (hl : s.heap.IsList l vs.toArray) (hu : StrsAre vs us) (hus : us.length ≤ 100) (hne : us ≠ [])
    (ha : 0 ≤ a ∧ a ≤ 4) (hb : 0 ≤ b ∧ b ≤ 4) (hc : 0 ≤ c ∧ c ≤ 4)
    (h : ∀ D h' tk e t1 t2 t3, Fr h₀ L h' m → News h₀ L h' ((D, W.listOf [Value.float (fl (w1 us a)) t1, .float (fl (w1 us b)) t2, .float (fl (w1 us c)) t3].toArray e) :: news) → (0 < t1 ∧ 0 < t2 ∧ 0 < t3) → (∀ p ∈ news, p.1 ≠ D) → Q (.ref D) { s with heap := h', toks := tk }) :
    wpAny (model prg w) A (call (.ref 97) [.ref l0, .ref l]) Q E s := by
  rw [ar_of hA]
  refine wpAny_call (walk_call (G.keep F.keep) htk hroom hl0 hc0 hl hu hus hne ha hb hc fun D h' tk ws e t1 t2 t3 k hD hoD hws hz => ?_)
  subst hws
  rw [walk3_w1] at hoD
  refine h D h' tk e t1 t2 t3 (F.grownK k) (news_more F N k hD hoD) hz (fun p hp e => ?_)
  have := (N p hp).1; rw [e, hD] at this; cases this
end
/-- what is known of a colour on the grid -/
structure ColF (x y z : UInt64) (mx mn : Int) : Prop where
  z1 : greyF x y z = false → Float64.isZero (max3F x y z) = false ∧ Float64.isZero (rngF x y z) = false
  z2 : greyF x y z = false → Float64.isZero (Float64.add (max3F x y z) (min3F x y z)) = false ∧ Float64.isZero (Float64.sub (Float64.sub 4611686018427387904 (max3F x y z)) (min3F x y z)) = false ∧ Float64.isZero (rngF x y z) = false
  v : (Float64.cmpInt (Float64.mul (max3F x y z) (Float64.ofInt 4)) mx == some .eq) = true
  l : (Float64.cmpInt (Float64.mul (lightF x y z) (Float64.ofInt 8)) (mx + mn) == some .eq) = true
  s1 : (Float64.cmp (sat1 x y z) 0 == some .eq) = decide (mx = mn)
  s2 : (Float64.cmp (sat2 x y z) 0 == some .eq) = decide (mx = mn)
  hh : (Float64.cmp (hue1 x y z) (hue1 x y z) == some .eq) = true
theorem col_facts {a b c : Int} (ha : 0 ≤ a ∧ a ≤ 4) (hb : 0 ≤ b ∧ b ≤ 4) (hc : 0 ≤ c ∧ c ≤ 4) : ColF (q4 a) (q4 b) (q4 c) (mx3 a b c) (mn3 a b c) ∧
    hue1 (q4 a) (q4 b) (q4 c) = hue1 (q4 (a - mn3 a b c)) (q4 (b - mn3 a b c)) (q4 (c - mn3 a b c)) := by
  have h := col_all a (mem_five ha.1 ha.2) b (mem_five hb.1 hb.2) c (mem_five hc.1 hc.2)
  unfold colOk at h
  simp only [frc_eq, Bool.and_eq_true, Bool.or_eq_true, Bool.not_eq_true', beq_iff_eq, cmpE] at h
  obtain ⟨⟨⟨⟨⟨⟨⟨h1, h2⟩, h3⟩, h4⟩, h5⟩, h6⟩, h7⟩, h8⟩ := h
  refine ⟨⟨fun hg => ?_, fun hg => ?_, ?_, ?_, ?_, ?_, ?_⟩, h7⟩
  · rcases h2 with h2 | h2
    · rw [hg] at h2; cases h2
    · exact ⟨h2.1.1.1, h2.1.1.2⟩
  · rcases h2 with h2 | h2
    · rw [hg] at h2; cases h2
    · exact ⟨h2.1.2, h2.2, h2.1.1.2⟩
  · rw [h3]; rfl
  · rw [h4]; rfl
  · exact h5
  · exact h6
  · rw [h8]; rfl
/-- the hue does not change as the colour is moved -/
theorem hue_moved {a b c d : Int} (ha : 0 ≤ a ∧ a ≤ 4) (hb : 0 ≤ b ∧ b ≤ 4) (hc : 0 ≤ c ∧ c ≤ 4) (ha' : 0 ≤ a + d ∧ a + d ≤ 4) (hb' : 0 ≤ b + d ∧ b + d ≤ 4) (hc' : 0 ≤ c + d ∧ c + d ≤ 4) :
    hue1 (q4 (a + d)) (q4 (b + d)) (q4 (c + d)) = hue1 (q4 a) (q4 b) (q4 c) := by
  rw [(col_facts ha hb hc).2, (col_facts ha' hb' hc').2]
  rw [mn3_add, (by omega : a + d - (mn3 a b c + d) = a - mn3 a b c), (by omega : b + d - (mn3 a b c + d) = b - mn3 a b c), (by omega : c + d - (mn3 a b c + d) = c - mn3 a b c)]
theorem lawBody_len : lawBody.length = 23 := by rfl
end
section
local macro_rules | `(tactic| walk_at "binaryOp Div float int") => `(tactic| (with_unfolding_all refine div4_float rfl (by assumption) (by assumption) ?_; intro t' tk'; (try dsimp only)))
section
noncomputable abbrev lawAr (dp un : Nat) (fr : Option (List Env)) (gd : Option (List Code)) (L : Addr) : Around := (Ar dp un fr gd).deeper (lawEnv L)
theorem greyEq {a b c d M1 M2 : Int} (h1 : M1 = a ∨ M1 = b ∨ M1 = c) (h2 : a ≤ M1 ∧ b ≤ M1 ∧ c ≤ M1) (h3 : M2 = a ∨ M2 = b ∨ M2 = c) (h4 : M2 ≤ a ∧ M2 ≤ b ∧ M2 ≤ c) : decide (mx3 a b c + d = mn3 a b c + d) = (M1 == M2) := by
  have e1 : M1 = mx3 a b c := mx3_is h1 h2
  have e2 : M2 = mn3 a b c := mn3_is h3 h4
  rw [e1, e2, Bool.eq_iff_iff]; simp
section
variable {w : World} {dp un : Nat} {fr : Option (List Env)} {gd : Option (List Code)} {E : Value → Shared → Prop} {s : Shared} {Q : Flow → Shared → Prop} {h₀ : Heap} {L : Addr} {m : Str → Option Value}
set_option maxHeartbeats 4000000 in
theorem law_J (G : Gr w h₀) (hroom : dp + 30 < recursionLimit) (F : Fr h₀ L s.heap m) {ln lb : Addr} {a b c d : Int} {t1 t2 t3 u1 u2 u3 v1 v2 v3 v4 : Tok} {e1 e2 : Nat} {x y z : UInt64}
    (N : News h₀ L s.heap [(ln, W.listOf [Value.int a t1, .int b t2, .int c t3].toArray e1), (lb, W.listOf [Value.float (fl a) u1, .float (fl b) u2, .float (fl c) u3].toArray e2)])
    (m1 : m (Str.ofString "near") = some (.ref ln)) (m2 : m (Str.ofString "back") = some (.ref lb)) (m3 : m (Str.ofString "share") = some (.float (sat1 x y z) v1)) (m4 : m (Str.ofString "depth") = some (.float (sat2 x y z) v2))
    (m5 : m (Str.ofString "hue") = some (.float (hue1 x y z) v3)) (m6 : m (Str.ofString "tint") = some (.float (hue1 x y z) v4))
    (C : ColF x y z (mx3 a b c + d) (mn3 a b c + d)) (C2 : ColF (q4 a) (q4 b) (q4 c) (mx3 a b c) (mn3 a b c)) (hh : hue1 x y z = hue1 (q4 a) (q4 b) (q4 c))
    (ha : 0 ≤ a ∧ a ≤ 4) (hb : 0 ≤ b ∧ b ≤ 4) (hc : 0 ≤ c ∧ c ≤ 4)
    (hQ : ∀ h' tk, Keep h₀ h' → Q (.ret (.bool true)) { s with heap := h', toks := tk }) :
    wpAny (model prg w) (lawAr dp un fr gd L) (execs (lawBody.drop 20) (lawEnv L)) Q E s := by
  w_top on
  have G0 := G
  obtain ⟨KX, mean, mg, mb, T⟩ := G
  obtain ⟨ha1, ha2⟩ := ha
  obtain ⟨hb1, hb2⟩ := hb
  obtain ⟨hc1, hc2⟩ := hc
  with_unfolding_all refine wpAny_execs_cons ?_
  have hQ' : ∀ bb h' tk, bb = true → Keep h₀ h' → Q (.ret (.bool bb)) { s with heap := h', toks := tk } := fun bb h' tk e k => e ▸ hQ h' tk k
  clear hQ
  repeat' walk1
  all_goals try ((rename Gr _ _ => G'); (rename News _ _ _ _ => N'); (rename Fr _ _ _ _ => F'); (with_reducible show wpAny _ _ (call (Value.ref 42) _) _ _ _); (with_unfolding_all refine hsv_N rfl G' F' N' ?hr ?hz ?_); (case hr => (simp only [depth_deeper]; omega)); (case hz => exact ColF.z1 (by assumption)); (try clear F' N'); (intro a' h' tk' u1' u2' u3' F' N'); (try dsimp only); repeat' walk1)
  all_goals
    refine hQ' _ _ _ ?_ (Fr.keep (by assumption))
    first
    | (rw [hh]; exact C2.hh)
    | (rw [C.s1]; exact beq_iff_eq.mpr (greyEq (by assumption) (by assumption) (by assumption) (by assumption)))
    | (rw [C.s2]; exact beq_iff_eq.mpr (greyEq (by assumption) (by assumption) (by assumption) (by assumption)))
end
end
section
section
variable {M : Model} {A : Around} {E : Value → Shared → Prop} {s : Shared} {env : Env} {Q : Flow → Shared → Prop}
/-- a row of statements, cut in two -/
theorem seg {xs ys : List Stmt} (h : wpAny M A (execs xs env) (fun f s' => Shut (match f with | .next => wpAny M A (execs ys env) Q E s' | f => Q f s')) E s) : wpAny M A (execs (xs ++ ys) env) Q E s := fun Γ p hΓ => by
  have key : ∀ (xs : List Stmt) (p : Pos) (s : Shared), Sem.wp M Γ (execs xs env) (fun f p' s' => match f with | .next => Sem.wp M Γ (execs ys env) (fun a _ s'' => Q a s'') (fun e _ s'' => E e s'') p' s' | f => Q f s') (fun e _ s'' => E e s'') p s →
      Sem.wp M Γ (execs (xs ++ ys) env) (fun a _ s'' => Q a s'') (fun e _ s'' => E e s'') p s := by
    intro xs
    induction xs with
    | nil => intro p s h; rw [execs_nil, Sem.wp_pure'] at h; exact h
    | cons st rest ih =>
      intro p s h
      rw [List.cons_append, execs_cons, Sem.wp_bind']
      rw [execs_cons, Sem.wp_bind'] at h
      refine Sem.wp_mono M Γ _ (fun f p' s' h' => ?_) (fun _ _ _ h' => h') _ _ h
      cases f with
      | next => exact ih p' s' h'
      | _ => simpa using h'
  refine key xs p s (Sem.wp_mono M Γ _ (fun f p' s' h' => ?_) (fun _ _ _ h' => h') _ _ (h Γ p hΓ))
  cases f with
  | next => exact h' Γ p' hΓ
  | _ => exact h'
theorem segN (a b c : Nat) (he : (lawBody.drop a).take b ++ lawBody.drop c = lawBody.drop a) (h : wpAny M A (execs ((lawBody.drop a).take b) env) (fun f s' => Shut (match f with | .next => wpAny M A (execs (lawBody.drop c) env) Q E s' | f => Q f s')) E s) : wpAny M A (execs (lawBody.drop a) env) Q E s := by
  rw [← he]; exact seg h
end
theorem bne_f {x : Option Ordering} (h : (x == some .eq) = true) : (x != some .eq) = false := by
  unfold bne; rw [h]; rfl
theorem bad_v {x y z : UInt64} {a b c d M : Int} (hb : (Float64.cmpInt (Float64.mul (max3F x y z) (Float64.ofInt 4)) (M + d) != some .eq) = true) (C : ColF x y z (mx3 a b c + d) (mn3 a b c + d)) (h1 : M = a ∨ M = b ∨ M = c) (h2 : a ≤ M ∧ b ≤ M ∧ c ≤ M) : False := by
  have e : M = mx3 a b c := mx3_is h1 h2
  rw [e, bne_f C.v] at hb; cases hb
theorem bad_l {x y z : UInt64} {a b c d M1 M2 : Int} (hb : (Float64.cmpInt (Float64.mul (lightF x y z) (Float64.ofInt 8)) (M1 + M2 + 2 * d) != some .eq) = true) (C : ColF x y z (mx3 a b c + d) (mn3 a b c + d))
    (h1 : M1 = a ∨ M1 = b ∨ M1 = c) (h2 : a ≤ M1 ∧ b ≤ M1 ∧ c ≤ M1) (h3 : M2 = a ∨ M2 = b ∨ M2 = c) (h4 : M2 ≤ a ∧ M2 ≤ b ∧ M2 ≤ c) : False := by
  have e1 : M1 = mx3 a b c := mx3_is h1 h2
  have e2 : M2 = mn3 a b c := mn3_is h3 h4
  rw [e1, e2, (by omega : mx3 a b c + mn3 a b c + 2 * d = mx3 a b c + d + (mn3 a b c + d)), bne_f C.l] at hb; cases hb
section
variable {w : World} {dp un : Nat} {fr : Option (List Env)} {gd : Option (List Code)} {E : Value → Shared → Prop} {s : Shared} {Q : Flow → Shared → Prop} {h₀ : Heap} {L : Addr} {m : Str → Option Value}
set_option maxHeartbeats 4000000 in
theorem law_I (G : Gr w h₀) (hroom : dp + 30 < recursionLimit) (F : Fr h₀ L s.heap m) {ln lt lb : Addr} {a b c d : Int} {t1 t2 t3 u1 u2 u3 v1 v2 v3 v4 : Tok} {e1 e2 e3 : Nat} {os : Obj}
    (N : News h₀ L s.heap [(ln, W.listOf [Value.int a t1, .int b t2, .int c t3].toArray e1), (lb, W.listOf [Value.float (fl a) u1, .float (fl b) u2, .float (fl c) u3].toArray e2),
      (lt, W.listOf [Value.float (fl (a + d)) v1, .float (fl (b + d)) v2, .float (fl (c + d)) v3].toArray e3), (L + 1 + 1 + 1, os)])
    (hos : os.data = .cell (some (.int d v4)))
    (m1 : m (Str.ofString "near") = some (.ref ln)) (m2 : m (Str.ofString "back") = some (.ref lb)) (m3 : m (Str.ofString "there") = some (.ref lt))
    (ha1 : 0 ≤ a) (ha2 : a ≤ 4) (hb1 : 0 ≤ b) (hb2 : b ≤ 4) (hc1 : 0 ≤ c) (hc2 : c ≤ 4)
    (ga1 : 0 ≤ a + d) (ga2 : a + d ≤ 4) (gb1 : 0 ≤ b + d) (gb2 : b + d ≤ 4) (gc1 : 0 ≤ c + d) (gc2 : c + d ≤ 4)
    (hQ : ∀ h' tk, Keep h₀ h' → Q (.ret (.bool true)) { s with heap := h', toks := tk }) :
    wpAny (model prg w) (lawAr dp un fr gd L) (execs (lawBody.drop 17) (lawEnv L)) Q E s := by
  have ex : mx3 (a + d) (b + d) (c + d) = mx3 a b c + d := mx3_add _ _ _ _
  have en : mn3 (a + d) (b + d) (c + d) = mn3 a b c + d := mn3_add _ _ _ _
  have C := (col_facts ⟨ga1, ga2⟩ ⟨gb1, gb2⟩ ⟨gc1, gc2⟩).1
  rw [ex, en] at C
  have C2 := (col_facts ⟨ha1, ha2⟩ ⟨hb1, hb2⟩ ⟨hc1, hc2⟩).1
  have hh := hue_moved (d := d) ⟨ha1, ha2⟩ ⟨hb1, hb2⟩ ⟨hc1, hc2⟩ ⟨ga1, ga2⟩ ⟨gb1, gb2⟩ ⟨gc1, gc2⟩
  refine segN 17 3 20 (by rfl) ?_
  w_top on
  have G0 := G
  obtain ⟨KX, mean, mg, mb, T⟩ := G
  with_unfolding_all refine wpAny_execs_cons ?_
  repeat' walk1
  all_goals try ((rename Gr _ _ => G'); (rename News _ _ _ _ => N'); (rename Fr _ _ _ _ => F'); (with_reducible show wpAny _ _ (call (Value.ref 42) _) _ _ _); (with_unfolding_all refine hsv_N rfl G' F' N' ?hr ?hz ?_); (case hr => (simp only [depth_deeper]; omega)); (case hz => exact ColF.z1 (by assumption)); (try clear F' N'); (intro a' h' tk' u1' u2' u3' F' N'); (try dsimp only); repeat' walk1)
  all_goals try ((rename Gr _ _ => G'); (rename News _ _ _ _ => N'); (rename Fr _ _ _ _ => F'); (with_reducible show wpAny _ _ (call (Value.ref 35) _) _ _ _); (with_unfolding_all refine hls_N rfl G' F' N' ?hr ?hz ?_); (case hr => (simp only [depth_deeper]; omega)); (case hz => exact ColF.z2 (by assumption)); (try clear F' N'); (intro a' h' tk' u1' u2' u3' F' N'); (try dsimp only); repeat' walk1)
  · exact (bad_v (by assumption) C (by assumption) (by assumption)).elim
  · exact (bad_l (by assumption) C (by assumption) (by assumption) (by assumption) (by assumption)).elim
  · dsimp only
    with_unfolding_all refine wpAny_execs_nil ?_
    show wpAny _ _ _ _ _ _
    rename Fr _ _ _ _ => F9
    rename News _ _ _ _ => N9
    exact law_J (d := d) ‹Gr w h₀› hroom F9 (news_of (N9 _ (.tail _ (.tail _ (.head _)))) <| news_of (N9 _ (.tail _ (.tail _ (.tail _ (.head _))))) <| News.nil) m1 m2 rfl rfl rfl rfl C C2 hh ⟨ha1, ha2⟩ ⟨hb1, hb2⟩ ⟨hc1, hc2⟩ hQ
end
end
section
section
variable {w : World} {dp un : Nat} {fr : Option (List Env)} {gd : Option (List Code)} {E : Value → Shared → Prop} {s : Shared} {Q : Flow → Shared → Prop} {h₀ : Heap} {L : Addr} {m : Str → Option Value}
set_option maxHeartbeats 4000000 in
theorem law_H (G : Gr w h₀) (hroom : dp + 30 < recursionLimit) (hun : un + 200 < cLine) (htk : 2 ≤ s.toks) (F : Fr h₀ L s.heap m) {ln lt lb le : Addr} {a b c d : Int} {t1 t2 t3 u1 u2 u3 v1 v2 v3 v4 : Tok} {e1 e2 e3 e4 : Nat} {os : Obj} {ve : List Value} {es : List Str}
    (N : News h₀ L s.heap [(ln, W.listOf [Value.int a t1, .int b t2, .int c t3].toArray e1), (lb, W.listOf [Value.float (fl a) u1, .float (fl b) u2, .float (fl c) u3].toArray e2),
      (lt, W.listOf [Value.float (fl (a + d)) v1, .float (fl (b + d)) v2, .float (fl (c + d)) v3].toArray e3), (le, W.listOf ve.toArray e4), (L + 1 + 1 + 1, os)])
    (hos : os.data = .cell (some (.int d v4))) (hve : StrsAre ve es) (hes : es.length ≤ 20) (hne : es ≠ []) (hv1 : 0 < v1) (hv2 : 0 < v2) (hv3 : 0 < v3)
    (m1 : m (Str.ofString "near") = some (.ref ln)) (m2 : m (Str.ofString "back") = some (.ref lb)) (m3 : m (Str.ofString "there") = some (.ref lt)) (m4 : m (Str.ofString "ending") = some (.ref le))
    (ha1 : 0 ≤ a) (ha2 : a ≤ 4) (hb1 : 0 ≤ b) (hb2 : b ≤ 4) (hc1 : 0 ≤ c) (hc2 : c ≤ 4)
    (ga1 : 0 ≤ a + d) (ga2 : a + d ≤ 4) (gb1 : 0 ≤ b + d) (gb2 : b + d ≤ 4) (gc1 : 0 ≤ c + d) (gc2 : c + d ≤ 4)
    (wa : w1 es a = a + d) (wb : w1 es b = b + d) (wc : w1 es c = c + d)
    (hQ : ∀ h' tk, Keep h₀ h' → Q (.ret (.bool true)) { s with heap := h', toks := tk }) :
    wpAny (model prg w) (lawAr dp un fr gd L) (execs (lawBody.drop 16) (lawEnv L)) Q E s := by
  refine segN 16 1 17 (by rfl) ?_
  w_top on
  have G0 := G
  obtain ⟨KX, mean, mg, mb, T⟩ := G
  with_unfolding_all refine wpAny_execs_cons ?_
  have f1 := fl_self a (mem_five ha1 ha2)
  have f2 := fl_self b (mem_five hb1 hb2)
  have f3 := fl_self c (mem_five hc1 hc2)
  have g1 := fl_self (a + d) (mem_five ga1 ga2)
  have g2 := fl_self (b + d) (mem_five gb1 gb2)
  have g3 := fl_self (c + d) (mem_five gc1 gc2)
  have hun2 : (lawAr dp un fr gd L).units + 100 < cLine := by simp only [units_deeper]; omega
  iterate 5 walk1
  with_unfolding_all refine ne_three (N.isList (.tail _ (.head _))) (N.isList (.head _)) (by omega) (eqAt_fi f1.2) (eqAt_fi f2.2) (eqAt_fi f3.2) ?_
  iterate 5 walk1
  rename Fr _ _ _ _ => F
  rename News _ _ _ _ => N
  rename Gr _ _ => G0
  refine wpAny_toks (n := 2) htk ?_
  refine comp_listE (cl := [(Str.ofString "shift", L + 1 + 1 + 1)]) (h₀ := h₀) (L := L) (m := m) (news := [(ln, W.listOf [Value.int a t1, .int b t2, .int c t3].toArray e1), (lb, W.listOf [Value.float (fl a) u1, .float (fl b) u2, .float (fl c) u3].toArray e2),
      (lt, W.listOf [Value.float (fl (a + d)) v1, .float (fl (b + d)) v2, .float (fl (c + d)) v3].toArray e3), (le, W.listOf ve.toArray e4), (L + 1 + 1 + 1, os)])
      (fun vs => vs = [Value.int a t1, .int b t2, .int c t3]) (fun _ => true) (fun v y => ∃ n t t', v = .int n t ∧ y = .int (n + d) t') rfl ?hsz rfl (by decide) rfl (by decide) rfl ?hit ?hq ?hQ
  case hsz => rintro v rfl; rw [sizeLine_eq]; exact Nat.le_of_lt (by simp)
  case hit =>
    have FN := And.intro F N
    walk1
    exact ⟨_, _, _, _, rfl, rfl, rfl, FN.2.isList (.head _), FN.1, FN.2⟩
  case hq =>
    rintro vs h5 rfl F5 N5
    have hcell : h5.IsCell (L + 1 + 1 + 1) (some (.int d v4)) := ⟨os, N5.get (.tail _ (.tail _ (.tail _ (.tail _ (.head _))))), hos⟩
    refine ⟨fun C i v s₃ m₃ E' hP F6 hm6 => tests0 rfl, fun C i v s₃ m₃ E' hP hp F6 hm6 => ?_⟩
    have hv : ∃ n t, v = Value.int n t := by
      rcases i with _ | _ | _ | i
      · cases hP; exact ⟨_, _, rfl⟩
      · cases hP; exact ⟨_, _, rfl⟩
      · cases hP; exact ⟨_, _, rfl⟩
      · cases hP
    obtain ⟨n, t, rfl⟩ := hv
    clear F5 N5 F N hP
    have N6 : News h5 C s₃.heap [] := News.nil
    iterate 4 walk1
    exact ⟨⟨_, _, _, rfl, rfl⟩, _, _, rfl, fun _ _ e => e⟩
  case hQ =>
    rintro vs D h6 tk6 ys e6 rfl F6 N6 ne hF
    rw [List.filter_eq_self.mpr (fun _ _ => rfl)] at hF
    obtain ⟨ys⟩ := ys
    have hys : ∃ t1 t2 t3, ys = [Value.int (a + d) t1, .int (b + d) t2, .int (c + d) t3] := by
      replace hF : Paired _ _ ys := hF
      cases hF with | cons e1 hF =>
      cases hF with | cons e2 hF =>
      cases hF with | cons e3 hF =>
      cases hF
      obtain ⟨_, _, t1, h1, rfl⟩ := e1; obtain ⟨_, _, t2, h2, rfl⟩ := e2; obtain ⟨_, _, t3, h3, rfl⟩ := e3
      cases h1; cases h2; cases h3
      exact ⟨_, _, _, rfl⟩
    obtain ⟨t5, t6, t7, rfl⟩ := hys
    intro htk6
    with_unfolding_all refine ne_three (N6.isList (.tail _ (.tail _ (.tail _ (.head _))))) (N6.isList (.head _)) (by omega) (eqAt_fi g1.2) (eqAt_fi g2.2) (eqAt_fi g3.2) ?_
    clear F N
    iterate 12 walk1
    rename Fr _ _ _ _ => F6
    rename News _ _ _ _ => N6
    rename Gr _ _ => G0
    refine ⟨G0.keep F6.keep, ?_⟩
    with_unfolding_all refine walk_N rfl G0 htk6 F6 N6 ?hr (N6.isList (.tail _ (.tail _ (.head _)))) (.floats a b c _ _ _) (N6.isList (.tail _ (.tail _ (.tail _ (.tail _ (.head _)))))) hve (by omega) hne ⟨ha1, ha2⟩ ⟨hb1, hb2⟩ ⟨hc1, hc2⟩ ?_
    case hr => simp only [depth_deeper]; omega
    intro D7 h7 tk7 e7 x1 x2 x3 F7 N7 hz hne7
    rw [wa, wb, wc] at N7
    clear F6 N6
    walk1
    rename Fr _ _ _ _ => F7
    rename News _ _ _ _ => N7
    have hbk := (G0.keep F7.keep).booked
    with_unfolding_all refine ne_three (N7.isList (.head _)) (N7.isList (.tail _ (.tail _ (.tail _ (.tail _ (.head _)))))) (by omega) (eqAt_ff g1.1 hz.1 hv1 hbk) (eqAt_ff g2.1 hz.2.1 hv2 hbk) (eqAt_ff g3.1 hz.2.2 hv3 hbk) ?_
    iterate 4 walk1
    rename Fr _ _ _ _ => F7
    rename News _ _ _ _ => N7
    refine wpAny_execs_nil ?_
    dsimp only
    with_unfolding_all refine wpAny_execs_nil ?_
    show wpAny _ _ _ _ _ _
    exact law_I (d := d) G0 hroom F7 (ln := ln) (lt := lt) (lb := lb) (news_of (N7 _ (.tail _ (.tail _ (.head _)))) <| news_of (N7 _ (.tail _ (.tail _ (.tail _ (.head _))))) <| news_of (N7 _ (.tail _ (.tail _ (.tail _ (.tail _ (.head _)))))) <| news_of (N7 _ (.tail _ (.tail _ (.tail _ (.tail _ (.tail _ (.tail _ (.head _)))))))) <| News.nil) hos m1 m2 m3
      ha1 ha2 hb1 hb2 hc1 hc2 ga1 ga2 gb1 gb2 gc1 gc2 hQ
end
end
section
/-- a list of pairs (place, unit), each a tuple of the ledger -/
inductive PairsAt (news : List (Addr × Obj)) : List Value → List (Nat × Str) → Prop
  | nil : PairsAt news [] []
  | cons {T : Addr} {p : Nat} {u : Str} {t t' : Tok} {vs : List Value} {ps : List (Nat × Str)} (h : (T, tupO [.int (p : Nat) t, .str u t']) ∈ news) (r : PairsAt news vs ps) : PairsAt news (.ref T :: vs) ((p, u) :: ps)
theorem PairsAt.length {news : List (Addr × Obj)} : ∀ {vs : List Value} {ps : List (Nat × Str)}, PairsAt news vs ps → vs.length = ps.length
  | _, _, .nil => rfl
  | _, _, .cons _ r => congrArg (· + 1) r.length
theorem PairsAt.at {news : List (Addr × Obj)} : ∀ {vs : List Value} {ps : List (Nat × Str)}, PairsAt news vs ps → ∀ {i : Nat} {v : Value}, vs[i]? = some v → ∃ T p u t t', ps[i]? = some (p, u) ∧ v = .ref T ∧ (T, tupO [.int (p : Nat) t, .str u t']) ∈ news
  | _, _, .nil, _, _, e => by simp at e
  | _, _, .cons h _, 0, _, e => by simp at e; subst e; exact ⟨_, _, _, _, _, rfl, rfl, h⟩
  | _, _, .cons _ r, i + 1, _, e => by
    obtain ⟨T, p, u, t, t', h1, h2⟩ := r.at (i := i) (by simpa using e)
    exact ⟨T, p, u, t, t', by simpa using h1, h2⟩
theorem PairsAt.mono {n1 n2 : List (Addr × Obj)} (h : ∀ q ∈ n1, q ∈ n2) : ∀ {vs : List Value} {ps : List (Nat × Str)}, PairsAt n1 vs ps → PairsAt n2 vs ps
  | _, _, .nil => .nil
  | _, _, .cons m r => .cons (h _ m) (r.mono h)
theorem strsAre_snoc {vs : List Value} {us : List Str} (h : StrsAre vs us) (u : Str) (t : Tok) : StrsAre (vs ++ [.str u t]) (us ++ [u]) := strsAre_append h (.cons _ _ .nil)
section
variable {w : World} {A : Around} {E : Value → Shared → Prop} {s : Shared} {h₀ : Heap} {L : Addr} {m : Str → Option Value} {env : Env} {news : List (Addr × Obj)} {Q : Value → Shared → Prop}
open LCp LCg in
theorem comp_pairs_rest {x x₂ : Str} {p2 : Pos} {scope : Scope} {cl : List (Str × Addr)} {ax : Addr} {vs : List Value} {ps : List (Nat × Str)} {s₁ : Shared} {Fin : List Value → List (Addr × Obj) → Prop}
    (hx₂ : scope.names.lookup x₂ = some .local) (hk : scope.kind = .function) (hd : (x₂ == ("__debug__" : Str)) = false) (hp : PairsAt news vs ps) (hS : SrcAt h₀ ax vs.toArray news) (hF : ∀ ys, StrsAre ys (ps.map (·.2)) → Fin ys news) :
    ∀ (k i : Nat) (ys : List Value), i + k = vs.length → StrsAre ys ((ps.take i).map (·.2)) → CompRestP prg w A h₀ L m env (.Name x₂ p2) x x₂ scope cl s₁ (SrcAt h₀ ax vs.toArray) (fun i v => vs.toArray[i]? = some v) Fin k i ys news
  | 0, i, ys, hi, hy => by
    refine CompRestP.zero (hF ys ?_)
    rw [List.take_of_length_le (by rw [← hp.length]; omega)] at hy
    exact hy
  | k + 1, i, ys, hi, hy => by
    refine CompRestP.succ fun v hv => ?_
    obtain ⟨T, p, u, t, t', h1, rfl, hm⟩ := hp.at (i := i) (v := v) (by simpa using hv)
    refine ⟨T, _, _, _, _, rfl, hm, rfl, rfl, fun I oI C oC D m₂ h tk E' hns hm1 hm2 F N off ne => ?_⟩
    refine nm_local (m := m₂) (hns.ns (N.get (.tail _ (.head _)))) hm2 ?_ (by simp [compEnvC, relabel, hk]) (lookup_relabel_local hx₂) hd
    refine ⟨h, tk, news, rfl, F, N, off, hS, ?_⟩
    refine comp_pairs_rest hx₂ hk hd hp hS hF k (i + 1) (ys ++ [_]) (by omega) ?_
    have e : ps.take (i + 1) = ps.take i ++ [(p, u)] := by rw [List.take_add_one, h1]; rfl
    rw [e, List.map_append]
    exact strsAre_snoc hy _ _
open LCp LCg in
/-- `[one for spot, one in told]` -/
theorem comp_pairs {iter : Expr} {x x₂ : Str} {px px₂ tp p2 : Pos} {kk : Nat} {scope : Scope} {pos : Pos} {ax : Addr} {vs : List Value} {ps : List (Nat × Str)} {e : Nat} (hA : A.handled = none) (F : Fr h₀ L s.heap m)
    (hclos : closureFor scope env = pure []) (hcell : ∀ y ∈ scope.names, y.2 ≠ .cell) (hkind : scope.kind = .function)
    (hnames : ∀ y ∈ scope.names, y.2 = .local → scope.names.lookup y.1 = some .local) (hx : scope.names.lookup x = some .local) (hx₂ : scope.names.lookup x₂ = some .local) (hxx : x ≠ x₂) (hd : (x₂ == ("__debug__" : Str)) = false)
    (hp : PairsAt news vs ps) (hl : (ax, W.listOf vs.toArray e) ∈ news) (hsz : vs.length ≤ 1000)
    (hit : wpAny (model prg w) A (eval iter env) (fun v s₁ => Shut (∃ h' tk', v = .ref ax ∧ s₁ = { s with heap := h', toks := tk' } ∧ Fr h₀ L h' m ∧ News h₀ L h' news)) E s)
    (hQ : ∀ D h tk ys, Fr h₀ L h m → News h₀ L h ((D, W.listOf ys.toArray ys.length) :: news) → StrsAre ys (ps.map (·.2)) → (∀ q ∈ news, q.1 ≠ D) → Q (.ref D) { s with heap := h, toks := tk })
    (hs : ∀ x, foldedSetIterable iter env x = pure x := by intro _; rfl) :
    wpAny (model prg w) A (eval (.ListComp (.Name x₂ p2) [⟨.Tuple [.Name x px, .Name x₂ px₂] kk tp, iter, [], 0⟩] scope pos) env) Q E s := by
  refine ListComp_P (h₀ := h₀) (L := L) (m := m) F hclos hcell hkind hnames hx hx₂ hxx (wpAny_mono hit (fun v s₁ h => ?_) fun _ _ e => e) hs
  obtain ⟨h', tk', rfl, rfl, F', N'⟩ := h
  refine SrcLP.ledger (its := vs.toArray) (k := e) hA F' N' hl (by rw [List.size_toArray, sizeLine_eq]; omega) fun g => ?_
  rw [List.size_toArray]
  refine comp_pairs_rest hx₂ hkind hd hp (.inr ⟨_, hl, rfl, _, rfl⟩) (fun ys hy => ?_) vs.length 0 [] (by omega) .nil
  intro D h tk F2 N2 o1
  refine hQ D h tk ys F2 N2 hy fun q hq => ?_
  have : ∀ l : List (Addr × Obj), Off1 D l → ∀ q ∈ l, q.1 ≠ D := fun l => by
    induction l with
    | nil => intro _ q hq; cases hq
    | cons p r ih =>
      intro o q hq
      rcases List.mem_cons.mp hq with rfl | hq
      · exact o.1
      · exact ih o.2 q hq
  exact this _ o1 q hq
end
end
section
theorem strsAre_reverse : ∀ {vs : List Value} {us : List Str}, StrsAre vs us → StrsAre vs.reverse us.reverse
  | _, _, .nil => .nil
  | _, _, .cons u t r => by
    rw [List.reverse_cons, List.reverse_cons]
    exact strsAre_append (strsAre_reverse r) (.cons _ _ .nil)
section
variable {w : World} {dp un : Nat} {fr : Option (List Env)} {gd : Option (List Code)} {E : Value → Shared → Prop} {s : Shared} {Q : Flow → Shared → Prop} {h₀ : Heap} {L : Addr} {m : Str → Option Value}
set_option maxHeartbeats 4000000 in
theorem law_G (G : Gr w h₀) (hroom : dp + 30 < recursionLimit) (hun : un + 200 < cLine) (htk : 2 ≤ s.toks) (F : Fr h₀ L s.heap m) {ln lc ltd le : Addr} {a b c d a0 b0 c0 : Int} {t1 t2 t3 u1 u2 u3 v4 : Tok} {e1 e2 e3 e4 : Nat} {os : Obj} {ve vt : List Value} {es us : List Str} {ps : List (Nat × Str)} {tps : List (Addr × Obj)}
    (N : News h₀ L s.heap ((ln, W.listOf [Value.int a t1, .int b t2, .int c t3].toArray e1) :: (lc, W.listOf [Value.int a0 u1, .int b0 u2, .int c0 u3].toArray e2) ::
      (le, W.listOf ve.toArray e4) :: (L + 1 + 1 + 1, os) :: (ltd, W.listOf vt.toArray e3) :: tps))
    (hps : PairsAt tps vt ps) (hpl : ps.length ≤ 20) (hus : ps.map (·.2) = us) (hune : us ≠ [])
    (hos : os.data = .cell (some (.int d v4))) (hve : StrsAre ve es) (hes : es.length ≤ 20) (hne : es ≠ [])
    (m1 : m (Str.ofString "near") = some (.ref ln)) (m2 : m (Str.ofString "colour") = some (.ref lc)) (m3 : m (Str.ofString "told") = some (.ref ltd)) (m4 : m (Str.ofString "ending") = some (.ref le))
    (ha : 0 ≤ a ∧ a ≤ 4) (hb : 0 ≤ b ∧ b ≤ 4) (hc : 0 ≤ c ∧ c ≤ 4)
    (ha0 : 0 ≤ a0 ∧ a0 ≤ 4) (hb0 : 0 ≤ b0 ∧ b0 ≤ 4) (hc0 : 0 ≤ c0 ∧ c0 ≤ 4)
    (ga : 0 ≤ a + d ∧ a + d ≤ 4) (gb : 0 ≤ b + d ∧ b + d ≤ 4) (gc : 0 ≤ c + d ∧ c + d ≤ 4)
    (xa : w1 us a0 = a + d) (xb : w1 us b0 = b + d) (xc : w1 us c0 = c + d)
    (ya : w1 (es.map turnU).reverse (a + d) = a) (yb : w1 (es.map turnU).reverse (b + d) = b) (yc : w1 (es.map turnU).reverse (c + d) = c)
    (wa : w1 es a = a + d) (wb : w1 es b = b + d) (wc : w1 es c = c + d)
    (hQ : ∀ h' tk, Keep h₀ h' → Q (.ret (.bool true)) { s with heap := h', toks := tk }) :
    wpAny (model prg w) (lawAr dp un fr gd L) (execs (lawBody.drop 14) (lawEnv L)) Q E s := by
  refine segN 14 2 16 (by rfl) ?_
  w_top on
  have G0 := G
  obtain ⟨KX, mean, mg, mb, T⟩ := G
  have hun2 : (lawAr dp un fr gd L).units + 100 < cLine := by simp only [units_deeper]; omega
  with_unfolding_all refine execs_t 2 htk ?_
  iterate 7 walk1
  rename Fr _ _ _ _ => F
  rename News _ _ _ _ => N
  rename Gr _ _ => G0
  refine wpAny_toks (n := 2) htk ?_
  refine comp_pairs (vs := vt) (ps := ps) (ax := ltd) (e := e3) (h₀ := h₀) (L := L) (m := m) (news := (ln, W.listOf [Value.int a t1, .int b t2, .int c t3].toArray e1) :: (lc, W.listOf [Value.int a0 u1, .int b0 u2, .int c0 u3].toArray e2) ::
      (le, W.listOf ve.toArray e4) :: (L + 1 + 1 + 1, os) :: (ltd, W.listOf vt.toArray e3) :: tps) rfl F rfl (by decide) rfl (by decide) rfl rfl (by decide) (by decide) (hps.mono fun q hq => .tail _ (.tail _ (.tail _ (.tail _ (.tail _ hq))))) (.tail _ (.tail _ (.tail _ (.tail _ (.head _))))) (by rw [hps.length]; omega) ?hit ?hQ2
  case hit =>
    have FN := And.intro F N
    walk1
    exact ⟨_, _, rfl, rfl, FN.1, FN.2⟩
  case hQ2 =>
  intro D5 h5 tk5 ys F5 N5 hys hne5 htk5
  rw [hus] at hys
  clear F N
  walk1
  rename Fr _ _ _ _ => F5
  rename News _ _ _ _ => N5
  refine ⟨G0.keep F5.keep, ?_⟩
  with_unfolding_all refine walk_N rfl G0 htk5 F5 N5 ?hr (N5.isList (.tail _ (.tail _ (.head _)))) (.ints a0 b0 c0 _ _ _) (N5.isList (.head _)) hys ?hl hune ha0 hb0 hc0 ?_
  case hr => simp only [depth_deeper]; omega
  case hl => rw [← hus, List.length_map]; omega
  intro D6 h6 tk6 e6 x1 x2 x3 F6 N6 hz hne6
  rw [xa, xb, xc] at N6
  clear F5 N5
  iterate 2 walk1
  rename_i htk7
  with_unfolding_all refine execs_t 2 htk7 ?_
  iterate 14 walk1
  rename Fr _ _ _ _ => F7
  rename News _ _ _ _ => N7
  rename Gr _ _ => G0
  refine ⟨G0.keep F7.keep, ?_⟩
  refine wpAny_toks (n := 2) htk7 ?_
  with_unfolding_all refine turned_N rfl G0 F7 N7 ?hr (N7.isList (.tail _ (.tail _ (.tail _ (.tail _ (.head _)))))) hve (by omega) ?_
  case hr => simp only [depth_deeper]; omega
  intro D8 h8 tk8 ws8 e8 F8 N8 hS8 hne8 htk8
  clear F7 N7
  iterate 7 walk1
  rename Fr _ _ _ _ => F8
  rename News _ _ _ _ => N8
  rename Gr _ _ => G0
  refine kba_turn (value' := PySem.Expr.Name (PySem.Str.ofString "_") ⟨0, 0, 0, 0⟩) (fun _ => rfl) ?_
  with_unfolding_all refine krv_lit F8 N8 (N8.isList (.head _)) (IsPart.int _ _) rfl ?_ (by with_unfolding_all rfl) (fun _ => rfl) ?hz
  case hz => rw [List.size_toArray, strsAre_length hS8, List.length_map, sizeLine_eq]; omega
  intro D9 h9 F9 N9 l9
  clear F8 N8
  walk1
  rename Fr _ _ _ _ => F9
  rename News _ _ _ _ => N9
  rename Gr _ _ => G0
  refine ⟨G0.keep F9.keep, ?_⟩
  have hl9 : h9.IsList D9 ws8.reverse.toArray := by simpa using N9.isList (.head _)
  have hS9 := strsAre_reverse hS8
  with_unfolding_all refine walk_N rfl G0 ?htk F9 N9 ?hr (N9.isList (.tail _ (.tail _ (.head _)))) (.floats (a + d) (b + d) (c + d) _ _ _) hl9 hS9 ?hl ?hn ga gb gc ?_
  case htk => dsimp only at htk8 ⊢; omega
  case hr => simp only [depth_deeper]; omega
  case hl => rw [List.length_reverse, List.length_map]; omega
  case hn => exact fun e => hne (List.map_eq_nil_iff.mp (List.reverse_eq_nil_iff.mp e))
  intro D10 h10 tk10 e10 y1 y2 y3 F10 N10 hz10 hne10
  rw [ya, yb, yc] at N10
  clear F9 N9
  iterate 2 walk1
  rename Fr _ _ _ _ => F11
  rename News _ _ _ _ => N11
  rename Gr _ _ => G0
  rename_i htk11
  with_unfolding_all refine wpAny_execs_nil ?_
  show wpAny _ _ _ _ _ _
  exact law_H (d := d) (ve := ve) (es := es) (ln := ln) (lt := D6) (lb := D10) (le := le) G0 hroom hun htk11 F11 (news_of (N11 _ (.tail _ (.tail _ (.tail _ (.tail _ (.tail _ (.head _))))))) <| news_of (N11 _ (.head _)) <| news_of (N11 _ (.tail _ (.tail _ (.tail _ (.head _))))) <| news_of (N11 _ (.tail _ (.tail _ (.tail _ (.tail _ (.tail _ (.tail _ (.tail _ (.head _))))))))) <| news_of (N11 _ (.tail _ (.tail _ (.tail _ (.tail _ (.tail _ (.tail _ (.tail _ (.tail _ (.head _)))))))))) <| News.nil) hos hve hes hne hz.1 hz.2.1 hz.2.2 m1 rfl rfl m4 ha.1 ha.2 hb.1 hb.2 hc.1 hc.2 ga.1 ga.2 gb.1 gb.2 gc.1 gc.2 wa wb wc hQ
end
end
section
section
variable {prog : Program} {w : World} {A : Around} {E : Value → Shared → Prop} {s : Shared} {Q : Value → Shared → Prop} {a b : Int} {t u : Tok}
theorem min2_k (hh : A.handled = none) (h : ∀ h' t' tk, Keep s.heap h' → Q (.int (min a b) t') { s with heap := h', toks := tk }) : wpAny (model prog w) A (call (.builtin "min") [.int a t, .int b u]) Q E s := by
  refine min_two_ints hh fun h' tk hk => ?_
  split
  · rw [(by omega : b = min a b)]; exact h _ _ _ hk
  · have e : a = min a b := by omega
    rw [e]; exact h _ _ _ hk
theorem max2_k (hh : A.handled = none) (h : ∀ h' t' tk, Keep s.heap h' → Q (.int (max a b) t') { s with heap := h', toks := tk }) : wpAny (model prog w) A (call (.builtin "max") [.int a t, .int b u]) Q E s := by
  refine max_two_ints hh fun h' tk hk => ?_
  split
  · have e : b = max a b := by omega
    rw [e]; exact h _ _ _ hk
  · have e : a = max a b := by omega
    rw [e]; exact h _ _ _ hk
end
local macro_rules | `(tactic| walk_at "call builtin:min") => `(tactic| ((with_reducible show wpAny _ _ (call _ [Value.int _ _, Value.int _ _]) _ _ _); (rename Fr _ _ _ _ => F'); (rename Kp _ _ => K'); (with_unfolding_all refine min2_k rfl ?_); intro h' t' tk' hk'; (replace F' := Fr.grownK F' hk'); (replace K' := Kp.trans K' hk'); clear hk'; (try dsimp only)))
local macro_rules | `(tactic| walk_at "call builtin:max") => `(tactic| ((with_reducible show wpAny _ _ (call _ [Value.int _ _, Value.int _ _]) _ _ _); (rename Fr _ _ _ _ => F'); (rename Kp _ _ => K'); (with_unfolding_all refine max2_k rfl ?_); intro h' t' tk' hk'; (replace F' := Fr.grownK F' hk'); (replace K' := Kp.trans K' hk'); clear hk'; (try dsimp only)))
theorem five_in (x : Int) : 0 ≤ x.fmod 5 ∧ x.fmod 5 ≤ 4 ∧ 0 ≤ (x.fdiv 5).fmod 5 ∧ (x.fdiv 5).fmod 5 ≤ 4 ∧ 0 ≤ (x.fdiv 25).fmod 5 ∧ (x.fdiv 25).fmod 5 ≤ 4 := by
  have h : ∀ y : Int, 0 ≤ y.fmod 5 ∧ y.fmod 5 ≤ 4 := fun y => by
    have h1 := Int.fmod_nonneg_of_pos y (b := 5) (by decide)
    have h2 := Int.fmod_lt_of_pos y (b := 5) (by decide)
    omega
  exact ⟨(h _).1, (h _).2, (h _).1, (h _).2, (h _).1, (h _).2⟩
theorem near_facts (us : List Str) (k : Nat) {p : Int} (he : loL (us.drop k) ≤ hiL (us.drop k)) (hk : k = 0 ∨ ¬ loL (us.drop (k - 1)) ≤ hiL (us.drop (k - 1))) (h0 : 0 ≤ p) (h4 : p ≤ 4) :
    0 ≤ max (loL (us.drop k)) (min (hiL (us.drop k)) p) ∧ max (loL (us.drop k)) (min (hiL (us.drop k)) p) ≤ 4 ∧
    0 ≤ max (loL (us.drop k)) (min (hiL (us.drop k)) p) + sumU (us.drop k) ∧ max (loL (us.drop k)) (min (hiL (us.drop k)) p) + sumU (us.drop k) ≤ 4 ∧
    w1 us p = max (loL (us.drop k)) (min (hiL (us.drop k)) p) + sumU (us.drop k) ∧
    w1 ((us.drop k).map turnU).reverse (max (loL (us.drop k)) (min (hiL (us.drop k)) p) + sumU (us.drop k)) = max (loL (us.drop k)) (min (hiL (us.drop k)) p) ∧
    w1 (us.drop k) (max (loL (us.drop k)) (min (hiL (us.drop k)) p)) = max (loL (us.drop k)) (min (hiL (us.drop k)) p) + sumU (us.drop k) := by
  have h1 := loL_nn (us.drop k)
  have h2 := hiL_le (us.drop k)
  have e := w1_ending us k p h0 h4 he hk
  have hi := w1_in us p h0 h4
  rw [e] at hi
  have b1 : loL (us.drop k) ≤ max (loL (us.drop k)) (min (hiL (us.drop k)) p) := Int.le_max_left _ _
  have b2 : max (loL (us.drop k)) (min (hiL (us.drop k)) p) ≤ hiL (us.drop k) := Int.max_le.mpr ⟨he, Int.min_le_left _ _⟩
  refine ⟨Int.le_trans h1 b1, Int.le_trans b2 h2, hi.1, hi.2, e, w1_back _ _ b1 b2, ?_⟩
  rw [w1_clamp _ _ he (Int.le_trans h1 b1) (Int.le_trans b2 h2), Int.min_eq_right b2, Int.max_eq_right b1]
noncomputable abbrev newsOf {h₀ : Heap} {L : Addr} {h : Heap} {news : List (Addr × Obj)} (_ : News h₀ L h news) : List (Addr × Obj) := news
section
variable {w : World} {dp un : Nat} {fr : Option (List Env)} {gd : Option (List Code)} {E : Value → Shared → Prop} {s : Shared} {Q : Flow → Shared → Prop} {h₀ : Heap} {L : Addr} {m : Str → Option Value}
set_option maxHeartbeats 4000000 in
theorem law_F (G : Gr w h₀) (hroom : dp + 30 < recursionLimit) (hun : un + 200 < cLine) (htk : 2 ≤ s.toks) (F : Fr h₀ L s.heap m) {ls ltd le : Addr} {e3 e4 k : Nat} {olv osh : Obj} {ve vt vs : List Value} {us : List Str} {ns : List Int} {ps : List (Nat × Str)} {tps : List (Addr × Obj)}
    (N : News h₀ L s.heap ((le, W.listOf ve.toArray e4) :: (L + 1 + 1, olv) :: (L + 1 + 1 + 1, osh) :: (ltd, W.listOf vt.toArray e3) :: tps))
    (hle : @Ne Nat le (L + 1 + 1) ∧ @Ne Nat le (L + 1 + 1 + 1)) (hrest : ∀ p ∈ (ltd, W.listOf vt.toArray e3) :: tps, @Ne Nat p.1 (L + 1 + 1) ∧ @Ne Nat p.1 (L + 1 + 1 + 1))
    (hlv : olv.data = .cell none) (hsh : osh.data = .cell none)
    (hls : h₀.IsList ls vs.toArray) (hns : IntsAre vs ns) (hnl : ns.length ≤ 63)
    (hps : PairsAt tps vt ps) (hpl : ps.length ≤ 20) (hus : ps.map (·.2) = us)
    (hve : StrsAre ve (us.drop k)) (hne : us.drop k ≠ [])
    (hlo : loL (us.drop k) ≤ hiL (us.drop k)) (hk : k = 0 ∨ ¬ loL (us.drop (k - 1)) ≤ hiL (us.drop (k - 1)))
    (m1 : m (Str.ofString "script") = some (.ref ls)) (m3 : m (Str.ofString "told") = some (.ref ltd)) (m4 : m (Str.ofString "ending") = some (.ref le))
    (hQ : ∀ h' tk, Keep h₀ h' → Q (.ret (.bool true)) { s with heap := h', toks := tk }) :
    wpAny (model prg w) (lawAr dp un fr gd L) (execs (lawBody.drop 10) (lawEnv L)) Q E s := by
  refine segN 10 4 14 (by rfl) ?_
  w_top on
  have G0 := G
  obtain ⟨KX, mean, mg, mb, T⟩ := G
  have hun2 : (lawAr dp un fr gd L).units + 100 < cLine := by simp only [units_deeper]; omega
  with_unfolding_all refine execs_t 2 htk ?_
  iterate 7 walk1
  rename Fr _ _ _ _ => F
  rename News _ _ _ _ => N
  rename Gr _ _ => G0
  have hesl : (us.drop k).length ≤ 20 := by rw [List.length_drop, ← hus, List.length_map]; omega
  refine ⟨G0.keep F.keep, ?_⟩
  with_unfolding_all refine levels_N rfl G0 F N ?hr (N.isList (.head _)) hve (by omega) ?_
  case hr => simp only [depth_deeper]; omega
  intro a5 D5 h5 tk5 ws5 e5 t5 F5 N5 hI5 ne5 had5
  clear F N
  iterate 3 walk1
  rename Fr _ _ _ _ => F5
  rename News _ _ _ _ => N5
  have hc2 : @Ne Nat (L + 1 + 1) (L + 1 + 1 + 1) := Nat.ne_of_lt (Nat.lt_succ_self _)
  have xa : @Ne Nat a5 (L + 1 + 1) := fun e => (ne5 _ (.tail _ (.head _))).1 e.symm
  have xD : @Ne Nat D5 (L + 1 + 1) := fun e => (ne5 _ (.tail _ (.head _))).2 e.symm
  have ya : @Ne Nat a5 (L + 1 + 1 + 1) := fun e => (ne5 _ (.tail _ (.tail _ (.head _)))).1 e.symm
  have yD : @Ne Nat D5 (L + 1 + 1 + 1) := fun e => (ne5 _ (.tail _ (.tail _ (.head _)))).2 e.symm
  with_unfolding_all refine storeX_C F5 N5 rfl (UpdF.tail xa (UpdF.tail xD (UpdF.tail hle.1 (UpdF.head fun p hp => ?hu1)))) hlv ?_ rfl rfl
  case hu1 =>
    rcases List.mem_cons.mp hp with rfl | hp
    · exact Ne.symm hc2
    · exact (hrest p hp).1
  intro h6 olv2 F6 N6 hlv2
  dsimp only
  clear F5 N5
  iterate 2 walk1
  rename Fr _ _ _ _ => F6
  rename News _ _ _ _ => N6
  with_unfolding_all refine storeX_C F6 N6 rfl (UpdF.tail ya (UpdF.tail yD (UpdF.tail hle.2 (UpdF.tail hc2 (UpdF.head fun p hp => (hrest p hp).2))))) hsh ?_ rfl rfl
  intro h7 osh2 F7 N7 hsh2
  dsimp only
  clear F6 N6
  iterate 2 walk1
  rename_i htk7
  dsimp only at htk7 ⊢
  with_unfolding_all refine execs_t 2 htk7 ?_
  iterate 13 walk1
  rename_i htk8
  dsimp only at htk8 ⊢
  with_unfolding_all refine execs_t 2 htk8 ?_
  iterate 27 walk1
  rename_i htk9
  dsimp only at htk9 ⊢
  rename Fr _ _ _ _ => F8
  rename News _ _ _ _ => N8
  with_unfolding_all refine execs_t 2 htk9 ?_
  obtain ⟨le0, lea, leb⟩ := levels_ends _ hlo
  refine comp_listA (m := mapOf F8) (cl := [(Str.ofString "levels", L + 1 + 1)]) (h₀ := h₀) (news := newsOf N8) (fun v => ∃ t1 t2 t3, v = [Value.int ((28 + ns.sum).fmod 5) t1, .int (((28 + ns.sum).fdiv 5).fmod 5) t2, .int (((28 + ns.sum).fdiv 25).fmod 5) t3])
    (fun _ => true) (fun v y => ∃ n t t', v = .int n t ∧ y = .int (max (loL (us.drop k)) (min (hiL (us.drop k)) n)) t') rfl ?hsz rfl rfl (by decide) rfl (by decide) rfl rfl rfl ?hit ?hq ?hQ2
  case hsz => rintro v ⟨_, _, _, rfl⟩; rw [sizeLine_eq]; exact Nat.le_of_lt (by simp)
  case hit =>
    have FN := And.intro F8 N8
    walk1
    exact ⟨_, _, _, _, ⟨_, _, _, rfl⟩, rfl, rfl, FN.2.isList (.head _), FN.1, FN.2⟩
  case hq =>
    rintro vs' h9 ⟨u1, u2, u3, rfl⟩ F9 N9
    dsimp only [mapOf, newsOf] at F9 N9
    have hcell : h9.IsCell (L + 1 + 1) (some (.ref D5)) := ⟨olv2, N9.get (.tail _ (.tail _ (.tail _ (.tail _ (.head _))))), hlv2⟩
    have hlD : h9.IsList D5 ws5.toArray := N9.isList (.tail _ (.tail _ (.head _)))
    refine ⟨fun C i v s₃ m₃ E' hP F6 hm6 => tests0 rfl, fun C i v s₃ m₃ E' hP hp F6 hm6 => ?_⟩
    have hv : ∃ n t, v = Value.int n t := by
      rcases i with _ | _ | _ | i
      · cases hP; exact ⟨_, _, rfl⟩
      · cases hP; exact ⟨_, _, rfl⟩
      · cases hP; exact ⟨_, _, rfl⟩
      · cases hP
    obtain ⟨n, t, rfl⟩ := hv
    have G9 : Gr w h9 := (‹Gr w h₀›).keep F9.keep
    clear F9 N9 F8 N8 hP
    have N6 : News h9 C s₃.heap [] := News.nil
    have K3 := Kp.refl s₃.heap
    repeat' walk1
    have K9 := ‹Kp s₃.heap _›
    have e : ∀ X Y (t' : Tok), X = loL (us.drop k) → Y = hiL (us.drop k) → ∃ n1 t1 t2, Value.int n t = Value.int n1 t1 ∧ Value.int (max X (min Y n)) t' = Value.int (max (loL (us.drop k)) (min (hiL (us.drop k)) n1)) t2 := by
      rintro _ _ t' rfl rfl; exact ⟨n, t, t', rfl, rfl⟩
    refine ⟨e _ _ _ lea ?_, _, _, rfl, K9.k⟩
    have ei : (-1 + ((levelsL (us.drop k)).length : Int)).toNat = (levelsL (us.drop k)).length - 1 := by omega
    rw [ei]; exact leb
  case hQ2 =>
    rintro vs' D h9 tk9 ys e9 ⟨u1, u2, u3, rfl⟩ F9 N9 ne9 hF
    dsimp only [mapOf, newsOf] at F9 N9
    rw [List.filter_eq_self.mpr (fun _ _ => rfl)] at hF
    obtain ⟨ys⟩ := ys
    have hys : ∃ t1 t2 t3, ys = [Value.int (max (loL (us.drop k)) (min (hiL (us.drop k)) ((28 + ns.sum).fmod 5))) t1, .int (max (loL (us.drop k)) (min (hiL (us.drop k)) (((28 + ns.sum).fdiv 5).fmod 5))) t2, .int (max (loL (us.drop k)) (min (hiL (us.drop k)) (((28 + ns.sum).fdiv 25).fmod 5))) t3] := by
      replace hF : Paired _ _ ys := hF
      cases hF with | cons e1 hF =>
      cases hF with | cons e2 hF =>
      cases hF with | cons e3 hF =>
      cases hF
      obtain ⟨_, _, t1, h1, rfl⟩ := e1; obtain ⟨_, _, t2, h2, rfl⟩ := e2; obtain ⟨_, _, t3, h3, rfl⟩ := e3
      cases h1; cases h2; cases h3
      exact ⟨_, _, _, rfl⟩
    obtain ⟨t6, t7, t8, rfl⟩ := hys
    intro htk10
    dsimp only at htk10 ⊢
    with_unfolding_all refine wpAny_execs_nil ?_
    show wpAny _ _ _ _ _ _
    obtain ⟨ga1, ga2, gb1, gb2, gc1, gc2⟩ := five_in (28 + ns.sum)
    obtain ⟨pa1, pa2, pa3, pa4, pa5, pa6, pa7⟩ := near_facts us k hlo hk ga1 ga2
    obtain ⟨pb1, pb2, pb3, pb4, pb5, pb6, pb7⟩ := near_facts us k hlo hk gb1 gb2
    obtain ⟨pc1, pc2, pc3, pc4, pc5, pc6, pc7⟩ := near_facts us k hlo hk gc1 gc2
    have hune : us ≠ [] := fun e => hne (by rw [e, List.drop_nil])
    have N9' : News h₀ L h9 ((D, W.listOf _ e9) :: newsOf N8) := N9
    exact law_G (ln := D) (ltd := ltd) (le := le) (vt := vt) (ve := ve) (es := us.drop k) (us := us) (ps := ps) (tps := tps) (‹Gr w h₀›) hroom hun htk10 F9 (news_of (N9 _ (.head _)) <| news_of (N9 _ (.tail _ (.head _))) <| news_of (N9 _ (.tail _ (.tail _ (.tail _ (.tail _ (.head _)))))) <| news_of (N9 _ (.tail _ (.tail _ (.tail _ (.tail _ (.tail _ (.tail _ (.head _)))))))) <| fun q hq => N9 _ (.tail _ (.tail _ (.tail _ (.tail _ (.tail _ (.tail _ (.tail _ hq)))))))) hps hpl hus hune hsh2 hve hesl hne
      rfl rfl m3 m4 ⟨pa1, pa2⟩ ⟨pb1, pb2⟩ ⟨pc1, pc2⟩ ⟨ga1, ga2⟩ ⟨gb1, gb2⟩ ⟨gc1, gc2⟩ ⟨pa3, pa4⟩ ⟨pb3, pb4⟩ ⟨pc3, pc4⟩ pa5 pb5 pc5 pa6 pb6 pc6 pa7 pb7 pc7 hQ
end
end
section
section
variable {w : World} {A : Around} {E : Value → Shared → Prop} {s : Shared} {Q : Value → Shared → Prop} {h₀ : Heap} {L : Addr} {m : Str → Option Value} {news : List (Addr × Obj)}
theorem lines_N {l : Addr} {vs : List Value} {us : List Str} (hA : A.handled = none) (G : Gr w h₀) (F : Fr h₀ L s.heap m) (N : News h₀ L s.heap news) (hroom : A.depth + 20 < recursionLimit) (hun : A.units + 100 < cLine) (hb : Bare s.gens)
    (hl : s.heap.IsList l vs.toArray) (hu : StrsAre vs us) (hus : us.length ≤ 20) (huc : ∀ u ∈ us, UnitC u.cps.toList)
    (h : ∀ h' g' tk, Fr h₀ L h' m → News h₀ L h' news → Bare g' → Q (.bool true) { s with heap := h', gens := g', toks := tk }) :
    wpAny (model prg w) A (call (.ref 92) [.ref l]) Q E s := by
  rw [ar_of hA]
  refine wpAny_call (lines_call (G.keep F.keep) hroom hun hb hl hu hus (fun u hu => (unit_len (huc u hu)).1) (lines_ok huc hus) fun h' g' tk k hb' b hbb => ?_)
  have e : b = true := hbb.mpr (lines_hold huc)
  subst e
  exact h h' g' tk (F.grownK k) (N.grown k) hb'
end
section
variable {w : World} {dp un : Nat} {fr : Option (List Env)} {gd : Option (List Code)} {E : Value → Shared → Prop} {s : Shared} {Q : Flow → Shared → Prop} {h₀ : Heap} {L : Addr} {m : Str → Option Value}
set_option maxHeartbeats 4000000 in
theorem law_E (G : Gr w h₀) (hroom : dp + 40 < recursionLimit) (hun : un + 200 < cLine) (htk : 2 ≤ s.toks) (hb : Bare s.gens) (F : Fr h₀ L s.heap m) {ls lu ltd le : Addr} {e3 e4 e5 k : Nat} {tkk : Tok} {ou olv osh : Obj} {ve vt vs vu : List Value} {us : List Str} {ns : List Int} {ps : List (Nat × Str)} {tps : List (Addr × Obj)}
    (N : News h₀ L s.heap ((le, W.listOf ve.toArray e4) :: (L + 1 + 1, olv) :: (L + 1 + 1 + 1, osh) :: (ltd, W.listOf vt.toArray e3) :: (L + 1, ou) :: (lu, W.listOf vu.toArray e5) :: tps))
    (hle : @Ne Nat le (L + 1 + 1) ∧ @Ne Nat le (L + 1 + 1 + 1)) (hrest : ∀ p ∈ (ltd, W.listOf vt.toArray e3) :: tps, @Ne Nat p.1 (L + 1 + 1) ∧ @Ne Nat p.1 (L + 1 + 1 + 1))
    (hou : ou.data = .cell (some (.ref lu))) (hlv : olv.data = .cell none) (hsh : osh.data = .cell none)
    (hls : h₀.IsList ls vs.toArray) (hns : IntsAre vs ns) (hnl : ns.length ≤ 63)
    (hps : PairsAt tps vt ps) (hpl : ps.length ≤ 20) (hus : ps.map (·.2) = us) (hvu : StrsAre vu us) (huc : ∀ u ∈ us, UnitC u.cps.toList)
    (hve : StrsAre ve (us.drop k)) (hne : us.drop k ≠ [])
    (hlo : loL (us.drop k) ≤ hiL (us.drop k)) (hk : k = 0 ∨ ¬ loL (us.drop (k - 1)) ≤ hiL (us.drop (k - 1)))
    (m1 : m (Str.ofString "script") = some (.ref ls)) (m2 : m (Str.ofString "k") = some (.int (k : Nat) tkk)) (m3 : m (Str.ofString "told") = some (.ref ltd)) (m4 : m (Str.ofString "ending") = some (.ref le))
    (hQ : ∀ h' g' tk, Keep h₀ h' → Bare g' → Q (.ret (.bool true)) { s with heap := h', gens := g', toks := tk }) :
    wpAny (model prg w) (lawAr dp un fr gd L) (execs (lawBody.drop 9) (lawEnv L)) Q E s := by
  have husl : us.length ≤ 20 := by rw [← hus, List.length_map]; exact hpl
  have fin : ∀ h9 g9 tk9, Fr h₀ L h9 m → News h₀ L h9 ((le, W.listOf ve.toArray e4) :: (L + 1 + 1, olv) :: (L + 1 + 1 + 1, osh) :: (ltd, W.listOf vt.toArray e3) :: (L + 1, ou) :: (lu, W.listOf vu.toArray e5) :: tps) → Bare g9 → 2 ≤ tk9 →
      wpAny (model prg w) (lawAr dp un fr gd L) (execs (lawBody.drop 10) (lawEnv L)) Q E { s with heap := h9, gens := g9, toks := tk9 } := fun h9 g9 tk9 F9 N9 hb9 ht9 =>
    law_F (le := le) (ltd := ltd) (vt := vt) (ve := ve) (tps := tps) (olv := olv) (osh := osh) (us := us) (k := k) G (by omega) hun ht9 F9 (news_of (N9 _ (.head _)) <| news_of (N9 _ (.tail _ (.head _))) <| news_of (N9 _ (.tail _ (.tail _ (.head _)))) <| news_of (N9 _ (.tail _ (.tail _ (.tail _ (.head _))))) <| fun q hq => N9 _ (.tail _ (.tail _ (.tail _ (.tail _ (.tail _ (.tail _ hq))))))) hle hrest hlv hsh hls hns hnl hps hpl hus hve hne hlo hk m1 m3 m4 fun h' tk k => hQ h' g9 tk k hb9
  refine segN 9 1 10 (by rfl) ?_
  w_top on
  have G0 := G
  obtain ⟨KX, mean, mg, mb, T⟩ := G
  have hun2 : (lawAr dp un fr gd L).units + 100 < cLine := by simp only [units_deeper]; omega
  with_unfolding_all refine execs_t 2 htk ?_
  iterate 10 walk1
  rename Fr _ _ _ _ => F
  rename News _ _ _ _ => N
  rename Gr _ _ => G0
  refine ⟨G0.keep F.keep, ?_⟩
  with_unfolding_all refine lines_N rfl G0 F N ?hr hun2 hb (N.isList (.tail _ (.tail _ (.tail _ (.tail _ (.tail _ (.head _))))))) hvu husl huc ?_
  case hr => simp only [depth_deeper]; omega
  intro h5 g5 tk5 F5 N5 hb5
  clear F N
  repeat' walk1
  · rename Fr _ _ _ _ => F5
    rename News _ _ _ _ => N5
    rename Gr _ _ => G0
    with_unfolding_all refine lines_N rfl G0 F5 N5 ?hr hun2 hb5 (N5.isList (.head _)) hve (by rw [List.length_drop]; omega) (fun u hu => huc u (List.mem_of_mem_drop hu)) ?_
    case hr => simp only [depth_deeper]; omega
    intro h6 g6 tk6 F6 N6 hb6
    clear F5 N5
    repeat' walk1
    rename_i htk7
    dsimp only at htk7 ⊢
    with_unfolding_all refine wpAny_execs_nil ?_
    show wpAny _ _ _ _ _ _
    exact fin _ _ _ (by assumption) (by assumption) hb6 htk7
  · rename_i htk7
    dsimp only at htk7 ⊢
    with_unfolding_all refine wpAny_execs_nil ?_
    show wpAny _ _ _ _ _ _
    exact fin _ _ _ (by assumption) (by assumption) hb5 htk7
end
end
section
theorem strsAre_drop : ∀ {vs : List Value} {us : List Str} (k : Nat), StrsAre vs us → StrsAre (vs.drop k) (us.drop k)
  | _, _, 0, h => h
  | _, _, _ + 1, .nil => .nil
  | _, _, k + 1, .cons _ _ r => by
    rw [List.drop_succ_cons, List.drop_succ_cons]; exact strsAre_drop k r
theorem pick_from (vs : List Value) (k : Nat) : slicePick vs.toArray (some (k : Int)) none none = (vs.drop k).toArray := by
  have e : sliceBounds (some (k : Int)) none none vs.toArray.size = (((min k vs.toArray.size : Nat) : Int), ((vs.toArray.size : Nat) : Int), 1) := by
    simp only [sliceBounds, Option.getD_none, show (1 : Int) > 0 by decide, if_true, if_neg (show ¬ ((k : Int) < 0) by omega)]
    congr 1
    omega
  rw [kmk_pick_nat _ e]
  show ((vs.drop (min k vs.toArray.size)).take (vs.toArray.size - min k vs.toArray.size)).toArray = _
  rw [List.size_toArray, kmk_drop_min, List.take_of_length_le (by rw [List.length_drop]; omega)]
section
variable {prog : Program} {w : World} {A : Around} {E : Value → Shared → Prop} {s : Shared} {value slice : PySem.Expr} {l : Addr} {vs : List Value} {k : Nat} {t : Tok} {Q : Value → Shared → Prop}
/-- `units[k:]`, with all that stood kept -/
theorem slice_k (hl : s.heap.IsList l vs.toArray)
    (h : ∀ D h', Keep s.heap h' → s.heap.get? D = none → h'.get? D = some (W.listOf (vs.drop k).toArray 0) → Q (.ref D) { s with heap := h' })
    (hs : subscripted slice false (.ref l) (.ref s.heap.objs.size) = operate [.ref s.heap.objs.size, .ref l] (getItem (.ref l) (.ref s.heap.objs.size))) (ht : ∀ r, letTemporaryGo value (.ref l) r = pure ()) (hz : vs.toArray.size ≤ sizeLine) :
    wpAny (model prog w) A (subscriptTail value slice (.ref l) (.ref s.heap.objs.size)) Q E { s with heap := s.heap.push { cls := .type "slice", data := .fields #[.int (k : Nat) t, .none, .none] } } := by
  refine subscriptTail_ops (Heap.IsList.typeIs (s := { s with heap := s.heap.push { cls := .type "slice", data := .fields #[.int (k : Nat) t, .none, .none] } }) (hl.push _)) list_getitem_lookup
    (wpAny_getItem_list_slice (hl.push _) (Heap.IsSliceOf.new ..) (IsPart.int _ _) .none .none (by decide) ?_ hz) hs ht
  rw [pick_from]
  show Q (.ref (s.heap.push _).objs.size) _
  refine h _ _ (fun b o e => Heap.get?_push_of_some _ (Heap.get?_push_of_some _ e)) ?_ (Heap.get?_push_size _ rfl)
  rw [Heap.size_push]; exact Heap.get?_none_of_le (Nat.le_succ _)
end
section
variable {w : World} {A : Around} {E : Value → Shared → Prop} {s : Shared} {Q : Value → Shared → Prop} {h₀ : Heap} {L : Addr} {m : Str → Option Value} {news : List (Addr × Obj)}
theorem levels_K {l : Addr} {vs : List Value} {us : List Str} (hA : A.handled = none) (G : Gr w s.heap) (hroom : A.depth < recursionLimit)
    (hl : s.heap.IsList l vs.toArray) (hu : StrsAre vs us) (hus : us.length ≤ 100)
    (h : ∀ a D h' tk ws e t, Keep s.heap h' → s.heap.get? a = none → s.heap.get? D = none → h'.get? a = some (tupO [.ref D, .int (sumU us) t]) → h'.get? D = some (W.listOf ws.toArray e) → IntsAre ws (levelsL us) → Q (.ref a) { s with heap := h', toks := tk }) :
    wpAny (model prg w) A (call (.ref 87) [.ref l]) Q E s := by
  rw [ar_of hA]
  exact wpAny_call (levels_call G hroom hl hu hus fun a D h' tk ws e t k ha hD hne hoa hoD hi => h a D h' tk ws e t k ha hD hoa hoD hi)
end
theorem ints_from : ∀ (vs : List Value) (a : Nat), (∀ (j : Nat) v, vs[j]? = some v → ∃ t, v = Value.int ((a + j : Nat) : Int) t) → IntsAre vs ((List.range' a vs.length).map fun (j : Nat) => (j : Int))
  | [], _, _ => .nil
  | v :: vs, a, h => by
    obtain ⟨t, rfl⟩ := h 0 v rfl
    refine .cons _ t (ints_from vs (a + 1) fun j v hv => ?_)
    obtain ⟨t', e⟩ := h (j + 1) v (by simpa using hv)
    exact ⟨t', by rw [e, (by omega : a + (j + 1) = a + 1 + j)]⟩
noncomputable def lvJ (us : List Str) (v : Value) : Bool := match v with
  | .int n _ => decide (levelsL (us.drop n.toNat) ≠ [])
  | _ => false
section
variable {w : World} {dp un : Nat} {fr : Option (List Env)} {gd : Option (List Code)} {E : Value → Shared → Prop} {s : Shared} {Q : Flow → Shared → Prop} {h₀ : Heap} {L : Addr} {m : Str → Option Value}
set_option maxHeartbeats 4000000 in
theorem law_D (G : Gr w h₀) (hroom : dp + 40 < recursionLimit) (hun : un + 200 < cLine) (htk : 2 ≤ s.toks) (hb : Bare s.gens) (F : Fr h₀ L s.heap m) {ls lu ltd : Addr} {e3 e5 : Nat} {ou olv osh : Obj} {vt vs vu : List Value} {us : List Str} {ns : List Int} {ps : List (Nat × Str)} {tps : List (Addr × Obj)}
    (N : News h₀ L s.heap ((L + 1 + 1, olv) :: (L + 1 + 1 + 1, osh) :: (ltd, W.listOf vt.toArray e3) :: (L + 1, ou) :: (lu, W.listOf vu.toArray e5) :: tps))
    (hrest : ∀ p ∈ (ltd, W.listOf vt.toArray e3) :: tps, @Ne Nat p.1 (L + 1 + 1) ∧ @Ne Nat p.1 (L + 1 + 1 + 1))
    (hou : ou.data = .cell (some (.ref lu))) (hlv : olv.data = .cell none) (hsh : osh.data = .cell none)
    (hls : h₀.IsList ls vs.toArray) (hns : IntsAre vs ns) (hnl : ns.length ≤ 63)
    (hps : PairsAt tps vt ps) (hpl : ps.length ≤ 20) (hus : ps.map (·.2) = us) (hvu : StrsAre vu us) (huc : ∀ u ∈ us, UnitC u.cps.toList)
    (hlast : ∃ j, j < us.length ∧ levelsL (us.drop j) ≠ [])
    (m1 : m (Str.ofString "script") = some (.ref ls)) (m3 : m (Str.ofString "told") = some (.ref ltd))
    (hQ : ∀ h' g' tk, Keep h₀ h' → Bare g' → Q (.ret (.bool true)) { s with heap := h', gens := g', toks := tk }) :
    wpAny (model prg w) (lawAr dp un fr gd L) (execs (lawBody.drop 7) (lawEnv L)) Q E s := by
  have husl : us.length ≤ 20 := by rw [← hus, List.length_map]; exact hpl
  have hvl : vu.toArray.size = us.length := by rw [List.size_toArray, strsAre_length hvu]
  refine segN 7 2 9 (by rfl) ?_
  w_top on
  have G0 := G
  obtain ⟨KX, mean, mg, mb, T⟩ := G
  have hun2 : (lawAr dp un fr gd L).units + 100 < cLine := by simp only [units_deeper]; omega
  with_unfolding_all refine execs_t 2 htk ?_
  iterate 5 walk1
  rename Fr _ _ _ _ => F
  rename News _ _ _ _ => N
  rename Gr _ _ => G0
  refine comp_rangeE (cl := [(Str.ofString "units", L + 1)]) (h₀ := h₀) (L := L) (m := m) (news := newsOf N) (us.length + 1) (lvJ us) (fun v y => y = v) rfl (by omega) rfl (by decide) rfl (by decide) rfl ?hit ?hq ?hQ2
  case hit =>
    iterate 11 walk1
    rename Fr _ _ _ _ => F
    rename News _ _ _ _ => N
    refine Calls.call_len_list (N.isList (.tail _ (.tail _ (.tail _ (.tail _ (.head _)))))) (by rw [hvl]; omega) ?_
    rw [hvl]
    iterate 4 walk1
    rename IsRange _ _ _ _ _ _ _ _ => R9
    rename Fr _ _ _ _ => F9
    rename News _ _ _ _ => N9
    exact ⟨_, _, _, _, _, _, rfl, rfl, R9, F9, N9⟩
  case hq =>
    intro h5 F5 N5
    dsimp only [newsOf] at N5
    have hcell : h5.IsCell (L + 1) (some (.ref lu)) := ⟨ou, N5.get (.tail _ (.tail _ (.tail _ (.head _)))), hou⟩
    have hlu5 : h5.IsList lu vu.toArray := N5.isList (.tail _ (.tail _ (.tail _ (.tail _ (.head _)))))
    have G5 : Gr w h5 := G0.keep F5.keep
    refine ⟨fun C i v s₃ m₃ E' hP F6 hm6 => ?_, fun C i v s₃ m₃ E' hP hp F6 hm6 => ?_⟩
    · obtain ⟨hi, t, rfl⟩ := hP
      refine tests1 ?_
      clear F5 N5 F N
      have N6 : News h5 C s₃.heap [] := News.nil
      iterate 14 walk1
      rename Fr _ _ _ _ => F6
      have hl3 : s₃.heap.IsList lu vu.toArray := hlu5.at fun o e => F6.keep _ _ e
      with_unfolding_all refine slice_k hl3 ?_ (by with_unfolding_all rfl) (fun _ => rfl) (by rw [hvl, sizeLine_eq]; omega)
      intro D1 h7 hk7 hD7 hg7
      have F7 := F6.grownK hk7
      have K7 := Kp.trans (Kp.refl s₃.heap) hk7
      clear F6
      walk1
      rename Gr _ _ => G5
      refine ⟨G5.keep F7.keep, ?_⟩
      have hl7 : h7.IsList D1 (vu.drop i).toArray := ⟨_, hg7, rfl, _, rfl⟩
      with_unfolding_all refine levels_K rfl (G5.keep F7.keep) ?hr hl7 (strsAre_drop i hvu) (by rw [List.length_drop]; omega) ?_
      case hr => simp only [depth_deeper]; omega
      intro a8 D8 h8 tk8 ws8 e8 t8 hk8 ha8 hD8 hga8 hgD8 hI8
      have F8 := F7.grownK hk8
      have K8 := Kp.trans K7 hk8
      have N8a := news_more F7 (News.nil : News h5 C h7 []) hk8 ha8 hga8
      have N8b := news_more F7 (News.nil : News h5 C h7 []) hk8 hD8 hgD8
      have N8 : News h5 C h8 [(a8, tupO [.ref D8, .int (sumU (us.drop i)) t8]), (D8, W.listOf ws8.toArray e8)] := news_of (N8a _ (.head _)) <| fun q hq => N8b _ hq
      clear F7 N8a N8b N6 K7
      iterate 4 walk1
      dsimp only
      with_unfolding_all refine wpAny_newObj_type ?_ (by size_fits)
      dsimp only
      have hlD : (h8.push { cls := .type "list", data := .seq ([] : List Value).toArray }).IsList D8 ws8.toArray := Heap.IsList.push ⟨_, hgD8, rfl, _, rfl⟩ _
      have hlE : (h8.push { cls := .type "list", data := .seq ([] : List Value).toArray }).IsList h8.objs.size ([] : List Value).toArray := ⟨_, Heap.get?_push_size _ rfl, rfl, _, rfl⟩
      with_unfolding_all refine ke_ne_ints hlD hlE hI8 .nil (by omega) ?_
      walk1
      show Shut (_ = lvJ us (.int (i : Nat) t) ∧ Keeps s₃ _)
      refine And.intro ?_ ⟨_, _, rfl, fun b o e => Heap.get?_push_of_some _ (K8.k b o e)⟩
      unfold lvJ; dsimp only; rw [Int.toNat_natCast]; simp
    · clear F5 N5 F N
      walk1
      exact ⟨rfl, _, _, rfl, fun _ _ e => e⟩
  case hQ2 =>
    intro D9 h9 tk9 ys e9 vs' F9 N9 ne9 hlen hP hF
    dsimp only [newsOf] at N9 ne9
    have hI := ints_filter (p := lvJ us) (q := fun n => decide (levelsL (us.drop n.toNat) ≠ [])) (fun _ _ => rfl) (ints_from vs' 0 fun j v hv => by obtain ⟨t, e⟩ := hP j v hv; exact ⟨t, by rw [Nat.zero_add]; exact e⟩)
    rw [← paired_eq hF, hlen] at hI
    clear F N
    walk1
    rename Fr _ _ _ _ => F9
    rename News _ _ _ _ => N9
    refine min_ints rfl (vs := ys.toList) (by rw [Array.toArray_toList]; exact N9.isList (.head _)) hI ?hne fun h10 M t10 tk10 hk10 hM1 hM2 => ?_
    case hne =>
      obtain ⟨j, hj, hl⟩ := hlast
      refine List.length_pos_of_mem (a := (j : Int)) (List.mem_filter.mpr ⟨List.mem_map.mpr ⟨j, List.mem_range'_1.mpr ⟨Nat.zero_le _, by omega⟩, rfl⟩, ?_⟩)
      rw [Int.toNat_natCast]; exact decide_eq_true hl
    obtain ⟨k, hk9, hk0, hkm⟩ : ∃ k : Nat, M = (k : Int) ∧ levelsL (us.drop k) ≠ [] ∧ ∀ j, j < us.length → levelsL (us.drop j) ≠ [] → k ≤ j := by
      obtain ⟨h1, h2⟩ := List.mem_filter.mp hM1
      obtain ⟨k, _, rfl⟩ := List.mem_map.mp h1
      refine ⟨k, rfl, by rw [Int.toNat_natCast] at h2; exact of_decide_eq_true h2, fun j hj hl => ?_⟩
      have := hM2 (j : Int) (List.mem_filter.mpr ⟨List.mem_map.mpr ⟨j, List.mem_range'_1.mpr ⟨Nat.zero_le _, by omega⟩, rfl⟩, by rw [Int.toNat_natCast]; exact decide_eq_true hl⟩)
      omega
    subst hk9
    have F10 := F9.grownK hk10
    have N10 := N9.grown hk10
    clear F9 N9
    iterate 2 walk1
    rename_i htk10
    dsimp only at htk10 ⊢
    with_unfolding_all refine execs_t 2 htk10 ?_
    iterate 8 walk1
    rename Fr _ _ _ _ => F10
    rename News _ _ _ _ => N10
    rename Gr _ _ => G0
    with_unfolding_all refine slice_k (N10.isList (.tail _ (.tail _ (.tail _ (.tail _ (.tail _ (.head _))))))) ?_ (by with_unfolding_all rfl) (fun _ => rfl) (by rw [hvl, sizeLine_eq]; omega)
    intro D11 h11 hk11 hD11 hg11
    have xa : @Ne Nat D11 (L + 1 + 1) := fun e => by have h9 := (N10 _ (.tail _ (.head _))).1; have h8 := hD11; dsimp only at h8; rw [e, h9] at h8; cases h8
    have xb : @Ne Nat D11 (L + 1 + 1 + 1) := fun e => by have h9 := (N10 _ (.tail _ (.tail _ (.head _)))).1; have h8 := hD11; dsimp only at h8; rw [e, h9] at h8; cases h8
    have N11 := news_more F10 N10 hk11 hD11 hg11
    have F11 := F10.grownK hk11
    clear F10 N10
    iterate 2 walk1
    rename_i htk11
    dsimp only at htk11 ⊢
    rename Fr _ _ _ _ => F11
    rename News _ _ _ _ => N11
    with_unfolding_all refine wpAny_execs_nil ?_
    show wpAny _ _ _ _ _ _
    have hkl : k < us.length := by
      obtain ⟨j, hj, hl⟩ := hlast
      exact Nat.lt_of_le_of_lt (hkm j hj hl) hj
    have hne : us.drop k ≠ [] := fun e => by
      have := congrArg List.length e
      rw [List.length_drop, List.length_nil] at this; omega
    have hkk : k = 0 ∨ ¬ loL (us.drop (k - 1)) ≤ hiL (us.drop (k - 1)) := by
      rcases Nat.eq_zero_or_pos k with h | h
      · exact .inl h
      · refine .inr fun hc => ?_
        have := hkm (k - 1) (by omega) ((levels_ne _).mpr hc)
        omega
    exact law_E (ls := ls) (lu := lu) (ltd := ltd) (le := D11) (k := k) (ou := ou) (olv := olv) (osh := osh) (ve := vu.drop k) (vt := vt) (vs := vs) (vu := vu) (us := us) (ns := ns) (ps := ps) (tps := tps) G0 hroom hun htk11 hb F11 (news_of (N11 _ (.head _)) <| fun q hq => N11 _ (.tail _ (.tail _ hq))) ⟨xa, xb⟩ hrest hou hlv hsh hls hns hnl hps hpl hus hvu huc (strsAre_drop k hvu) hne ((levels_ne _).mp hk0) hkk m1 rfl m3 rfl hQ
end
end
section
noncomputable abbrev lstO (acc : Array Value) (c : Nat) : Obj := { cls := .type "list", dict := none, data := .seq acc c, slots := #[] }
section
variable {prog : Program} {w : World} {A : Around} {E : Value → Shared → Prop} {s : Shared} {R : Result → Shared → Prop} {I S : Addr} {res : Value}
/-- the loop of list.extend over a generator, by any state -/
theorem ext_loop (J : Nat → Shared → Prop)
    (turn : ∀ k s, J k s → wpAny (model prog w) A.in1 (pyNext (.ref I)) (fun r s₁ => match r with
      | none => R (.ok (.ret res)) s₁
      | some v => wpAny (model prog w) A.in1 (updateSeq S (·.push v)) (fun _ s₂ => ∃ k', k' < k ∧ J k' s₂) (fun _ _ => False) s₁) (fun _ _ => False) s) :
    ∀ k s, J k s → codeAny (model prog w) A (.builtin "list.extend.loop" ⟨[.ref S, .ref I, res], []⟩) R s := by
  intro k
  induction k using Nat.strongRecOn with
  | ind k ih =>
    intro s hJ
    refine codeAny_builtin F.entry_extend_loop ?_
    rw [Around.under_plainId F.plain_extend_loop _]
    show wpAny _ A.in1 (pyNext (.ref I) >>= _) _ _ s
    refine wpAny_bind (wpAny_mono (turn k s hJ) (fun r s₁ h₁ => ?_) fun _ _ e => e.elim)
    cases r with
    | none => exact wpAny_pure h₁
    | some v =>
      show wpAny _ A.in1 (updateSeq S (·.push v) >>= _) _ _ _
      refine wpAny_bind (wpAny_mono h₁ (fun _ s₂ h₂ => ?_) fun _ _ e => e.elim)
      obtain ⟨k', hk, hJ'⟩ := h₂
      exact wpAny_pure ⟨plainId_quiet F.plain_extend_loop _, ih k' hk s₂ hJ'⟩
theorem extend_gen {g : Nat} (hg : s.heap.IsGen I g) (hSI : S ≠ I) (c₀ : Nat) (hS : s.heap.get? S = some (lstO #[] c₀))
    (h : ∀ h' c', (∀ b o, b ≠ S → s.heap.get? b = some o → h'.get? b = some o) → h'.objs.size = s.heap.objs.size → h'.get? S = some (lstO #[] c') → codeAny (model prog w) A (.builtin "list.extend.loop" ⟨[.ref S, .ref I, res], []⟩) R { s with heap := h' }) :
    wpAny (model prog w) A.in1 (Builtin.List.listExtendWith (.ref S) (.ref I) res)
      (fun fin s' => match fin with | .done f => R (.ok f) s' | .again c' => c'.quiet = true ∧ codeAny (model prog w) A c' R s') (fun e s' => R (.error e) s') s := by
  unfold Builtin.List.listExtendWith
  refine wpAny_bind (wpAny_typeOf hg.typeIs ?_)
  have h1 : Builtin.List.listSameRef (.ref S) (.ref I) = false := by simp [Builtin.List.listSameRef, hSI]
  have h2 : (Value.type "generator" == Value.type "list") = false := by decide
  have h3 : (Value.type "generator" == Value.type "tuple") = false := by decide
  simp only [h1, h2, h3, Bool.or_false, Bool.false_eq_true, if_false]
  refine wpAny_bind (wpAny_pyIter_gen hg ?_)
  refine wpAny_bind (wpAny_holding ?_)
  unfold Builtin.List.listLengthHint
  refine wpAny_bind (wpAny_specialOf hg.typeIs F.gen_no_len ?_)
  show wpAny _ A.in1 (specialOf (Value.ref I) (Str.ofString "__length_hint__") >>= _) _ _ _
  refine wpAny_bind (wpAny_specialOf hg.typeIs F.gen_no_hint ?_)
  refine wpAny_pure ?_
  show wpAny _ A.in1 (rule "list.extend.makes-room" >>= fun _ => Builtin.List.listTouch (.ref S) >>= fun _ =>
    again (.builtin "list.extend.loop" ⟨[.ref S, .ref I, res], []⟩)) _ _ _
  refine wpAny_bind (wpAny_rule ?_)
  refine wpAny_bind ?_
  show wpAny _ A.in1 (updateSeq S (·.push .none) >>= fun _ => updateSeq S (·.pop)) _ _ _
  refine wpAny_bind (wpAny_updateSeq hS rfl ?_)
  have hS₂ := Heap.get?_update_self (Obj.mapSeq (·.push Value.none)) hS rfl
  refine wpAny_updateSeq (hz := by seq_fits) hS₂ rfl ?_
  have hS₃ := Heap.get?_update_self (Obj.mapSeq (·.pop)) hS₂ rfl
  have oth : ∀ b o, b ≠ S → s.heap.get? b = some o → ((s.heap.update S (Obj.mapSeq (·.push Value.none))).update S (Obj.mapSeq (·.pop))).get? b = some o :=
    fun b o hb e => (Heap.get?_update_other _ _ (Ne.symm hb)).trans ((Heap.get?_update_other _ _ (Ne.symm hb)).trans e)
  exact wpAny_pure ⟨plainId_quiet F.plain_extend_loop _, h _ _ oth ((Heap.SameBut.update ..).1.trans (Heap.SameBut.update ..).1) hS₃⟩
theorem list_init_gen {g : Nat} (hg : s.heap.IsGen I g) (hSI : S ≠ I) (hS : s.heap.get? S = some { cls := .type "list", data := .seq #[] })
    (h : ∀ h' c', (∀ b o, b ≠ S → s.heap.get? b = some o → h'.get? b = some o) → h'.objs.size = s.heap.objs.size → h'.get? S = some (lstO #[] c') → codeAny (model prog w) A (.builtin "list.extend.loop" ⟨[.ref S, .ref I, .none], []⟩) R { s with heap := h' }) :
    wpAny (model prog w) A.in1 (Builtin.«list.__init__» ⟨[.ref S, .ref I], []⟩)
      (fun fin s' => match fin with | .done f => R (.ok f) s' | .again c' => c'.quiet = true ∧ codeAny (model prog w) A c' R s') (fun e s' => R (.error e) s') s := by
  show wpAny _ A.in1 (do let old ← Builtin.List.listItems (.ref S); Builtin.List.listUpdate (.ref S) (fun _ => #[]); letGo old.toList.reverse; Builtin.List.listExtendWith (.ref S) (.ref I) .none) _ _ s
  refine wpAny_bind ?_
  unfold Builtin.List.listItems
  refine wpAny_bind (wpAny_seqItems hS rfl (wpAny_pure ?_))
  show wpAny _ A.in1 (updateSeq S (fun _ => #[]) >>= fun _ => letGo (#[] : Array Value).toList.reverse >>= fun _ => Builtin.List.listExtendWith (.ref S) (.ref I) .none) _ _ s
  refine wpAny_bind (wpAny_updateSeq hS rfl ?_)
  have hS₂ := Heap.get?_update_self (Obj.mapSeq (fun _ => (#[] : Array Value))) hS rfl
  have oth : ∀ b o, b ≠ S → s.heap.get? b = some o → (s.heap.update S (Obj.mapSeq (fun _ => (#[] : Array Value)))).get? b = some o :=
    fun b o hb e => (Heap.get?_update_other _ _ (Ne.symm hb)).trans e
  refine wpAny_bind (wpAny_letGo ?_)
  have hg' : (s.heap.update S (Obj.mapSeq (fun _ => (#[] : Array Value)))).IsGen I g := by
    obtain ⟨o, nm, qn, ho, r⟩ := hg
    exact ⟨o, nm, qn, oth _ _ (Ne.symm hSI) ho, r⟩
  refine extend_gen (s := { s with heap := s.heap.update S (Obj.mapSeq (fun _ => (#[] : Array Value))) }) hg' hSI _ hS₂ fun h' c' hk hz hS' => ?_
  exact h h' c' (fun b o hb e => hk b o hb (oth b o hb e)) (hz.trans (Heap.SameBut.update ..).1) hS'
theorem call_list_ofgen {g : Nat} {Q : Value → Shared → Prop} (hg : s.heap.IsGen I g)
    (h : ∀ h' c', Keep s.heap h' → h'.objs.size = s.heap.objs.size + 1 → h'.get? s.heap.objs.size = some (lstO #[] c') →
      codeAny (model prog w) A.in1 (.builtin "list.extend.loop" ⟨[.ref s.heap.objs.size, .ref I, .none], []⟩) (fun r s₂ => r = .ok (.ret .none) ∧ Q (.ref s.heap.objs.size) s₂) { s with heap := h' }) :
    wpAny (model prog w) A (call (.type "list") [.ref I]) Q E s := by
  have hI : I < s.heap.objs.size := by obtain ⟨o, _, _, ho, _⟩ := hg; exact Heap.lt_size ho
  refine callType_codes (Q₁ := fun obj s₁ => obj = .ref s.heap.objs.size ∧ s₁ = { s with heap := s.heap.push { cls := .type "list", data := .seq #[] } }) F.called_list (F.typeCall_list_1 _) F.entry_list_init
    (code_list_new _ ⟨rfl, rfl⟩) fun obj s₁ h₁ => ?_
  obtain ⟨rfl, rfl⟩ := h₁
  have hS : (s.heap.push { cls := .type "list", data := .seq #[] }).get? s.heap.objs.size = some { cls := .type "list", data := .seq #[] } := Heap.get?_push_size _ rfl
  have hg' : (s.heap.push { cls := .type "list", data := .seq #[] }).IsGen I g := by
    obtain ⟨o, nm, qn, ho, r⟩ := hg
    exact ⟨o, nm, qn, Heap.get?_push_of_some _ ho, r⟩
  refine ⟨⟨_, hS, rfl⟩, F.args_list_init_2 _ _, list_init_gen (s := { s with heap := s.heap.push { cls := .type "list", data := .seq #[] } }) hg' (Nat.ne_of_gt hI) hS fun h' c' hk hz hS' => ?_⟩
  refine codeAny_mono (h h' c' (fun b o e => hk b o (Nat.ne_of_lt (Heap.lt_size e)) (Heap.get?_push_of_some _ e)) (hz.trans (Heap.size_push _ _)) hS') fun r s₂ hr => ?_
  obtain ⟨rfl, hq⟩ := hr
  exact ⟨rfl, hq⟩
end
end
section
theorem PairsAt.snoc {news : List (Addr × Obj)} {T : Addr} {p : Nat} {u : Str} {t t' : Tok} (h : (T, tupO [.int (p : Nat) t, .str u t']) ∈ news) : ∀ {vs : List Value} {ps : List (Nat × Str)}, PairsAt news vs ps → PairsAt news (vs ++ [.ref T]) (ps ++ [(p, u)])
  | _, _, .nil => .cons h .nil
  | _, _, .cons m r => .cons m (r.snoc h)
/-- `list(..)` of `_iter_escaped_chars`'s generator -/
theorem list_esc {w : World} {A : Around} {E : Value → Shared → Prop} {s : Shared} {Q : Value → Shared → Prop} {h₀ : Heap} {L : Addr} {m : Str → Option Value} {news : List (Addr × Obj)} {a C : Addr} {g : Nat} {gs : GenState} {oC oG : Obj} {all : List (Nat × Str)}
    (hA : A.handled = none) (hroom : A.depth + 3 < recursionLimit) (G : Gr w h₀) (F : Fr h₀ L s.heap m) (N : News h₀ L s.heap news) (hnews : ∀ q ∈ news, q.1 ≠ a ∧ q.1 ≠ C)
    (hg : s.heap.IsGen a g) (hgs : s.gens[g]? = some gs) (hb : Bare s.gens) (ha : s.heap.get? a = some oG) (hC : s.heap.get? C = some oC) (ha0 : h₀.get? a = none) (haL : a ≠ L) (hC0 : h₀.get? C = none) (hCL : C ≠ L) (haC : a ≠ C)
    (hal : all.length ≤ 1000)
    (fresh : ∀ A' (s'' : Shared), A'.handled = none → Keep h₀ s''.heap → s''.heap.get? C = some oC → EscGo w A' C (s''.heap.objs.size + 1) s''.heap.objs.size h₀ all all.length gs s'')
    (hQ : ∀ S h' g' tk vt e tps, Fr h₀ L h' m → News h₀ L h' ((S, W.listOf vt.toArray e) :: (tps ++ news)) → PairsAt tps vt all → (∀ q ∈ news, q.1 ≠ S ∧ ∀ p ∈ tps, p.1 ≠ q.1) → Bare g' → Q (.ref S) { s with heap := h', gens := g', toks := tk }) :
    wpAny (model prg w) A (call (.type "list") [.ref a]) Q E s := by
  have hLs : L < s.heap.objs.size := F.ns.lt
  have has : a < s.heap.objs.size := Heap.lt_size ha
  have hCs : C < s.heap.objs.size := Heap.lt_size hC
  have h0s : h₀.objs.size ≤ s.heap.objs.size := Nat.le_of_lt (Nat.lt_of_le_of_lt F.above hLs)
  have hn0 : ∀ b, s.heap.objs.size ≤ b → h₀.get? b = none := fun b hb => by
    cases e : h₀.get? b with
    | none => rfl
    | some o => exact absurd (Heap.lt_size e) (Nat.not_lt.mpr (Nat.le_trans h0s hb))
  refine call_list_ofgen hg fun h1 c1 hk1 hz1 hS1 => ?_
  generalize hS : s.heap.objs.size = S at *
  -- the start of the loop: S stands at S, the generator's own will lie at h1.objs.size and above
  have hfp0 : ∀ b, b ∈ [C, h1.objs.size + 1, h1.objs.size] → h₀.get? b = none := fun b hb => by
    simp only [List.mem_cons, List.not_mem_nil, or_false] at hb
    rcases hb with rfl | rfl | rfl
    · exact hC0
    · exact hn0 _ (by rw [hz1]; exact Nat.le_succ_of_le (Nat.le_succ _))
    · exact hn0 _ (by rw [hz1]; exact Nat.le_succ _)
  have hfpL : ∀ b, b ∈ [C, h1.objs.size + 1, h1.objs.size] → b ≠ L := fun b hb => by
    simp only [List.mem_cons, List.not_mem_nil, or_false] at hb
    rcases hb with rfl | rfl | rfl
    · exact hCL
    · rw [hz1]; exact Nat.ne_of_gt (Nat.lt_succ_of_lt (Nat.lt_succ_of_lt hLs))
    · rw [hz1]; exact Nat.ne_of_gt (Nat.lt_succ_of_lt hLs)
  have notfp : ∀ b, b < S → b ≠ C → b ∉ [C, h1.objs.size + 1, h1.objs.size] := fun b hb hbC => by
    simp only [List.mem_cons, List.not_mem_nil, or_false, not_or]
    exact ⟨hbC, by rw [hz1]; exact Nat.ne_of_lt (Nat.lt_succ_of_lt (Nat.lt_succ_of_lt hb)), by rw [hz1]; exact Nat.ne_of_lt (Nat.lt_succ_of_lt hb)⟩
  have hfpa : a ∉ [C, h1.objs.size + 1, h1.objs.size] := notfp a has haC
  have hfpS : S ∉ [C, h1.objs.size + 1, h1.objs.size] := by
    simp only [List.mem_cons, List.not_mem_nil, or_false, not_or]
    exact ⟨Nat.ne_of_gt hCs, by rw [hz1]; exact Nat.ne_of_lt (Nat.lt_succ_of_lt (Nat.lt_succ_self _)), by rw [hz1]; exact Nat.ne_of_lt (Nat.lt_succ_self _)⟩
  have hnS : ∀ q ∈ news, q.1 < S := fun q hq => by have := Heap.lt_size (N q hq).1; rw [hS] at this; exact this
  have hSL : S ≠ L := Nat.ne_of_gt hLs
  have hS0 : h₀.get? S = none := hn0 _ (Nat.le_refl _)
  have haS : a ≠ S := Nat.ne_of_lt has
  refine ext_loop (S := S) (fun k s' => ∃ i h gn tk gs, ∃ own tps : List (Addr × Obj), ∃ acc : Array Value, ∃ c : Nat, s' = { s with heap := h, gens := gn, toks := tk } ∧ k = all.length + 1 - i ∧ i ≤ all.length ∧ Bare gn ∧ gn[g]? = some gs ∧ (i = 0 → h = h1) ∧
      (∀ s'' : Shared, (i = 0 → s''.heap = h1) → Keep h₀ s''.heap → (∀ q : Addr × Obj, q ∈ own → s''.heap.get? q.1 = some q.2) → EscGo w A.in1.in1.in1 C (h1.objs.size + 1) h1.objs.size h₀ all (all.length - i) gs s'') ∧
      (∀ q : Addr × Obj, q ∈ own → q.1 ∈ [C, h1.objs.size + 1, h1.objs.size]) ∧ Fr h₀ L h m ∧ News h₀ L h ((S, lstO acc c) :: (tps ++ (news ++ (a, oG) :: own))) ∧ PairsAt tps acc.toList (all.take i) ∧ acc.size = i ∧
      (∀ p ∈ tps, p.1 ∉ [C, h1.objs.size + 1, h1.objs.size] ∧ p.1 ≠ S ∧ p.1 ≠ a ∧ ∀ q ∈ news, p.1 ≠ q.1)) ?_ (all.length + 1) _
    ⟨0, h1, s.gens, s.toks, gs, [(C, oC)], [], #[], c1, rfl, rfl, Nat.zero_le _, hb, hgs, fun _ => rfl, ?_, ?_, F.grownK hk1, ?_, .nil, rfl, fun p hp => by cases hp⟩
  rotate_left
  · intro s'' he hk hown
    have := fresh A.in1.in1.in1 s'' hA hk (hown (C, oC) (.head _))
    rw [he rfl] at this
    exact this
  · intro q hq; rw [List.mem_singleton] at hq; subst hq; exact .head _
  · intro q hq
    rcases List.mem_cons.mp hq with rfl | hq
    · exact ⟨hS1, hSL, hS0⟩
    rcases List.mem_append.mp hq with hq | hq
    · cases hq
    rcases List.mem_append.mp hq with hq | hq
    · exact (N.grown hk1) q hq
    · simp only [List.mem_cons, List.not_mem_nil, or_false] at hq
      rcases hq with rfl | rfl
      · exact ⟨hk1 _ _ ha, haL, ha0⟩
      · exact ⟨hk1 _ _ hC, hCL, hC0⟩
  rintro kk s' ⟨i, h, gn, tk, gs, own, tps, acc, c, rfl, rfl, hi, hbn, hgn, hz, hgo, hown, F2, N2, hps, hacc, htp⟩
  have hNa : h.get? a = some oG := N2.get (.tail _ (List.mem_append_right _ (List.mem_append_right _ (.head _))))
  have hNS : h.get? S = some (lstO acc c) := N2.get (.head _)
  have hGn : h.IsGen a g := by
    obtain ⟨o, nm, qn, ho, r⟩ := hg
    rw [ha] at ho; cases ho
    exact ⟨oG, nm, qn, hNa, r⟩
  have up : ∀ h', (∀ b o, b ∉ [C, h1.objs.size + 1, h1.objs.size] → h.get? b = some o → h'.get? b = some o) → Fr h₀ L h' m ∧ News h₀ L h' ((S, lstO acc c) :: (tps ++ (news ++ [(a, oG)]))) := fun h' hk => by
    refine ⟨⟨F2.ns.at' fun o e => hk L o (fun q => hfpL _ q rfl) e, fun b o e => hk b o (fun q => ?_) (F2.keep b o e), F2.above⟩, fun q hq => ?_⟩
    · rw [hfp0 b q] at e; cases e
    · have hin : q ∈ (S, lstO acc c) :: (tps ++ (news ++ (a, oG) :: own)) ∧ q.1 ∉ [C, h1.objs.size + 1, h1.objs.size] := by
        rcases List.mem_cons.mp hq with rfl | hq
        · exact ⟨.head _, hfpS⟩
        rcases List.mem_append.mp hq with hq | hq
        · exact ⟨.tail _ (List.mem_append_left _ hq), (htp q hq).1⟩
        rcases List.mem_append.mp hq with hq | hq
        · exact ⟨.tail _ (List.mem_append_right _ (List.mem_append_left _ hq)), notfp _ (hnS q hq) (hnews q hq).2⟩
        · rw [List.mem_singleton] at hq; subst hq
          exact ⟨.tail _ (List.mem_append_right _ (List.mem_append_right _ (.head _))), hfpa⟩
      have z := N2 q hin.1
      exact ⟨hk _ _ hin.2 z.1, z.2⟩
  refine next_esc (j := i) hA (G.keep F2.keep).lim (by show A.depth < _; omega) hGn hgn hi F2.keep hfp0 (hgo _ hz F2.keep fun q hq => N2.get (.tail _ (List.mem_append_right _ (List.mem_append_right _ (.tail _ hq))))) ?_ ?_
  · intro hlt T p ch t u own' h' tk' gs' hall hT hT0 hTn hkp hown' hbare hres
    obtain ⟨F', N'⟩ := up h' hkp
    have hTS : T ≠ S := fun e => by have h9 := hT0; dsimp only at h9; rw [e, hNS] at h9; cases h9
    have hTa : T ≠ a := fun e => by have h9 := hT0; dsimp only at h9; rw [e, hNa] at h9; cases h9
    have hTnews : ∀ q ∈ news, T ≠ q.1 := fun q hq e => by
      have h9 := hT0; dsimp only at h9
      rw [e, N2.get (.tail _ (List.mem_append_right _ (List.mem_append_left _ hq)))] at h9; cases h9
    have hTL : T ≠ L := fun e => by
      obtain ⟨o, _, _, ho, _⟩ := F2.ns
      have h9 := hT0; dsimp only at h9; rw [e, ho] at h9; cases h9
    have hT00 : h₀.get? T = none := by
      cases e : h₀.get? T with
      | none => rfl
      | some o => have h9 := hT0; dsimp only at h9; rw [F2.keep _ _ e] at h9; cases h9
    have hS' : h'.get? S = some (lstO acc c) := N'.get (.head _)
    dsimp only
    refine wpAny_updateSeq hS' rfl ?_ (by rw [hacc, sizeLine_eq]; omega) (by show (acc.push _).size ≤ _; rw [Array.size_push, hacc, sizeLine_eq]; omega)
    have oth : ∀ b o, b ≠ S → h'.get? b = some o → (h'.update S (Obj.mapSeq (·.push (Value.ref T)))).get? b = some o := fun b o hb' e => (Heap.get?_update_other _ _ (Ne.symm hb')).trans e
    have hS2 : (h'.update S (Obj.mapSeq (·.push (Value.ref T)))).get? S = _ := Heap.get?_update_self (Obj.mapSeq (·.push (Value.ref T))) hS' rfl
    refine ⟨all.length + 1 - (i + 1), by omega, i + 1, _, _, tk', gs', own', (T, tupO [.int (p : Nat) t, .str ch u]) :: tps, acc.push (.ref T), (if ((acc.push (Value.ref T)).size == acc.size) = true then c else c + 1), rfl, rfl, hlt, hbn.set hbare, ?_, fun e => absurd e (Nat.succ_ne_zero _), fun s'' _ k q => hres s'' k q, fun q hq => (hown' q hq).1, ?_, ?_, ?_, by rw [Array.size_push, hacc], ?_⟩
    · rw [Array.getElem?_setIfInBounds_self_of_lt]
      exact (Array.getElem?_eq_some_iff.mp hgn).1
    · exact ⟨F'.ns.at' fun o e => oth L o (Ne.symm hSL) e, fun b o e => oth b o (fun q => by rw [q, hS0] at e; cases e) (F'.keep b o e), F'.above⟩
    · intro q hq
      rcases List.mem_cons.mp hq with rfl | hq
      · exact ⟨hS2, hSL, hS0⟩
      rcases List.mem_append.mp hq with hq | hq
      · rcases List.mem_cons.mp hq with rfl | hq
        · exact ⟨oth _ _ hTS hT, hTL, hT00⟩
        · have z := N' q (.tail _ (List.mem_append_left _ hq))
          exact ⟨oth _ _ (htp q hq).2.1 z.1, z.2⟩
      rcases List.mem_append.mp hq with hq | hq
      · have z := N' q (.tail _ (List.mem_append_right _ (List.mem_append_left _ hq)))
        exact ⟨oth _ _ (Nat.ne_of_lt (hnS q hq)) z.1, z.2⟩
      rcases List.mem_cons.mp hq with rfl | hq
      · have z := N' (a, oG) (.tail _ (List.mem_append_right _ (List.mem_append_right _ (.head _))))
        exact ⟨oth _ _ haS z.1, z.2⟩
      · exact ⟨oth _ _ (fun e => hfpS (e ▸ (hown' q hq).1)) (hown' q hq).2, hfpL _ (hown' q hq).1, hfp0 _ (hown' q hq).1⟩
    · rw [Array.toList_push]
      have e : all.take (i + 1) = all.take i ++ [(p, ch)] := by rw [List.take_add_one, hall]; rfl
      rw [e]
      exact (hps.mono fun q hq => .tail _ hq).snoc (.head _)
    · intro q hq
      rcases List.mem_cons.mp hq with rfl | hq
      · exact ⟨hTn, hTS, hTa, hTnews⟩
      · exact htp q hq
  · intro hin h' tk' hkp
    obtain ⟨F', N'⟩ := up h' hkp
    subst hin
    rw [List.take_length] at hps
    refine ⟨rfl, hQ S h' _ tk' acc.toList c tps F' (fun q hq => N' q ?_) hps (fun q hq => ⟨Nat.ne_of_lt (hnS q hq), fun p hp => (htp p hp).2.2.2 q hq⟩) (hbn.set rfl)⟩
    rcases List.mem_cons.mp hq with rfl | hq
    · rw [Array.toArray_toList]; exact .head _
    rcases List.mem_append.mp hq with hq | hq
    · exact .tail _ (List.mem_append_left _ hq)
    · exact .tail _ (List.mem_append_right _ (List.mem_append_left _ hq))
end
section
noncomputable def pairD (p : Nat × Str) : PyData := .tuple [.int (p.1 : Nat), .str p.2]
theorem pairs_reads {h₀ h : Heap} {L : Addr} {news : List (Addr × Obj)} (N : News h₀ L h news) : ∀ {vs : List Value} {ps : List (Nat × Str)}, PairsAt news vs ps → ReadsAll h vs (ps.map pairD) []
  | _, _, .nil => .nil
  | _, _, .cons (p := p) (u := u) (t := t) (t' := t') hm r => by
    have h1 : Reads h (.ref _) (pairD (p, u)) [] := Reads.tuple (N.get hm) rfl rfl (ReadsAll.cons (Reads.int (h := h) (p : Int) t) (ReadsAll.cons (Reads.str (h := h) u t') .nil))
    have := ReadsAll.cons h1 (pairs_reads N r)
    simpa using this
theorem pairs_eqv : ∀ ps : List (Nat × Str), PyData.eqvAll (ps.map pairD) (ps.map pairD) = true
  | [] => by simp [PyData.eqvAll]
  | p :: ps => by simp [PyData.eqvAll, pairD, PyData.eqv, pairs_eqv ps]
theorem pairs_lay : ∀ ps : List (Nat × Str), (∀ p ∈ ps, PyData.strOk p.2 = true) → PyData.canLayAll0 (ps.map pairD) = true
  | [], _ => by simp [PyData.canLayAll0]
  | p :: ps, h => by
    have h1 := h p (.head _)
    have h2 := pairs_lay ps fun q hq => h q (.tail _ hq)
    simp [PyData.canLayAll0, pairD, PyData.canLay0, h1, h2]
theorem pairs_depth : ∀ ps : List (Nat × Str), PyData.depthAll (ps.map pairD) ≤ 8
  | [] => by simp [PyData.depthAll]
  | p :: ps => by
    have h2 := pairs_depth ps
    simp only [List.map_cons, PyData.depthAll, pairD, PyData.depth]
    simp [PyData.depthAll, PyData.depth]
    omega
theorem pairs_shaped (ps : List (Nat × Str)) (h : ∀ p ∈ ps, PyData.strOk p.2 = true) : PySem.SeqAt.shaped (.list (ps.map pairD)) = true := by
  unfold PySem.SeqAt.shaped
  rw [Bool.and_eq_true]
  refine ⟨by simp only [PyData.canLay0]; exact pairs_lay ps h, decide_eq_true ?_⟩
  have := pairs_depth ps
  simp only [PyData.depth]; omega
theorem due_snd : ∀ (us : List Str) (i : Nat), (dueL i us).map (·.2) = us
  | [], _ => rfl
  | u :: us, i => by simp only [dueL, List.map_cons]; rw [due_snd us]
theorem due_mem {us : List Str} {i : Nat} {p : Nat × Str} (h : p ∈ dueL i us) : p.2 ∈ us := by
  have := List.mem_map_of_mem (f := (·.2)) h
  rw [due_snd] at this; exact this
theorem quo_ascii {cs : List Nat} (h : QuoC cs) : ∀ c ∈ cs, c < 128 := by
  intro c hc; cases h <;> simp at hc <;> omega
theorem quo_len {u : Str} (h : QuoC u.cps.toList) : u.length ≤ 5 := by
  rw [len_chars]; generalize u.cps.toList = cs at h; cases h <;> simp
theorem piece_len {p : Str} (h : UnitC p.cps.toList ∨ QuoC p.cps.toList) : p.length ≤ 5 := by
  rcases h with h | h
  · have := (unit_len h).1; omega
  · exact quo_len h
theorem piece_ascii {p : Str} (h : UnitC p.cps.toList ∨ QuoC p.cps.toList) : ∀ c ∈ p.cps.toList, c < 128 := by
  rcases h with h | h
  · intro c hc
    exact unit_ascii (us := [p]) (fun u hu => by rw [List.mem_singleton] at hu; subst hu; exact h) c (by simpa using hc)
  · exact quo_ascii h
theorem flat5 : ∀ us : List Str, (∀ u ∈ us, u.length ≤ 5) → (us.flatMap (·.cps.toList)).length ≤ 5 * us.length
  | [], _ => by simp
  | u :: r, h => by
    have h1 := flat5 r fun v hv => h v (.tail _ hv)
    have h2 := h u (.head _)
    rw [len_chars] at h2
    rw [List.flatMap_cons, List.length_append, List.length_cons]; omega
/-- the joined pieces -/
theorem joined {pcs : List Str} (h : ∀ p ∈ pcs, UnitC p.cps.toList ∨ QuoC p.cps.toList) (hl : pcs.length ≤ 20) :
    (Txt.join (Str.ofString "") pcs).cps.all (· < 128) = true ∧ (Txt.join (Str.ofString "") pcs).length ≤ 200 ∧ (stripS (Txt.join (Str.ofString "") pcs)).cps.all (· < 128) = true ∧
    escL (stripS (Txt.join (Str.ofString "") pcs)).cps.toList 0 false = dueL 0 (pcs.filter isU) := by
  have hu : ∀ u ∈ pcs.filter isU, UnitC u.cps.toList := fun u hu => by
    obtain ⟨h1, h2⟩ := List.mem_filter.mp hu
    rcases h u h1 with h3 | h3
    · exact h3
    · rw [quo_isU h3] at h2; cases h2
  have hx := chars_join pcs
  have hs := strip_chars (Txt.join (Str.ofString "") pcs) pcs h hx
  refine ⟨ascii_of (by
    rw [hx]; intro c hc
    obtain ⟨p, hp, hc⟩ := List.mem_flatMap.mp hc
    exact piece_ascii (h p hp) c hc), ?_, ascii_of (by rw [hs]; exact unit_ascii hu), by rw [hs, escL_units _ 0 hu]⟩
  rw [len_chars, hx]
  have := flat5 pcs fun p hp => piece_len (h p hp)
  omega
section
variable {w : World} {dp un : Nat} {fr : Option (List Env)} {gd : Option (List Code)} {E : Value → Shared → Prop} {s : Shared} {Q : Flow → Shared → Prop} {h₀ : Heap} {L : Addr} {m : Str → Option Value}
set_option maxHeartbeats 4000000 in
theorem law_C (G : Gr w h₀) (hroom : dp + 40 < recursionLimit) (hun : un + 200 < cLine) (htk : 2 ≤ s.toks) (hb : Bare s.gens) (F : Fr h₀ L s.heap m) {ls lu lp ld : Addr} {e3 e4 e5 : Nat} {ou olv osh : Obj} {vs vu vp vd : List Value} {pcs us : List Str} {ns : List Int} {dps : List (Addr × Obj)}
    (N : News h₀ L s.heap ((L + 1 + 1, olv) :: (L + 1 + 1 + 1, osh) :: (L + 1, ou) :: (lu, W.listOf vu.toArray e5) :: (lp, W.listOf vp.toArray e3) :: (ld, W.listOf vd.toArray e4) :: dps))
    (hou : ou.data = .cell (some (.ref lu))) (hlv : olv.data = .cell none) (hsh : osh.data = .cell none)
    (hls : h₀.IsList ls vs.toArray) (hns : IntsAre vs ns) (hnl : ns.length ≤ 63)
    (hpc : ∀ p ∈ pcs, UnitC p.cps.toList ∨ QuoC p.cps.toList) (hpl : pcs.length ≤ 20) (hvp : StrsAre vp pcs) (hus : us = pcs.filter isU) (hvu : StrsAre vu us) (hds : PairsAt dps vd (dueL 0 us))
    (hlast : ∃ j, j < us.length ∧ levelsL (us.drop j) ≠ [])
    (m1 : m (Str.ofString "script") = some (.ref ls)) (m2 : m (Str.ofString "pieces") = some (.ref lp)) (m3 : m (Str.ofString "due") = some (.ref ld))
    (hQ : ∀ h' g' tk, Keep h₀ h' → Bare g' → Q (.ret (.bool true)) { s with heap := h', gens := g', toks := tk }) :
    wpAny (model prg w) (lawAr dp un fr gd L) (execs (lawBody.drop 5) (lawEnv L)) Q E s := by
  obtain ⟨hx1, hx2, hx3, hx4⟩ := joined hpc hpl
  rw [← hus] at hx4
  have huc : ∀ u ∈ us, UnitC u.cps.toList := fun u hu => by
    rw [hus] at hu
    obtain ⟨h1, h2⟩ := List.mem_filter.mp hu
    rcases hpc u h1 with h3 | h3
    · exact h3
    · rw [quo_isU h3] at h2; cases h2
  have husl : us.length ≤ 20 := by rw [hus]; exact Nat.le_trans (List.length_filter_le _ _) hpl
  have hdl : (dueL 0 us).length ≤ 20 := by
    have := congrArg List.length (due_snd us 0)
    rw [List.length_map] at this; omega
  have hjw : (pcs.map (·.length)).sum + pcs.length ≤ 1048576 := strip_wt (by omega) fun y hy => Nat.le_trans (piece_len (hpc y hy)) (by decide)
  refine segN 5 2 7 (by rfl) ?_
  w_top on
  have G0 := G
  obtain ⟨KX, mean, mg, mb, T⟩ := G
  have hun2 : (lawAr dp un fr gd L).units + 100 < cLine := by simp only [units_deeper]; omega
  with_unfolding_all refine execs_t 2 htk ?_
  iterate 20 walk1
  rename Fr _ _ _ _ => F
  rename News _ _ _ _ => N
  rename Gr _ _ => G0
  with_unfolding_all refine join_listW (items := vp.toArray) (N.isList (.tail _ (.tail _ (.tail _ (.tail _ (.head _)))))) hvp (by decide) hjw (fun t8 k8 => ?_)
  walk1
  refine ⟨G0.keep F.keep, ?_⟩
  with_unfolding_all refine strip_N rfl G0 F N ?hr hb hx1 hx2 ?_
  case hr => simp only [depth_deeper]; omega
  intro t9 h9 g9 tk9 F9 N9 hb9
  clear F N
  walk1
  rename Fr _ _ _ _ => F9
  rename News _ _ _ _ => N9
  rename Gr _ _ => G0
  refine ⟨G0.keep F9.keep, ?_⟩
  with_unfolding_all refine wpAny_call (esc_call (G0.keep F9.keep) ?hr2 hx3 fun h10 tk10 gs oC hkp hgen hC hbare fresh => ?_)
  case hr2 => simp only [depth_deeper]; omega
  dsimp only
  rw [hx4] at fresh
  have F10 := F9.grownK hkp
  have N10 := N9.grown hkp
  have hnlt : ∀ q ∈ newsOf N9, q.1 < h9.objs.size := fun q hq => Heap.lt_size (N9 q hq).1
  have hLs : L < h9.objs.size := F9.ns.lt
  have h0s : h₀.objs.size ≤ h9.objs.size := Nat.le_of_lt (Nat.lt_of_le_of_lt F9.above hLs)
  walk1
  rename Gr _ _ => G0
  dsimp only at hkp hgen hC fresh
  obtain ⟨oG, nm, qn, hG, hr⟩ := hgen
  refine list_esc (a := h9.objs.size + 1) (C := h9.objs.size) (g := g9.size) (gs := gs) (oC := oC) (oG := oG) (all := dueL 0 us) rfl ?hr3 G0 F10 N10 (fun q hq => ⟨Nat.ne_of_lt (Nat.lt_succ_of_lt (hnlt q hq)), Nat.ne_of_lt (hnlt q hq)⟩) ⟨oG, nm, qn, hG, hr⟩ (by rw [Array.getElem?_push_size]) (hb9.push hbare) hG hC
    (Heap.get?_none_of_le (Nat.le_succ_of_le h0s)) (Nat.ne_of_gt (Nat.lt_succ_of_lt hLs)) (Heap.get?_none_of_le h0s) (Nat.ne_of_gt hLs) (Nat.succ_ne_self _) (by omega) (fun A' s'' hA' hk hC' => fresh A' h₀ s'' G0 hA' hk h0s hC') ?_
  case hr3 => simp only [depth_deeper]; omega
  intro S11 h11 g11 tk11 vt11 e11 tps F11 N11 hps11 hne11 hb11
  clear hnlt
  clear F9 N9 F10 N10 fresh
  iterate 2 walk1
  rename_i htk11
  dsimp only at htk11 ⊢
  with_unfolding_all refine execs_t 2 htk11 ?_
  iterate 4 walk1
  rename Fr _ _ _ _ => F12
  rename News _ _ _ _ => N12
  rename Gr _ _ => G0
  have hst : ∀ p ∈ dueL 0 us, PyData.strOk p.2 = true := fun p hp => ok_ascii (ascii_of fun c hc => unit_ascii (us := us) huc c (List.mem_flatMap.mpr ⟨_, due_mem hp, hc⟩))
  have hsd := pairs_shaped (dueL 0 us) hst
  have r1 := pairs_reads N12 (hps11.mono fun q hq => .tail _ (List.mem_append_left _ hq))
  have r2 := pairs_reads N12 (hds.mono fun q hq => .tail _ (List.mem_append_right _ (.tail _ (.tail _ (.tail _ (.tail _ (.tail _ (.tail _ hq))))))))
  with_unfolding_all refine PyProof.Rows.ne_dataH (Reads.list (vs := vt11.toArray) (N12.get (.head _)) rfl rfl (by simpa using r1)) (Reads.list (vs := vd.toArray) (N12.get (.tail _ (List.mem_append_right _ (.tail _ (.tail _ (.tail _ (.tail _ (.tail _ (.head _))))))))) rfl rfl (by simpa using r2)) hsd hsd (by omega) ?_
  have ev : PyData.eqv (.list ((dueL 0 us).map pairD)) (.list ((dueL 0 us).map pairD)) = true := by simp only [PyData.eqv]; exact pairs_eqv _
  rw [ev]
  clear r1 r2
  iterate 5 walk1
  rename_i htk12
  dsimp only at htk12 ⊢
  rename Fr _ _ _ _ => F12
  rename News _ _ _ _ => N12
  rename Gr _ _ => G0
  with_unfolding_all refine wpAny_execs_nil ?_
  show wpAny _ _ _ _ _ _
  exact law_D (ls := ls) (lu := lu) (ltd := S11) (ou := ou) (olv := olv) (osh := osh) (vt := vt11) (vs := vs) (vu := vu) (us := us) (ns := ns) (ps := dueL 0 us) (tps := tps) G0 hroom hun htk12 hb11 F12 (news_of (N12 _ (.tail _ (List.mem_append_right _ (.head _)))) <| news_of (N12 _ (.tail _ (List.mem_append_right _ (.tail _ (.head _))))) <| news_of (N12 _ (.head _)) <| news_of (N12 _ (.tail _ (List.mem_append_right _ (.tail _ (.tail _ (.head _)))))) <| news_of (N12 _ (.tail _ (List.mem_append_right _ (.tail _ (.tail _ (.tail _ (.head _))))))) <| fun q hq => N12 _ (.tail _ (List.mem_append_left _ hq)))
    (fun p hp => by
      rcases List.mem_cons.mp hp with rfl | hp
      · exact ⟨fun e => (hne11 _ (.head _)).1 e.symm, fun e => (hne11 _ (.tail _ (.head _))).1 e.symm⟩
      · exact ⟨(hne11 _ (.head _)).2 p hp, (hne11 _ (.tail _ (.head _))).2 p hp⟩)
    hou hlv hsh hls hns hnl hps11 hdl (due_snd us 0) hvu huc hlast m1 rfl hQ
end
end
section
local macro_rules | `(tactic| walk_at "loadName") => `(tactic| ((rename Fr _ _ _ _ => F'); (with_unfolding_all refine wpAny_loadName_local rfl rfl (Fr.ns F') (by assumption) ?_); (try dsimp only)))
noncomputable def tlU : List Str → Nat
  | [] => 0
  | u :: us => u.length + tlU us
theorem due_snoc (u : Str) : ∀ (us : List Str) (i : Nat), dueL i (us ++ [u]) = dueL i us ++ [(i + tlU us + u.length - 1, u)]
  | [], i => by simp [dueL, tlU]
  | v :: us, i => by
    simp only [List.cons_append, dueL, tlU]
    rw [due_snoc u us, (by omega : i + v.length + tlU us + u.length - 1 = i + (v.length + tlU us) + u.length - 1)]
theorem tl_snoc (u : Str) : ∀ us : List Str, tlU (us ++ [u]) = tlU us + u.length
  | [] => by simp [tlU]
  | v :: us => by simp only [List.cons_append, tlU]; rw [tl_snoc u us]; omega
structure DuD where
  mm : Str → Option Value
  vd : List Value
  ep : Nat
  dps : List (Addr × Obj)
  pl : Int
section
variable {w : World} {dp un : Nat} {fr : Option (List Env)} {gd : Option (List Code)} {E : Value → Shared → Prop} {s : Shared} {Q : Flow → Shared → Prop} {h₀ : Heap} {L : Addr} {m : Str → Option Value}
set_option maxHeartbeats 4000000 in
theorem law_B (G : Gr w h₀) (hroom : dp + 40 < recursionLimit) (hun : un + 200 < cLine) (htk : 2 ≤ s.toks) (hb : Bare s.gens) (F : Fr h₀ L s.heap m) {ls lu lp : Addr} {e3 e5 : Nat} {ou olv osh : Obj} {vs vu vp : List Value} {pcs us : List Str} {ns : List Int}
    (N : News h₀ L s.heap [(L + 1 + 1, olv), (L + 1 + 1 + 1, osh), (L + 1, ou), (lu, W.listOf vu.toArray e5), (lp, W.listOf vp.toArray e3)])
    (hou : ou.data = .cell (some (.ref lu))) (hlv : olv.data = .cell none) (hsh : osh.data = .cell none)
    (hls : h₀.IsList ls vs.toArray) (hns : IntsAre vs ns) (hnl : ns.length ≤ 63)
    (hpc : ∀ p ∈ pcs, UnitC p.cps.toList ∨ QuoC p.cps.toList) (hpl : pcs.length ≤ 20) (hvp : StrsAre vp pcs) (hus : us = pcs.filter isU) (hvu : StrsAre vu us)
    (hlast : ∃ j, j < us.length ∧ levelsL (us.drop j) ≠ [])
    (m1 : m (Str.ofString "script") = some (.ref ls)) (m2 : m (Str.ofString "pieces") = some (.ref lp))
    (hQ : ∀ h' g' tk, Keep h₀ h' → Bare g' → Q (.ret (.bool true)) { s with heap := h', gens := g', toks := tk }) :
    wpAny (model prg w) (lawAr dp un fr gd L) (execs (lawBody.drop 2) (lawEnv L)) Q E s := by
  have huc : ∀ u ∈ us, UnitC u.cps.toList := fun u hu => by
    rw [hus] at hu
    obtain ⟨h1, h2⟩ := List.mem_filter.mp hu
    rcases hpc u h1 with h3 | h3
    · exact h3
    · rw [quo_isU h3] at h2; cases h2
  have husl : us.length ≤ 20 := by rw [hus]; exact Nat.le_trans (List.length_filter_le _ _) hpl
  refine segN 2 3 5 (by rfl) ?_
  w_top on
  have G0 := G
  obtain ⟨KX, mean, mg, mb, T⟩ := G
  with_unfolding_all refine execs_t 2 htk ?_
  iterate 6 walk1
  rename_i htk2
  dsimp only at htk2 ⊢
  with_unfolding_all refine execs_t 2 htk2 ?_
  iterate 6 walk1
  rename_i htk3
  dsimp only at htk3 ⊢
  rename_i ld h1 l1 h2 h3 F3 N3
  obtain ⟨l1a, l1b, l1c, l1d, l1e⟩ := l1
  obtain ⟨mm3, q1, q2, ⟨q3t, q3⟩, q4, F3⟩ : ∃ mm3 : Str → Option Value, mm3 (Str.ofString "script") = some (.ref ls) ∧ mm3 (Str.ofString "pieces") = some (.ref lp) ∧ (∃ t, mm3 (Str.ofString "place") = some (.int (-1) t)) ∧ mm3 (Str.ofString "due") = some (.ref ld) ∧ Fr h₀ L h3 mm3 := ⟨mapOf F3, m1, m2, ⟨_, rfl⟩, rfl, F3⟩
  with_unfolding_all refine execs_t 2 htk3 ?_
  with_unfolding_all refine wpAny_For ?_
  have FN := And.intro F3 N3
  walk1
  obtain ⟨F3, N3⟩ := FN
  rename Gr _ _ => G0
  dsimp only
  have hl3 : h3.IsList lu vu.toArray := N3.isList (.tail _ (.tail _ (.tail _ (.tail _ (.head _)))))
  refine wpAny_pyIter_list hl3 ?_
  dsimp only
  have hIt0 : h₀.get? h3.objs.size = none := fresh_size (s := ⟨h3, s.gens, s.drawn, s.toks, s.os⟩) F3
  have hItL : h3.objs.size ≠ L := Nat.ne_of_gt F3.ns.lt
  have hlt3 : ∀ q ∈ newsOf N3, q.1 < h3.objs.size := fun q hq => Heap.lt_size (N3 q hq).1
  dsimp only [newsOf] at hlt3
  refine loop_walks (h₀ := h₀) (L := L) (Walks.list rfl h3.objs.size lu (Nat.ne_of_lt (hlt3 _ (.tail _ (.tail _ (.tail _ (.tail _ (.head _))))))) vu.toArray) (D := DuD)
    (fun _ d => d.mm) (fun _ d => (ld, W.listOf d.vd.toArray d.ep) :: (L + 1 + 1, olv) :: (L + 1 + 1 + 1, osh) :: (L + 1, ou) :: (lu, W.listOf vu.toArray e5) :: (lp, W.listOf vp.toArray e3) :: d.dps)
    (fun i d => d.mm (Str.ofString "script") = some (.ref ls) ∧ d.mm (Str.ofString "pieces") = some (.ref lp) ∧ (∃ t, d.mm (Str.ofString "place") = some (.int d.pl t)) ∧ d.mm (Str.ofString "due") = some (.ref ld) ∧
      PairsAt d.dps d.vd (dueL 0 (us.take i)) ∧ d.vd.length = i ∧ d.pl = (tlU (us.take i) : Int) - 1 ∧ ∀ p ∈ d.dps, p.1 ≠ ld ∧ p.1 ≠ h3.objs.size)
    (fun g => g = s.gens) hIt0 hItL (fun i h st => let ⟨⟨o, ho, _⟩, _⟩ := st; ⟨o, ho⟩) ?hfp ?hne ?turn ?fin ⟨mm3, [], 0, [], -1⟩ ?ok rfl ?hF ?hN ?hst
  case hfp =>
    intro b hb' hbI
    simp only [List.mem_cons, List.not_mem_nil, or_false, hbI, false_or] at hb'
    subst hb'
    exact .inr ⟨W.listOf vu.toArray e5, fun j d _ => .tail _ (.tail _ (.tail _ (.tail _ (.head _))))⟩
  case hne =>
    intro j d hok
    exact mem_all (Nat.ne_of_lt (hlt3 (ld, W.listOf #[] 0) (.head _))) <| mem_all (Nat.ne_of_lt (hlt3 _ (.tail _ (.head _)))) <| mem_all (Nat.ne_of_lt (hlt3 _ (.tail _ (.tail _ (.head _))))) <| mem_all (Nat.ne_of_lt (hlt3 _ (.tail _ (.tail _ (.tail _ (.head _)))))) <| mem_all (Nat.ne_of_lt (hlt3 _ (.tail _ (.tail _ (.tail _ (.tail _ (.head _))))))) <| mem_all (Nat.ne_of_lt (hlt3 _ (.tail _ (.tail _ (.tail _ (.tail _ (.tail _ (.head _)))))))) <| fun q hq => (hok.2.2.2.2.2.2.2 q hq).2
  case ok => exact ⟨q1, q2, ⟨_, q3⟩, q4, .nil, rfl, rfl, fun p hp => by cases hp⟩
  case hF => exact F3.push _
  case hN => exact N3.grown fun _ _ e => Heap.get?_push_of_some _ e
  case hst => exact ⟨⟨_, Heap.get?_push_size _ rfl, rfl, rfl⟩, hl3.push _⟩
  case turn =>
    intro i d v h g tk o hi hP hok hg F N
    obtain ⟨mm, vd, ep, dps, pl⟩ := d
    dsimp only at *
    obtain ⟨p1, p2, ⟨tp, p3⟩, p4, hds, hvdl, hplc, hdp⟩ := hok
    subst hg
    obtain ⟨u, t, hu', rfl⟩ := strsAre_at hvu (by simpa using hP)
    clear hQ hP F3 N3
    refine hide_turn fun Q0 hQ0 => ?_
    walk1
    rename Fr _ _ _ _ => F
    obtain ⟨M, p1, p2, p3, p4, p5, F⟩ : ∃ M : Str → Option Value, M (Str.ofString "script") = some (.ref ls) ∧ M (Str.ofString "pieces") = some (.ref lp) ∧ M (Str.ofString "place") = some (.int pl tp) ∧ M (Str.ofString "due") = some (.ref ld) ∧ M (Str.ofString "unit") = some (.str u t) ∧ Fr h₀ L _ M := ⟨mapOf F, p1, p2, p3, p4, rfl, F⟩
    obtain ⟨hul, hul1⟩ := unit_len (huc u (List.mem_of_getElem? hu'))
    iterate 29 walk1
    rename_i T h9 F9 N9 l9
    obtain ⟨k1, k2, k3⟩ := l9
    clear k3
    have ep1 : pl + (u.length : Int) = ((0 + tlU (us.take i) + u.length - 1 : Nat) : Int) := by omega
    have hIl : @Ne Nat h3.objs.size ld := Nat.ne_of_gt (hlt3 (ld, W.listOf #[] 0) (.head _))
    have hTl : @Ne Nat T ld := Nat.ne_of_gt k2
    have hTI : @Ne Nat T h3.objs.size := Nat.ne_of_gt k1
    with_unfolding_all refine append_K (D := ld) F9 N9 (Upd.tail hTl (Upd.tail hIl (Upd.head ?hup))) ?_ (by rw [List.size_toArray, hvdl, sizeLine_eq]; have := hi; rw [List.size_toArray, strsAre_length hvu] at this; omega)
    case hup =>
      exact mem_all (Nat.ne_of_lt l1a) <| mem_all (Nat.ne_of_lt l1b) <| mem_all (Nat.ne_of_lt l1c) <| mem_all (Nat.ne_of_lt l1d) <| mem_all (Nat.ne_of_lt l1e) <| fun p hp => (hdp p hp).1
    intro h10 F10 N10
    clear F9 N9
    repeat' walk1
    rename Fr _ _ _ _ => F10
    rename News _ _ _ _ => N10
    rw [List.push_toArray] at N10
    obtain ⟨tq, epq, N11⟩ : ∃ tq epq, News h₀ L h10 ((T, tupO [.int (pl + (u.length : Int)) tq, .str u t]) :: (h3.objs.size, o) :: (ld, W.listOf (vd ++ [Value.ref T]).toArray epq) :: (L + 1 + 1, olv) :: (L + 1 + 1 + 1, osh) :: (L + 1, ou) :: (lu, W.listOf vu.toArray e5) :: (lp, W.listOf vp.toArray e3) :: dps) := ⟨_, _, N10⟩
    obtain ⟨tr, F11⟩ : ∃ tr, Fr h₀ L h10 (fun y => if y = Str.ofString "place" then some (.int (pl + (u.length : Int)) tr) else M y) := ⟨_, F10⟩
    have etake : us.take (i + 1) = us.take i ++ [u] := by rw [List.take_add_one, hu']; rfl
    rw [ep1] at N11
    refine hQ0 _ _ ⟨⟨mapOf F11, vd ++ [.ref T], epq, (T, tupO [.int ((0 + tlU (us.take i) + u.length - 1 : Nat) : Int) tq, .str u t]) :: dps, pl + (u.length : Int)⟩, h10, _, _, rfl, ⟨p1, p2, ⟨tr, rfl⟩, p4, ?_, ?_, ?_, ?_⟩, rfl, F11, ?_⟩
    · show PairsAt _ (vd ++ [.ref T]) (dueL 0 (us.take (i + 1)))
      rw [etake, due_snoc]
      exact (hds.mono fun q hq => .tail _ hq).snoc (.head _)
    · show (vd ++ [Value.ref T]).length = i + 1
      rw [List.length_append, hvdl]; rfl
    · show pl + (u.length : Int) = (tlU (us.take (i + 1)) : Int) - 1
      rw [etake, tl_snoc, hplc]; omega
    · exact mem_all ⟨hTl, hTI⟩ hdp
    · exact news_of (N11 _ (.tail _ (.head _))) <| news_of (N11 _ (.tail _ (.tail _ (.head _)))) <| news_of (N11 _ (.tail _ (.tail _ (.tail _ (.head _))))) <| news_of (N11 _ (.tail _ (.tail _ (.tail _ (.tail _ (.head _)))))) <| news_of (N11 _ (.tail _ (.tail _ (.tail _ (.tail _ (.tail _ (.head _))))))) <| news_of (N11 _ (.tail _ (.tail _ (.tail _ (.tail _ (.tail _ (.tail _ (.head _)))))))) <| news_of (N11 _ (.tail _ (.tail _ (.tail _ (.tail _ (.tail _ (.tail _ (.tail _ (.head _))))))))) <| news_of (N11 _ (.head _)) <| fun q hq => N11 _ (.tail _ (.tail _ (.tail _ (.tail _ (.tail _ (.tail _ (.tail _ (.tail _ hq))))))))
  case fin =>
    intro d h g tk hok hg F N
    obtain ⟨mm, vd, ep, dps, pl⟩ := d
    dsimp only at *
    obtain ⟨p1, p2, ⟨tp, p3⟩, p4, hds, hvdl, hplc, hdp⟩ := hok
    subst hg
    have etk : us.take vu.toArray.size = us := by rw [List.size_toArray, strsAre_length hvu, List.take_length]
    rw [etk] at hds
    clear F3 N3
    repeat' walk1
    rename_i htk9
    (try dsimp only at htk9)
    (try dsimp only)
    rename Fr _ _ _ _ => F
    rename News _ _ _ _ => N
    rename Gr _ _ => G0
    with_unfolding_all refine wpAny_execs_nil ?_
    show wpAny _ _ _ _ _ _
    exact law_C (ls := ls) (lu := lu) (lp := lp) (ld := ld) (ou := ou) (olv := olv) (osh := osh) (vs := vs) (vu := vu) (vp := vp) (vd := vd) (pcs := pcs) (us := us) (ns := ns) (dps := dps) G0 hroom hun htk9 hb F (news_of (N _ (.tail _ (.head _))) <| news_of (N _ (.tail _ (.tail _ (.head _)))) <| news_of (N _ (.tail _ (.tail _ (.tail _ (.head _))))) <| news_of (N _ (.tail _ (.tail _ (.tail _ (.tail _ (.head _)))))) <| news_of (N _ (.tail _ (.tail _ (.tail _ (.tail _ (.tail _ (.head _))))))) <| news_of (N _ (.head _)) <| fun q hq => N _ (.tail _ (.tail _ (.tail _ (.tail _ (.tail _ (.tail _ hq)))))))
      hou hlv hsh hls hns hnl hpc hpl hvp hus hvu hds hlast p1 p2 p4 hQ
end
end
section
/-- the pieces of a script -/
noncomputable def pcsOf (ns : List Int) : List Str := (ns.take 6 ++ [0, 8, 2, 1, 9]).map pieceS
theorem ints_at : ∀ {vs : List Value} {ns : List Int}, IntsAre vs ns → ∀ {i : Nat} {v : Value}, vs[i]? = some v → ∃ n t, v = Value.int n t
  | _, _, .nil, _, _, e => by simp at e
  | _, _, .cons n t _, 0, _, e => by simp at e; exact ⟨n, t, e.symm⟩
  | _, _, .cons _ _ r, i + 1, _, e => ints_at r (i := i) (by simpa using e)
noncomputable def pcP (v : Value) : Bool := match v with
  | .str u _ => isU u
  | _ => false
theorem strs_filter {p : Value → Bool} {q : Str → Bool} (h : ∀ n t, p (.str n t) = q n) : ∀ {vs : List Value} {ns : List Str}, StrsAre vs ns → StrsAre (vs.filter p) (ns.filter q)
  | _, _, .nil => .nil
  | _, _, .cons n t r => by
    rw [List.filter_cons, List.filter_cons, h]
    split
    · exact .cons n t (strs_filter h r)
    · exact strs_filter h r
theorem item_isU {u : Str} (h : 1 ≤ u.length) : (Txt.item u 0 != Str.ofString "\"") = isU u := by
  obtain ⟨⟨l⟩⟩ := u
  cases l with
  | nil => simp [Str.length] at h
  | cons c r =>
    have e : Txt.item ⟨⟨c :: r⟩⟩ 0 = ⟨#[c]⟩ := by
      have e1 : (⟨⟨c :: r⟩⟩ : Str) = ⟨(c :: r).toArray⟩ ++ ⟨#[]⟩ := str_ext (by rw [chars_append]; simp)
      rw [e1]; exact item_zero_left c r ⟨#[]⟩
    rw [e, (by decide : Str.ofString "\"" = ⟨#[34]⟩)]
    unfold isU
    by_cases h1 : c = 34
    · subst h1; simp
    · have : (⟨#[c]⟩ : Str) ≠ ⟨#[34]⟩ := fun q => h1 (by have := congrArg Str.cps q; simpa using this)
      simp [h1, this]
theorem pcs_len (ns : List Int) : (pcsOf ns).length ≤ 20 := by
  unfold pcsOf
  rw [List.length_map, List.length_append, List.length_take]
  simp only [List.length_cons, List.length_nil]; omega
theorem pcs_kind (ns : List Int) : ∀ p ∈ pcsOf ns, UnitC p.cps.toList ∨ QuoC p.cps.toList := by
  intro p hp
  obtain ⟨x, _, rfl⟩ := List.mem_map.mp hp
  exact piece_kind x
theorem pcs_last (ns : List Int) : ∃ j, j < ((pcsOf ns).filter isU).length ∧ levelsL (((pcsOf ns).filter isU).drop j) ≠ [] := by
  have e : (pcsOf ns).filter isU = (((ns.take 6 ++ [0, 8, 2, 1]).map pieceS).filter isU) ++ [pieceS 9] := by
    unfold pcsOf
    rw [(by simp : ns.take 6 ++ [0, 8, 2, 1, 9] = (ns.take 6 ++ [0, 8, 2, 1]) ++ [9]), List.map_append, List.filter_append]
    have h9 : isU (pieceS 9) = true := by decide +kernel
    simp [h9]
  rw [e]
  refine ⟨(((ns.take 6 ++ [0, 8, 2, 1]).map pieceS).filter isU).length, by rw [List.length_append]; exact Nat.lt_succ_self _, ?_⟩
  rw [List.drop_left]
  decide +kernel
section
variable {w : World} {dp un : Nat} {fr : Option (List Env)} {gd : Option (List Code)} {E : Value → Shared → Prop} {s : Shared} {Q : Flow → Shared → Prop} {h₀ : Heap} {L : Addr} {m : Str → Option Value}
set_option maxHeartbeats 4000000 in
theorem law_A (G : Gr w h₀) (hroom : dp + 40 < recursionLimit) (hun : un + 200 < cLine) (htk : 2 ≤ s.toks) (hb : Bare s.gens) (F : Fr h₀ L s.heap m) {ls : Addr} {ou olv osh : Obj} {vs : List Value} {ns : List Int}
    (N : News h₀ L s.heap [(L + 1 + 1 + 1, osh), (L + 1 + 1, olv), (L + 1, ou)])
    (hou : ou.data = .cell none) (hlv : olv.data = .cell none) (hsh : osh.data = .cell none)
    (hls : h₀.IsList ls vs.toArray) (hns : IntsAre vs ns) (hnl : ns.length ≤ 63)
    (m1 : m (Str.ofString "script") = some (.ref ls))
    (hQ : ∀ h' g' tk, Keep h₀ h' → Bare g' → Q (.ret (.bool true)) { s with heap := h', gens := g', toks := tk }) :
    wpAny (model prg w) (lawAr dp un fr gd L) (execs (lawBody.drop 0) (lawEnv L)) Q E s := by
  refine segN 0 2 2 (by rfl) ?_
  w_top on
  have G0 := G
  obtain ⟨KX, mean, mg, mb, T⟩ := G
  with_unfolding_all refine execs_t 2 htk ?_
  refine comp_listA (m := m) (cl := []) (h₀ := h₀) (news := newsOf N) (fun v => IntsAre v (ns.take 6 ++ [0, 8, 2, 1, 9])) (fun _ => true) (fun v y => ∃ n t t', v = .int n t ∧ y = .str (pieceS n) t') rfl ?hsz rfl rfl (by decide) rfl (by decide) rfl rfl rfl ?hit ?hq ?hQ2
  case hsz =>
    intro v hv
    have := hv.length
    rw [this, sizeLine_eq, List.length_append, List.length_take]
    simp only [List.length_cons, List.length_nil]; omega
  case hit =>
    repeat' walk1
    rename Fr _ _ _ _ => F9
    rename News _ _ _ _ => N9
    exact ⟨_, _, _, _, by assumption, rfl, rfl, N9.isList (.head _), F9, fun q hq => N9 q (.tail _ (.tail _ (.tail _ hq)))⟩
  case hq =>
    intro vs' h9 hv F9 N9
    dsimp only [newsOf] at N9
    refine ⟨fun C i v s₃ m₃ E' hP F6 hm6 => tests0 rfl, fun C i v s₃ m₃ E' hP hp F6 hm6 => ?_⟩
    have hv2 : ∃ n t, v = Value.int n t := ints_at hv hP
    obtain ⟨n, t, rfl⟩ := hv2
    have G9 : Gr w h9 := (‹Gr w h₀›).keep F9.keep
    clear F9 N9 F N hP
    have N6 : News h9 C s₃.heap [] := News.nil
    iterate 7 walk1
    rename Fr _ _ _ _ => F6
    rename Gr _ _ => G9
    refine ⟨G9.keep F6.keep, ?_⟩
    refine wpAny_call (piece_call (G9.keep F6.keep) ?hr n t fun t' h' tk k => ?_)
    case hr => simp only [depth_deeper]; omega
    show Shut ((∃ n1 t1 t2, Value.int n t = .int n1 t1 ∧ Value.str (pieceS n) t' = .str (pieceS n1) t2) ∧ Keeps s₃ _)
    exact ⟨⟨n, t, t', rfl, rfl⟩, _, _, rfl, k⟩
  case hQ2 =>
    intro vs9 D h9 tk9 ys e9 hv9 F9 N9 ne9 hF
    dsimp only [newsOf] at N9 ne9
    rw [List.filter_eq_self.mpr (fun _ _ => rfl)] at hF
    have hS9 : StrsAre ys.toList (pcsOf ns) := picks_of hv9 hF
    clear F N
    walk1
    rename_i htk9
    dsimp only at htk9 ⊢
    with_unfolding_all refine execs_t 2 htk9 ?_
    rename Gr _ _ => G0
    have N9 : News h₀ L h9 [(D, W.listOf ys e9), (L + 1 + 1 + 1, osh), (L + 1 + 1, olv), (L + 1, ou)] := N9
    have F9 : Fr h₀ L h9 _ := F9
    with_unfolding_all refine wpAny_Assign_Name ?_ (by rfl)
    refine wpAny_toks (n := 2) htk9 ?_
    refine comp_listE (cl := []) (h₀ := h₀) (L := L) (m := mapOf F9) (news := newsOf N9) (fun v => v = ys.toList) pcP (fun v y => y = v) rfl ?hsz2 rfl (by decide) rfl (by decide) rfl ?hit2 ?hq3 ?hQ3
    case hsz2 =>
      rintro v rfl
      have h1 := strsAre_length hS9
      have h2 := pcs_len ns
      rw [h1, sizeLine_eq]; omega
    case hit2 =>
      have FN := And.intro F9 N9
      walk1
      exact ⟨_, _, _, _, rfl, rfl, rfl, by rw [Array.toArray_toList]; exact FN.2.isList (.head _), FN.1, FN.2⟩
    case hq3 =>
      rintro vs' h10 rfl F10 N10
      dsimp only [newsOf] at N10
      refine ⟨fun C i v s₃ m₃ E' hP F6 hm6 => ?_, fun C i v s₃ m₃ E' hP hp F6 hm6 => ?_⟩
      · obtain ⟨u, t, hu', rfl⟩ := strsAre_at hS9 hP
        have hk := pcs_kind ns u (List.mem_of_getElem? hu')
        have hul := piece_len hk
        have hul1 : 1 ≤ u.length := by
          rcases hk with hk | hk
          · exact (unit_len hk).2
          · rw [len_chars]; generalize u.cps.toList = cs at hk; cases hk <;> simp
        refine tests1 ?_
        clear F10 N10 F9 N9 hP
        have N6 : News h10 C s₃.heap [] := News.nil
        repeat' walk1
        exact ⟨item_isU hul1, _, _, rfl, fun _ _ e => e⟩
      · clear F10 N10 F9 N9
        walk1
        exact ⟨rfl, _, _, rfl, fun _ _ e => e⟩
    case hQ3 =>
      rintro vs11 D5 h11 tk11 ys11 e11 rfl F11 N11 ne11 hF11
      dsimp only [newsOf] at N11 ne11
      have hS11 : StrsAre ys11.toList ((pcsOf ns).filter isU) := by
        rw [paired_eq hF11]; exact strs_filter (fun _ _ => rfl) hS9
      intro htk11
      have x1 : @Ne Nat D5 (L + 1) := fun e => ne11 _ (.tail _ (.tail _ (.tail _ (.head _)))) e.symm
      have x2 : @Ne Nat D (L + 1) := fun e => ne9 _ (.tail _ (.tail _ (.head _))) e.symm
      have x3 : @Ne Nat (L + 1 + 1 + 1) (L + 1) := Nat.ne_of_gt (Nat.lt_succ_of_lt (Nat.lt_succ_self _))
      have x4 : @Ne Nat (L + 1 + 1) (L + 1) := Nat.ne_of_gt (Nat.lt_succ_self _)
      with_unfolding_all refine storeX_C F11 N11 rfl (UpdF.tail x1 (UpdF.tail x2 (UpdF.tail x3 (UpdF.tail x4 (UpdF.head fun p hp => by cases hp))))) hou ?_ rfl rfl
      intro h12 ou2 F12 N12 hou2
      intro htk12
      (try dsimp only at htk12)
      (try dsimp only)
      with_unfolding_all refine wpAny_execs_nil ?_
      show wpAny _ _ _ _ _ _
      exact law_B (ls := ls) (lu := D5) (lp := D) (ou := ou2) (olv := olv) (osh := osh) (vs := vs) (vu := ys11.toList) (vp := ys.toList) (pcs := pcsOf ns) (us := (pcsOf ns).filter isU) (ns := ns) (e3 := e9) (e5 := e11) G0 hroom hun htk12 hb F12 (news_of (N12 _ (.tail _ (.tail _ (.tail _ (.head _))))) <| news_of (N12 _ (.tail _ (.tail _ (.head _)))) <| news_of (N12 _ (.tail _ (.tail _ (.tail _ (.tail _ (.head _)))))) <| news_of ((by rw [Array.toArray_toList]; exact N12 _ (.head _))) <| news_of ((by rw [Array.toArray_toList]; exact N12 _ (.tail _ (.head _)))) <| News.nil)
        hou2 hlv hsh hls hns hnl (pcs_kind ns) (pcs_len ns) hS9 rfl hS11 (pcs_last ns) m1 rfl hQ
end
end
section
theorem call_cells_t {prog : Program} {w : World} {A : Around} {R : Result → Shared → Prop} {s : Shared} {name : Str} {params : Arguments} {body : List Stmt} {scope : Scope}
    {pm cd doc : Value} {a : Addr} {o : Obj} {args : List Value} {binds : List (Str × Value)} (n : Nat) (hn : n ≤ s.toks)
    (hroom : A.depth < recursionLimit) (ho : s.heap.get? a = some o) (hdata : o.data = .func (Calls.docDef name params body scope pm cd doc)) (hlim : s.heap.NoLimit) (hcd : s.heap.CodeRec cd name)
    (hbind : bindArgs (Calls.docDef name params body scope pm cd doc) ⟨args, []⟩ = pure binds)
    (hkind : ∀ x ∈ binds, scope.names.lookup x.1 = some .local ∨ (scope.names.lookup x.1 = some .cell ∧ ((cellsFrom (s.heap.objs.size + 1) scope.names []).lookup x.1).isSome = true))
    (hnd : ((cellsFrom 0 scope.names []).map (·.1)).Nodup)
    (h : ∀ h₁ tk cells, n ≤ tk → Fr s.heap s.heap.objs.size h₁ (bindL (envOfC name scope s.heap.objs.size a cd).kindOf binds fun _ => none) → News s.heap s.heap.objs.size h₁ cells →
      CellsAre (bindC (envOfC name scope s.heap.objs.size a cd).kindOf binds fun _ => none) (cellsFrom (s.heap.objs.size + 1) scope.names []) cells →
      wpAny (model prog w) (A.deeper (envOfC name scope s.heap.objs.size a cd)) (execs body (envOfC name scope s.heap.objs.size a cd))
        (fun f s' => R (.ok (.ret (match f with | .ret v => v | _ => .none))) s') (fun _ _ => False) { s with heap := h₁, toks := tk })
    (hco : scope.isCoroutine = false := by rfl) (hgen : scope.isGenerator = false := by rfl) (hk : scope.kind = .function := by rfl) :
    codeAny (model prog w) A (.call (.ref a) ⟨args, []⟩) R s := by
  refine codeAny_call_function (fd := Calls.docDef name params body scope pm cd doc) hroom ho hdata hco hgen rfl hcd ?_
  rw [hbind, (rfl : (Calls.docDef name params body scope pm cd doc).closure = [])]
  refine wpAny_pure (wpAny_toks hn (wpAny_newFunctionEnv_cells hk hkind fun env he s' x ht => ?_))
  subst he
  refine ⟨hlim.keeps x.toInCall.keep, codeAny_func ?_⟩
  obtain ⟨h₁, tk, rfl, _⟩ := x.done
  have F : Fr s.heap s.heap.objs.size h₁ (bindL (envOfC name scope s.heap.objs.size a cd).kindOf binds fun _ => none) := ⟨x.toInCall.ns, x.toInCall.keep, x.toInCall.fresh⟩
  have X : Cl s.heap.objs.size (cellsFrom (s.heap.objs.size + 1) scope.names []) h₁ (bindC (envOfC name scope s.heap.objs.size a cd).kindOf binds fun _ => none) := ⟨x.cell, x.apart, x.above⟩
  obtain ⟨cells, N, Y⟩ := Cl.news (h₀ := s.heap) (Nat.le_refl _) fun n c hm => ⟨X.cell n c (lookup_of_mem_nodup (cellsFrom_names scope.names 0 (s.heap.objs.size + 1) [] [] rfl ▸ hnd) hm), X.above n c hm⟩
  exact wpAny_mono (h h₁ tk cells ht F N Y) (fun _ _ x => x) (fun _ _ x => x.elim)
theorem law_call {w : World} {R : Result → Shared → Prop} {s : Shared} {l : Addr} {vs : List Value} {ns : List Int} (G : Gr w s.heap) (hg : s.gens = #[]) (ht : 2 ≤ s.toks) (hl : s.heap.IsList l vs.toArray) (hi : IntsAre vs ns) (hn : ns.length ≤ 63)
   (hR : ∀ h' g' tk, Keep s.heap h' → (∀ x ∈ g', GenState.bare x = true) → R (.ok (.ret (.bool true))) { s with heap := h', gens := g', toks := tk }) :
   codeAny (model prg w) callerA (.call (.ref 102) ⟨[.ref l], []⟩) R s := by
  have eA : callerA = Ar callerA.depth callerA.units callerA.frames callerA.guards := ar_of rfl
  rw [eA]
  refine call_cells_t 2 ht (binds := [(Str.ofString "script", .ref l)]) (by decide) (G.X 102 _ rfl) rfl G.lim (codeRec_of G.X (by rfl)) (by rfl) ?h1 ?h2 ?h
  case h1 => intro x hx; simp only [List.mem_cons, List.not_mem_nil, or_false] at hx; subst hx; exact .inl rfl
  case h2 => decide +kernel
  case h =>
    intro h₁ tk cells htk F N X0
    have hY := CellsAre.three X0
    obtain ⟨o1, o2, o3, hE, d1, d2, d3⟩ := hY
    subst hE
    clear X0
    have hb : Bare s.gens := by rw [hg]; intro x hx; simp at hx
    with_unfolding_all exact law_A (L := s.heap.objs.size) G (by decide) (by decide) htk hb F (ls := l) (ou := o3) (olv := o2) (osh := o1) (vs := vs) (ns := ns) N d3 d2 d1 hl hi hn rfl fun h' g' tk k hb' => hR h' g' tk k hb'
end
end
end
end Mine
open PySem.W.X PySem.W.ZRun
set_option maxHeartbeats 0 in
theorem PySem.Challenge.cw_pe0119_01_holds : PySem.Challenge.rw_pe0119_01.Holds := by
  w_on; o_law; z_head; (case hw => w_witness2)
  k_fill
  intro w s₀ s₁ mg mb G y fa o pm cd doc dV kV ho hdd hcd hD hmg hg args vals as L hpre hlay hrd hwl hlo
  z_open y L KX ZH ZN ZT
  refine Ground.open G ?_
  intro T B D TE TW
  have KX2 : (Mine.heapK w.params).In s₁.heap := by
    refine Frag.in_of (as := (Mine.heapK w.params).map (·.1)) rfl ?_
    show List.cons _ _ = List.cons _ _
    repeat (first | exact rfl | refine congr (congrArg List.cons (KX _ _ (by rfl))) ?_)
  have hfa : fa = 102 := by
    have := mg_of KX2 T.g (n := Str.ofString "law") (v := .ref 102) (by rfl)
    have h2 : mg (Str.ofString "law") = some (.ref fa) := hmg
    rw [this] at h2
    injection h2 with h2
    injection h2 with h2
    exact h2.symm
  subst hfa
  clear hmg
  wrow_args hpre hlay hrd hwl hlo
  have htk := script_toks L ZT
  refine enter_call ?_
  refine Mine.law_call ⟨KX2, _, _, _, T⟩ hg (Nat.le_trans (by decide) htk) (by assumption) (by assumption) (by omega) ?_
  intro h' g' tk hk hb
  refine ⟨.inl ⟨_, _, [], rfl, fun _ => rfl, ReadsW.bool true, ?_, fun _ => ⟨List.nodup_nil, fun _ hm => (nomatch hm)⟩⟩, .of_keep hk, rfl, hb⟩
  wrow_post
