import PyProof.Rows.All
import Wide.All
import OpenK.AllK
import Wide.FinOn
import Lean
import PySem.Challenge.RW_sr0063_01
set_option Elab.async false
set_option maxRecDepth 100000
set_option maxHeartbeats 0
set_option rowWalk.seconds 0
namespace Mine
open PySem PySem.W PyProof.Rows
open_top hd for PySem.Challenge.rw_sr0063_01
end Mine
namespace Mine
open PySem PySem.W PyProof.Rows PySem.Spec PySem.Calls
theorem runs_toks {M : Model} {Γ : PySem.Ctx} {p : Pos} {t : Sem Fin} {fs : List Frame} {s : Shared} {e : End} {s' : Shared} (h : Runs M Γ p t fs s e s') : s.toks ≤ s'.toks := by
  induction h with
  | done | raise | yield => exact Nat.le_refl _
  | fresh _ ih => exact Nat.le_trans (Nat.le_succ _) ih
  | call _ _ ih1 ih2 => exact Nat.le_trans ih1 ih2
  | resumeFresh _ _ _ _ ih1 ih2 => exact Nat.le_trans ih1 ih2
  | resumeSuspended _ _ _ _ ih1 ih2 => exact Nat.le_trans ih1 ih2
  | segRet _ _ ih1 ih2 => exact Nat.le_trans ih1 ih2
  | segGen _ _ ih1 ih2 => exact Nat.le_trans ih1 ih2
  | segSuspGen _ _ _ _ ih1 ih2 => exact Nat.le_trans ih1 ih2
  | _ => assumption
theorem wakes_toks {M : Model} {Γ : PySem.Ctx} {p : Pos} {g : Nat} {r : Resume} {s : Shared} {res : GenResult} {s' : Shared} (h : Wakes M Γ p g r s res s') : s.toks ≤ s'.toks := by
  unfold Wakes at h
  split at h
  · exact h.elim
  · split at h
    · obtain ⟨e₁, s₁, h1, _, _, rfl⟩ := h; have q := runs_toks h1; exact q
    · rw [h.2]; exact Nat.le_refl _
    · rw [h.2]; exact Nat.le_refl _
  · obtain ⟨e₁, s₁, h1, _, _, rfl⟩ := h; have q := runs_toks h1; exact q
  · rw [h.2]; exact Nat.le_refl _
  · rw [h.2]; exact Nat.le_refl _
theorem wp_toks {α : Type} {M : Model} {Γ : PySem.Ctx} {n : Nat} (t : Sem α) : ∀ (Q : α → Pos → Shared → Prop) (E : Value → Pos → Shared → Prop) (p : Pos) (s : Shared), n ≤ s.toks →
    Sem.wp M Γ t (fun a p' s' => n ≤ s'.toks → Q a p' s') (fun a p' s' => n ≤ s'.toks → E a p' s') p s → Sem.wp M Γ t Q E p s := by
  induction t with
  | pure a => intro Q E p s hn h; rw [Sem.wp] at h ⊢; exact h hn
  | raise a => intro Q E p s hn h; rw [Sem.wp] at h ⊢; exact h hn
  | unsupported | finish | register | yield | fork | await => intro Q E p s hn h; rw [Sem.wp] at h; exact h.elim
  | load a q k ih => intro Q E p s hn h; rw [Sem.wp] at h ⊢; obtain ⟨o, ho, h⟩ := h; exact ⟨o, ho, ih _ _ _ _ _ hn h⟩
  | update a q f k ih => intro Q E p s hn h; rw [Sem.wp] at h ⊢; exact ⟨h.1, ih _ _ _ _ _ hn h.2⟩
  | choose src m k ih => intro Q E p s hn h; rw [Sem.wp] at h ⊢; exact ⟨h.1, ih _ _ _ _ _ hn h.2⟩
  | fresh k ih => intro Q E p s hn h; rw [Sem.wp] at h ⊢; exact ih _ _ _ _ _ (Nat.le_succ_of_le hn) h
  | call c hh g l k ih => intro Q E p s hn h; rw [Sem.wp] at h ⊢; obtain ⟨r, s', hr, h⟩ := h; exact ⟨r, s', hr, ih _ _ _ _ _ (Nat.le_trans hn (runs_toks hr)) h⟩
  | resume g r l k ih => intro Q E p s hn h; rw [Sem.wp] at h ⊢; obtain ⟨r, s', hr, h⟩ := h; exact ⟨r, s', hr, ih _ _ _ _ _ (Nat.le_trans hn (wakes_toks hr)) h⟩
  | genState g k ih => intro Q E p s hn h; rw [Sem.wp] at h ⊢; obtain ⟨st, hr, h⟩ := h; exact ⟨st, hr, ih _ _ _ _ _ hn h⟩
  | _ => intro Q E p s hn h; rename_i ih; rw [Sem.wp] at h ⊢; exact ih _ _ _ _ _ hn h
/-- the counter of identities never falls: what a run needs of it behind a tree may be taken from ahead of it -/
theorem keep_toks {α : Type} {M : Model} {A : Around} {t : Sem α} {Q : α → Shared → Prop} {E : Value → Shared → Prop} {s : Shared} (n : Nat) (hn : n ≤ s.toks)
    (h : wpAny M A t (fun a s' => n ≤ s'.toks → Q a s') (fun a s' => n ≤ s'.toks → E a s') s) : wpAny M A t Q E s := fun Γ p hΓ => wp_toks t _ _ p s hn (h Γ p hΓ)
theorem gen_toks {α : Type} {M : Model} {A : Around} {t : Sem α} {Q : α → Shared → Prop} {E : Value → Shared → Prop} {h : Heap} {g : Array GenState} {d : Drawn} {o : OsState} {x : Nat} (hx : 0 < x)
    (k : ∀ tk, 0 < tk → wpAny M A t Q E ⟨h, g, d, tk, o⟩) : wpAny M A t Q E ⟨h, g, d, x, o⟩ := k x hx
end Mine
namespace Mine
open PySem PySem.W PyProof.Rows PySem.Spec PySem.Calls
abbrev PG : Program := PySem.Challenge.rw_sr0063_01.row.toRowW.prog
/-- the contract of a call that changes nothing that stood: what it hands back meets R -/
def PS (w : World) (p : Program) (loose : List Str) (mean : ExcName → Option Value) (mg mb : Str → Option Value) (f : Addr) (dc uc tm : Nat) (pos : List Value) (kw : List (Str × Value)) (pre : Heap → List (Addr × Obj) → Prop) (R : Value → Prop) : Prop :=
  ∀ (dp un : Nat) (gd : Option (List Code)) (cn : Str) (cs : Scope) (a : Addr) (ccd : Value) (cl : List (Str × Addr)) (outer : List Env) (A₀ : Around) (base h₀ : Heap) (L : Addr) (m : Str → Option Value) (news : List (Addr × Obj)) (s : Shared)
    (Q E : Value → Shared → Prop),
    Below A₀ base outer h₀ → Fr h₀ L s.heap m → (Mine.hd.heap_39 w.params).In h₀ → News h₀ L s.heap news → Top p loose mean mg mb h₀ → cs.kind = .function → pre s.heap news → tm ≤ s.toks → dp + dc < recursionLimit → un + uc < cLine →
    (∀ r h' tk', s.toks ≤ tk' → R r → InElt s.heap h' → Q r { s with heap := h', toks := tk' }) →
    wpAny (model PG w) (ktrTop dp un gd cn cs L a ccd cl outer) (call (.ref f) pos kw) Q E s
theorem PS.use {w : World} {p : Program} {loose : List Str} {mean : ExcName → Option Value} {mg mb : Str → Option Value} {f : Addr} {dc uc tm : Nat} {pos : List Value} {kw : List (Str × Value)} {pre : Heap → List (Addr × Obj) → Prop} {R : Value → Prop}
    (C : PS w p loose mean mg mb f dc uc tm pos kw pre R) {dp un : Nat} {gd : Option (List Code)} {cn : Str} {cs : Scope} {a : Addr} {ccd : Value} {cl : List (Str × Addr)} {outer : List Env} {A₀ : Around} {base h₀ : Heap} {L : Addr} {m : Str → Option Value} {news : List (Addr × Obj)} {s : Shared}
    {Q E : Value → Shared → Prop} (B : Below A₀ base outer h₀) (F : Fr h₀ L s.heap m) (X : (Mine.hd.heap_39 w.params).In h₀) (N : News h₀ L s.heap news) (T : Top p loose mean mg mb h₀) (hk : cs.kind = .function) (hp : pre s.heap news) (ht : tm ≤ s.toks) (hd : dp + dc < recursionLimit) (hu : un + uc < cLine)
    (ret : ∀ r h' tk', s.toks ≤ tk' → R r → InElt s.heap h' → Fr h₀ L h' m → News h₀ L h' news → Q r { s with heap := h', toks := tk' }) :
    wpAny (model PG w) (ktrTop dp un gd cn cs L a ccd cl outer) (call (.ref f) pos kw) Q E s := C _ _ _ _ _ _ _ _ _ _ _ _ _ _ _ _ _ _ B F X N T hk hp ht hd hu fun r h' tk' h1 h2 h3 => ret r h' tk' h1 h2 h3 (F.keeps h3) (N.grown h3)
theorem keep_all {h₀ H g H' : Heap} {L L' : Addr} {m' : Str → Option Value} {news news' : List (Addr × Obj)} (N : News h₀ L H news) (G : GSub H g (news.map (·.1))) (F' : Fr g L' H' m') (N' : News g L' H' news') (hs : ∀ p ∈ news, p ∈ news') : InElt H H' := elt_after (InElt.start _) G N F' N' hs
theorem lk_cons (y n : Str) (v : Value) (r : List (Str × Value)) : List.lookup y ((n, v) :: r) = if y = n then some v else List.lookup y r := by
  rw [List.lookup_cons]
  by_cases h : y = n
  · simp [h]
  · have : (y == n) = false := by simpa using h
    rw [this, if_neg h]
theorem lk_nil (y : Str) : List.lookup y ([] : List (Str × Value)) = none := rfl
theorem fr_of {h₀ h : Heap} {L : Addr} {m m' : Str → Option Value} (F : Fr h₀ L h m) (e : m = m') : Fr h₀ L h m' := e ▸ F
/-- a frame's map, written out -/
theorem fr_binds {h₀ h : Heap} {L : Addr} {m : Str → Option Value} (b : List (Str × Value)) (F : Fr h₀ L h m) (e : m = fun y => List.lookup y b) : Fr h₀ L h (b.foldr (fun nv k y => if y = nv.1 then some nv.2 else k y) fun _ => none) := by
  subst e
  refine fr_of F (funext fun y => ?_)
  clear F
  induction b with
  | nil => rfl
  | cons nv r ih => rw [lk_cons, List.foldr_cons, ih]
/-- two ways joined: what holds behind both -/
theorem cut {α : Type} {M : Model} {A : Around} {t : Sem α} {Q Q' : α → Shared → Prop} {E : Value → Shared → Prop} {s : Shared} (h : wpAny M A t Q' E s) (k : ∀ a s', Q' a s' → Q a s') : wpAny M A t Q E s := wpAny_mono h k fun _ _ e => e
end Mine
namespace Mine
open PySem PySem.W PyProof.Rows PySem.Spec PySem.Calls
/-- a text by its signs -/
def S (l : List Nat) : Str := ⟨l.toArray⟩
theorem S_len (l : List Nat) : (S l).length = l.length := by simp [S, Str.length]
theorem S_toList (l : List Nat) : (S l).cps.toList = l := by simp [S]
theorem S_app (a b : List Nat) : S a ++ S b = S (a ++ b) := by
  show Str.append _ _ = _
  simp [Str.append, S]
theorem S_of (x : Str) : x = S x.cps.toList := by cases x; simp [S]
/-- each sign c made the text z -/
def rp (c : Nat) (z l : List Nat) : List Nat := l.flatMap fun k => if k = c then z else [k]
theorem rp_app (c : Nat) (z a b : List Nat) : rp c z (a ++ b) = rp c z a ++ rp c z b := List.flatMap_append ..
theorem rp_free (c : Nat) (z : List Nat) : ∀ l : List Nat, c ∉ l → rp c z l = l
  | [], _ => rfl
  | k :: r, h => by
    have h1 : ¬ k = c := fun e => h (e ▸ List.mem_cons_self ..)
    show (if k = c then z else [k]) ++ rp c z r = _
    rw [if_neg h1, rp_free c z r fun m => h (List.mem_cons_of_mem _ m)]; rfl
theorem rp_join (c : Nat) (z : List Nat) : ∀ parts : List Str, (∀ p ∈ parts, c ∉ p.cps.toList) → rp c z (Str.join ⟨#[c]⟩ parts).cps.toList = (Str.join (S z) parts).cps.toList
  | [], _ => rfl
  | [p], h => rp_free c z _ (h p (List.mem_singleton.mpr rfl))
  | p :: q :: r, h => by
    have ih := rp_join c z (q :: r) fun a ha => h a (List.mem_cons_of_mem _ ha)
    show rp c z (p ++ ⟨#[c]⟩ ++ Str.join ⟨#[c]⟩ (q :: r)).cps.toList = (p ++ S z ++ Str.join (S z) (q :: r)).cps.toList
    simp only [Str.cps_append, Array.toList_append]
    rw [rp_app, rp_app, ih, rp_free c z _ (h p (List.mem_cons_self ..)), S_toList]
    show p.cps.toList ++ ((if c = c then z else [c]) ++ []) ++ _ = _
    rw [if_pos rfl, List.append_nil]
theorem replace_rp (c : Nat) (z l : List Nat) : Txt.replace (S l) (S [c]) (S z) = S (rp c z l) := by
  have h : (Txt.replace (S l) (S [c]) (S z)).cps.toList = rp c z l := by
    show (Txt.replace (S l) ⟨#[c]⟩ (S z)).cps.toList = _
    rw [StrLaws.replace_one, ← rp_join c z _ (StrLaws.split_free _ c), StrLaws.join_split, S_toList]
  rw [S_of (Txt.replace _ _ _), h]
theorem esc_if {w : World} {A : Around} {E : Value → Shared → Prop} {s : Shared} {cn : Str} {cs : Scope} {L a : Addr} {ccd : Value} {h₀ : Heap} {news : List (Addr × Obj)}
    {cx zx : Str} {l : List Nat} {t : Tok} {n1 n2 : Nat} {p1 p2 p3 p4 p5 p6 p7 p8 p9 p10 p11 : Pos} {Q : Flow → Shared → Prop} (c : Nat) (z : List Nat)
    (F : Fr h₀ L s.heap (fun y => if y = "text" then some (.str (S l) t) else none)) (N : News h₀ L s.heap news)
    (ht : 0 < s.toks) (ec : cx = S [c]) (ez : zx = S z) (hcz : z.length ≠ 1) (hx : l.length ≤ 1048576) (hz : z.length ≤ 14)
    (h : ∀ h' tk' t', 0 < tk' → Fr h₀ L h' (fun y => if y = "text" then some (.str (S (rp c z l)) t') else none) → News h₀ L h' news → Q .next { s with heap := h', toks := tk' })
    {pl : Sem Bool} (he : eval (.Call (.Attribute (.Name "text" p5) "replace" p6) [.Constant (.str cx) n1 p7, .Constant (.str zx) n2 p8] [] p9) (envOf cn cs L a ccd) = (do
      let ov ← eval (.Name "text" p5) (envOf cn cs L a ccd)
      standAt p6.atName
      let (f, first) ← holding [ov] (getMethod ov "replace" pl)
      callWith p9 f first (backTo p9 (starEach [.Constant (.str cx) n1 p7, .Constant (.str zx) n2 p8] (envOf cn cs L a ccd))) []))
    (hk : cs.kind = .function) (hl : (envOf cn cs L a ccd).kindOf "text" = some .local) :
    wpAny (model PG w) A (exec (.If (.Compare (.Constant (.str cx) n1 p1) [.In] [.Name "text" p2] p3)
      [.Assign [.Name "text" p4] (.Call (.Attribute (.Name "text" p5) "replace" p6) [.Constant (.str cx) n1 p7, .Constant (.str zx) n2 p8] [] p9) p10] [] p11) (envOf cn cs L a ccd)) Q E s := by
  subst ec; subst ez
  refine keep_toks 1 ht ?_
  refine wpAny_If (wpAny_isTrue_Compare1 (wpAny_Constant_str (ld F (if_pos rfl) (SB.contains ?_) hk hl)) rfl)
  refine wpAny_truthy_bool ?_
  have ef : Txt.contains (S l) (S [c]) = decide (c ∈ l) := (StrLaws.found_one (S l) c).trans (by rw [S_toList])
  rw [ef]
  by_cases hm : c ∈ l
  · rw [if_pos (decide_eq_true hm)]
    refine wpAny_execs_cons (wpAny_Assign_Name ?_)
    refine MethodCall_ ?_ he
    refine (ld F (if_pos rfl) (GM.replace (callWith_method1 (spliced_more (wpAny_Constant_str (spliced_more (wpAny_Constant_str (spliced_none ?_))))))) hk hl)
    refine SC.replaceW (Nat.ne_of_gt (Nat.lt_of_lt_of_le ht (by simp))) (Nat.ne_of_gt (Nat.lt_of_lt_of_le ht (by show s.toks ≤ s.toks + 1 + 1; omega))) (by show s.toks + 1 ≠ s.toks + 1 + 1; omega) ?_ (by rw [S_len]; exact hx) (by rw [S_len]; exact hz) fun t' k => ?_
    · cases e : (S [c] == S z) with
      | false => rfl
      | true => exact absurd (by rw [← S_len, ← eq_of_beq e]; rfl) hcz
    · rw [replace_rp]
      refine stN F N (fun h' F' N' => wpAny_execs_nil fun h1 => h h' _ t' (Nat.succ_pos _) ?_ N') hk hl
      refine fr_of F' (funext fun y => ?_)
      by_cases hy : y = "text"
      · simp [hy]
      · simp [hy]
  · rw [if_neg (by simpa using hm)]
    refine wpAny_execs_nil fun h1 => h _ _ t h1 ?_ N
    rw [rp_free c z l hm]; exact F
theorem rp_le (c : Nat) (z : List Nat) (hz : z ≠ []) : ∀ l : List Nat, l.length ≤ (rp c z l).length
  | [] => Nat.le_refl _
  | k :: r => by
    have ih := rp_le c z hz r
    show _ ≤ ((if k = c then z else [k]) ++ rp c z r).length
    rw [List.length_append, List.length_cons]
    have : 1 ≤ (if k = c then z else [k]).length := by
      split
      · exact List.length_pos_iff.mpr hz
      · exact Nat.le_refl _
    omega
def esc0 (l : List Nat) : List Nat := (rp 9 [38, 35, 48, 57, 59] (rp 10 [38, 35, 49, 48, 59] (rp 13 [38, 35, 49, 51, 59] (rp 34 [38, 113, 117, 111, 116, 59] (rp 62 [38, 103, 116, 59] (rp 60 [38, 108, 116, 59] (rp 38 [38, 97, 109, 112, 59] l)))))))
theorem esc0_spec (w : World) (p : Program) (loose : List Str) (mean : ExcName → Option Value) (mg mb : Str → Option Value) (l : List Nat) (t : Tok) (hx : (esc0 l).length ≤ 1048576) :
   PS w p loose mean mg mb 52 2 16 1 [.str (S l) t] [] (fun _ _ => True) (fun r => ∃ t', r = .str (S (esc0 l)) t') := by
  intro dp un gd cn cs a ccd cl outer A₀ base h₀ L m news s Q E B F X N T hk _ htk hd hu hret
  unfold esc0 at hx
  have b7 := hx
  have b6 := Nat.le_trans (rp_le 9 [38, 35, 48, 57, 59] (by decide) (rp 10 [38, 35, 49, 48, 59] (rp 13 [38, 35, 49, 51, 59] (rp 34 [38, 113, 117, 111, 116, 59] (rp 62 [38, 103, 116, 59] (rp 60 [38, 108, 116, 59] (rp 38 [38, 97, 109, 112, 59] l))))))) b7
  have b5 := Nat.le_trans (rp_le 10 [38, 35, 49, 48, 59] (by decide) (rp 13 [38, 35, 49, 51, 59] (rp 34 [38, 113, 117, 111, 116, 59] (rp 62 [38, 103, 116, 59] (rp 60 [38, 108, 116, 59] (rp 38 [38, 97, 109, 112, 59] l)))))) b6
  have b4 := Nat.le_trans (rp_le 13 [38, 35, 49, 51, 59] (by decide) (rp 34 [38, 113, 117, 111, 116, 59] (rp 62 [38, 103, 116, 59] (rp 60 [38, 108, 116, 59] (rp 38 [38, 97, 109, 112, 59] l))))) b5
  have b3 := Nat.le_trans (rp_le 34 [38, 113, 117, 111, 116, 59] (by decide) (rp 62 [38, 103, 116, 59] (rp 60 [38, 108, 116, 59] (rp 38 [38, 97, 109, 112, 59] l)))) b4
  have b2 := Nat.le_trans (rp_le 62 [38, 103, 116, 59] (by decide) (rp 60 [38, 108, 116, 59] (rp 38 [38, 97, 109, 112, 59] l))) b3
  have b1 := Nat.le_trans (rp_le 60 [38, 108, 116, 59] (by decide) (rp 38 [38, 97, 109, 112, 59] l)) b2
  have b0 := Nat.le_trans (rp_le 38 [38, 97, 109, 112, 59] (by decide) l) b1
  refine keep_toks s.toks (Nat.le_refl _) ?_
  refine wpAny_call ?_
  k_dflt (refine' code_defG ?k1 ?k2 ?k3 ?k4 ?k5 ?kA ?kF ?kK ?k6 ?k7 ?k8 ?k9 ?kB ?_ ?c2 ?c3 ?c4 ?c5; (case kA => exact rfl); (case kF => exact rfl); (case kK => assumption); (case k1 => k_asm); (case k2 => k_asm); (case k3 => k_asm); (case k4 => k_asm); (case k5 => k_asm); (case k6 => k_is); (case k7 => k_is); (case k8 => ktr_room); (case k9 => exact BindsTo.of_eq rfl); (case c5 => decide); (case kB => exact locs rfl); (case c2 => exact rfl); (case c3 => exact rfl); (case c4 => exact rfl); k_whole)
  intro g1 L1 h1 FG F0 N0 B1 X1 T1 G1
  have F1 := fr_binds [("text", .str (S l) t)] F0 rfl
  dsimp only [List.foldr] at F1
  refine wpAny_execs_cons (wpAny_Try_except ?_)
  refine wpAny_execs_cons (esc_if 38 [38, 97, 109, 112, 59] F1 N0 (Nat.lt_of_lt_of_le htk (Nat.le_add_right _ _)) (by decide) (by decide) (by decide) b0 (by decide) (fun h0 k0 t0 q0 F2 N2 => ?_) rfl rfl rfl)
  refine wpAny_execs_cons (esc_if 60 [38, 108, 116, 59] F2 N2 q0 (by decide) (by decide) (by decide) b1 (by decide) (fun h1 k1 t1 q1 F3 N3 => ?_) rfl rfl rfl)
  refine wpAny_execs_cons (esc_if 62 [38, 103, 116, 59] F3 N3 q1 (by decide) (by decide) (by decide) b2 (by decide) (fun h2 k2 t2 q2 F4 N4 => ?_) rfl rfl rfl)
  refine wpAny_execs_cons (esc_if 34 [38, 113, 117, 111, 116, 59] F4 N4 q2 (by decide) (by decide) (by decide) b3 (by decide) (fun h3 k3 t3 q3 F5 N5 => ?_) rfl rfl rfl)
  refine wpAny_execs_cons (esc_if 13 [38, 35, 49, 51, 59] F5 N5 q3 (by decide) (by decide) (by decide) b4 (by decide) (fun h4 k4 t4 q4 F6 N6 => ?_) rfl rfl rfl)
  refine wpAny_execs_cons (esc_if 10 [38, 35, 49, 48, 59] F6 N6 q4 (by decide) (by decide) (by decide) b5 (by decide) (fun h5 k5 t5 q5 F7 N7 => ?_) rfl rfl rfl)
  refine wpAny_execs_cons (esc_if 9 [38, 35, 48, 57, 59] F7 N7 q5 (by decide) (by decide) (by decide) b6 (by decide) (fun h6 k6 t6 q6 F8 N8 => ?_) rfl rfl rfl)
  refine wpAny_execs_cons (wpAny_Return_some (ld F8 (if_pos rfl) ?_))
  exact leaveK_ F8 N8 (fun _ _ htz => hret _ _ _ htz ⟨_, rfl⟩ (keep_all N G1 F8 N8 fun _ h => h))
def esc1 (l : List Nat) : List Nat := (rp 13 [38, 35, 120, 68, 59] (rp 10 [38, 35, 120, 65, 59] (rp 9 [38, 35, 120, 57, 59] (rp 34 [38, 113, 117, 111, 116, 59] (rp 60 [38, 108, 116, 59] (rp 38 [38, 97, 109, 112, 59] l))))))
theorem esc1_spec (w : World) (p : Program) (loose : List Str) (mean : ExcName → Option Value) (mg mb : Str → Option Value) (l : List Nat) (t : Tok) (hx : (esc1 l).length ≤ 1048576) :
   PS w p loose mean mg mb 59 2 16 1 [.str (S l) t] [] (fun _ _ => True) (fun r => ∃ t', r = .str (S (esc1 l)) t') := by
  intro dp un gd cn cs a ccd cl outer A₀ base h₀ L m news s Q E B F X N T hk _ htk hd hu hret
  unfold esc1 at hx
  have b6 := hx
  have b5 := Nat.le_trans (rp_le 13 [38, 35, 120, 68, 59] (by decide) (rp 10 [38, 35, 120, 65, 59] (rp 9 [38, 35, 120, 57, 59] (rp 34 [38, 113, 117, 111, 116, 59] (rp 60 [38, 108, 116, 59] (rp 38 [38, 97, 109, 112, 59] l)))))) b6
  have b4 := Nat.le_trans (rp_le 10 [38, 35, 120, 65, 59] (by decide) (rp 9 [38, 35, 120, 57, 59] (rp 34 [38, 113, 117, 111, 116, 59] (rp 60 [38, 108, 116, 59] (rp 38 [38, 97, 109, 112, 59] l))))) b5
  have b3 := Nat.le_trans (rp_le 9 [38, 35, 120, 57, 59] (by decide) (rp 34 [38, 113, 117, 111, 116, 59] (rp 60 [38, 108, 116, 59] (rp 38 [38, 97, 109, 112, 59] l)))) b4
  have b2 := Nat.le_trans (rp_le 34 [38, 113, 117, 111, 116, 59] (by decide) (rp 60 [38, 108, 116, 59] (rp 38 [38, 97, 109, 112, 59] l))) b3
  have b1 := Nat.le_trans (rp_le 60 [38, 108, 116, 59] (by decide) (rp 38 [38, 97, 109, 112, 59] l)) b2
  have b0 := Nat.le_trans (rp_le 38 [38, 97, 109, 112, 59] (by decide) l) b1
  refine keep_toks s.toks (Nat.le_refl _) ?_
  refine wpAny_call ?_
  k_dflt (refine' code_defG ?k1 ?k2 ?k3 ?k4 ?k5 ?kA ?kF ?kK ?k6 ?k7 ?k8 ?k9 ?kB ?_ ?c2 ?c3 ?c4 ?c5; (case kA => exact rfl); (case kF => exact rfl); (case kK => assumption); (case k1 => k_asm); (case k2 => k_asm); (case k3 => k_asm); (case k4 => k_asm); (case k5 => k_asm); (case k6 => k_is); (case k7 => k_is); (case k8 => ktr_room); (case k9 => exact BindsTo.of_eq rfl); (case c5 => decide); (case kB => exact locs rfl); (case c2 => exact rfl); (case c3 => exact rfl); (case c4 => exact rfl); k_whole)
  intro g1 L1 h1 FG F0 N0 B1 X1 T1 G1
  have F1 := fr_binds [("text", .str (S l) t)] F0 rfl
  dsimp only [List.foldr] at F1
  refine wpAny_execs_cons (wpAny_Try_except ?_)
  refine wpAny_execs_cons (esc_if 38 [38, 97, 109, 112, 59] F1 N0 (Nat.lt_of_lt_of_le htk (Nat.le_add_right _ _)) (by decide) (by decide) (by decide) b0 (by decide) (fun h0 k0 t0 q0 F2 N2 => ?_) rfl rfl rfl)
  refine wpAny_execs_cons (esc_if 60 [38, 108, 116, 59] F2 N2 q0 (by decide) (by decide) (by decide) b1 (by decide) (fun h1 k1 t1 q1 F3 N3 => ?_) rfl rfl rfl)
  refine wpAny_execs_cons (esc_if 34 [38, 113, 117, 111, 116, 59] F3 N3 q1 (by decide) (by decide) (by decide) b2 (by decide) (fun h2 k2 t2 q2 F4 N4 => ?_) rfl rfl rfl)
  refine wpAny_execs_cons (esc_if 9 [38, 35, 120, 57, 59] F4 N4 q2 (by decide) (by decide) (by decide) b3 (by decide) (fun h3 k3 t3 q3 F5 N5 => ?_) rfl rfl rfl)
  refine wpAny_execs_cons (esc_if 10 [38, 35, 120, 65, 59] F5 N5 q3 (by decide) (by decide) (by decide) b4 (by decide) (fun h4 k4 t4 q4 F6 N6 => ?_) rfl rfl rfl)
  refine wpAny_execs_cons (esc_if 13 [38, 35, 120, 68, 59] F6 N6 q4 (by decide) (by decide) (by decide) b5 (by decide) (fun h5 k5 t5 q5 F7 N7 => ?_) rfl rfl rfl)
  refine wpAny_execs_cons (wpAny_Return_some (ld F7 (if_pos rfl) ?_))
  exact leaveK_ F7 N7 (fun _ _ htz => hret _ _ _ htz ⟨_, rfl⟩ (keep_all N G1 F7 N7 fun _ h => h))
end Mine
namespace Mine
open PySem PySem.W PyProof.Rows PySem.Spec PySem.Calls
set_option profiler true
set_option profiler.threshold 300
theorem pat_attrs : PlainAttrs "re.Pattern" :=
  ⟨⟨"object.__getattribute__", by rw [typeLookup_type, builtinLookup_eq_fast]; kernel_rfl, by decide +kernel⟩, by rw [typeLookup_type, builtinLookup_eq_fast]; kernel_rfl⟩
theorem owner_pat : Manifest.owners.lookup (String.ofList "re.Pattern".toList.reverse.reverse) = some Manifest.sig_re_Pattern := by kernel_rfl
theorem slot_search : Slot "re.Pattern" "search" "re.Pattern.search" :=
  .of (owner := "re.Pattern") (n := "search") (by rw [typeLookup_type, builtinLookup_eq_fast]; kernel_rfl) (by decide +kernel) (by decide +kernel) (by decide +kernel)
    (by first | exact .inl (by decide +kernel) | exact .inr (by decide +kernel)) (by rw [isSubtype_type]; kernel_rfl)
theorem slot_sub : Slot "re.Pattern" "sub" "re.Pattern.sub" :=
  .of (owner := "re.Pattern") (n := "sub") (by rw [typeLookup_type, builtinLookup_eq_fast]; kernel_rfl) (by decide +kernel) (by decide +kernel) (by decide +kernel)
    (by first | exact .inl (by decide +kernel) | exact .inr (by decide +kernel)) (by rw [isSubtype_type]; kernel_rfl)
theorem type_search : typeOf (.builtin "re.Pattern.search") = pure (.type "method_descriptor") := by show builtinType _ = _; rw [builtinType_eq_fast]; kernel_rfl
theorem type_sub : typeOf (.builtin "re.Pattern.sub") = pure (.type "method_descriptor") := by show builtinType _ = _; rw [builtinType_eq_fast]; kernel_rfl
theorem entry_search : entryFor table "re.Pattern.search" = some Builtin.«re.Pattern.search» := entryFor_of_tree (by kernel_rfl)
theorem entry_sub : entryFor table "re.Pattern.sub" = some Builtin.«re.Pattern.sub» := entryFor_of_tree (by kernel_rfl)
theorem entry_loop : entryFor table "re.Pattern.sub.loop" = some Builtin.«re.Pattern.sub.loop» := entryFor_of_tree (by kernel_rfl)
theorem args_search (a b : Value) : argsOk "re.Pattern.search" ⟨[a, b], []⟩ := by
  unfold argsOk; rw [signature?_of (id := "re.Pattern.search") (n := "search".toList.reverse) (o := "re.Pattern".toList.reverse) (by kernel_rfl) owner_pat]; kernel_rfl
theorem args_sub (a b c : Value) : argsOk "re.Pattern.sub" ⟨[a, b, c], []⟩ := by
  unfold argsOk; rw [signature?_of (id := "re.Pattern.sub") (n := "sub".toList.reverse) (o := "re.Pattern".toList.reverse) (by kernel_rfl) owner_pat]; kernel_rfl
end Mine
namespace Mine
open PySem PySem.W PyProof.Rows PySem.Spec PySem.Calls
open PySem.Sre
/-! the pattern machine, run -/
theorem runFor_done {m : M} (h : m.outcome.isSome = true) : ∀ n, m.runFor n = m
  | 0 => rfl
  | n + 1 => by show (if m.outcome.isSome = true then m else _) = m; rw [if_pos h]
theorem runFor_succ {m : M} (h : m.outcome.isSome = false) (n : Nat) : m.runFor (n + 1) = m.step.runFor n := by
  show (if m.outcome.isSome = true then m else _) = _
  rw [if_neg (by rw [h]; exact Bool.false_ne_true)]
theorem runFor_add : ∀ (a b : Nat) (m : M), m.runFor (a + b) = (m.runFor a).runFor b
  | 0, b, m => by rw [Nat.zero_add]; rfl
  | a + 1, b, m => by
    cases h : m.outcome.isSome with
    | true => rw [runFor_done h, runFor_done h, runFor_done h]
    | false => rw [Nat.succ_add, runFor_succ h, runFor_succ h, runFor_add a b]
theorem runFor_le {m : M} {a b : Nat} (h : (m.runFor a).outcome.isSome = true) (hab : a ≤ b) : m.runFor b = m.runFor a := by
  have e : b = a + (b - a) := by omega
  rw [e, runFor_add, runFor_done h]
section
variable {MM : Model} {A : Around} {E : Value → Shared → Prop} {s : Shared}
theorem drive (Q : M → Shared → Prop) : ∀ (turns n : Nat) (m : M), (m.runFor n).outcome.isSome = true → n ≤ 4 * turns → 0 < turns → Q (m.runFor n) s → wpAny MM A (Builtin.Re.reDrive turns m) Q E s
  | 0, _, _, _, _, h0, _ => absurd h0 (Nat.lt_irrefl _)
  | turns + 1, n, m, ho, hn, _, hQ => by
    unfold Builtin.Re.reDrive
    show wpAny MM A (if (m.runFor 4).outcome.isSome = true then pure (m.runFor 4) else _) Q E s
    cases h4 : (m.runFor 4).outcome.isSome with
    | true =>
      rw [if_pos rfl]
      refine wpAny_pure ?_
      have e : m.runFor 4 = m.runFor n := by
        rcases Nat.le_total n 4 with hl | hl
        · exact runFor_le ho hl
        · exact (runFor_le h4 hl).symm
      rw [e]; exact hQ
    | false =>
      rw [if_neg Bool.false_ne_true]
      have hl : ¬ n ≤ 4 := fun hl => by rw [runFor_le ho hl, ho] at h4; cases h4
      have e : m.runFor n = (m.runFor 4).runFor (n - 4) := by rw [← runFor_add]; congr 1; omega
      refine wpAny_bind (wpAny_rule ?_)
      rw [e] at ho hQ
      exact drive Q turns (n - 4) (m.runFor 4) ho (by omega) (by omega) hQ
theorem rules_loop {f : Nat → PUnit → Sem (ForInStep PUnit)} (hf : ∀ i (Q : ForInStep PUnit → Shared → Prop) s, Q (.yield ⟨⟩) s → wpAny MM A (f i ⟨⟩) Q E s) :
    ∀ (l : List Nat) (Q : PUnit → Shared → Prop) (s : Shared), Q ⟨⟩ s → wpAny MM A (forIn l ⟨⟩ f) Q E s
  | [], Q, s, h => wpAny_pure h
  | i :: r, Q, s, h => by
    rw [List.forIn_cons]
    exact wpAny_bind (hf i _ s (rules_loop hf r Q s h))
theorem runToEnd (n : Nat) (m : M) (o : Sre.Outcome) (hn : n ≤ 2 ^ 60) (ho : (m.runFor n).outcome = some o) {Q : Option M → Shared → Prop}
    (hQ : match o with | .matched => Q (some (m.runFor n)) s | .failed => Q none s | .stuck _ => False) : wpAny MM A (Builtin.Re.reRunToEnd m) Q E s := by
  unfold Builtin.Re.reRunToEnd
  refine wpAny_bind (drive _ (2 ^ 64) n m (by rw [ho]; rfl) (by omega) (by omega) ?_)
  refine wpAny_bind (rules_loop (fun i Q s h => ?_) _ _ _ ?_)
  · split
    · exact wpAny_bind (wpAny_rule (wpAny_pure h))
    · exact wpAny_bind (wpAny_pure (wpAny_pure h))
  · rw [ho]
    cases o with
    | matched => exact wpAny_pure hQ
    | failed => exact wpAny_pure hQ
    | stuck w => exact hQ.elim
end
end Mine
namespace Mine
open PySem PySem.W PyProof.Rows PySem.Spec PySem.Calls
open PySem.Sre
def c86 : Array Nat := #[14, 10, 4, 1, 1, 22, 0, 31, 16, 127, 0, 13, 7, 22, 0, 31, 16, 127, 0, 1]
def c91 : Array Nat := #[14, 14, 4, 1, 1, 9, 4294966783, 0, 0, 2147483648, 0, 0, 0, 0, 0, 13, 11, 9, 4294966783, 0, 0, 2147483648, 0, 0, 0, 0, 0, 1]
def c64 : Array Nat := #[14, 4, 0, 1, 1, 6, 1, 16, 46, 1]
def c69 : Array Nat := #[14, 9, 4, 1, 2, 16, 10, 16, 13, 0, 7, 7, 16, 13, 16, 10, 15, 18, 5, 16, 10, 15, 13, 11, 16, 13, 5, 5, 0, 16, 10, 1, 15, 2, 0, 1]
/-- a sign of a name -/
def okN (c : Nat) : Prop := 32 ≤ c ∧ c < 127
/-- a sign of a value -/
def okV (c : Nat) : Prop := c = 9 ∨ (32 ≤ c ∧ c < 127)
theorem in86 (c : Nat) (h : okN c) (seen : Sre.Seen) : ∃ seen', inSet c86 c c86.size 5 true seen = .ok (false, seen') := by
  obtain ⟨h1, h2⟩ := h
  have e1 : (0 ≤ c && c ≤ 31) = false := by simp; omega
  have e2 : (c == 127) = false := by simp; omega
  refine ⟨((seen.add 22).add 16).add 0, ?_⟩
  show inSet c86 c 20 5 true seen = _
  show (if (decide (0 ≤ c) && decide (c ≤ 31)) = true then _ else inSet c86 c 19 8 true _) = _
  rw [e1, if_neg Bool.false_ne_true]
  show (if (c == 127) = true then _ else inSet c86 c 18 10 true _) = _
  rw [e2, if_neg Bool.false_ne_true]
  rfl
theorem bit91 : ∀ c : Nat, c < 127 → (c = 9 ∨ 32 ≤ c) → (c91.getD (5 + (1 + c / 32)) 0).testBit (c % 32) = false := by decide +kernel
theorem in91 (c : Nat) (h : okV c) (seen : Sre.Seen) : ∃ seen', inSet c91 c c91.size 5 true seen = .ok (false, seen') := by
  have e1 : (decide (c < 256) && (c91.getD (5 + (1 + c / 32)) 0).testBit (c % 32)) = false := by
    rw [bit91 c (by rcases h with h | h <;> omega) (by rcases h with h | h <;> omega), Bool.and_false]
  refine ⟨(seen.add 9).add 0, ?_⟩
  show inSet c91 c 28 5 true seen = _
  show (if (decide (c < 256) && (c91.getD (5 + (1 + c / 32)) 0).testBit (c % 32)) = true then _ else inSet c91 c 27 14 true _) = _
  rw [e1, if_neg Bool.false_ne_true]
  rfl
theorem admitted_none (m : M) (hin : ∀ i, i < m.lim → ∀ seen, ∃ seen', inSet m.code (m.text.getD i 0) m.code.size 5 true seen = .ok (false, seen')) :
    ∀ fuel s seen, ∃ seen', M.admitted m fuel s seen = .ok (none, seen')
  | 0, s, seen => ⟨seen, rfl⟩
  | fuel + 1, s, seen => by
    unfold M.admitted
    by_cases h : s ≥ m.lim
    · rw [if_pos h]; exact ⟨_, rfl⟩
    · rw [if_neg h]
      obtain ⟨seen', e⟩ := hin s (by omega) seen
      rw [e]
      exact admitted_none m hin fuel (s + 1) seen'
theorem say_end {m : M} (ha : m.answer = some false) (hf : m.frames = []) (ho : m.outcome = none) : (m.runFor 1).outcome = some .failed := by
  rw [runFor_succ (by rw [ho]; rfl)]
  show m.step.outcome = _
  unfold M.step
  rw [ho, ha, hf]
  rfl
theorem from_none (m : M) (s : Nat) (first : Bool) (hf : m.code.getD 0 0 = 14) (h2 : m.code.getD 2 0 = 4) (hfr : m.frames = []) (ho : m.outcome = none)
    (hin : ∀ i, i < m.lim → ∀ seen, ∃ seen', inSet m.code (m.text.getD i 0) m.code.size 5 true seen = .ok (false, seen')) :
    (m.attemptFrom s first).answer = some false ∧ (m.attemptFrom s first).frames = [] ∧ (m.attemptFrom s first).outcome = none := by
  unfold M.attemptFrom
  rw [if_neg (by
    show ¬ (!((match ops[m.code.getD 0 0]? with | some .INFO => true | _ => false) && m.code.getD 2 0 == 4)) = true
    rw [hf, h2]; decide)]
  obtain ⟨seen', e⟩ := admitted_none m hin (m.lim + 1 - s) s m.seen
  rw [e]
  exact ⟨rfl, hfr, ho⟩
theorem search_none (code text : Array Nat) (h1 : (header code).1 = 1) (hf : code.getD 0 0 = 14) (h2 : code.getD 2 0 = 4)
    (hin : ∀ c ∈ text.toList, ∀ seen, ∃ seen', inSet code c code.size 5 true seen = .ok (false, seen')) : ((forSearch code text 0 0 text.size false).runFor 1).outcome = some .failed := by
  have key : (forSearch code text 0 0 text.size false).answer = some false ∧ (forSearch code text 0 0 text.size false).frames = [] ∧ (forSearch code text 0 0 text.size false).outcome = none := by
    unfold forSearch
    rw [h1]
    by_cases h0 : (decide (0 > text.size) || decide (text.size - 0 < 1)) = true
    · simp only [h0, if_true]
      exact ⟨rfl, rfl, rfl⟩
    · simp only [h0, if_false, Bool.false_eq_true]
      refine from_none _ 0 true hf h2 rfl rfl fun i hi seen => hin _ ?_ seen
      have hi : i < text.size := hi
      show text.getD i 0 ∈ _
      rw [Array.getD_eq_getD_getElem?, Array.getElem?_eq_getElem hi]
      simp
  exact say_end key.1 key.2.1 key.2.2
theorem search86 (text : Array Nat) (h : ∀ c ∈ text.toList, okN c) : ((forSearch c86 text 0 0 text.size false).runFor 1).outcome = some .failed :=
  search_none c86 text rfl rfl rfl fun c hc => in86 c (h c hc)
theorem search91 (text : Array Nat) (h : ∀ c ∈ text.toList, okV c) : ((forSearch c91 text 0 0 text.size false).runFor 1).outcome = some .failed :=
  search_none c91 text rfl rfl rfl fun c hc => in91 c (h c hc)
end Mine
namespace Mine
open PySem PySem.W PyProof.Rows PySem.Spec PySem.Calls
open PySem.Sre
def fr64 (i : Nat) (first : Bool) : Sre.Frame := { wait := .nextStart, pc := 5, pos := i, outermost := first }
def st64 (t : Array Nat) (lim i h : Nat) (first : Bool) (seen : Sre.Seen) : M :=
  { code := c64, text := t, lim := lim, start := i, lastStart := lim, pc := 5, pos := i, handed := h, outermost := first, marks := #[], frames := [fr64 i first], weight := 1, seen := seen }
section
variable {t : Array Nat} {lim i h : Nat} {first : Bool} {seen : Sre.Seen}
theorem st64_at (b : Bool) (hb : (i == 0 || t.getD (i - 1) 0 == 10) = b) :
    (st64 t lim i h first seen).step = if b then { st64 t lim i h first ((seen.add 6).add 44) with pc := 7 } else { st64 t lim i h first ((seen.add 6).add 44) with answer := some false } := by
  have e : (st64 t lim i h first seen).step = (if (i == 0 || t.getD (i - 1) 0 == 10) = true then { st64 t lim i h first ((seen.add 6).add 44) with pc := 7 } else { st64 t lim i h first ((seen.add 6).add 44) with answer := some false }) := rfl
  rw [e, hb]
theorem st64_lit (hi : i < lim) (b : Bool) (hb : (t.getD i 0 == 46) = b) :
    (M.step { st64 t lim i h first seen with pc := 7 }) = if b then { st64 t lim i h first (seen.add 16) with pc := 9, pos := i + 1 } else { st64 t lim i h first (seen.add 16) with pc := 7, answer := some false } := by
  have e : (M.step { st64 t lim i h first seen with pc := 7 }) = (if i ≥ lim then { st64 t lim i h first (seen.add 16) with pc := 7, answer := some false } else
    match (t.getD i 0 == 46) with | true => { st64 t lim i h first (seen.add 16) with pc := 9, pos := i + 1 } | false => { st64 t lim i h first (seen.add 16) with pc := 7, answer := some false }) := by
    have e1 : (M.step { st64 t lim i h first seen with pc := 7 }) = (if i ≥ lim then { st64 t lim i h first (seen.add 16) with pc := 7, answer := some false } else
      match (Except.ok (t.getD i 0 == 46, seen.add 16) : Except String (Bool × Sre.Seen)) with
      | .error why => M.stick { st64 t lim i h first (seen.add 16) with pc := 7 } why
      | .ok (false, seen) => { st64 t lim i h first seen with pc := 7, answer := some false }
      | .ok (true, seen) => { st64 t lim i h first seen with pc := 9, pos := i + 1 }) := rfl
    rw [e1]
    cases (t.getD i 0 == 46) <;> rfl
  rw [e, if_neg (by omega), hb]
  cases b <;> rfl
theorem st64_litEnd (hi : lim ≤ i) : (M.step { st64 t lim i h first seen with pc := 7 }) = { st64 t lim i h first (seen.add 16) with pc := 7, answer := some false } := by
  have e1 : (M.step { st64 t lim i h first seen with pc := 7 }) = (if i ≥ lim then { st64 t lim i h first (seen.add 16) with pc := 7, answer := some false } else
      match (Except.ok (t.getD i 0 == 46, seen.add 16) : Except String (Bool × Sre.Seen)) with
      | .error why => M.stick { st64 t lim i h first (seen.add 16) with pc := 7 } why
      | .ok (false, seen) => { st64 t lim i h first seen with pc := 7, answer := some false }
      | .ok (true, seen) => { st64 t lim i h first seen with pc := 9, pos := i + 1 }) := rfl
  rw [e1, if_pos hi]
theorem st64_suc : ((M.runFor 3 { st64 t lim i h first seen with pc := 9, pos := i + 1 }).outcome, (M.runFor 3 { st64 t lim i h first seen with pc := 9, pos := i + 1 }).start, (M.runFor 3 { st64 t lim i h first seen with pc := 9, pos := i + 1 }).handed) = (some .matched, i, i + 1) := by
  cases first <;> rfl
theorem st64_back (q : Nat) : (M.step { st64 t lim i h first seen with pc := q, answer := some false }) = if i < lim then st64 t lim (i + 1) (i + 1) false seen else { st64 t lim i h first seen with frames := [], weight := 0, answer := some false } := by
  have e : (M.step { st64 t lim i h first seen with pc := q, answer := some false }) = (if i < lim then st64 t lim (i + 1) (i + 1) false seen else { st64 t lim i h first seen with frames := [], weight := 0, answer := some false }) := rfl
  exact e
end
def isDot (t : Array Nat) (lim i : Nat) : Bool := (i == 0 || t.getD (i - 1) 0 == 10) && (decide (i < lim) && t.getD i 0 == 46)
/-- one place where the pattern does not match -/
theorem st64_skip {t : Array Nat} {lim i h : Nat} {first : Bool} (hd : isDot t lim i = false) (seen : Sre.Seen) : ∃ n seen', n ≤ 3 ∧ (st64 t lim i h first seen).runFor n = if i < lim then st64 t lim (i + 1) (i + 1) false seen' else { st64 t lim i h first seen' with frames := [], weight := 0, answer := some false } := by
  cases hb : (i == 0 || t.getD (i - 1) 0 == 10) with
  | false =>
    refine ⟨2, (seen.add 6).add 44, by omega, ?_⟩
    rw [runFor_succ rfl, st64_at false hb, if_neg Bool.false_ne_true, runFor_succ rfl]
    exact st64_back 5
  | true =>
    refine ⟨3, ((seen.add 6).add 44).add 16, by omega, ?_⟩
    rw [runFor_succ rfl, st64_at true hb, if_pos rfl, runFor_succ rfl]
    unfold isDot at hd
    rw [hb, Bool.true_and] at hd
    by_cases hi : i < lim
    · rw [decide_eq_true hi, Bool.true_and] at hd
      rw [st64_lit hi false hd, if_neg Bool.false_ne_true, runFor_succ rfl]
      exact st64_back 7
    · rw [st64_litEnd (Nat.le_of_not_lt hi), runFor_succ rfl]
      exact st64_back 7
theorem st64_hit {t : Array Nat} {lim i h : Nat} {first : Bool} (hd : isDot t lim i = true) (seen : Sre.Seen) :
    ((st64 t lim i h first seen).runFor 5).outcome = some .matched ∧ ((st64 t lim i h first seen).runFor 5).start = i ∧ ((st64 t lim i h first seen).runFor 5).handed = i + 1 := by
  unfold isDot at hd
  simp only [Bool.and_eq_true, decide_eq_true_eq] at hd
  rw [runFor_succ rfl, st64_at true hd.1, if_pos rfl, runFor_succ rfl, st64_lit hd.2.1 true hd.2.2, if_pos rfl]
  have e := st64_suc (t := t) (lim := lim) (i := i) (h := h) (first := first) (seen := ((seen.add 6).add 44).add 16)
  simp only [Prod.mk.injEq] at e
  exact e
/-- the next place from i on -/
def nextDot (t : Array Nat) (lim : Nat) : Nat → Nat → Option Nat
  | 0, _ => none
  | k + 1, i => if isDot t lim i then some i else nextDot t lim k (i + 1)
theorem st64_run {t : Array Nat} {lim : Nat} : ∀ (k i h : Nat) (first : Bool) (seen : Sre.Seen), i + k = lim + 1 → 0 < k →
    ∃ n, n ≤ 3 * k + 5 ∧ match nextDot t lim k i with
      | some a => ((st64 t lim i h first seen).runFor n).outcome = some .matched ∧ ((st64 t lim i h first seen).runFor n).start = a ∧ ((st64 t lim i h first seen).runFor n).handed = a + 1
      | none => ((st64 t lim i h first seen).runFor n).outcome = some .failed
  | 0, _, _, _, _, _, h0 => absurd h0 (Nat.lt_irrefl _)
  | k + 1, i, h, first, seen, hk, _ => by
    unfold nextDot
    cases hd : isDot t lim i with
    | true => exact ⟨5, by omega, st64_hit hd seen⟩
    | false =>
      simp only [Bool.false_eq_true, if_false]
      obtain ⟨n, seen', hn, e⟩ := st64_skip (h := h) (first := first) hd seen
      by_cases hi : i < lim
      · rw [if_pos hi] at e
        obtain ⟨n', hn', e'⟩ := st64_run (t := t) (lim := lim) k (i + 1) (i + 1) false seen' (by omega) (by omega)
        refine ⟨n + n', by omega, ?_⟩
        rw [runFor_add, e]; exact e'
      · rw [if_neg hi] at e
        have hk0 : k = 0 := by omega
        subst hk0
        refine ⟨n + 1, by omega, ?_⟩
        rw [runFor_add, e]
        exact say_end rfl rfl rfl
theorem search64 (t : Array Nat) (s : Nat) (hs : s ≤ t.size) (hz : t.size ≤ 2 ^ 40) : ∃ n, n ≤ 2 ^ 60 ∧ match nextDot t t.size (t.size + 1 - s) s with
      | some a => ((forSearch c64 t 0 s t.size false).runFor n).outcome = some .matched ∧ ((forSearch c64 t 0 s t.size false).runFor n).start = a ∧ ((forSearch c64 t 0 s t.size false).runFor n).handed = a + 1
      | none => ((forSearch c64 t 0 s t.size false).runFor n).outcome = some .failed := by
  by_cases h0 : s < t.size
  · have e : forSearch c64 t 0 s t.size false = st64 t t.size s s true (({} : Sre.Seen).add 14) := by
      have e1 : forSearch c64 t 0 s t.size false = (if (decide (s > t.size) || decide (t.size - s < 1)) = true then M.say { st64 t t.size s s true (({} : Sre.Seen).add 14) with frames := [], weight := 0, lastStart := 0 } false else st64 t t.size s s true (({} : Sre.Seen).add 14)) := rfl
      rw [e1, if_neg (by simp; omega)]
    rw [e]
    obtain ⟨n, hn, r⟩ := st64_run (t := t) (lim := t.size) (t.size + 1 - s) s s true (({} : Sre.Seen).add 14) (by omega) (by omega)
    exact ⟨n, by omega, r⟩
  · have hs' : s = t.size := by omega
    subst hs'
    have e : forSearch c64 t 0 t.size t.size false = M.say { st64 t t.size t.size t.size true (({} : Sre.Seen).add 14) with frames := [], weight := 0, lastStart := 0 } false := by
      have e1 : forSearch c64 t 0 t.size t.size false = (if (decide (t.size > t.size) || decide (t.size - t.size < 1)) = true then M.say { st64 t t.size t.size t.size true (({} : Sre.Seen).add 14) with frames := [], weight := 0, lastStart := 0 } false else st64 t t.size t.size t.size true (({} : Sre.Seen).add 14)) := rfl
      rw [e1, if_pos (by simp)]
    have hn : nextDot t t.size (t.size + 1 - t.size) t.size = none := by
      have : t.size + 1 - t.size = 1 := by omega
      rw [this]
      unfold nextDot isDot
      simp [nextDot]
    rw [hn, e]
    exact ⟨1, by omega, say_end rfl rfl rfl⟩
end Mine
namespace Mine
open PySem PySem.W PyProof.Rows PySem.Spec PySem.Calls
open PySem.Sre
def q69 (t : Array Nat) (lim i pc pos h : Nat) (fs : List Sre.Frame) (wt : Nat) (out : Bool) (ans : Option Bool) (seen : Sre.Seen) : M :=
  { code := c69, text := t, lim := lim, start := i, lastStart := lim, pc := pc, pos := pos, handed := h, outermost := out, marks := #[], frames := fs, weight := wt, answer := ans, seen := seen }
def nsF (i : Nat) (first : Bool) : Sre.Frame := { wait := .nextStart, pc := 10, pos := i, outermost := first }
def nbF (i a : Nat) (first : Bool) : Sre.Frame := { wait := .nextBranch, pc := a, pos := i, outermost := first }
def lnF (p : Nat) (first : Bool) : Sre.Frame := { wait := .lookNot, pc := 26, pos := p, outermost := first }
section
variable {t : Array Nat} {lim i pos h wt : Nat} {first out : Bool} {fs : List Sre.Frame} {seen : Sre.Seen}
theorem lit12 (p : pos < lim) (b : Bool) (hb : (t.getD pos 0 == 13) = b) : (q69 t lim i 12 pos h fs wt out none seen).step = if b then q69 t lim i 14 (pos + 1) h fs wt out none (seen.add 16) else q69 t lim i 12 pos h fs wt out (some false) (seen.add 16) := by
  have e1 : (q69 t lim i 12 pos h fs wt out none seen).step = (if pos ≥ lim then q69 t lim i 12 pos h fs wt out (some false) (seen.add 16) else
      match (Except.ok (t.getD pos 0 == 13, seen.add 16) : Except String (Bool × Sre.Seen)) with
      | .error why => M.stick (q69 t lim i 12 pos h fs wt out none (seen.add 16)) why
      | .ok (false, seen) => q69 t lim i 12 pos h fs wt out (some false) seen
      | .ok (true, seen) => q69 t lim i 14 (pos + 1) h fs wt out none seen) := rfl
  rw [e1, if_neg (by omega), hb]
  cases b <;> rfl
theorem litE12 (p : lim ≤ pos) : (q69 t lim i 12 pos h fs wt out none seen).step = q69 t lim i 12 pos h fs wt out (some false) (seen.add 16) := by
  have e1 : (q69 t lim i 12 pos h fs wt out none seen).step = (if pos ≥ lim then q69 t lim i 12 pos h fs wt out (some false) (seen.add 16) else
      match (Except.ok (t.getD pos 0 == 13, seen.add 16) : Except String (Bool × Sre.Seen)) with
      | .error why => M.stick (q69 t lim i 12 pos h fs wt out none (seen.add 16)) why
      | .ok (false, seen) => q69 t lim i 12 pos h fs wt out (some false) seen
      | .ok (true, seen) => q69 t lim i 14 (pos + 1) h fs wt out none seen) := rfl
  rw [e1, if_pos p]
theorem lit14 (p : pos < lim) (b : Bool) (hb : (t.getD pos 0 == 10) = b) : (q69 t lim i 14 pos h fs wt out none seen).step = if b then q69 t lim i 16 (pos + 1) h fs wt out none (seen.add 16) else q69 t lim i 14 pos h fs wt out (some false) (seen.add 16) := by
  have e1 : (q69 t lim i 14 pos h fs wt out none seen).step = (if pos ≥ lim then q69 t lim i 14 pos h fs wt out (some false) (seen.add 16) else
      match (Except.ok (t.getD pos 0 == 10, seen.add 16) : Except String (Bool × Sre.Seen)) with
      | .error why => M.stick (q69 t lim i 14 pos h fs wt out none (seen.add 16)) why
      | .ok (false, seen) => q69 t lim i 14 pos h fs wt out (some false) seen
      | .ok (true, seen) => q69 t lim i 16 (pos + 1) h fs wt out none seen) := rfl
  rw [e1, if_neg (by omega), hb]
  cases b <;> rfl
theorem litE14 (p : lim ≤ pos) : (q69 t lim i 14 pos h fs wt out none seen).step = q69 t lim i 14 pos h fs wt out (some false) (seen.add 16) := by
  have e1 : (q69 t lim i 14 pos h fs wt out none seen).step = (if pos ≥ lim then q69 t lim i 14 pos h fs wt out (some false) (seen.add 16) else
      match (Except.ok (t.getD pos 0 == 10, seen.add 16) : Except String (Bool × Sre.Seen)) with
      | .error why => M.stick (q69 t lim i 14 pos h fs wt out none (seen.add 16)) why
      | .ok (false, seen) => q69 t lim i 14 pos h fs wt out (some false) seen
      | .ok (true, seen) => q69 t lim i 16 (pos + 1) h fs wt out none seen) := rfl
  rw [e1, if_pos p]
theorem lit19 (p : pos < lim) (b : Bool) (hb : (t.getD pos 0 == 10) = b) : (q69 t lim i 19 pos h fs wt out none seen).step = if b then q69 t lim i 21 (pos + 1) h fs wt out none (seen.add 16) else q69 t lim i 19 pos h fs wt out (some false) (seen.add 16) := by
  have e1 : (q69 t lim i 19 pos h fs wt out none seen).step = (if pos ≥ lim then q69 t lim i 19 pos h fs wt out (some false) (seen.add 16) else
      match (Except.ok (t.getD pos 0 == 10, seen.add 16) : Except String (Bool × Sre.Seen)) with
      | .error why => M.stick (q69 t lim i 19 pos h fs wt out none (seen.add 16)) why
      | .ok (false, seen) => q69 t lim i 19 pos h fs wt out (some false) seen
      | .ok (true, seen) => q69 t lim i 21 (pos + 1) h fs wt out none seen) := rfl
  rw [e1, if_neg (by omega), hb]
  cases b <;> rfl
theorem litE19 (p : lim ≤ pos) : (q69 t lim i 19 pos h fs wt out none seen).step = q69 t lim i 19 pos h fs wt out (some false) (seen.add 16) := by
  have e1 : (q69 t lim i 19 pos h fs wt out none seen).step = (if pos ≥ lim then q69 t lim i 19 pos h fs wt out (some false) (seen.add 16) else
      match (Except.ok (t.getD pos 0 == 10, seen.add 16) : Except String (Bool × Sre.Seen)) with
      | .error why => M.stick (q69 t lim i 19 pos h fs wt out none (seen.add 16)) why
      | .ok (false, seen) => q69 t lim i 19 pos h fs wt out (some false) seen
      | .ok (true, seen) => q69 t lim i 21 (pos + 1) h fs wt out none seen) := rfl
  rw [e1, if_pos p]
theorem lit24 (p : pos < lim) (b : Bool) (hb : (t.getD pos 0 == 13) = b) : (q69 t lim i 24 pos h fs wt out none seen).step = if b then q69 t lim i 26 (pos + 1) h fs wt out none (seen.add 16) else q69 t lim i 24 pos h fs wt out (some false) (seen.add 16) := by
  have e1 : (q69 t lim i 24 pos h fs wt out none seen).step = (if pos ≥ lim then q69 t lim i 24 pos h fs wt out (some false) (seen.add 16) else
      match (Except.ok (t.getD pos 0 == 13, seen.add 16) : Except String (Bool × Sre.Seen)) with
      | .error why => M.stick (q69 t lim i 24 pos h fs wt out none (seen.add 16)) why
      | .ok (false, seen) => q69 t lim i 24 pos h fs wt out (some false) seen
      | .ok (true, seen) => q69 t lim i 26 (pos + 1) h fs wt out none seen) := rfl
  rw [e1, if_neg (by omega), hb]
  cases b <;> rfl
theorem litE24 (p : lim ≤ pos) : (q69 t lim i 24 pos h fs wt out none seen).step = q69 t lim i 24 pos h fs wt out (some false) (seen.add 16) := by
  have e1 : (q69 t lim i 24 pos h fs wt out none seen).step = (if pos ≥ lim then q69 t lim i 24 pos h fs wt out (some false) (seen.add 16) else
      match (Except.ok (t.getD pos 0 == 13, seen.add 16) : Except String (Bool × Sre.Seen)) with
      | .error why => M.stick (q69 t lim i 24 pos h fs wt out none (seen.add 16)) why
      | .ok (false, seen) => q69 t lim i 24 pos h fs wt out (some false) seen
      | .ok (true, seen) => q69 t lim i 26 (pos + 1) h fs wt out none seen) := rfl
  rw [e1, if_pos p]
theorem lit29 (p : pos < lim) (b : Bool) (hb : (t.getD pos 0 == 10) = b) : (q69 t lim i 29 pos h fs wt out none seen).step = if b then q69 t lim i 31 (pos + 1) h fs wt out none (seen.add 16) else q69 t lim i 29 pos h fs wt out (some false) (seen.add 16) := by
  have e1 : (q69 t lim i 29 pos h fs wt out none seen).step = (if pos ≥ lim then q69 t lim i 29 pos h fs wt out (some false) (seen.add 16) else
      match (Except.ok (t.getD pos 0 == 10, seen.add 16) : Except String (Bool × Sre.Seen)) with
      | .error why => M.stick (q69 t lim i 29 pos h fs wt out none (seen.add 16)) why
      | .ok (false, seen) => q69 t lim i 29 pos h fs wt out (some false) seen
      | .ok (true, seen) => q69 t lim i 31 (pos + 1) h fs wt out none seen) := rfl
  rw [e1, if_neg (by omega), hb]
  cases b <;> rfl
theorem litE29 (p : lim ≤ pos) : (q69 t lim i 29 pos h fs wt out none seen).step = q69 t lim i 29 pos h fs wt out (some false) (seen.add 16) := by
  have e1 : (q69 t lim i 29 pos h fs wt out none seen).step = (if pos ≥ lim then q69 t lim i 29 pos h fs wt out (some false) (seen.add 16) else
      match (Except.ok (t.getD pos 0 == 10, seen.add 16) : Except String (Bool × Sre.Seen)) with
      | .error why => M.stick (q69 t lim i 29 pos h fs wt out none (seen.add 16)) why
      | .ok (false, seen) => q69 t lim i 29 pos h fs wt out (some false) seen
      | .ok (true, seen) => q69 t lim i 31 (pos + 1) h fs wt out none seen) := rfl
  rw [e1, if_pos p]
theorem br10 : (q69 t lim i 10 i h [nsF i first] 1 first none seen).step = q69 t lim i 12 i i [nbF i 11 first, nsF i first] 2 first none (seen.add 7) := rfl
theorem alt2 (q p : Nat) : (q69 t lim i q p h [nbF i 11 first, nsF i first] 2 first (some false) seen).step = q69 t lim i 19 i i [nbF i 18 first, nsF i first] 2 first none seen := rfl
theorem alt3 (q p : Nat) : (q69 t lim i q p h [nbF i 18 first, nsF i first] 2 first (some false) seen).step = q69 t lim i 24 i i [nbF i 23 first, nsF i first] 2 first none seen := rfl
theorem jmp16 : (q69 t lim i 16 pos h fs wt out none seen).step = q69 t lim i 35 pos h fs wt out none (seen.add 15) := rfl
theorem jmp21 : (q69 t lim i 21 pos h fs wt out none seen).step = q69 t lim i 35 pos h fs wt out none (seen.add 15) := rfl
theorem jmp32 : (q69 t lim i 32 pos h fs wt out none seen).step = q69 t lim i 35 pos h fs wt out none (seen.add 15) := rfl
theorem look26 : (q69 t lim i 26 pos h [nbF i 23 first, nsF i first] 2 first none seen).step = q69 t lim i 29 pos pos [lnF pos first, nbF i 23 first, nsF i first] 3 false none (seen.add 5) := rfl
theorem back26 (q p : Nat) : (q69 t lim i q p h [lnF pos first, nbF i 23 first, nsF i first] 3 false (some false) seen).step = q69 t lim i 32 pos h [nbF i 23 first, nsF i first] 2 first none seen := rfl
theorem suc35 (a : Nat) : (((q69 t lim i 35 pos h [nbF i a first, nsF i first] 2 first none seen).runFor 4).outcome, ((q69 t lim i 35 pos h [nbF i a first, nsF i first] 2 first none seen).runFor 4).start, ((q69 t lim i 35 pos h [nbF i a first, nsF i first] 2 first none seen).runFor 4).handed) = (some .matched, i, pos) := by
  cases first <;> rfl
end
/-- the width of the line end at i -/
def crW (t : Array Nat) (lim i : Nat) : Nat := if t.getD i 0 = 13 ∧ i + 1 < lim ∧ t.getD (i + 1) 0 = 10 then 2 else 1
theorem q69_hit {t : Array Nat} {lim i h : Nat} {first : Bool} (hi : i < lim) (hc : t.getD i 0 = 10 ∨ t.getD i 0 = 13) (seen : Sre.Seen) : ∃ n, n ≤ 20 ∧
    ((q69 t lim i 10 i h [nsF i first] 1 first none seen).runFor n).outcome = some .matched ∧ ((q69 t lim i 10 i h [nsF i first] 1 first none seen).runFor n).start = i ∧ ((q69 t lim i 10 i h [nsF i first] 1 first none seen).runFor n).handed = i + crW t lim i := by
  by_cases h13 : t.getD i 0 = 13
  · by_cases h10 : i + 1 < lim ∧ t.getD (i + 1) 0 = 10
    · have hw : crW t lim i = 2 := if_pos ⟨h13, h10.1, h10.2⟩
      rw [hw]
      refine ⟨8, by omega, ?_⟩
      rw [runFor_succ rfl, br10, runFor_succ rfl, lit12 hi true (by rw [h13]; rfl), if_pos rfl, runFor_succ rfl, lit14 h10.1 true (by rw [h10.2]; rfl), if_pos rfl, runFor_succ rfl, jmp16]
      have e := suc35 (t := t) (lim := lim) (i := i) (pos := i + 1 + 1) (h := i) (first := first) (seen := ((((seen.add 7).add 16).add 16).add 15)) 11
      simp only [Prod.mk.injEq] at e
      exact e
    · have hw : crW t lim i = 1 := if_neg (fun q => h10 q.2)
      rw [hw]
      have e2 : ∃ seen', (q69 t lim i 14 (i + 1) i [nbF i 11 first, nsF i first] 2 first none ((seen.add 7).add 16)).step = q69 t lim i 14 (i + 1) i [nbF i 11 first, nsF i first] 2 first (some false) seen' := by
        by_cases hl : i + 1 < lim
        · exact ⟨_, (lit14 hl false (by simp; exact fun q => h10 ⟨hl, by simpa using q⟩)).trans (if_neg Bool.false_ne_true)⟩
        · exact ⟨_, litE14 (by omega)⟩
      obtain ⟨s2, e2⟩ := e2
      have e3 : ∃ seen', (q69 t lim i 29 (i + 1) (i + 1) [lnF (i + 1) first, nbF i 23 first, nsF i first] 3 false none (((s2.add 16).add 16).add 5)).step = q69 t lim i 29 (i + 1) (i + 1) [lnF (i + 1) first, nbF i 23 first, nsF i first] 3 false (some false) seen' := by
        by_cases hl : i + 1 < lim
        · exact ⟨_, (lit29 hl false (by simp; exact fun q => h10 ⟨hl, by simpa using q⟩)).trans (if_neg Bool.false_ne_true)⟩
        · exact ⟨_, litE29 (by omega)⟩
      obtain ⟨s3, e3⟩ := e3
      refine ⟨15, by omega, ?_⟩
      rw [runFor_succ rfl, br10, runFor_succ rfl, lit12 hi true (by rw [h13]; rfl), if_pos rfl, runFor_succ rfl, e2, runFor_succ rfl, alt2, runFor_succ rfl, lit19 hi false (by rw [h13]; rfl), if_neg Bool.false_ne_true,
        runFor_succ rfl, alt3, runFor_succ rfl, lit24 hi true (by rw [h13]; rfl), if_pos rfl, runFor_succ rfl, look26, runFor_succ rfl, e3, runFor_succ rfl, back26, runFor_succ rfl, jmp32]
      have e := suc35 (t := t) (lim := lim) (i := i) (pos := i + 1) (h := i + 1) (first := first) (seen := s3.add 15) 23
      simp only [Prod.mk.injEq] at e
      exact e
  · have h10 := hc.resolve_right h13
    have hw : crW t lim i = 1 := if_neg (fun q => h13 q.1)
    rw [hw]
    refine ⟨9, by omega, ?_⟩
    rw [runFor_succ rfl, br10, runFor_succ rfl, lit12 hi false (by rw [h10]; rfl), if_neg Bool.false_ne_true, runFor_succ rfl, alt2, runFor_succ rfl, lit19 hi true (by rw [h10]; rfl), if_pos rfl, runFor_succ rfl, jmp21]
    have e := suc35 (t := t) (lim := lim) (i := i) (pos := i + 1) (h := i) (first := first) (seen := ((((seen.add 7).add 16).add 16).add 15)) 18
    simp only [Prod.mk.injEq] at e
    exact e
theorem in69 (c : Nat) (seen : Sre.Seen) : ∃ seen', inSet c69 c c69.size 5 true seen = .ok (c == 10 || c == 13, seen') := by
  show ∃ seen', inSet c69 c 36 5 true seen = _
  have e0 : ∀ seen, inSet c69 c 34 9 true seen = .ok (false, seen.add 0) := fun seen => rfl
  have e1 : ∀ seen : Sre.Seen, inSet c69 c 35 7 true seen = if (c == 13) = true then .ok (true, seen.add 16) else inSet c69 c 34 9 true (seen.add 16) := fun seen => rfl
  have e2 : inSet c69 c 36 5 true seen = if (c == 10) = true then .ok (true, seen.add 16) else inSet c69 c 35 7 true (seen.add 16) := rfl
  rw [e2, e1, e0]
  cases (c == 10) <;> cases (c == 13) <;> exact ⟨_, rfl⟩
/-- the next line end from i on -/
def nextCr (t : Array Nat) (lim : Nat) : Nat → Nat → Option Nat
  | 0, _ => none
  | k + 1, i => if i ≥ lim then none else if (t.getD i 0 == 10 || t.getD i 0 == 13) = true then some i else nextCr t lim k (i + 1)
theorem adm69 (m : M) (hc : m.code = c69) : ∀ (k i : Nat) (seen : Sre.Seen), ∃ seen', M.admitted m k i seen = .ok (nextCr m.text m.lim k i, seen')
  | 0, i, seen => ⟨seen, rfl⟩
  | k + 1, i, seen => by
    unfold M.admitted nextCr
    by_cases h : i ≥ m.lim
    · rw [if_pos h, if_pos h]; exact ⟨_, rfl⟩
    · rw [if_neg h, if_neg h, hc]
      obtain ⟨s', e⟩ := in69 (m.text.getD i 0) seen
      rw [e]
      cases hb : (m.text.getD i 0 == 10 || m.text.getD i 0 == 13) with
      | true => exact ⟨_, rfl⟩
      | false => exact adm69 m hc k (i + 1) s'
theorem nextCr_some {t : Array Nat} {lim : Nat} : ∀ {k i a : Nat}, nextCr t lim k i = some a → i ≤ a ∧ a < lim ∧ (t.getD a 0 = 10 ∨ t.getD a 0 = 13)
  | 0, _, _, h => by cases h
  | k + 1, i, a, h => by
    unfold nextCr at h
    split at h
    · cases h
    · split at h
      · rename_i h1 h2
        cases h
        exact ⟨Nat.le_refl _, by omega, by simpa using h2⟩
      · have := nextCr_some h
        exact ⟨by omega, this.2⟩
theorem search69 (t : Array Nat) (s : Nat) (hs : s ≤ t.size) : ∃ n, n ≤ 2 ^ 60 ∧ match nextCr t t.size (t.size + 1 - s) s with
      | some a => ((forSearch c69 t 0 s t.size false).runFor n).outcome = some .matched ∧ ((forSearch c69 t 0 s t.size false).runFor n).start = a ∧ ((forSearch c69 t 0 s t.size false).runFor n).handed = a + crW t t.size a
      | none => ((forSearch c69 t 0 s t.size false).runFor n).outcome = some .failed := by
  have e1 : forSearch c69 t 0 s t.size false = (if (decide (s > t.size) || decide (t.size - s < 1)) = true then M.say { q69 t t.size s 10 s s [] 0 true none (({} : Sre.Seen).add 14) with lastStart := 0 } false else
      match M.admitted (q69 t t.size s 10 s s [] 0 true none (({} : Sre.Seen).add 14)) (t.size + 1 - s) s (({} : Sre.Seen).add 14) with
      | .ok (some a, seen) => q69 t t.size a 10 a a [nsF a true] 1 true none seen
      | .ok (none, seen) => q69 t t.size s 10 s s [] 0 true (some false) seen
      | .error why => M.stick (q69 t t.size s 10 s s [] 0 true none (({} : Sre.Seen).add 14)) why) := rfl
  by_cases h0 : s < t.size
  · rw [e1, if_neg (by simp; omega)]
    obtain ⟨seen', e⟩ := adm69 (q69 t t.size s 10 s s [] 0 true none (({} : Sre.Seen).add 14)) rfl (t.size + 1 - s) s (({} : Sre.Seen).add 14)
    rw [e]
    show ∃ n, n ≤ 2 ^ 60 ∧ match nextCr t t.size (t.size + 1 - s) s with | some a => _ | none => _
    cases hn : nextCr t t.size (t.size + 1 - s) s with
    | none => exact ⟨1, by omega, by
        show (M.runFor 1 (match (Except.ok (nextCr t t.size (t.size + 1 - s) s, seen') : Except String (Option Nat × Sre.Seen)) with | .ok (some a, seen) => _ | .ok (none, seen) => _ | .error why => _)).outcome = _
        rw [hn]; exact say_end rfl rfl rfl⟩
    | some a =>
      obtain ⟨_, ha, hc⟩ := nextCr_some hn
      obtain ⟨n, hn', r⟩ := q69_hit (t := t) (lim := t.size) (i := a) (h := a) (first := true) ha hc seen'
      refine ⟨n, by omega, ?_⟩
      show (M.runFor n (match (Except.ok (nextCr t t.size (t.size + 1 - s) s, seen') : Except String (Option Nat × Sre.Seen)) with | .ok (some a, seen) => _ | .ok (none, seen) => _ | .error why => _)).outcome = _ ∧ (M.runFor n (match (Except.ok (nextCr t t.size (t.size + 1 - s) s, seen') : Except String (Option Nat × Sre.Seen)) with | .ok (some a, seen) => _ | .ok (none, seen) => _ | .error why => _)).start = _ ∧ (M.runFor n (match (Except.ok (nextCr t t.size (t.size + 1 - s) s, seen') : Except String (Option Nat × Sre.Seen)) with | .ok (some a, seen) => _ | .ok (none, seen) => _ | .error why => _)).handed = _
      rw [hn]; exact r
  · have hs' : s = t.size := by omega
    subst hs'
    have hn : nextCr t t.size (t.size + 1 - t.size) t.size = none := by
      have : t.size + 1 - t.size = 1 := by omega
      rw [this]
      unfold nextCr
      rw [if_pos (Nat.le_refl _)]
    rw [hn, e1, if_pos (by simp)]
    exact ⟨1, by omega, say_end rfl rfl rfl⟩
end Mine
namespace Mine
open PySem PySem.W PyProof.Rows PySem.Spec PySem.Calls
open PySem.Builtin.Re
/-- a pattern that stands in the heap -/
structure Pat (h : Heap) (a : Addr) (code : Array Nat) : Prop where
  at' : ∃ (T : Addr) (p f : Value) (items : Array Value) (n : Nat), h.get? a = some { cls := .type "re.Pattern", data := .fields #[p, f, .int 0 0, .none, .none, .ref T, .int 0 0] } ∧
    h.get? T = some { cls := .type "tuple", data := .seq items n } ∧ (items.map reRawOf).map (·.toNat) = code
theorem Pat.type {s : Shared} {a : Addr} {code : Array Nat} (P : Pat s.heap a code) : s.TypeIs (.ref a) "re.Pattern" := by
  obtain ⟨T, p, f, items, n, h1, _⟩ := P.at'
  exact ⟨_, h1, rfl⟩
section
variable {prog : Program} {w : World} {A : Around} {E : Value → Shared → Prop} {s : Shared} {a : Addr} {code : Array Nat} {x : Str} {t : Tok}
theorem pat_method {name : Str} {id : String} {pl : Sem Bool} {M : Model} {Q : Value × List Value → Shared → Prop} (P : Pat s.heap a code) (slot : Slot "re.Pattern" name id) (ty : typeOf (.builtin id) = pure (.type "method_descriptor"))
    (h : Q (.builtin id, [.ref a]) s) : wpAny M A (getMethod (.ref a) name pl) Q E s :=
  getMethod_builtin P.type pat_attrs slot ty (fun b e => by
    cases e
    obtain ⟨T, p, f, items, n, h1, _⟩ := P.at'
    exact ⟨_, h1, rfl⟩) h
theorem rawItems {T : Addr} {items : Array Value} {n : Nat} {Q : Array Int → Shared → Prop} {M : Model} (h2 : s.heap.get? T = some { cls := .type "tuple", data := .seq items n }) (hQ : Q (items.map reRawOf) s) : wpAny M A (reRawItems (.ref T)) Q E s := by
  unfold reRawItems
  exact wpAny_bind (wpAny_seqItems h2 rfl (wpAny_pure hQ))
theorem textOf {Q : Array Nat × Nat → Shared → Prop} {M : Model} (hQ : Q (x.cps, 0) s) : wpAny M A (reTextOf (.str x t)) Q E s := by
  unfold reTextOf
  exact wpAny_bind (wpAny_pure (wpAny_pure hQ))
theorem target_search {Q : ReTarget → Shared → Prop} (P : Pat s.heap a code) (hx : x.length ≤ 16777216) (hQ : Q ⟨.ref a, .str x t, code, x.cps, 0, 0, 0, x.cps.size⟩ s) :
    wpAny (model prog w) A (reTarget "re.Pattern.search" "search" ⟨[.ref a, .str x t], []⟩) Q E s := by
  obtain ⟨T, p, f, items, n, h1, h2, h3⟩ := P.at'
  have e1 : reNamed "re.Pattern.search" "search" ["string", "pos", "endpos"] 1 [.str x t] [] = pure [some (.str x t), none, none] := rfl
  unfold reTarget
  dsimp only
  rw [e1]
  refine wpAny_bind (wpAny_pure ?_)
  dsimp only
  refine wpAny_bind (wpAny_pure ?_)
  refine wpAny_bind (wpAny_pure ?_)
  refine wpAny_bind (wpAny_fieldsOf h1 rfl ?_)
  refine wpAny_bind (textOf ?_)
  dsimp only
  rw [if_neg (show ¬ (reRawNat (#[p, f, Value.int 0 0, Value.none, Value.none, Value.ref T, Value.int 0 0].getD 6 Value.none) == 0 && 0 == 1) = true from Bool.false_ne_true)]
  rw [if_neg (show ¬ (reRawNat (#[p, f, Value.int 0 0, Value.none, Value.none, Value.ref T, Value.int 0 0].getD 6 Value.none) == 1 && 0 == 0) = true from Bool.false_ne_true)]
  refine wpAny_bind (wpAny_pure ?_)
  refine wpAny_bind (rawItems h2 ?_)
  rw [h3]
  refine wpAny_pure ?_
  have e2 : min (2 ^ 63 - 1 : Int).toNat x.cps.size = x.cps.size := Nat.min_eq_right (by have : x.cps.size ≤ 16777216 := hx; omega)
  rw [e2]
  exact hQ
theorem search_call {Q : Value → Shared → Prop} (P : Pat s.heap a code) (hx : x.length ≤ 16777216) (hs : ((Sre.forSearch code x.cps 0 0 x.cps.size false).runFor 1).outcome = some .failed) (hQ : Q .none s) :
    wpAny (model prog w) A (call (.builtin "re.Pattern.search") [.ref a, .str x t]) Q E s := by
  refine wpAny_call_entry slot_search P.type entry_search ?_ (args_search _ _)
  unfold Builtin.«re.Pattern.search»
  refine wpAny_bind (target_search P hx ?_)
  unfold reAnswer
  refine wpAny_bind (runToEnd 1 _ .failed (by omega) hs ?_)
  exact wpAny_pure ⟨_, rfl, hQ⟩
theorem whole_target {Q : ReTarget → Shared → Prop} (P : Pat s.heap a code) (hQ : Q ⟨.ref a, .str x t, code, x.cps, 0, 0, 0, x.cps.size⟩ s) {M : Model} :
    wpAny M A (reWholeTarget (.ref a) (.str x t)) Q E s := by
  obtain ⟨T, p, f, items, n, h1, h2, h3⟩ := P.at'
  unfold reWholeTarget
  refine wpAny_bind (wpAny_fieldsOf h1 rfl ?_)
  refine wpAny_bind (textOf ?_)
  dsimp only
  rw [if_neg (show ¬ (reRawNat (#[p, f, Value.int 0 0, Value.none, Value.none, Value.ref T, Value.int 0 0].getD 6 Value.none) == 0 && 0 == 1) = true from Bool.false_ne_true)]
  rw [if_neg (show ¬ (reRawNat (#[p, f, Value.int 0 0, Value.none, Value.none, Value.ref T, Value.int 0 0].getD 6 Value.none) == 1 && 0 == 0) = true from Bool.false_ne_true)]
  refine wpAny_bind (wpAny_pure ?_)
  refine wpAny_bind (rawItems h2 ?_)
  rw [h3]
  exact wpAny_pure hQ
/-- the finder: what the machine finds from each place on -/
structure Finds (code : Array Nat) (tx : List Nat) (find : Nat → Option (Nat × Nat)) : Prop where
  run : ∀ i, i ≤ tx.length → ∃ n, n ≤ 2 ^ 60 ∧ match find i with
    | some ab => ((Sre.forSearch code tx.toArray 0 i tx.toArray.size false).runFor n).outcome = some .matched ∧ ((Sre.forSearch code tx.toArray 0 i tx.toArray.size false).runFor n).start = ab.1 ∧ ((Sre.forSearch code tx.toArray 0 i tx.toArray.size false).runFor n).handed = ab.2
    | none => ((Sre.forSearch code tx.toArray 0 i tx.toArray.size false).runFor n).outcome = some .failed
  fits : ∀ i a b, find i = some (a, b) → i ≤ a ∧ a < b ∧ b ≤ tx.length
/-- the text with every find made z -/
def subL (find : Nat → Option (Nat × Nat)) (tx z : List Nat) : Nat → Nat → List Nat
  | 0, i => tx.drop i
  | f + 1, i => match find i with
    | some (a, b) => (tx.drop i).take (a - i) ++ z ++ subL find tx z f b
    | none => tx.drop i
theorem str_nocall : typeLookup (.type "str") "__call__" = pure none := by rw [typeLookup_type, builtinLookup_eq_fast]; kernel_rfl
def catS (ys : List Str) : List Nat := ys.flatMap (·.cps.toList)
theorem catS_snoc (ys : List Str) (l : List Nat) : catS (ys ++ [S l]) = catS ys ++ l := by simp [catS, S]
theorem catS_len : ∀ ys : List Str, (ys.map (·.length)).sum = (catS ys).length
  | [] => rfl
  | y :: r => by
    have ih := catS_len r
    rw [List.map_cons, List.sum_cons, ih]
    show y.cps.size + _ = (y.cps.toList ++ catS r).length
    rw [List.length_append]
    simp
theorem glue_cat : ∀ (r : List Str) (acc : Array Nat), (r.foldl (fun acc p => acc ++ (S []).cps ++ p.cps) acc) = acc ++ (catS r).toArray
  | [], acc => by simp [catS]
  | y :: r, acc => by
    rw [List.foldl_cons, glue_cat r]
    apply Array.toList_inj.mp
    simp [catS, S]
theorem join_cat : ∀ ys : List Str, Txt.join (S []) ys = S (catS ys)
  | [] => rfl
  | y :: r => by
    show (⟨r.foldl (fun acc p => acc ++ (S []).cps ++ p.cps) y.cps⟩ : Str) = _
    rw [glue_cat]
    simp [catS, S]
theorem strsAre_snoc {x : Str} {t : Tok} : ∀ {vs : List Value} {ys : List Str}, StrsAre vs ys → StrsAre (vs ++ [.str x t]) (ys ++ [x])
  | _, _, .nil => .cons x t .nil
  | _, _, .cons y u r => .cons y u (strsAre_snoc r)
theorem strsAre_len : ∀ {vs : List Value} {ys : List Str}, StrsAre vs ys → vs.length = ys.length
  | _, _, .nil => rfl
  | _, _, .cons _ _ r => by rw [List.length_cons, List.length_cons, strsAre_len r]
theorem push_l {M : Model} {m : Str → Option Value} {h₀ : Heap} {L l : Addr} {news : List (Addr × Obj)} {items : Array Value} {e : Nat} {v : Value} {Q : Unit → Shared → Prop} (F : Fr h₀ L s.heap m) (N : News h₀ L s.heap ((l, listOf items e) :: news)) (hl : ∀ p ∈ news, p.1 ≠ l) (hsz : items.size ≤ 4000000)
    (h : ∀ h', Fr h₀ L h' m → News h₀ L h' ((l, listOf (items.push v) (e + 1)) :: news) → Q () { s with heap := h' }) : wpAny M A (updateSeq l (·.push v)) Q E s := by
  have z := N _ (.head _)
  have zs : sizeLine = 16777216 := sizeLine_eq
  have e1 : Obj.mapSeq (·.push v) (listOf items e) = listOf (items.push v) (e + 1) := by
    show Obj.mk _ _ (.seq (items.push v) (if (items.push v).size == items.size then e else e + 1)) _ = _
    rw [if_neg (by simp)]
  refine wpAny_updateSeq z.1 rfl (h _ (F.change (Heap.SameBut.update ..) z.2.1 z.2.2) ?_) (by omega) (by simp only [Array.size_push]; omega)
  exact news_set (pre := []) N (fun _ h => nomatch h) hl (Heap.SameBut.update ..) (by rw [Heap.get?_update_self _ z.1 (by rw [e1]; rfl), e1])
theorem slice0 {M : Model} {tx : List Nat} {i j : Nat} {Q : Value → Shared → Prop} (htx : tx.length ≤ 1048576) (h : Q (.str (S ((tx.drop i).take (j - i))) s.toks) { s with toks := s.toks + 1 }) : wpAny M A (reSlice (S tx).cps 0 i j) Q E s := by
  have zs : sizeLine = 16777216 := sizeLine_eq
  have e : (⟨(S tx).cps.extract i j⟩ : Str) = S ((tx.drop i).take (j - i)) := by simp [S, List.extract_eq_take_drop]
  show wpAny M A (mkStr ⟨(S tx).cps.extract i j⟩) Q E s
  rw [e]
  refine wpAny_mkStr h ?_
  rw [S_len, List.length_take, List.length_drop]; omega
theorem loop_plain : plainId "re.Pattern.sub.loop" = true := by decide +kernel
theorem loop_step {find : Nat → Option (Nat × Nat)} {z tx : List Nat} {u : Tok} {m : Str → Option Value} {h₀ : Heap} {L l : Addr} {news : List (Addr × Obj)} (P : Pat h₀ a code) (FD : Finds code tx find) (hl : ∀ p ∈ news, p.1 ≠ l) (htx : tx.length ≤ 1048576) :
    ∀ (f i : Nat) (ys : List Str) (items : Array Value) (e nn : Nat) (s : Shared) (R : Result → Shared → Prop), Fr h₀ L s.heap m → News h₀ L s.heap ((l, listOf items e) :: news) → StrsAre items.toList ys →
      i ≤ tx.length → tx.length + 1 - i ≤ f → items.size ≤ 2 * i → (catS ys ++ subL find tx z f i).length ≤ 16777216 →
      (∀ t' h' tk, Fr h₀ L h' m → News h₀ L h' news → R (.ok (.ret (.str (S (catS ys ++ subL find tx z f i)) t'))) { s with heap := h', toks := tk }) →
      codeAny (model prog w) A (.builtin "re.Pattern.sub.loop" ⟨[.ref a, .str (S tx) t, .str (S z) u, rawInt 0, rawInt 0, rawInt nn, rawInt i, rawInt i, .bool false, .ref l, .bool false], []⟩) R s := by
  intro f
  induction f with
  | zero => intro i ys items e nn s R F N hi hle hf _ _ _; omega
  | succ f ih =>
    intro i ys items e nn s R F N hi hle hf hsz htot hR
    have PP : Pat s.heap a code := by
      obtain ⟨T, p, f, items, n, h1, h2, h3⟩ := P.at'
      exact ⟨T, p, f, items, n, F.keep _ _ h1, F.keep _ _ h2, h3⟩
    have ends : ∀ (ys' : List Str) (items' : Array Value) (e' : Nat) (s' : Shared), s'.gens = s.gens → s'.drawn = s.drawn → s'.os = s.os → Fr h₀ L s'.heap m → News h₀ L s'.heap ((l, listOf items' e') :: news) → StrsAre items'.toList ys' → catS ys' = catS ys ++ subL find tx z (f + 1) i →
        ∀ {B : Around}, wpAny (model prog w) B (do
            let joiner ← reSlice (S tx).cps 0 0 0
            let __do_lift ← seqItems? (Value.ref l)
            if (__do_lift.getD #[]).isEmpty = true then do
                let text ← pure joiner
                if false = true then do
                    let __do_lift ←
                      holding [text] do
                          let __do_lift ← mkInt ↑nn
                          newTuple [text, __do_lift]
                    ret __do_lift
                  else ret text
              else do
                let text ←
                  call (Value.builtin (if (0 == 0) = true then "str.join" else "bytes.join")) [joiner, Value.ref l]
                if false = true then do
                    let __do_lift ←
                      holding [text] do
                          let __do_lift ← mkInt ↑nn
                          newTuple [text, __do_lift]
                    ret __do_lift
                  else ret text) (fun fin s' => match fin with | .done f => R (.ok f) s' | .again c' => c'.quiet = true ∧ codeAny (model prog w) A c' R s') (fun e s' => R (.error e) s') s' := by
      rintro ys' items' e' ⟨h', g', d', t', o'⟩ e1 e2 e3 F' N' hi' hc B
      dsimp only at e1 e2 e3 F' N'
      subst e1; subst e2; subst e3
      refine wpAny_bind (slice0 htx ?_)
      have e0 : ((tx.drop 0).take (0 - 0)) = ([] : List Nat) := by simp
      rw [e0]
      have z := N' _ (.head _)
      refine wpAny_bind (wpAny_seqItems z.1 rfl ?_)
      show wpAny _ _ (if items'.isEmpty = true then _ else _) _ _ _
      have N2 : News h₀ L h' news := fun p hp => N' p (.tail _ hp)
      cases hem : items'.isEmpty with
      | true =>
        rw [if_pos rfl]
        refine wpAny_bind (wpAny_pure ?_)
        rw [if_neg Bool.false_ne_true]
        have hy : ys' = [] := by
          have := strsAre_len hi'
          have h0 : items'.toList = [] := by simpa using hem
          rw [h0] at this
          exact List.length_eq_zero_iff.mp this.symm
        have h0 := hR t' h' (t' + 1) F' N2
        rw [← hc, hy] at h0
        exact wpAny_pure h0
      | false =>
        rw [if_neg Bool.false_ne_true]
        refine wpAny_bind ?_
        refine join_list (x := S []) ⟨_, z.1, rfl, _, rfl⟩ hi' ?_ ?_
        · rw [catS_len, hc]
          have : (S []).length = 0 := rfl
          rw [this, Nat.mul_zero, Nat.add_zero]
          exact htot
        · intro t2 k2
          rw [if_neg Bool.false_ne_true, join_cat, hc]
          exact wpAny_pure (hR t2 h' k2 F' N2)
    obtain ⟨n, hn, hrun⟩ := FD.run i hle
    refine codeAny_builtin entry_loop ?_
    unfold Builtin.«re.Pattern.sub.loop»
    dsimp only [rawInt]
    refine wpAny_bind (whole_target PP ?_)
    dsimp only
    rw [if_pos (show ((0 : Int) == 0) = true from rfl)]
    refine wpAny_bind (wpAny_bind (wpAny_pure (wpAny_pure ?_)))
    rw [if_neg (show ¬ ((0 : Int) != 0 && decide ((nn : Int) ≥ 0)) = true from Bool.false_ne_true)]
    unfold reNextFound
    dsimp only
    have ei : ((i : Nat) : Int).toNat = i := Int.toNat_natCast i
    rw [ei]
    refine wpAny_bind ?_
    have esz : (S tx).cps.size = tx.toArray.size := rfl
    cases hf' : find i with
    | none =>
      rw [hf'] at hrun
      refine runToEnd n _ .failed hn hrun ?_
      dsimp only
      have hsub : subL find tx z (f + 1) i = tx.drop i := by unfold subL; rw [hf']
      by_cases hlt : i < (S tx).cps.size
      · rw [if_pos hlt]
        refine wpAny_bind (slice0 htx ?_)
        have e0 : ((tx.drop i).take ((S tx).cps.size - i)) = tx.drop i := by
          rw [show (S tx).cps.size = tx.length from rfl]
          exact List.take_of_length_le (by rw [List.length_drop]; exact Nat.le_refl _)
        rw [e0]
        refine wpAny_bind (push_l F N hl (by omega) fun h' F' N' => ?_)
        refine ends (ys ++ [S (tx.drop i)]) _ _ { s with heap := h', toks := s.toks + 1 } rfl rfl rfl F' N' ?_ (by rw [catS_snoc, hsub])
        rw [Array.toList_push]; exact strsAre_snoc hi
      · rw [if_neg hlt]
        refine ends ys items e s rfl rfl rfl F N hi ?_
        rw [hsub, List.drop_eq_nil_of_le (by have : ¬ i < tx.length := hlt; omega), List.append_nil]
    | some ab =>
      obtain ⟨aa, bb⟩ := ab
      rw [hf'] at hrun
      obtain ⟨r1, r2, r3⟩ := hrun
      obtain ⟨g1, g2, g3⟩ := FD.fits i aa bb hf'
      refine runToEnd n _ .matched hn r1 ?_
      dsimp only
      have hsub : subL find tx z (f + 1) i = (tx.drop i).take (aa - i) ++ z ++ subL find tx z f bb := by rw [subL, hf']
      have rec' : ∀ (ys' : List Str) (items' : Array Value) (e' : Nat) (s' : Shared), s'.gens = s.gens → s'.drawn = s.drawn → s'.os = s.os → Fr h₀ L s'.heap m → News h₀ L s'.heap ((l, listOf items' e') :: news) → StrsAre items'.toList ys' → catS ys' = catS ys ++ (tx.drop i).take (aa - i) → items'.size ≤ 2 * i + 1 →
          ∀ {B : Around}, wpAny (model prog w) B (do
            let item ← pure (Value.str (S z) u)
            if (item != Value.none) = true then do
                updateSeq l fun x => x.push item
                again
                    (Code.builtin "re.Pattern.sub.loop"
                      {
                        pos :=
                          [Value.ref a, Value.str (S tx) t, Value.str (S z) u, Value.int 0 0, Value.int 0 0,
                            Value.int (↑nn + 1) 0, Value.int (↑bb) 0, Value.int (↑bb) 0,
                            Value.bool (bb == aa), Value.ref l, Value.bool false] })
              else
                again
                  (Code.builtin "re.Pattern.sub.loop"
                    {
                      pos :=
                        [Value.ref a, Value.str (S tx) t, Value.str (S z) u, Value.int 0 0, Value.int 0 0,
                          Value.int (↑nn + 1) 0, Value.int (↑bb) 0, Value.int (↑bb) 0,
                          Value.bool (bb == aa), Value.ref l, Value.bool false] })) (fun fin s' => match fin with | .done f => R (.ok f) s' | .again c' => c'.quiet = true ∧ codeAny (model prog w) A c' R s') (fun e s' => R (.error e) s') s' := by
        rintro ys' items' e' ⟨h', g', d', t', o'⟩ e1 e2 e3 F' N' hi' hc hz' B
        dsimp only at e1 e2 e3 F' N'
        subst e1; subst e2; subst e3
        refine wpAny_bind (wpAny_pure ?_)
        rw [if_pos (by rfl)]
        refine wpAny_bind (push_l F' N' hl (by omega) fun h'' F'' N'' => ?_)
        refine wpAny_pure ⟨plainId_quiet loop_plain _, ?_⟩
        have eb : (bb == aa) = false := by simp; omega
        rw [eb]
        have hc2 : catS (ys' ++ [S z]) ++ subL find tx z f bb = catS ys ++ subL find tx z (f + 1) i := by rw [catS_snoc, hc, hsub]; simp only [List.append_assoc]
        refine ih bb (ys' ++ [S z]) _ _ (nn + 1) _ R F'' N'' ?_ g3 (by omega) (by simp only [Array.size_push]; omega) (by rw [hc2]; exact htot) ?_
        · rw [Array.toList_push]; exact strsAre_snoc hi'
        · intro t2 h2 k2 F2 N2
          rw [hc2]; exact hR t2 h2 k2 F2 N2
      have r2' := r2
      dsimp only at r2 r3
      show wpAny _ _ (if i < ((Sre.forSearch code tx.toArray 0 i tx.toArray.size false).runFor n).start then _ else _) _ _ _
      rw [r2, r3]
      by_cases hlt : i < aa
      · rw [if_pos hlt]
        refine wpAny_bind (slice0 htx ?_)
        refine wpAny_bind (push_l F N hl (by omega) fun h' F' N' => ?_)
        rw [if_pos (show ((0 : Int) == 0) = true from rfl)]
        refine rec' (ys ++ [S ((tx.drop i).take (aa - i))]) _ _ { s with heap := h', toks := s.toks + 1 } rfl rfl rfl F' N' ?_ (by rw [catS_snoc]) (by simp only [Array.size_push]; omega)
        rw [Array.toList_push]; exact strsAre_snoc hi
      · rw [if_neg hlt, if_pos (show ((0 : Int) == 0) = true from rfl)]
        refine rec' ys items e s rfl rfl rfl F N hi ?_ (by omega)
        have : aa - i = 0 := by omega
        rw [this, List.take_zero, List.append_nil]
theorem sub_call {find : Nat → Option (Nat × Nat)} {z tx : List Nat} {u : Tok} {m : Str → Option Value} {h₀ : Heap} {L : Addr} {news : List (Addr × Obj)} {Q : Value → Shared → Prop} (P : Pat h₀ a code) (F : Fr h₀ L s.heap m) (N : News h₀ L s.heap news) (hz : z.contains 92 = false)
    (FD : Finds code tx find) (htx : tx.length ≤ 1048576) (hB : (subL find tx z (tx.length + 1) 0).length ≤ 16777216)
    (hQ : ∀ t' h' tk, Fr h₀ L h' m → News h₀ L h' news → Q (.str (S (subL find tx z (tx.length + 1) 0)) t') { s with heap := h', toks := tk }) :
    wpAny (model prog w) A (call (.builtin "re.Pattern.sub") [.ref a, .str (S z) u, .str (S tx) t]) Q E s := by
  have PP : Pat s.heap a code := by
    obtain ⟨T, p, f, items, n, h1, h2, h3⟩ := P.at'
    exact ⟨T, p, f, items, n, F.keep _ _ h1, F.keep _ _ h2, h3⟩
  refine wpAny_call (codeAny_call_builtin slot_sub.plain entry_sub (slot_sub.check _ _ _ _ _ _ _ _ PP.type (args_sub _ _ _) ?_))
  unfold Builtin.«re.Pattern.sub» reSubstitute
  dsimp only
  have e1 : reNamed "re.Pattern.sub" "sub" ["repl", "string", "count"] 2 [.str (S z) u, .str (S tx) t] [] = pure [some (.str (S z) u), some (.str (S tx) t), none] := rfl
  rw [e1]
  refine wpAny_bind (wpAny_pure ?_)
  dsimp only
  refine wpAny_bind (wpAny_pure ?_)
  refine wpAny_bind (wpAny_specialOf_val rfl str_nocall ?_)
  rw [if_neg (show ¬ (none : Option Value).isSome = true from Bool.false_ne_true)]
  refine wpAny_bind (wpAny_pure ?_)
  dsimp only
  refine wpAny_bind (wpAny_pure ?_)
  rw [if_neg (show ¬ (none : Option Value).isSome = true from Bool.false_ne_true)]
  have e92 : (!(S z).cps.contains 92) = true := by
    show (!(z.toArray).contains 92) = true
    rw [List.contains_toArray, hz]; rfl
  rw [if_pos e92]
  refine wpAny_bind (wpAny_pure ?_)
  dsimp only
  refine wpAny_bind (wpAny_holding (whole_target PP ?_))
  rw [if_neg (show ¬ ((0 : Int) == 1) = true from Bool.false_ne_true)]
  refine wpAny_bind (newList_N F N fun h' F' N' => ?_)
  refine wpAny_pure ⟨plainId_quiet loop_plain _, ?_⟩
  refine loop_step (find := find) P FD (fun p hp => Nat.ne_of_lt (Heap.lt_size (N p hp).1)) htx (tx.length + 1) 0 [] #[] 0 0 _ _ F' N' .nil (Nat.zero_le _) (by omega) (Nat.zero_le _) hB ?_
  intro t' h2 tk F2 N2
  exact hQ t' h2 tk F2 N2
end
end Mine
namespace Mine
open PySem PySem.W PyProof.Rows PySem.Spec PySem.Calls
def find69 (tx : List Nat) (i : Nat) : Option (Nat × Nat) := (nextCr tx.toArray tx.length (tx.length + 1 - i) i).map fun a => (a, a + crW tx.toArray tx.length a)
def find64 (tx : List Nat) (i : Nat) : Option (Nat × Nat) := (nextDot tx.toArray tx.length (tx.length + 1 - i) i).map fun a => (a, a + 1)
theorem nextDot_some {t : Array Nat} {lim : Nat} : ∀ {k i a : Nat}, nextDot t lim k i = some a → i ≤ a ∧ isDot t lim a = true
  | 0, _, _, h => by cases h
  | k + 1, i, a, h => by
    unfold nextDot at h
    split at h
    · rename_i h1; cases h; exact ⟨Nat.le_refl _, h1⟩
    · have := nextDot_some h
      exact ⟨by omega, this.2⟩
theorem crW_le (t : Array Nat) (lim i : Nat) : 1 ≤ crW t lim i ∧ crW t lim i ≤ 2 ∧ (i < lim → i + crW t lim i ≤ lim) := by
  unfold crW
  split
  · exact ⟨by omega, by omega, fun _ => by omega⟩
  · exact ⟨by omega, by omega, fun _ => by omega⟩
theorem finds69 (tx : List Nat) : Finds c69 tx (find69 tx) where
  run := fun i hi => by
    obtain ⟨n, hn, h⟩ := search69 tx.toArray i (by simpa using hi)
    refine ⟨n, hn, ?_⟩
    unfold find69
    have e : tx.toArray.size = tx.length := List.size_toArray
    rw [← e]
    cases hc : nextCr tx.toArray tx.toArray.size (tx.toArray.size + 1 - i) i with
    | none => rw [hc] at h; exact h
    | some a => rw [hc] at h; exact h
  fits := fun i a b h => by
    unfold find69 at h
    cases hc : nextCr tx.toArray tx.length (tx.length + 1 - i) i with
    | none => rw [hc] at h; cases h
    | some c =>
      rw [hc] at h
      cases h
      obtain ⟨h1, h2, _⟩ := nextCr_some hc
      obtain ⟨w1, w2, w3⟩ := crW_le tx.toArray tx.length a
      exact ⟨h1, by omega, w3 h2⟩
theorem finds64 (tx : List Nat) (hz : tx.length ≤ 2 ^ 40) : Finds c64 tx (find64 tx) where
  run := fun i hi => by
    obtain ⟨n, hn, h⟩ := search64 tx.toArray i (by simpa using hi) (by simpa using hz)
    refine ⟨n, hn, ?_⟩
    unfold find64
    have e : tx.toArray.size = tx.length := List.size_toArray
    rw [← e]
    cases hc : nextDot tx.toArray tx.toArray.size (tx.toArray.size + 1 - i) i with
    | none => rw [hc] at h; exact h
    | some a => rw [hc] at h; exact h
  fits := fun i a b h => by
    unfold find64 at h
    cases hc : nextDot tx.toArray tx.length (tx.length + 1 - i) i with
    | none => rw [hc] at h; cases h
    | some c =>
      rw [hc] at h
      cases h
      obtain ⟨h1, h2⟩ := nextDot_some hc
      unfold isDot at h2
      simp only [Bool.and_eq_true, decide_eq_true_eq] at h2
      exact ⟨h1, by omega, h2.2.1⟩
/-- every line end made CR LF; the flag: a CR stands just ahead -/
def crB : Bool → List Nat → List Nat
  | _, [] => []
  | b, c :: r => if c = 13 then 13 :: 10 :: crB true r else if c = 10 then (if b = true then crB false r else 13 :: 10 :: crB false r) else c :: crB false r
def crlf (l : List Nat) : List Nat := crB false l
theorem crB_true {r : List Nat} (h : r.head? ≠ some 10) : crB true r = crB false r := by
  cases r with
  | nil => rfl
  | cons c r =>
    have hc : ¬ c = 10 := fun e => h (by rw [e]; rfl)
    rw [crB, crB, if_neg hc, if_neg hc]
/-- a second dot ahead of each line that opens with one -/
def dots : Bool → List Nat → List Nat
  | _, [] => []
  | b, c :: r => if b = true ∧ c = 46 then 46 :: 46 :: dots (c == 10) r else c :: dots (c == 10) r
theorem getD_toArray (tx : List Nat) (i : Nat) (hi : i < tx.length) : tx.toArray.getD i 0 = tx[i] := by simp [Array.getD, hi]
theorem crlf_next (tx : List Nat) : ∀ k i, i ≤ tx.length → tx.length + 1 - i ≤ k → crlf (tx.drop i) = match nextCr tx.toArray tx.length k i with
    | none => tx.drop i
    | some a => (tx.drop i).take (a - i) ++ [13, 10] ++ crlf (tx.drop (a + crW tx.toArray tx.length a))
  | 0, i, h1, h2 => by omega
  | k + 1, i, h1, h2 => by
    unfold nextCr
    by_cases hi : i ≥ tx.length
    · rw [if_pos hi]
      have : tx.drop i = [] := List.drop_eq_nil_of_le hi
      rw [this]; rfl
    · rw [if_neg hi]
      have hi' : i < tx.length := by omega
      have hd : tx.drop i = tx[i] :: tx.drop (i + 1) := List.drop_eq_getElem_cons hi'
      have hg := getD_toArray tx i hi'
      by_cases hc : tx[i] = 10 ∨ tx[i] = 13
      · rw [if_pos (by rw [hg]; simpa using hc)]
        rw [hd]
        dsimp only
        rw [Nat.sub_self, List.take_zero, List.nil_append]
        unfold crW
        rw [hg]
        by_cases h13 : tx[i] = 13
        · rw [h13]
          show 13 :: 10 :: crB true (tx.drop (i + 1)) = 13 :: 10 :: crB false _
          congr 2
          by_cases hn : i + 1 < tx.length
          · have hd2 : tx.drop (i + 1) = tx[i + 1] :: tx.drop (i + 2) := List.drop_eq_getElem_cons hn
            rw [getD_toArray tx (i + 1) hn]
            by_cases h10 : tx[i + 1] = 10
            · rw [if_pos ⟨rfl, hn, h10⟩, hd2, h10]; rfl
            · rw [if_neg (fun q => h10 q.2.2)]
              exact crB_true (by rw [hd2]; intro q; exact h10 (Option.some.inj q))
          · rw [if_neg (fun q => hn q.2.1), List.drop_eq_nil_of_le (by omega : tx.length ≤ i + 1)]; rfl
        · rw [if_neg (fun q => h13 q.1)]
          have h10 := hc.resolve_right h13
          rw [h10]; rfl
      · rw [if_neg (by rw [hg]; simpa using hc), hd]
        have ih := crlf_next tx k (i + 1) (by omega) (by omega)
        have e : crlf (tx[i] :: tx.drop (i + 1)) = tx[i] :: crlf (tx.drop (i + 1)) := by
          show crB false _ = _
          rw [crB, if_neg (fun q => hc (.inr q)), if_neg (fun q => hc (.inl q))]; rfl
        rw [e, ih]
        cases hn : nextCr tx.toArray tx.length k (i + 1) with
        | none => rfl
        | some a =>
          have ha := (nextCr_some hn).1
          dsimp only
          have : a - i = (a - (i + 1)) + 1 := by omega
          rw [this, List.take_succ_cons]
          rfl
theorem sub69 (tx : List Nat) : ∀ f i, i ≤ tx.length → tx.length + 1 - i ≤ f → subL (find69 tx) tx [13, 10] f i = crlf (tx.drop i)
  | 0, i, h1, h2 => by omega
  | f + 1, i, h1, h2 => by
    rw [subL, crlf_next tx (tx.length + 1 - i) i h1 (Nat.le_refl _)]
    have hfit := (finds69 tx).fits i
    unfold find69 at hfit ⊢
    cases hc : nextCr tx.toArray tx.length (tx.length + 1 - i) i with
    | none => rfl
    | some a =>
      rw [hc] at hfit
      obtain ⟨g1, g2, g3⟩ := hfit _ _ rfl
      have ih := sub69 tx f (a + crW tx.toArray tx.length a) g3 (by omega)
      dsimp only [Option.map_some]
      unfold find69 at ih
      rw [ih]
theorem dots_next (tx : List Nat) : ∀ k i, i ≤ tx.length → tx.length + 1 - i ≤ k → dots (i == 0 || tx.toArray.getD (i - 1) 0 == 10) (tx.drop i) = match nextDot tx.toArray tx.length k i with
    | none => tx.drop i
    | some a => (tx.drop i).take (a - i) ++ [46, 46] ++ dots (a + 1 == 0 || tx.toArray.getD (a + 1 - 1) 0 == 10) (tx.drop (a + 1))
  | 0, i, h1, h2 => by omega
  | k + 1, i, h1, h2 => by
    unfold nextDot isDot
    by_cases hi : i ≥ tx.length
    · have : tx.drop i = [] := List.drop_eq_nil_of_le hi
      rw [if_neg (by simp; omega), this]
      have hk : k = 0 ∨ nextDot tx.toArray tx.length k (i + 1) = none := by
        cases hn : nextDot tx.toArray tx.length k (i + 1) with
        | none => exact .inr rfl
        | some a =>
          have h := nextDot_some hn
          unfold isDot at h
          simp only [Bool.and_eq_true, decide_eq_true_eq] at h
          omega
      rcases hk with rfl | hk
      · rfl
      · rw [hk]; rfl
    · have hi' : i < tx.length := by omega
      have hd : tx.drop i = tx[i] :: tx.drop (i + 1) := List.drop_eq_getElem_cons hi'
      have hg := getD_toArray tx i hi'
      rw [hg, hd]
      by_cases hb : (i == 0 || tx.toArray.getD (i - 1) 0 == 10) = true ∧ tx[i] = 46
      · rw [if_pos (by rw [hb.1, hb.2]; simpa using hi'), dots, if_pos hb]
        dsimp only
        rw [Nat.sub_self, List.take_zero, List.nil_append]
        have e : i + 1 - 1 = i := by omega
        rw [e, hg]
        have e0 : (i + 1 == 0) = false := by simp
        rw [e0, Bool.false_or]
        rfl
      · rw [if_neg (by
          intro q
          simp only [Bool.and_eq_true, decide_eq_true_eq, beq_iff_eq] at q
          exact hb ⟨q.1, q.2.2⟩), dots, if_neg hb]
        have ih := dots_next tx k (i + 1) (by omega) (by omega)
        have e : i + 1 - 1 = i := by omega
        have e0 : (i + 1 == 0) = false := by simp
        rw [e, hg, e0, Bool.false_or] at ih
        rw [ih]
        cases hn : nextDot tx.toArray tx.length k (i + 1) with
        | none => rfl
        | some a =>
          have ha := (nextDot_some hn).1
          dsimp only
          have : a - i = (a - (i + 1)) + 1 := by omega
          rw [this, List.take_succ_cons]
          rfl
theorem sub64 (tx : List Nat) (hz : tx.length ≤ 2 ^ 40) : ∀ f i, i ≤ tx.length → tx.length + 1 - i ≤ f → subL (find64 tx) tx [46, 46] f i = dots (i == 0 || tx.toArray.getD (i - 1) 0 == 10) (tx.drop i)
  | 0, i, h1, h2 => by omega
  | f + 1, i, h1, h2 => by
    rw [subL, dots_next tx (tx.length + 1 - i) i h1 (Nat.le_refl _)]
    have hfit := (finds64 tx hz).fits i
    unfold find64 at hfit ⊢
    cases hc : nextDot tx.toArray tx.length (tx.length + 1 - i) i with
    | none => rfl
    | some a =>
      rw [hc] at hfit
      obtain ⟨g1, g2, g3⟩ := hfit _ _ rfl
      have ih := sub64 tx hz f (a + 1) g3 (by omega)
      dsimp only [Option.map_some]
      unfold find64 at ih
      rw [ih]
theorem sub69_all (tx : List Nat) : subL (find69 tx) tx [13, 10] (tx.length + 1) 0 = crlf tx := by
  rw [sub69 tx (tx.length + 1) 0 (Nat.zero_le _) (by omega), List.drop_zero]
theorem sub64_all (tx : List Nat) (hz : tx.length ≤ 2 ^ 40) : subL (find64 tx) tx [46, 46] (tx.length + 1) 0 = dots true tx := by
  rw [sub64 tx hz (tx.length + 1) 0 (Nat.zero_le _) (by omega), List.drop_zero]; rfl
end Mine
namespace Mine
open PySem PySem.W PyProof.Rows PySem.Spec PySem.Calls
local macro_rules | `(tactic| walk_at "no such place") => `(tactic| skip)
theorem pat64 {P : Params} {h : Heap} (X : (Mine.hd.heap_39 P).In h) : Pat h 64 c64 := ⟨63, _, _, _, _, X 64 _ rfl, X 63 _ rfl, by decide +kernel⟩
theorem pat69 {P : Params} {h : Heap} (X : (Mine.hd.heap_39 P).In h) : Pat h 69 c69 := ⟨68, _, _, _, _, X 69 _ rfl, X 68 _ rfl, by decide +kernel⟩
theorem pat86 {P : Params} {h : Heap} (X : (Mine.hd.heap_39 P).In h) : Pat h 86 c86 := ⟨85, _, _, _, _, X 86 _ rfl, X 85 _ rfl, by decide +kernel⟩
theorem pat91 {P : Params} {h : Heap} (X : (Mine.hd.heap_39 P).In h) : Pat h 91 c91 := ⟨90, _, _, _, _, X 91 _ rfl, X 90 _ rfl, by decide +kernel⟩
theorem crB_le : ∀ (b : Bool) (l : List Nat), (crB b l).length ≤ 2 * l.length
  | _, [] => Nat.le_refl _
  | b, c :: r => by
    rw [crB]
    have h1 := crB_le true r
    have h2 := crB_le false r
    split
    · simp only [List.length_cons]; omega
    · split
      · split
        · simp only [List.length_cons]; omega
        · simp only [List.length_cons]; omega
      · simp only [List.length_cons]; omega
theorem dots_le : ∀ (b : Bool) (l : List Nat), (dots b l).length ≤ 2 * l.length
  | _, [] => Nat.le_refl _
  | b, c :: r => by
    rw [dots]
    have h1 := dots_le (c == 10) r
    split <;> simp only [List.length_cons] <;> omega
theorem quote_spec (w : World) (p : Program) (loose : List Str) (mean : ExcName → Option Value) (mg mb : Str → Option Value) (l : List Nat) (t : Tok) (hx : l.length ≤ 500000) :
   PS w p loose mean mg mb 76 2 16 0 [.str (S l) t] [] (fun _ _ => True) (fun r => ∃ t', r = .str (S (dots true (crlf l))) t') := by
  intro dp un gd cn cs a ccd cl outer A₀ base h₀ L m news s Q E B F X N T hk _ htk hd hu hret
  refine keep_toks s.toks (Nat.le_refl _) ?_
  refine wpAny_call ?_
  k_dflt (refine' code_defG ?k1 ?k2 ?k3 ?k4 ?k5 ?kA ?kF ?kK ?k6 ?k7 ?k8 ?k9 ?kB ?_ ?c2 ?c3 ?c4 ?c5; (case kA => exact rfl); (case kF => exact rfl); (case kK => assumption); (case k1 => k_asm); (case k2 => k_asm); (case k3 => k_asm); (case k4 => k_asm); (case k5 => k_asm); (case k6 => k_is); (case k7 => k_is); (case k8 => ktr_room); (case k9 => exact BindsTo.of_eq rfl); (case c5 => decide); (case kB => exact locs rfl); (case c2 => exact rfl); (case c3 => exact rfl); (case c4 => exact rfl); k_whole)
  intro g1 L1 h1 FG F0 N0 B1 X1 T1 G1
  have F1 := fr_binds [("data", .str (S l) t)] F0 rfl
  dsimp only [List.foldr] at F1
  have e1 := crB_le false l
  have e2 : (crlf l).length ≤ 1000000 := by unfold crlf; omega
  have e3 := dots_le true (crlf l)
  refine wpAny_execs_cons (wpAny_Return_some ?_)
  refine MethodCall_ (name_K F1 X1 (topRead_of T1) (by k_is) ?_)
  have P1 := pat64 (X1.keeps F1.keep)
  refine pat_method P1 slot_sub type_sub (callWith_method1 (spliced_more (wpAny_Constant_str (spliced_more ?_))))
  refine MethodCall_ (name_K F1 X1 (topRead_of T1) (by k_is) ?_)
  have P2 := pat69 (X1.keeps F1.keep)
  refine pat_method P2 slot_sub type_sub (callWith_method1 (spliced_more (name_K F1 X1 (topRead_of T1) (by k_is) (spliced_more (ld F1 (if_pos rfl) (spliced_none ?_))))))
  refine sub_call (z := [13, 10]) (pat69 X1) F1 N0 (by decide) (finds69 l) (by omega) (by rw [sub69_all]; omega) fun t2 h2 tk2 F2 N2 => ?_
  rw [sub69_all]
  refine spliced_none ?_
  refine sub_call (z := [46, 46]) (pat64 X1) F2 N2 (by decide) (finds64 _ (by omega)) (by omega) (by rw [sub64_all _ (by omega)]; omega) fun t3 h3 tk3 F3 N3 => ?_
  rw [sub64_all _ (by omega)]
  exact leaveK_ F3 N3 (fun _ _ htz => hret _ _ _ htz ⟨_, rfl⟩ (keep_all N G1 F3 N3 fun _ h => h))
end Mine
example : True := by
  w_top off
  trivial
namespace Mine
open PySem PySem.W PyProof.Rows PySem.Spec PySem.Calls
local macro_rules | `(tactic| walk_at "getMethod ref") => `(tactic| first
  | (refine pat_method (pat86 (Frag.In.keeps (by assumption) (Fr.keep (by assumption)))) slot_search type_search ?_)
  | (refine pat_method (pat91 (Frag.In.keeps (by assumption) (Fr.keep (by assumption)))) slot_search type_search ?_))
theorem conv_name (w : World) (p : Program) (loose : List Str) (mean : ExcName → Option Value) (mg mb : Str → Option Value) (self : Addr) (l : List Nat) (t : Tok) (hx : l.length ≤ 1000000) (hl : ∀ c ∈ l, okN c) :
   PS w p loose mean mg mb 121 2 16 0 [.ref self, .str (S l) t] [("name", .bool true)] (fun _ _ => True) (fun r => r = .str (S l) t) := by
  intro dp un gd cn cs a ccd cl outer A₀ base h₀ L m news s Q E B F X N T hk _ htk hd hu hret
  refine keep_toks s.toks (Nat.le_refl _) ?_
  refine wpAny_call ?_
  k_dflt (refine' code_defG ?k1 ?k2 ?k3 ?k4 ?k5 ?kA ?kF ?kK ?k6 ?k7 ?k8 ?k9 ?kB ?_ ?c2 ?c3 ?c4 ?c5; (case kA => exact rfl); (case kF => exact rfl); (case kK => assumption); (case k1 => k_asm); (case k2 => k_asm); (case k3 => k_asm); (case k4 => k_asm); (case k5 => k_asm); (case k6 => k_is); (case k7 => k_is); (case k8 => ktr_room); (case k9 => exact BindsTo.of_eq rfl); (case c5 => decide); (case kB => exact locs rfl); (case c2 => exact rfl); (case c3 => exact rfl); (case c4 => exact rfl); k_whole)
  intro g1 L1 h1 FG F0 N0 B1 X1 T1 G1
  have F1 := fr_binds [("name", .bool true), ("value", .str (S l) t), ("self", .ref self)] F0 rfl
  clear F0
  dsimp only [List.foldr] at F1
  (try dsimp only); (try k_fold)
  k_steps
  refine search_call (x := S l) (pat86 (X1.keeps (Fr.keep (by assumption)))) (by rw [S_len]; omega) (search86 _ (by rw [S_toList]; exact hl)) ?_
  k_steps
  exact hret _ _ _ (by assumption) rfl (keep_all N G1 (by assumption) (by assumption) fun _ h => h)
theorem conv_value (w : World) (p : Program) (loose : List Str) (mean : ExcName → Option Value) (mg mb : Str → Option Value) (self : Addr) (l : List Nat) (t : Tok) (hx : l.length ≤ 1000000) (hl : ∀ c ∈ l, okV c) :
   PS w p loose mean mg mb 121 2 16 0 [.ref self, .str (S l) t] [("name", .bool false)] (fun _ _ => True) (fun r => r = .str (S l) t) := by
  intro dp un gd cn cs a ccd cl outer A₀ base h₀ L m news s Q E B F X N T hk _ htk hd hu hret
  refine keep_toks s.toks (Nat.le_refl _) ?_
  refine wpAny_call ?_
  k_dflt (refine' code_defG ?k1 ?k2 ?k3 ?k4 ?k5 ?kA ?kF ?kK ?k6 ?k7 ?k8 ?k9 ?kB ?_ ?c2 ?c3 ?c4 ?c5; (case kA => exact rfl); (case kF => exact rfl); (case kK => assumption); (case k1 => k_asm); (case k2 => k_asm); (case k3 => k_asm); (case k4 => k_asm); (case k5 => k_asm); (case k6 => k_is); (case k7 => k_is); (case k8 => ktr_room); (case k9 => exact BindsTo.of_eq rfl); (case c5 => decide); (case kB => exact locs rfl); (case c2 => exact rfl); (case c3 => exact rfl); (case c4 => exact rfl); k_whole)
  intro g1 L1 h1 FG F0 N0 B1 X1 T1 G1
  have F1 := fr_binds [("name", .bool false), ("value", .str (S l) t), ("self", .ref self)] F0 rfl
  clear F0
  dsimp only [List.foldr] at F1
  (try dsimp only); (try k_fold)
  k_steps
  refine search_call (x := S l) (pat91 (X1.keeps (Fr.keep (by assumption)))) (by rw [S_len]; omega) (search91 _ (by rw [S_toList]; exact hl)) ?_
  k_steps
  exact hret _ _ _ (by assumption) rfl (keep_all N G1 (by assumption) (by assumption) fun _ h => h)
end Mine
example : True := by
  w_top off
  trivial
namespace Mine
open PySem PySem.W PyProof.Rows PySem.Spec PySem.Calls
abbrev tupO (l : List Value) : Obj := { cls := .type "tuple", data := .seq l.toArray }
abbrev hdO (hs : Int) (k : Tok) (lh : Addr) (n : Nat) : Obj := dictOf [⟨hs, .str "_headers" k, .ref lh⟩] n
local macro_rules | `(tactic| k_all) => `(tactic| assumption)
theorem addh_spec (w : World) (p : Program) (loose : List Str) (mean : ExcName → Option Value) (mg mb : Str → Option Value) (x dx lh : Addr) (nm vl : List Nat) (t u : Tok) (items : Array Value) (e n : Nat) (hs : Int) (k : Tok)
    (hn : ∀ c ∈ nm, okN c) (hv : ∀ c ∈ vl, okV c) (hnl : nm.length ≤ 1000000) (hvl : vl.length ≤ 1000000) (hit : items.size ≤ 100)
    (dp un : Nat) (gd : Option (List Code)) (cn : Str) (cs : Scope) (a : Addr) (ccd : Value) (cl : List (Str × Addr)) (outer : List Env) (A₀ : Around) (base h₀ : Heap) (L : Addr) (m : Str → Option Value) (news : List (Addr × Obj)) (s : Shared)
    (Q E : Value → Shared → Prop)
    (B : Below A₀ base outer h₀) (F : Fr h₀ L s.heap m) (X : (Mine.hd.heap_39 w.params).In h₀) (N : News h₀ L s.heap ((lh, listOf items e) :: (x, instObj 222 dx) :: (dx, hdO hs k lh n) :: news)) (T : Top p loose mean mg mb h₀) (hk : cs.kind = .function)
    (l1 : lh ≠ x) (l2 : lh ≠ dx) (l3 : ∀ p ∈ news, p.1 ≠ lh) (hd : dp + 4 < recursionLimit) (hu : un + 40 < cLine)
    (hret : ∀ q u' h' tk', s.toks ≤ tk' → lh < q → (∀ p ∈ news, p.1 < q) → Fr h₀ L h' m → News h₀ L h' ((q, tupO [.str (S nm) t, .str (S vl) u']) :: (lh, listOf (items.push (.ref q)) (e + 1)) :: (x, instObj 222 dx) :: (dx, hdO hs k lh n) :: news) → Q .none { s with heap := h', toks := tk' }) :
    wpAny (model PG w) (ktrTop dp un gd cn cs L a ccd cl outer) (call (.ref 219) [.ref x, .str (S nm) t, .str (S vl) u] []) Q E s := by
  refine keep_toks s.toks (Nat.le_refl _) ?_
  refine wpAny_call ?_
  k_dflt (refine' kp_more ?k1 ?k2 ?k3 ?k4 ?k5 ?kA ?kF ?kK ?k6 ?k7 ?k8 ?kX ?kM ?kN ?kD ?kR ?kP ?kT ?kB ?_ ?c2 ?c3 ?c4 ?c5; (case kA => exact rfl); (case kF => exact rfl); (case kK => exact hk); (case k1 => k_asm); (case k2 => k_asm); (case k3 => k_asm); (case k4 => k_asm); (case k5 => k_asm); (case k6 => k_is); (case k7 => k_is); (case k8 => ktr_room); (case kX => kp_lit); (case kM => exact rfl); (case kN => exact rfl); (case kD => kp_flats); (case kR => exact rfl); (case kP => exact rfl); (case kT => exact fun _ => rfl); (case kB => exact fun _ => locs rfl); (case c5 => decide); (case c2 => exact rfl); (case c3 => exact rfl); (case c4 => exact rfl); k_whole)
  intro D o g1 L1 h1 tk lD lo hso fs FG F0 N0 B1 X1 T1
  k_lt lD
  have F1 := fr_binds [("_params", .ref D), ("_value", .str (S vl) u), ("_name", .str (S nm) t), ("self", .ref x)] F0 rfl
  clear F0
  dsimp only [List.foldr] at F1
  (try dsimp only); (try k_fold)
  k_steps
  k_dflt (refine' PS.use (conv_value w p loose mean mg mb x vl u hvl hv) ?k1 ?k2 ?k3 ?k4 ?k5 ?k6 ?k7 ?k8 ?k9 ?kA ?_; (case k1 => k_asm); (case k2 => k_asm); (case k3 => k_asm); (case k4 => k_asm); (case k5 => k_asm); (case k6 => exact rfl); (case k7 => exact trivial); (case k8 => exact Nat.zero_le _); (case k9 => ktr_room); (case kA => ktr_units))
  rintro r h2 tk2 ht2 rfl - F2 N2
  k_steps
  k_dflt (refine' PS.use (conv_name w p loose mean mg mb x nm t hnl hn) ?k1 ?k2 ?k3 ?k4 ?k5 ?k6 ?k7 ?k8 ?k9 ?kA ?_; (case k1 => k_asm); (case k2 => k_asm); (case k3 => k_asm); (case k4 => k_asm); (case k5 => k_asm); (case k6 => exact rfl); (case k7 => exact trivial); (case k8 => exact Nat.zero_le _); (case k9 => ktr_room); (case kA => ktr_units))
  rintro r h3 tk3 ht3 rfl - F3 N3
  k_steps
  refine join_list ⟨_, (N3 _ (.tail _ (.head _))).1, rfl, _, rfl⟩ (.cons (S vl) u .nil) (by show (S vl).length + 0 + 1 * 2 ≤ _; rw [S_len]; omega) (fun u' k4 => ?_)
  rw [show Txt.join (Str.ofString "; ") [S vl] = S vl from rfl]
  k_steps
  rename_i D4 h4 F4 N4 l4
  have N5 : News g1 L1 h4 ((D4, tupO [.str (S nm) t, .str (S vl) u']) :: (lh, listOf items e) :: (x, instObj 222 dx) :: (dx, hdO hs k lh n) :: news) := fun p hp => by
    rcases List.mem_cons.mp hp with rfl | hp
    · exact N4 _ (.head _)
    · exact N4 _ (.tail _ (.tail _ (.tail _ (.tail _ hp))))
  have zs : sizeLine = 16777216 := sizeLine_eq
  refine append_K F4 N5 (.tail (Nat.ne_of_gt l4.2.2.2.1) (.head (fun p hp => by
    rcases List.mem_cons.mp hp with rfl | hp
    · exact Ne.symm l1
    · rcases List.mem_cons.mp hp with rfl | hp
      · exact Ne.symm l2
      · exact l3 p hp))) (fun h5 F5 N6 => ?_) (by omega)
  k_steps
  exact hret D4 u' _ _ (by assumption) l4.2.2.2.1 (ktn_ltOf l4.2.2.2.2.2.2) (by assumption) (by assumption)
end Mine
namespace Mine
open PySem PySem.W PyProof.Rows PySem.Spec PySem.Calls
/-- a continuation out of sight: small terms -/
theorem hideQE {α : Type} {M : Model} {A : Around} {t : Sem α} {Q : α → Shared → Prop} {E : Value → Shared → Prop} {s : Shared} (h : ∀ (Q' : α → Shared → Prop) (E' : Value → Shared → Prop), (∀ a s, Q a s → Q' a s) → wpAny M A t Q' E' s) : wpAny M A t Q E s := h Q E fun _ _ x => x
/-- the same behind a first tree -/
theorem hideC {α β : Type} {M : Model} {A : Around} {r : Sem α} {t : Sem β} {Q : β → Shared → Prop} {E : Value → Shared → Prop} {s : Shared}
    (h : ∀ (Q' : β → Shared → Prop), (∀ a s, Q a s → Q' a s) → wpAny M A r (fun _ s' => wpAny M A t Q' E s') E s) : wpAny M A r (fun _ s' => wpAny M A t Q E s') E s := h Q fun _ _ x => x
/-- how a turn ends: what holds of the next -/
def TurnE (h₀ : Heap) (L : Addr) (I : Addr) (oI : Obj) (J : (Str → Option Value) → List (Addr × Obj) → Prop) (Q : Flow → Shared → Prop) (s₁ : Shared) (f : Flow) (s' : Shared) : Prop :=
  match f with
  | .ret v => Q (.ret v) s'
  | .brk => Q .next s'
  | _ => ∃ h' tk' m' news', s' = { s₁ with heap := h', toks := tk' } ∧ Fr h₀ L h' m' ∧ News h₀ L h' ((I, oI) :: news') ∧ (∀ p ∈ news', p.1 ≠ I) ∧ J m' news'
theorem for_range {prog : Program} {w : World} {A : Around} {s : Shared} {env : Env} {h₀ : Heap} {x : Str} {px pos : Pos} {iter : Expr} {body : List Stmt} {Q : Flow → Shared → Prop} {E : Value → Shared → Prop} (n : Nat) (a : Int) (n0 : Nat)
    (J : Nat → (Str → Option Value) → List (Addr × Obj) → Prop) (hh : A.handled = none) (hx : env.kindOf x = some .local) (hp : (env.scope.kind == .class || (env.scope.kind == .module && env.locals != env.globals)) = false)
    (hs : ∀ x, foldedSetIterable iter env x = pure x)
    (h : wpAny (model prog w) A (eval iter env) (fun xv s₁ => ∃ r b t u v m news, xv = .ref r ∧ IsRange s₁.heap r a b 1 t u v ∧ Builtin.Range.small a b 1 = true ∧ Builtin.Range.rangeSize a b 1 = n ∧ n0 ≤ s₁.toks ∧ Fr h₀ env.locals s₁.heap m ∧ News h₀ env.locals s₁.heap news ∧ J 0 m news ∧
      (∀ (i : Nat) m₁ news₁ I oI h tk t, i < n → n0 ≤ tk → J i m₁ news₁ → (∀ p ∈ news₁, p.1 ≠ I) → Fr h₀ env.locals h (fun y => if y = x then some (.int (a + i) t) else m₁ y) → News h₀ env.locals h ((I, oI) :: news₁) →
        wpAny (model prog w) A (execs body env) (TurnE h₀ env.locals I oI (J (i + 1)) Q { s₁ with heap := h, toks := tk }) (fun _ _ => False) { s₁ with heap := h, toks := tk }) ∧
      (∀ m₁ news₁ h tk, n0 ≤ tk → J n m₁ news₁ → Fr h₀ env.locals h m₁ → News h₀ env.locals h news₁ → Q .next { s₁ with heap := h, toks := tk })) (fun _ _ => False) s) :
    wpAny (model prog w) A (exec (.For (.Name x px) iter body [] pos) env) Q E s := by
  refine wpAny_noRaise (wpAny_For (wpAny_mono h (fun xv s₁ h₁ => ?_) fun _ _ e => e) hs)
  obtain ⟨r, b, t, u, v, m, news, rfl, hr, hsm, hsz, ht, F, N, hJ, turn, done⟩ := h₁
  refine wpAny_pyIter_range hr hsm ?_
  rw [hsz]
  have W := Walks.range (prog := prog) (w := w) (A := A) hh s₁.heap.objs.size a 1 n
  have hIL : env.locals ≠ s₁.heap.objs.size := Nat.ne_of_lt F.ns.lt
  have hI0 : h₀.get? s₁.heap.objs.size = none := by
    cases e : h₀.get? s₁.heap.objs.size with
    | none => rfl
    | some o => exact absurd (Heap.lt_size (F.keep _ _ e)) (Nat.lt_irrefl _)
  have hst : IsRangeIter (s₁.heap.push { cls := .type "range_iterator", data := .fields #[rawInt a, rawInt n, rawInt 1] }) s₁.heap.objs.size (a + ((0 : Nat) : Int) * 1) ((n : Int) - ((0 : Nat) : Int)) 1 := by
    simpa using Heap.get?_push_size _ rfl
  have hNI : ∀ p ∈ news, p.1 ≠ s₁.heap.objs.size := fun p hp => Nat.ne_of_lt (Heap.lt_size (N p hp).1)
  generalize s₁.heap.objs.size = I at W hIL hI0 hst hNI ⊢
  have F0 := F.push { cls := .type "range_iterator", data := .fields #[rawInt a, rawInt n, rawInt 1] }
  have N0 : News h₀ env.locals (s₁.heap.push { cls := .type "range_iterator", data := .fields #[rawInt a, rawInt n, rawInt 1] }) news := fun p hp => ⟨Heap.get?_push_of_some _ (N p hp).1, (N p hp).2⟩
  generalize (s₁.heap.push { cls := .type "range_iterator", data := .fields #[rawInt a, rawInt n, rawInt 1] }) = H0 at hst F0 N0 ⊢
  refine codeAny_forLoop
    (fun k s' => ∃ h' tk m' news' i, s' = { s₁ with heap := h', toks := tk } ∧ n0 ≤ tk ∧ IsRangeIter h' I (a + ((i : Nat) : Int) * 1) ((n : Int) - ((i : Nat) : Int)) 1 ∧ Fr h₀ env.locals h' m' ∧ News h₀ env.locals h' news' ∧ (∀ p ∈ news', p.1 ≠ I) ∧ J i m' news' ∧ i ≤ n ∧ k = n + 1 - i) ?_ (n + 1)
    ⟨H0, s₁.toks, m, news, 0, rfl, ht, hst, F0, N0, hNI, hJ, Nat.zero_le _, rfl⟩
  rintro k s' ⟨h', tk, m', news', i, rfl, htk, hst', F', N', hnw', hJ', hi, rfl⟩
  have next : ∀ h₁ : Heap, (∀ b o, b ∉ [I] → h'.get? b = some o → h₁.get? b = some o) → Fr h₀ env.locals h₁ m' ∧ News h₀ env.locals h₁ news' := fun h₁ hk₁ =>
    ⟨⟨F'.ns.at' fun o e => hk₁ _ o (by simpa using hIL) e, fun b o e => hk₁ b o (by simp; rintro rfl; rw [hI0] at e; cases e) (F'.keep b o e), F'.above⟩, fun p hp => ⟨hk₁ _ _ (by simpa using hnw' p hp) (N' p hp).1, (N' p hp).2⟩⟩
  refine keep_toks n0 htk ?_
  by_cases hlt : i < n
  · refine W.item i _ _ _ hlt hst' fun v h₁ tk₁ hP hst₁ hk₁ htk₁ => ?_
    obtain ⟨t, rfl⟩ := hP
    have htk₁ : n0 ≤ tk₁ := htk₁
    obtain ⟨F₁, N₁⟩ := next h₁ hk₁
    refine wpAny_assign_Name (wpAny_storeName_local hx F₁.ns (fun h₂ hn₂ hs₂ => ?_) hp)
    have F₂ := F₁.set hn₂ hs₂
    have N₂ : News h₀ env.locals h₂ ((I, _) :: news') := fun p hp => by
      rcases List.mem_cons.mp hp with rfl | hp
      · exact ⟨(hs₂.2 I (Ne.symm hIL)).trans hst₁, Ne.symm hIL, hI0⟩
      · exact N₁.set hs₂ p hp
    rw [Int.mul_one] at F₂
    refine keep_toks n0 (show n0 ≤ tk₁ + 1 by omega) ?_
    refine wpAny_mono (turn i m' news' I _ h₂ (tk₁ + 1) t hlt (by omega) hJ' hnw' F₂ N₂) (fun f s₃ h₃ hk₃ => ?_) fun _ _ e => e.elim
    have fin : (∃ h' tk' m' news', s₃ = { s₁ with heap := h', toks := tk' } ∧ Fr h₀ env.locals h' m' ∧ News h₀ env.locals h' ((I, { cls := .type "range_iterator", dict := none, data := .fields #[rawInt (a + ((i + 1 : Nat) : Int) * 1), rawInt ((n : Int) - ((i + 1 : Nat) : Int)), rawInt 1], slots := #[] }) :: news') ∧ (∀ p ∈ news', p.1 ≠ I) ∧ J (i + 1) m' news') →
        ∃ m, m < n + 1 - i ∧ ∃ h' tk m' news' i, s₃ = { s₁ with heap := h', toks := tk } ∧ n0 ≤ tk ∧ IsRangeIter h' I (a + ((i : Nat) : Int) * 1) ((n : Int) - ((i : Nat) : Int)) 1 ∧ Fr h₀ env.locals h' m' ∧ News h₀ env.locals h' news' ∧ (∀ p ∈ news', p.1 ≠ I) ∧ J i m' news' ∧ i ≤ n ∧ m = n + 1 - i := by
      rintro ⟨h3, tk3, m3, news3, rfl, F3, N3, hn3, hJ3⟩
      exact ⟨n + 1 - (i + 1), by omega, h3, tk3, m3, news3, i + 1, rfl, hk₃, (N3 _ (.head _)).1, F3, (fun p hp => N3 p (.tail _ hp)), hn3, hJ3, hlt, rfl⟩
    cases f with
    | ret v => exact h₃
    | brk => exact h₃
    | next => exact fin h₃
    | cont => exact fin h₃
  · have hin : i = n := by omega
    subst hin
    refine W.done _ _ _ hst' fun h₁ tk₁ hk₁ htk₁ => wpAny_execs_nil ?_
    obtain ⟨F₁, N₁⟩ := next h₁ hk₁
    exact done m' news' h₁ tk₁ htk₁ hJ' F₁ N₁
theorem Keeps.inElt {s s' : Shared} (h : Keeps s s') : InElt s.heap s'.heap := by
  obtain ⟨h', tk, rfl, k⟩ := h; exact k
theorem comp_list {prog : Program} {w : World} {A : Around} {env : Env} {s : Shared} {elt iter : Expr} {x : Str} {px : Pos} {scope : Scope} {cl : List (Str × Addr)} {pos : Pos} {Q : Value → Shared → Prop} {E : Value → Shared → Prop} (F : Value → Value → Prop)
    (hh : A.handled = none) (hclos : closureFor scope env = pure cl) (hcell : ∀ y ∈ scope.names, y.2 ≠ .cell) (hkind : scope.kind = .function)
    (hnames : ∀ y ∈ scope.names, y.2 = .local → scope.names.lookup y.1 = some .local) (hx : scope.names.lookup x = some .local)
    (h : wpAny (model prog w) A (eval iter env) (fun xv s₁ => ∃ ax items, xv = .ref ax ∧ s₁.heap.IsList ax items ∧ items.size ≤ sizeLine ∧
      (∀ C v s₃ m₃ E', s₁.heap.objs.size < C → v ∈ items → s₃.heap.Ns C m₃ → m₃ x = some v → InElt s₁.heap s₃.heap → s₁.toks ≤ s₃.toks → wpAny (model prog w) A (eval elt (compEnvC scope cl C env)) (fun y s₄ => F v y ∧ Keeps s₃ s₄) E' s₃) ∧
      (∀ D h' tk ys e, s₁.heap.get? D = none → h'.get? D = some (listOf ys e) → Paired F items.toList ys.toList → InElt s₁.heap h' → Q (.ref D) { s₁ with heap := h', toks := tk })) E s)
    (hs : ∀ x, foldedSetIterable iter env x = pure x := by intro _; rfl) :
    wpAny (model prog w) A (eval (.ListComp elt [⟨.Name x px, iter, [], 0⟩] scope pos) env) Q E s := by
  refine wpAny_ListComp_free (fun _ => true) F hclos hcell hkind hnames hx (wpAny_mono h (fun xv s₁ h₁ => ?_) fun _ _ e => e) hs
  obtain ⟨ax, items, rfl, hl, hsz, helt, hQ⟩ := h₁
  refine wpAny_pyIter_list hl ?_
  obtain ⟨ol, hol, _⟩ := id hl
  have hax := Heap.lt_size hol
  have hne : ax ≠ s₁.heap.objs.size := Nat.ne_of_lt hax
  have up : InElt s₁.heap (s₁.heap.push { cls := .type "list_iterator", data := .fields #[.ref ax, .int 0 0] }) := fun b o e => Heap.get?_push_of_some _ e
  have off : ∀ {b : Addr} {o : Obj}, s₁.heap.get? b = some o → b ∉ [s₁.heap.objs.size] := fun e q => by
    rw [List.mem_singleton.mp q] at e; exact absurd (Heap.lt_size e) (Nat.lt_irrefl _)
  refine ⟨s₁.heap.objs.size, [s₁.heap.objs.size, ax], [s₁.heap.objs.size], items.size, _, _, rfl, Walks.list hh s₁.heap.objs.size ax hne items, hsz, ⟨⟨_, Heap.get?_push_size _ rfl, rfl, rfl⟩, hl.at fun o e => up _ _ e⟩, ?_, ⟨?_, ?_⟩, ?_⟩
  · intro b hb
    have e : (s₁.heap.push { cls := .type "list_iterator", data := .fields #[.ref ax, .int 0 0] }).objs.size = s₁.heap.objs.size + 1 := Heap.size_push ..
    show b < (s₁.heap.push _).objs.size
    rw [e]
    rcases List.mem_cons.mp hb with rfl | hb
    · exact Nat.lt_succ_self _
    · rw [List.mem_singleton.mp hb]; exact Nat.lt_succ_of_lt hax
  · intro C i v s₃ m₃ E' hC hP hn hm hk htk
    exact wpAny_pure ⟨rfl, s₃.heap, s₃.toks, rfl, fun _ _ e => e⟩
  · intro C i v s₃ m₃ E' hC hP _ hn hm hk htk
    have e : (s₁.heap.push { cls := .type "list_iterator", data := .fields #[.ref ax, .int 0 0] }).objs.size = s₁.heap.objs.size + 1 := Heap.size_push ..
    have hC' : (s₁.heap.push { cls := .type "list_iterator", data := .fields #[.ref ax, .int 0 0] }).objs.size ≤ C := hC
    exact helt C v s₃ m₃ E' (by omega) (Array.mem_of_getElem? hP) hn hm (fun b o q => hk b o (off q) (up b o q)) htk
  · intro D h' tk ys vs hD hlD hplD hlen hP hF hk
    have hvs : vs = items.toList := List.ext_getElem? fun j => by
      cases e : vs[j]? with
      | some v => have := hP j v e; rw [Array.getElem?_toList]; exact this.symm
      | none =>
        have h1 : vs.length ≤ j := List.getElem?_eq_none_iff.mp e
        exact (List.getElem?_eq_none_iff.mpr (by rw [Array.length_toList]; omega)).symm
    rw [List.filter_eq_self.mpr (fun _ _ => rfl), hvs] at hF
    obtain ⟨e, he⟩ := hplD
    refine hQ D h' tk ys e ?_ he hF fun b o q => hk b o (off q) (up b o q)
    cases q : s₁.heap.get? D with
    | none => rfl
    | some o =>
      have : (s₁.heap.push { cls := .type "list_iterator", data := .fields #[.ref ax, .int 0 0] }).get? D = none := hD
      rw [up _ _ q] at this; cases this
theorem comp_range {prog : Program} {w : World} {A : Around} {env : Env} {s : Shared} {elt iter : Expr} {x : Str} {px : Pos} {scope : Scope} {cl : List (Str × Addr)} {pos : Pos} {Q : Value → Shared → Prop} {E : Value → Shared → Prop} (n : Nat) (f : Nat → Value → Prop)
    (hh : A.handled = none) (hclos : closureFor scope env = pure cl) (hcell : ∀ y ∈ scope.names, y.2 ≠ .cell) (hkind : scope.kind = .function)
    (hnames : ∀ y ∈ scope.names, y.2 = .local → scope.names.lookup y.1 = some .local) (hx : scope.names.lookup x = some .local) (hsz : n ≤ sizeLine)
    (h : wpAny (model prog w) A (eval iter env) (fun xv s₁ => ∃ r t u v, xv = .ref r ∧ IsRange s₁.heap r 0 n 1 t u v ∧ Builtin.Range.small 0 n 1 = true ∧ Builtin.Range.rangeSize 0 n 1 = n ∧
      (∀ C (i : Nat) t s₃ m₃ E', s₁.heap.objs.size < C → i < n → s₃.heap.Ns C m₃ → m₃ x = some (.int i t) → InElt s₁.heap s₃.heap → s₁.toks ≤ s₃.toks → wpAny (model prog w) A (eval elt (compEnvC scope cl C env)) (fun y s₄ => f i y ∧ Keeps s₃ s₄) E' s₃) ∧
      (∀ D h' tk ys e, s₁.heap.get? D = none → h'.get? D = some (listOf ys e) → ys.size = n → (∀ (i : Nat) y, ys[i]? = some y → f i y) → InElt s₁.heap h' → Q (.ref D) { s₁ with heap := h', toks := tk })) E s)
    (hs : ∀ x, foldedSetIterable iter env x = pure x := by intro _; rfl) :
    wpAny (model prog w) A (eval (.ListComp elt [⟨.Name x px, iter, [], 0⟩] scope pos) env) Q E s := by
  refine wpAny_ListComp_free (fun _ => true) (fun v y => ∃ (i : Nat) (t : Tok), v = .int i t ∧ i < n ∧ f i y) hclos hcell hkind hnames hx (wpAny_mono h (fun xv s₁ h₁ => ?_) fun _ _ e => e) hs
  obtain ⟨r, t, u, v, rfl, hr, hsm, hrs, helt, hQ⟩ := h₁
  refine wpAny_pyIter_range hr hsm ?_
  rw [hrs]
  have up : InElt s₁.heap (s₁.heap.push { cls := .type "range_iterator", data := .fields #[rawInt 0, rawInt n, rawInt 1] }) := fun b o e => Heap.get?_push_of_some _ e
  have off : ∀ {b : Addr} {o : Obj}, s₁.heap.get? b = some o → b ∉ [s₁.heap.objs.size] := fun e q => by
    rw [List.mem_singleton.mp q] at e; exact absurd (Heap.lt_size e) (Nat.lt_irrefl _)
  have esz : (s₁.heap.push { cls := .type "range_iterator", data := .fields #[rawInt 0, rawInt n, rawInt 1] }).objs.size = s₁.heap.objs.size + 1 := Heap.size_push ..
  have W : Walks prog w A s₁.heap.objs.size [s₁.heap.objs.size] [s₁.heap.objs.size] n (fun i v => i < n ∧ ∃ t, v = .int (0 + i * 1) t)
      (fun i h => IsRangeIter h s₁.heap.objs.size (0 + (i : Nat) * 1) ((n : Int) - (i : Nat)) 1) := (Walks.range hh _ 0 1 n).bound
  refine ⟨s₁.heap.objs.size, _, _, n, _, _, rfl, W, hsz, by simpa using Heap.get?_push_size _ rfl, ?_, ⟨?_, ?_⟩, ?_⟩
  · intro b hb
    show b < (s₁.heap.push _).objs.size
    rw [esz, List.mem_singleton.mp hb]; exact Nat.lt_succ_self _
  · intro C i v s₃ m₃ E' hC hP hn hm hk htk
    exact wpAny_pure ⟨rfl, s₃.heap, s₃.toks, rfl, fun _ _ e => e⟩
  · intro C i v s₃ m₃ E' hC hP _ hn hm hk htk
    have hC' : (s₁.heap.push { cls := .type "range_iterator", data := .fields #[rawInt 0, rawInt n, rawInt 1] }).objs.size ≤ C := hC
    obtain ⟨hi, t, rfl⟩ := hP
    rw [Int.mul_one, Int.zero_add] at hm
    refine wpAny_mono (helt C i t s₃ m₃ E' (by omega) hi hn hm (fun b o q => hk b o (off q) (up b o q)) htk) (fun y s₄ h₄ => ⟨⟨i, t, by rw [Int.mul_one, Int.zero_add], hi, h₄.1⟩, h₄.2⟩) fun _ _ e => e
  · intro D h' tk ys vs hD hlD hplD hlen hP hF hk
    rw [List.filter_eq_self.mpr (fun _ _ => rfl)] at hF
    have key : ∀ (vs : List Value) (ys : List Value) (k : Nat), Paired (fun v y => ∃ (i : Nat) (t : Tok), v = .int i t ∧ i < n ∧ f i y) vs ys → (∀ j v, vs[j]? = some v → ∃ t, v = Value.int ((k + j : Nat) : Int) t) → ys.length = vs.length ∧ ∀ (i : Nat) y, ys[i]? = some y → f (k + i) y := by
      intro vs ys k hp
      induction hp generalizing k with
      | nil => intro _; exact ⟨rfl, fun i y e => by simp at e⟩
      | @cons v y l₁ l₂ hv hr ih =>
        intro hall
        obtain ⟨i, t, rfl, hi, hf⟩ := hv
        obtain ⟨t', e'⟩ := hall 0 _ rfl
        have hik : i = k := Int.ofNat.inj (Value.int.inj e').1
        subst hik
        obtain ⟨h1, h2⟩ := ih (i + 1) fun j v q => by
          obtain ⟨t'', q''⟩ := hall (j + 1) v (by simpa using q)
          exact ⟨t'', by rw [q'', show i + (j + 1) = i + 1 + j by omega]⟩
        refine ⟨by simp [h1], fun j y' q => ?_⟩
        cases j with
        | zero => simp at q; subst q; exact hf
        | succ j => simp at q; have := h2 j y' q; rwa [show i + 1 + j = i + (j + 1) by omega] at this
    obtain ⟨k1, k2⟩ := key vs ys.toList 0 hF fun j v q => by
      obtain ⟨_, t, q'⟩ := hP j v q
      exact ⟨t, by rw [q', Int.mul_one, Int.zero_add, Nat.zero_add]⟩
    obtain ⟨e, he⟩ := hplD
    refine hQ D h' tk ys e ?_ he (by rw [← Array.length_toList, k1, hlen]) (fun i y q => by have := k2 i y (by rw [Array.getElem?_toList]; exact q); rwa [Nat.zero_add] at this) fun b o q => hk b o (off q) (up b o q)
    cases q : s₁.heap.get? D with
    | none => rfl
    | some o =>
      have : (s₁.heap.push { cls := .type "range_iterator", data := .fields #[rawInt 0, rawInt n, rawInt 1] }).get? D = none := hD
      rw [up _ _ q] at this; cases this
end Mine
namespace Mine
open PySem PySem.W PyProof.Rows PySem.Spec PySem.Calls
theorem fmt_pair {prog : Program} {w : World} {A : Around} {E : Value → Shared → Prop} {s : Shared} {q : Addr} {x y : Str} {t u v : Tok} {Q : Value → Shared → Prop} (hx : x.length ≤ 1000000) (hy : y.length ≤ 1000000)
    (hq : s.heap.get? q = some (tupO [.str x t, .str y u])) (h : ∀ t' k, Q (.str (x ++ Str.ofString ": " ++ y) t') { s with toks := k }) :
    wpAny (model prog w) A (binaryOp .Mod (.str (Str.ofString "%s: %s") v) (.ref q)) Q E s := by
  have X : Frag.In [] {} := fun _ _ e => by cases e
  have N : News {} (q + 1) s.heap [(q, tupO [.str x t, .str y u])] := fun p hp => by
    rw [List.mem_singleton.mp hp]
    exact ⟨hq, Nat.ne_of_lt (Nat.lt_succ_self q), rfl⟩
  walk1
  exact h _ _
/-- the headers that a list of made pairs bears -/
inductive HT (news : List (Addr × Obj)) : List Value → List (List Nat × List Nat) → Prop
  | nil : HT news [] []
  | cons {q : Addr} {nm vl : List Nat} {t u : Tok} {vs : List Value} {hs : List (List Nat × List Nat)} : (q, tupO [.str (S nm) t, .str (S vl) u]) ∈ news → HT news vs hs → HT news (.ref q :: vs) ((nm, vl) :: hs)
theorem HT.mono {news news' : List (Addr × Obj)} (h : ∀ p ∈ news, p ∈ news') : ∀ {vs : List Value} {hs : List (List Nat × List Nat)}, HT news vs hs → HT news' vs hs
  | _, _, .nil => .nil
  | _, _, .cons m r => .cons (h _ m) (r.mono h)
theorem HT.snoc {news : List (Addr × Obj)} {q : Addr} {nm vl : List Nat} {t u : Tok} (m : (q, tupO [.str (S nm) t, .str (S vl) u]) ∈ news) : ∀ {vs : List Value} {hs : List (List Nat × List Nat)}, HT news vs hs → HT news (vs ++ [.ref q]) (hs ++ [(nm, vl)])
  | _, _, .nil => .cons m .nil
  | _, _, .cons m' r => .cons m' (r.snoc m)
theorem HT.at {news : List (Addr × Obj)} {v : Value} : ∀ {vs : List Value} {hs : List (List Nat × List Nat)}, HT news vs hs → v ∈ vs → ∃ q nm vl t u, v = .ref q ∧ (q, tupO [.str (S nm) t, .str (S vl) u]) ∈ news ∧ (nm, vl) ∈ hs
  | _, _, .cons m r, h => by
    rcases List.mem_cons.mp h with rfl | h
    · exact ⟨_, _, _, _, _, rfl, m, .head _⟩
    · obtain ⟨q, nm, vl, t, u, e, m', h'⟩ := r.at h
      exact ⟨q, nm, vl, t, u, e, m', .tail _ h'⟩
theorem HT.len {news : List (Addr × Obj)} : ∀ {vs : List Value} {hs : List (List Nat × List Nat)}, HT news vs hs → vs.length = hs.length
  | _, _, .nil => rfl
  | _, _, .cons _ r => by rw [List.length_cons, List.length_cons, r.len]
def lineOf (h : List Nat × List Nat) : List Nat := h.1 ++ [58, 32] ++ h.2
def headText (hs : List (List Nat × List Nat)) : List Nat := hs.flatMap (fun h => lineOf h ++ [13, 10]) ++ [13, 10]
theorem glue_sep (sep : List Nat) : ∀ (r : List Str) (acc : List Nat), (r.foldl (fun acc p => acc ++ (S sep).cps ++ p.cps) acc.toArray) = (acc ++ r.flatMap fun p => sep ++ p.cps.toList).toArray
  | [], acc => by simp
  | y :: r, acc => by
    rw [List.foldl_cons, show acc.toArray ++ (S sep).cps ++ y.cps = (acc ++ (sep ++ y.cps.toList)).toArray from by apply Array.toList_inj.mp; simp [S], glue_sep sep r]
    simp
theorem join_sep (sep : List Nat) (p : List Nat) (r : List Str) : Txt.join (S sep) (S p :: r) = S (p ++ r.flatMap fun q => sep ++ q.cps.toList) := by
  show (⟨r.foldl (fun acc p => acc ++ (S sep).cps ++ p.cps) (S p).cps⟩ : Str) = _
  rw [show (S p).cps = p.toArray from rfl, glue_sep]
  rfl
theorem head_join (hs : List (List Nat × List Nat)) : Txt.join (S [13, 10]) (hs.map (fun h => S (lineOf h)) ++ [S [], S []]) = S (headText hs) := by
  have key : ∀ hs : List (List Nat × List Nat), ((hs.map (fun h => S (lineOf h)) ++ [S [], S []]).flatMap fun q => [13, 10] ++ q.cps.toList) = [13, 10] ++ headText hs := by
    intro hs
    induction hs with
    | nil => rfl
    | cons h t ih =>
      simp only [List.map_cons, List.cons_append, List.flatMap_cons, headText] at ih ⊢
      rw [ih, S_toList]
      simp [List.append_assoc]
  cases hs with
  | nil => rfl
  | cons h t =>
    rw [List.map_cons, List.cons_append, join_sep, key]
    simp [headText, List.append_assoc]
theorem pair_lines {h₀ H : Heap} {L : Addr} {news : List (Addr × Obj)} (N : News h₀ L H news) : ∀ {vs ys : List Value} {hs : List (List Nat × List Nat)}, HT news vs hs → Paired (fun v y => ∃ q nm vl t u t', v = Value.ref q ∧ (q, tupO [.str (S nm) t, .str (S vl) u]) ∈ news ∧ y = Value.str (S (lineOf (nm, vl))) t') vs ys → StrsAre ys (hs.map fun h => S (lineOf h))
  | _, _, _, .nil, .nil => .nil
  | _, _, _, .cons m r, .cons hv hr => by
    obtain ⟨q, nm, vl, t, u, t', e, m', rfl⟩ := hv
    cases e
    have h1 := (N _ m).1
    rw [(N _ m').1] at h1
    have h2 := Option.some.inj h1
    injection h2 with _ _ h3 _
    injection h3 with h4 _
    have h5 := congrArg Array.toList h4
    simp only [List.cons.injEq] at h5
    obtain ⟨h6, h7, _⟩ := h5
    injection h6 with h8 _
    injection h7 with h9 _
    have hS : ∀ {a b : List Nat}, S a = S b → a = b := fun e => by have := congrArg (·.cps.toList) e; simpa only [S_toList] using this
    cases hS h8
    cases hS h9
    exact .cons _ _ (pair_lines N r hr)
theorem strsAre_app : ∀ {vs ws : List Value} {ys zs : List Str}, StrsAre vs ys → StrsAre ws zs → StrsAre (vs ++ ws) (ys ++ zs)
  | _, _, _, _, .nil, h => h
  | _, _, _, _, .cons y t r, h => .cons y t (strsAre_app r h)
theorem lines_le : ∀ hs : List (List Nat × List Nat), ((hs.map (fun h => S (lineOf h))).map (·.length)).sum ≤ (hs.flatMap fun h => lineOf h ++ [13, 10]).length
  | [] => Nat.le_refl _
  | h :: t => by
    have ih := lines_le t
    rw [List.map_cons, List.map_cons, List.sum_cons, List.flatMap_cons, List.length_append, List.length_append, S_len]
    omega
theorem head_ok (hs : List (List Nat × List Nat)) (hsum : (headText hs).length ≤ 1000000) (hlen : hs.length ≤ 100) :
    ((hs.map (fun h => S (lineOf h)) ++ [S [], S []]).map (·.length)).sum + (hs.map (fun h => S (lineOf h)) ++ [S [], S []]).length * (Str.ofString "\r\n").length ≤ 16777216 := by
  have e1 : (Str.ofString "\r\n").length = 2 := by decide +kernel
  have e3 : ([S [], S []].map (·.length)).sum = 0 := rfl
  have e4 : [S [], S []].length = 2 := rfl
  have h1 := lines_le hs
  unfold headText at hsum
  rw [List.length_append] at hsum
  rw [e1, List.map_append, List.sum_append, List.length_append, List.length_map, e3, e4]
  omega
theorem head_str (hs : List (List Nat × List Nat)) : Txt.join (Str.ofString "\r\n") (hs.map (fun h => S (lineOf h)) ++ [S [], S []]) = S (headText hs) := by
  rw [show (Str.ofString "\r\n" : Str) = S [13, 10] from by decide +kernel]; exact head_join hs
theorem join_to {prog : Program} {w : World} {A : Around} {E : Value → Shared → Prop} {s : Shared} {x z : Str} {t : Tok} {Q : Value → Shared → Prop} {D : Addr} {items : Array Value} {ys : List Str} (hl : s.heap.IsList D items) (hi : StrsAre items.toList ys) (hok : (ys.map (·.length)).sum + ys.length * x.length ≤ 16777216)
    (hj : Txt.join x ys = z) (h : ∀ t' k, Q (.str z t') { s with toks := k }) : wpAny (model prog w) A (call (.builtin "str.join") [.str x t, .ref D]) Q E s := join_list hl hi hok fun t' k => hj ▸ h t' k
theorem line_str (nm vl : List Nat) : S nm ++ Str.ofString ": " ++ S vl = S (lineOf (nm, vl)) := by
  rw [show (Str.ofString ": " : Str) = S [58, 32] from by decide +kernel, S_app, S_app]; rfl
theorem str_spec (w : World) (p : Program) (loose : List Str) (mean : ExcName → Option Value) (mg mb : Str → Option Value) (x dx lh : Addr) (items : Array Value) (e n : Nat) (hsh : Int) (k : Tok) (hs : List (List Nat × List Nat))
    (hb : ∀ h ∈ hs, h.1.length ≤ 1000000 ∧ h.2.length ≤ 1000000) (hsum : (headText hs).length ≤ 1000000) (hlen : hs.length ≤ 100) :
   PS w p loose mean mg mb 198 2 16 0 [.ref x] [] (fun _ news => (lh, listOf items e) ∈ news ∧ (x, instObj 222 dx) ∈ news ∧ (dx, hdO hsh k lh n) ∈ news ∧ HT news items.toList hs) (fun r => ∃ t', r = .str (S (headText hs)) t') := by
  intro dp un gd cn cs a ccd cl outer A₀ base h₀ L m news s Q E B F X N T hk hp htk hd hu hret
  obtain ⟨m1, m2, m3, hT⟩ := hp
  refine keep_toks s.toks (Nat.le_refl _) ?_
  refine wpAny_call ?_
  k_dflt (refine' code_defG ?k1 ?k2 ?k3 ?k4 ?k5 ?kA ?kF ?kK ?k6 ?k7 ?k8 ?k9 ?kB ?_ ?c2 ?c3 ?c4 ?c5; (case kA => exact rfl); (case kF => exact rfl); (case kK => assumption); (case k1 => k_asm); (case k2 => k_asm); (case k3 => k_asm); (case k4 => k_asm); (case k5 => k_asm); (case k6 => k_is); (case k7 => k_is); (case k8 => ktr_room); (case k9 => exact BindsTo.of_eq rfl); (case c5 => decide); (case kB => exact locs rfl); (case c2 => exact rfl); (case c3 => exact rfl); (case c4 => exact rfl); k_whole)
  intro g1 L1 h1 FG F0 N0 B1 X1 T1 G1
  have F1 := fr_binds [("self", .ref x)] F0 rfl
  clear F0
  dsimp only [List.foldr] at F1
  with_reducible refine wpAny_execs_cons ?_
  with_reducible refine wpAny_Return_some ?_
  with_reducible refine' MethodCall_ ?_ ?he
  (case he => rfl)
  with_reducible refine wpAny_Constant_str ?_
  with_reducible refine GM.join ?_
  with_reducible refine callWith_method1 ?_ ?he ?hp
  (case he => rfl)
  (case hp => rfl)
  with_reducible refine spliced_more ?_ ?he
  (case he => rfl)
  with_reducible refine wpAny_BinOp ?_
  refine comp_list (fun v y => ∃ q nm vl t u t', v = .ref q ∧ (q, tupO [.str (S nm) t, .str (S vl) u]) ∈ news ∧ y = .str (S (lineOf (nm, vl))) t') rfl rfl (by decide) rfl (by decide) rfl ?_
  refine Attribute_Name_ (ld F1 (if_pos rfl) ?_)
  walk1
  have zs : sizeLine = 16777216 := sizeLine_eq
  have hil : items.toList.length = hs.length := hT.len
  have hsz : items.size ≤ 100 := by rw [← Array.length_toList, hil]; exact hlen
  refine ⟨lh, items, rfl, ⟨_, (N0 _ m1).1, rfl, _, rfl⟩, by omega, ?_, ?_⟩
  · intro C v s₃ m₃ E' hC hv hn hm hk3 htk3
    obtain ⟨q, nm, vl, t, u, rfl, mq, mh⟩ := hT.at (Array.mem_toList_iff.mpr hv)
    obtain ⟨b1, b2⟩ := hb _ mh
    refine wpAny_BinOp (wpAny_Constant_str (wpAny_Name (wpAny_loadName_local rfl rfl hn hm ?_) (by decide)))
    refine fmt_pair (by rw [S_len]; exact b1) (by rw [S_len]; exact b2) (hk3 _ _ (N0 _ mq).1) (fun t' k' => ?_)
    rw [line_str]
    exact ⟨⟨q, nm, vl, t, u, t', rfl, mq, rfl⟩, _, _, rfl, fun _ _ e => e⟩
  · intro D h' tk ys e2 hD hys hP hk3
    have F2 := F1.keeps hk3
    have N2 : News g1 L1 h' ((D, listOf ys e2) :: news) := fun p hp => by
      rcases List.mem_cons.mp hp with rfl | hp
      · refine ⟨hys, ?_, ?_⟩
        · rintro rfl
          obtain ⟨oL, _, _, hL, _⟩ := F1.ns
          exact absurd (hL.symm.trans hD) (by simp)
        · cases q : g1.get? D with
          | none => rfl
          | some o => exact absurd ((F1.keep _ _ q).symm.trans hD) (by simp)
      · exact N0.grown hk3 p hp
    have hpl := pair_lines N0 hT hP
    have hyl : ys.size = hs.length := by rw [← Array.length_toList, strsAre_len hpl, List.length_map]
    refine List_ (spliced_more (wpAny_Constant_str (spliced_more (wpAny_Constant_str (spliced_none ?_)))))
    refine newList_N F2 N2 (fun h3 F3 N3 => ?_) (by show 2 ≤ _; omega)
    refine P.add_list (N3 _ (.tail _ (.head _))).1 (N3 _ (.head _)).1 ?_ (by show ys.size + 2 ≤ _; omega)
    refine spliced_none ?_
    have F4 := F3.push { cls := .type "list", data := .seq (ys ++ [Value.str (Str.ofString "") tk, Value.str (Str.ofString "") (tk + 1)].toArray) }
    have N4 : News g1 L1 (h3.push { cls := .type "list", data := .seq (ys ++ [Value.str (Str.ofString "") tk, Value.str (Str.ofString "") (tk + 1)].toArray) }) news := fun p hp => ⟨Heap.get?_push_of_some _ (N3 _ (.tail _ (.tail _ hp))).1, (N3 _ (.tail _ (.tail _ hp))).2⟩
    have hS2 : StrsAre (ys ++ [Value.str (Str.ofString "") tk, Value.str (Str.ofString "") (tk + 1)].toArray).toList (hs.map (fun h => S (lineOf h)) ++ [S [], S []]) := by
      rw [Array.toList_append]
      exact strsAre_app hpl (.cons _ _ (.cons _ _ .nil))
    refine join_to (x := Str.ofString "\r\n") ⟨_, Heap.get?_push_size _ rfl, rfl, _, rfl⟩ hS2 (head_ok hs hsum hlen) (head_str hs) (fun t' k' => ?_)
    exact leaveK_ F4 N4 (fun _ _ htz => hret _ _ _ htz ⟨_, rfl⟩ (keep_all N G1 F4 N4 fun _ h => h))
end Mine
namespace Mine
open PySem PySem.W PyProof.Rows PySem.Spec PySem.Calls
/-- a place -/
structure Pl where
  name : List Nat
  note : List Nat
  wr : Nat
  en : Nat
  ab : Int
  sent : Bool
  link : List Nat
abbrev plO (p : Pl) (t1 t2 t3 t4 t5 t7 : Tok) : Obj := tupO [.str (S p.name) t1, .str (S p.note) t2, .int p.wr t3, .int p.en t4, .int p.ab t5, .bool p.sent, .str (S p.link) t7]
/-- the list of places at an address -/
def PW (h : Heap) (ap : Addr) (ps : Nat → Pl) : Prop := ∃ its e, h.get? ap = some (listOf its e) ∧ its.size = 5 ∧ ∀ k, k < 5 → ∃ q t1 t2 t3 t4 t5 t7, its[k]? = some (.ref q) ∧ h.get? q = some (plO (ps k) t1 t2 t3 t4 t5 t7)
/-- the table of distances at an address -/
def FW (h : Heap) (af : Addr) (far : Nat → Nat → Nat) : Prop := ∃ its e, h.get? af = some (listOf its e) ∧ its.size = 5 ∧ ∀ k, k < 5 → ∃ q it e', its[k]? = some (.ref q) ∧ h.get? q = some (listOf it e') ∧ it.size = 5 ∧ ∀ j, j < 5 → ∃ t, it[j]? = some (.int (far k j) t)
theorem PW.mono {h h' : Heap} {ap : Addr} {ps : Nat → Pl} (x : PW h ap ps) (k : InElt h h') : PW h' ap ps := by
  obtain ⟨its, e, h1, h2, h3⟩ := x
  refine ⟨its, e, k _ _ h1, h2, fun i hi => ?_⟩
  obtain ⟨q, t1, t2, t3, t4, t5, t7, a, b⟩ := h3 i hi
  exact ⟨q, t1, t2, t3, t4, t5, t7, a, k _ _ b⟩
theorem FW.mono {h h' : Heap} {af : Addr} {far : Nat → Nat → Nat} (x : FW h af far) (k : InElt h h') : FW h' af far := by
  obtain ⟨its, e, h1, h2, h3⟩ := x
  refine ⟨its, e, k _ _ h1, h2, fun i hi => ?_⟩
  obtain ⟨q, it, e', a, b, c⟩ := h3 i hi
  exact ⟨q, it, e', a, k _ _ b, c⟩
theorem seq_nat {k n : Nat} (h : k < n) : seqIndex? (k : Int) n = some k := by
  unfold seqIndex?
  have h1 : ¬ ((k : Int) < 0) := by omega
  simp only [if_neg h1]
  rw [if_pos (by simp; omega)]
  simp
section
variable {prog : Program} {w : World} {A : Around} {E : Value → Shared → Prop} {s : Shared} {g : Heap} {L l : Addr} {m : Str → Option Value} {its : Array Value} {e : Nat} {k : Nat} {v : Value} {u : Tok} {value slice : Expr} {Q : Value → Shared → Prop}
theorem sub_list (hl : s.heap.get? l = some (listOf its e)) (hk : k < 1000) (hx : its[k]? = some v) (h : Q v s)
    (hs : subscripted slice false (.ref l) (.int (k : Int) u) = operate [.ref l, .int (k : Int) u] (getItem (.ref l) (.int (k : Int) u)) := by with_unfolding_all rfl) :
    wpAny (model prog w) A (subscriptTail value slice (.ref l) (.int (k : Int) u)) Q E s :=
  have hL : s.heap.IsList l its := ⟨_, hl, rfl, _, rfl⟩
  tail_any hL.typeIs slot_list_getitem.lookup (wpAny_getItem_list hL (Int.natCast_nonneg _) (by omega) (by rw [Int.toNat_natCast]; exact hx) h) hs
theorem sub_tup {l' : List Value} (hl : s.heap.get? l = some (tupO l')) (hk : k < 1000) (hx : l'[k]? = some v) (h : Q v s)
    (hs : subscripted slice false (.ref l) (.int (k : Int) u) = operate [.ref l, .int (k : Int) u] (getItem (.ref l) (.int (k : Int) u)) := by with_unfolding_all rfl) :
    wpAny (model prog w) A (subscriptTail value slice (.ref l) (.int (k : Int) u)) Q E s :=
  have hT : IsTup s.heap l l'.toArray := ⟨_, hl, rfl, _, rfl⟩
  item_tupleT hT (by omega) (by omega) (seq_nat (List.getElem?_eq_some_iff.mp hx).1) hx h hs
end
end Mine
example : True := by
  w_top off
  trivial
namespace Mine
open PySem PySem.W PyProof.Rows PySem.Spec PySem.Calls
local macro_rules | `(tactic| k_all) => `(tactic| assumption)
theorem new_headers (w : World) (p : Program) (loose : List Str) (mean : ExcName → Option Value) (mg mb : Str → Option Value)
    (dp un : Nat) (gd : Option (List Code)) (cn : Str) (cs : Scope) (a : Addr) (ccd : Value) (cl : List (Str × Addr)) (outer : List Env) (A₀ : Around) (base h₀ : Heap) (L : Addr) (m : Str → Option Value) (news : List (Addr × Obj)) (s : Shared)
    (Q E : Value → Shared → Prop)
    (B : Below A₀ base outer h₀) (F : Fr h₀ L s.heap m) (X : (Mine.hd.heap_39 w.params).In h₀) (N : News h₀ L s.heap news) (T : Top p loose mean mg mb h₀) (hk : cs.kind = .function)
    (hd : dp + 4 < recursionLimit) (hu : un + 40 < cLine)
    (hret : ∀ x dx lh hs k n h' tk', s.toks ≤ tk' → Fr h₀ L h' m → News h₀ L h' ((lh, listOf #[] 0) :: (x, instObj 222 dx) :: (dx, hdO hs k lh n) :: news) → lh ≠ x → lh ≠ dx → (∀ p ∈ news, p.1 ≠ lh) → Q (.ref x) { s with heap := h', toks := tk' }) :
    wpAny (model PG w) (ktrTop dp un gd cn cs L a ccd cl outer) (call (.ref 222) [] []) Q E s := by
  refine keep_toks s.toks (Nat.le_refl _) ?_
  k_dflt (refine' call_cls ?k1 ?k2 ?k3 ?k4 ?k5 ?k6 ?_; (case k1 => k_asm); (case k2 => k_asm); (case k3 => k_asm); (case k4 => k_is); (case k5 => k_is); (case k6 => k_is); k_whole)
  intro x dx h1 F1 N1 l1 l2
  have l1n : ∀ p ∈ news, p.1 ≠ dx := fun p hp => Nat.ne_of_lt (l1 p hp)
  have l2n : @LT.lt Nat _ dx x := l2
  k_dflt (refine' code_def ?k1 ?k2 ?k3 ?k4 ?k5 ?kA ?kF ?kK ?k6 ?k7 ?k8 ?k9 ?kB ?_ ?c2 ?c3 ?c4 ?c5; (case kA => exact rfl); (case kF => exact rfl); (case kK => exact hk); (case k1 => k_asm); (case k2 => k_asm); (case k3 => k_asm); (case k4 => k_asm); (case k5 => k_asm); (case k6 => k_is); (case k7 => k_is); (case k8 => ktr_room); (case k9 => first | exact BindsTo.of_eq rfl | exact binds_K (by k_in) rfl (by k_is) rfl rfl rfl); (case c5 => decide); (case kB => exact locs rfl); (case c2 => exact rfl); (case c3 => exact rfl); (case c4 => exact rfl); k_whole)
  intro g2 L2 h2 FG F2 N2 B2 X2 T2
  have F3 := fr_binds [("headers", .none), ("self", .ref x)] F2 rfl
  clear F2
  dsimp only [List.foldr] at F3
  (try dsimp only); (try k_fold)
  k_steps
  rename_i lh h3 l3 h4 tk4 h5 F5 N5
  refine For_unr g2 (ld F5 rfl (Iter_list_unr rfl ⟨_, (N5 _ (.head _)).1, rfl, _, rfl⟩ F5 N5 (N5 _ (.head _)).2.1 ?_))
  intro h6 tk6 F6 N6
  k_steps
  exact hret x dx lh _ _ 1 h6 tk6 (by assumption) (by assumption) (by assumption) (Nat.ne_of_gt l3.1) (Nat.ne_of_gt l3.2.1) (fun p hp => Nat.ne_of_lt (ktn_ltOf l3.2.2 p hp))
end Mine
namespace Mine
open PySem PySem.W PyProof.Rows PySem.Spec PySem.Calls
theorem nb {w : World} {h : Heap} (X : (Mine.hd.heap_39 w.params).In h) : NoneBooked h := by
  have h2 := X 2 _ (by k_is)
  refine ⟨_, ⟨_, _, _, h2, rfl, ?_, fun _ => rfl⟩, ?_⟩
  · intro e he
    simp only [List.mem_toArray, List.mem_cons, List.not_mem_nil, or_false] at he
    rcases he with rfl | rfl | rfl | rfl | rfl | rfl | rfl | rfl | rfl <;> exact ⟨_, _, rfl⟩
  · clear h2
    unfold nsFind
    with_unfolding_all rfl
end Mine
example : True := by
  w_top off
  trivial
namespace Mine
open PySem PySem.W PyProof.Rows PySem.Spec PySem.Calls
local macro_rules | `(tactic| k_all) => `(tactic| assumption)
structure Stop (P : Prop) : Prop where
  h : P
theorem stop {P : Prop} (h : Stop P) : P := h.h
local macro_rules | `(tactic| kas_types) => `(tactic| refine stop ?_)
theorem stopCP {M : Model} {A : Around} {c : Addr} {as : List Value} {ks : List (Str × Value)} {Q E : Value → Shared → Prop} {s : Shared} (hc : ([219, 245, 222, 198, 76, 52, 59] : List Nat).elem c = true) (h : Stop (wpAny M A (call (.ref c) as ks) Q E s)) :
    wpAny M A (call (.ref c) as ks) Q E s := h.h
local macro_rules | `(tactic| walk_at "call ref") => `(tactic| refine stopCP (by decide) ?_)
local macro_rules | `(tactic| walk_at "exec For Name Call cons nil") => `(tactic| kas_types)
theorem stopQ {α : Type} {M : Model} {A : Around} {t : Sem α} {Q : α → Shared → Prop} {E : Value → Shared → Prop} {s : Shared} (h : wpAny M A t (fun a s' => Stop (Q a s')) E s) : wpAny M A t Q E s := wpAny_mono h (fun _ _ x => x.h) fun _ _ x => x
theorem sub_listE {prog : Program} {w : World} {A : Around} {E : Value → Shared → Prop} {s : Shared} {l : Addr} {its : Array Value} {e k : Nat} {b : Int} {v : Value} {u : Tok} {value slice : Expr} {Q : Value → Shared → Prop}
    (hl : s.heap.get? l = some (listOf its e)) (hk : k < 1000) (hx : its[k]? = some v) (hb : b = (k : Int)) (h : Q v s)
    (hs : subscripted slice false (.ref l) (.int (k : Int) u) = operate [.ref l, .int (k : Int) u] (getItem (.ref l) (.int (k : Int) u)) := by with_unfolding_all rfl) :
    wpAny (model prog w) A (subscriptTail value slice (.ref l) (.int b u)) Q E s := by
  subst hb
  exact sub_list hl hk hx h hs
theorem max_two_T {prog : Program} {w : World} {A : Around} {E : Value → Shared → Prop} {s : Shared} {h₀ : Heap} {L : Addr} {m : Str → Option Value} {news : List (Addr × Obj)} {a b : Int} {t u : Tok} {Q : Value → Shared → Prop} (hh : A.handled = none) (F : Fr h₀ L s.heap m) (N : News h₀ L s.heap news)
    (h : ∀ h' tk, s.toks ≤ tk → Fr h₀ L h' m → News h₀ L h' news → Q (.int (if b > a then b else a) (if b > a then u else t)) { s with heap := h', toks := tk }) :
    wpAny (model prog w) A (call (.builtin "max") [.int a t, .int b u]) Q E s := keep_toks s.toks (Nat.le_refl _) (max_two_N hh F N fun h' tk F' N' ht => h h' tk ht F' N')
theorem max_nat {a b : Nat} : (if (b : Int) > a then (b : Int) else a) = ((max a b : Nat) : Int) := by
  split <;> omega
theorem gen_toks1 {α : Type} {M : Model} {A : Around} {t : Sem α} {Q : α → Shared → Prop} {E : Value → Shared → Prop} {h : Heap} {g : Array GenState} {d : Drawn} {o : OsState} {x : Nat}
    (k : ∀ tk, 1 ≤ tk → wpAny M A t Q E ⟨h, g, d, tk, o⟩) : wpAny M A t Q E ⟨h, g, d, x + 1, o⟩ := k _ (Nat.succ_pos _)
/-- a frame's map from its binds -/
abbrev bm (b : List (Str × Value)) : Str → Option Value := b.foldr (fun nv k y => if y = nv.1 then some nv.2 else k y) fun _ => none
local macro_rules | `(tactic| walk_at "call builtin:max") => `(tactic| kas_types)
local macro_rules | `(tactic| walk_at "execs cons") => `(tactic| with_reducible refine gen_toks1 (fun tk htk => ?_))
local macro_rules | `(tactic| walk_at "execs nil") => `(tactic| with_reducible refine gen_toks1 (fun tk htk => ?_))
theorem cu2 {dp un : Nat} {gd : Option (List Code)} {cn : Str} {cs : Scope} {L a : Addr} {ccd : Value} {cl : List (Str × Addr)} {outer : List Env} {env : Env} (h : un + 60 < cLine) : ((ktrTop dp un gd cn cs L a ccd cl outer).deeper env).in1.in1.units < cLine := by ktr_units
theorem lt_help {u a c K : Nat} (h : u + c < K) (k : a ≤ c) : u + a < K := by omega
def replCR (z l : List Nat) : List Nat := (Txt.replace (S l) (S [13, 10]) (S z)).cps.toList
def eolS (en : Nat) : List Nat := match en with | 0 => [13, 10] | 1 => [10] | _ => [13]
def eolU (en : Nat) : List Nat := match en with | 0 => [13] | 1 => [10] | _ => [13]
local macro_rules | `(tactic| walk_at "exec If") => `(tactic| kas_types)
local macro_rules | `(tactic| walk_at "call builtin:str.replace") => `(tactic| kas_types)
theorem ends_s {en : Nat} (h : en < 3) (a b c : Tok) (k : Nat) (ha : k < a) (hb : k < b) (hc : k < c) : ∃ v, (#[Value.str (Str.ofString "\r\n") a, Value.str (Str.ofString "\n") b, Value.str (Str.ofString "\r") c])[en]? = some (.str (S (eolS en)) v) ∧ k < v := by
  match en, h with
  | 0, _ => exact ⟨a, congrArg (fun z => some (Value.str z a)) (by decide +kernel), ha⟩
  | 1, _ => exact ⟨b, congrArg (fun z => some (Value.str z b)) (by decide +kernel), hb⟩
  | 2, _ => exact ⟨c, congrArg (fun z => some (Value.str z c)) (by decide +kernel), hc⟩
theorem ends_u {en : Nat} (h : en < 3) (a b c : Tok) (k : Nat) (ha : k < a) (hb : k < b) (hc : k < c) : ∃ v, (#[Value.str (Str.ofString "\r") a, Value.str (Str.ofString "\n") b, Value.str (Str.ofString "\r") c])[en]? = some (.str (S (eolU en)) v) ∧ k < v := by
  match en, h with
  | 0, _ => exact ⟨a, congrArg (fun z => some (Value.str z a)) (by decide +kernel), ha⟩
  | 1, _ => exact ⟨b, congrArg (fun z => some (Value.str z b)) (by decide +kernel), hb⟩
  | 2, _ => exact ⟨c, congrArg (fun z => some (Value.str z c)) (by decide +kernel), hc⟩
theorem eol_le (en : Nat) : (eolS en).length ≤ 2 ∧ (eolU en).length ≤ 2 := by
  match en with
  | 0 => exact ⟨by decide, by decide⟩
  | 1 => exact ⟨by decide, by decide⟩
  | n + 2 => exact ⟨(by decide : (1:Nat) ≤ 2), (by decide : (1:Nat) ≤ 2)⟩
theorem S_of_cps (x : Str) : S x.cps.toList = x := by rfl
theorem repl_S (l z : List Nat) : Txt.replace (S l) (Str.ofString "\r\n") (S z) = S (replCR z l) := by
  rw [show (Str.ofString "\r\n" : Str) = S [13, 10] from by decide +kernel]
  exact (S_of_cps _).symm
local macro_rules | `(tactic| walk_at "last subscriptTail") => `(tactic| kas_types)
local macro_rules | `(tactic| walk_at "subscriptTail") => `(tactic| kas_types)
local macro_rules | `(tactic| walk_at "call type:str") => `(tactic| kas_types)
def escW (wr : Nat) (l : List Nat) : List Nat := match wr with | 0 => esc0 l | _ => esc1 l
def endsV (sent : Bool) (en : Nat) (l : List Nat) : List Nat := if sent then dots true (crlf (replCR (eolS en) l)) else replCR (eolU en) l
def kids (ps : Nat → Pl) (far : Nat → Nat → Nat) (rec : Nat → Nat → List Nat) (p : Nat) (a : Int) (n : Nat) : List (List Nat × List Nat) :=
  (List.range n).flatMap fun o => if far p o = 1 ∧ (o : Int) ≠ a then [((ps (max p o)).link, rec o p)] else []
theorem kids_take {ps : Nat → Pl} {far : Nat → Nat → Nat} {rec : Nat → Nat → List Nat} {p : Nat} {a : Int} {n : Nat} (h1 : far p n = 1) (h2 : (n : Int) ≠ a) : kids ps far rec p a (n + 1) = kids ps far rec p a n ++ [((ps (max p n)).link, rec n p)] := by
  unfold kids
  rw [List.range_succ, List.flatMap_append]
  simp [h1, h2]
theorem kids_skip {ps : Nat → Pl} {far : Nat → Nat → Nat} {rec : Nat → Nat → List Nat} {p : Nat} {a : Int} {n : Nat} (h : ¬ (far p n = 1 ∧ (n : Int) ≠ a)) : kids ps far rec p a (n + 1) = kids ps far rec p a n := by
  unfold kids
  rw [List.range_succ, List.flatMap_append]
  simp [h]
theorem kids_len (ps : Nat → Pl) (far : Nat → Nat → Nat) (rec : Nat → Nat → List Nat) (p : Nat) (a : Int) (n : Nat) (z : List Nat × List Nat) : (z :: kids ps far rec p a n).length ≤ n + 1 := by
  induction n with
  | zero => exact Nat.le_refl _
  | succ n ih =>
    by_cases h : far p n = 1 ∧ (n : Int) ≠ a
    · rw [kids_take h.1 h.2]; simp at ih ⊢; omega
    · rw [kids_skip h]; omega
def pageV (ps : Nat → Pl) (far : Nat → Nat → Nat) : Nat → Nat → Int → List Nat
  | 0, _, _ => []
  | f + 1, p, a => escW (ps p).wr (endsV (ps p).sent (ps p).en (headText (((ps p).name, (ps p).note) :: kids ps far (fun o q => pageV ps far f o q) p a 5)))
/-- what the writing of a page asks -/
def PgOk (ps : Nat → Pl) (far : Nat → Nat → Nat) : Nat → Nat → Int → Prop
  | 0, _, _ => False
  | f + 1, p, a => p < 5 ∧ (∀ o, o < 5 → far p o = 1 → (o : Int) ≠ a → PgOk ps far f o p ∧ (∀ c ∈ pageV ps far f o p, okV c) ∧ (pageV ps far f o p).length ≤ 1000000) ∧
      (headText (((ps p).name, (ps p).note) :: kids ps far (fun o q => pageV ps far f o q) p a 5)).length ≤ 100000 ∧
      (∀ z, z.length ≤ 2 → (replCR z (headText (((ps p).name, (ps p).note) :: kids ps far (fun o q => pageV ps far f o q) p a 5))).length ≤ 500000) ∧ (pageV ps far (f + 1) p a).length ≤ 1048576
def StOk (ps : Nat → Pl) : Prop := ∀ k, k < 5 → (∀ c ∈ (ps k).name, okN c) ∧ (ps k).name.length ≤ 100 ∧ (∀ c ∈ (ps k).note, okV c) ∧ (ps k).note.length ≤ 100 ∧ (∀ c ∈ (ps k).link, okN c) ∧ (ps k).link.length ≤ 100 ∧ (ps k).en < 3 ∧ (ps k).wr < 2
theorem page_spec (w : World) (p : Program) (loose : List Str) (mean : ExcName → Option Value) (mg mb : Str → Option Value) (ps : Nat → Pl) (far : Nat → Nat → Nat) (ap af : Addr) (hst : StOk ps) :
    ∀ (f pl : Nat) (ab : Int) (t1 t2 : Tok), PgOk ps far f pl ab →
   PS w p loose mean mg mb 245 (f + 6) (8 * f + 60) 1 [.int pl t1, .int ab t2, .ref ap, .ref af] [] (fun h _ => PW h ap ps ∧ FW h af far) (fun r => ∃ t', r = .str (S (pageV ps far f pl ab)) t') := by
  intro f
  induction f with
  | zero => intro pl ab t1 t2 h; exact h.elim
  | succ f ih =>
    intro pl ab t1 t2 hok dp un gd cn cs a ccd cl outer A₀ base h₀ L m news s Q E B F X N T hk hp htk hd hu hret
    obtain ⟨hpw, hfw⟩ := hp
    obtain ⟨hpl, hkid, hH, hR2, hP⟩ := hok
    obtain ⟨o1, o2, o3, o4, o5, o6, o7, o8⟩ := hst pl hpl
    have hu60 : un + 60 < cLine := by omega
    have hd6 : dp + 6 < recursionLimit := by omega
    have hb : ∀ h ∈ (((ps pl).name, (ps pl).note) :: kids ps far (fun o q => pageV ps far f o q) pl ab 5), h.1.length ≤ 1000000 ∧ h.2.length ≤ 1000000 := by
      intro h hm
      rcases List.mem_cons.mp hm with rfl | hm
      · exact ⟨Nat.le_trans o2 (by decide), Nat.le_trans o4 (by decide)⟩
      · unfold kids at hm
        obtain ⟨o, ho, hm⟩ := List.mem_flatMap.mp hm
        split at hm
        · rename_i hq
          rw [List.mem_singleton.mp hm]
          have ho5 := List.mem_range.mp ho
          exact ⟨Nat.le_trans (hst (max pl o) (by omega)).2.2.2.2.2.1 (by decide), (hkid o ho5 hq.1 hq.2).2.2⟩
        · cases hm
    have hlen : (((ps pl).name, (ps pl).note) :: kids ps far (fun o q => pageV ps far f o q) pl ab 5).length ≤ 100 := Nat.le_trans (kids_len _ _ _ _ _ _ _) (by decide)
    have hH' := Nat.le_trans hH (show 100000 ≤ 1000000 by decide)
    refine keep_toks s.toks (Nat.le_refl _) ?_
    refine wpAny_call ?_
    k_dflt (refine' code_defG (news := []) ?k1 ?k2 ?k3 ?k4 ?k5 ?kA ?kF ?kK ?k6 ?k7 ?k8 ?k9 ?kB ?_ ?c2 ?c3 ?c4 ?c5; (case kA => exact rfl); (case kF => exact rfl); (case kK => assumption); (case k1 => k_asm); (case k2 => k_asm); (case k3 => k_asm); (case k4 => exact News.nil); (case k5 => k_asm); (case k6 => k_is); (case k7 => k_is); (case k8 => ktr_room); (case k9 => exact BindsTo.of_eq rfl); (case c5 => decide); (case kB => exact locs rfl); (case c2 => exact rfl); (case c3 => exact rfl); (case c4 => exact rfl); k_whole)
    intro g1 L1 h1 FG F0 N0 B1 X1 T1 G1
    have F1 := fr_binds [("far", .ref af), ("places", .ref ap), ("above", .int ab t2), ("place", .int pl t1)] F0 rfl
    clear F0
    dsimp only [List.foldr] at F1
    have G2 : InElt s.heap g1 := fun b o e => G1 b o e (fun q => nomatch q)
    have hpw1 := hpw.mono G2
    have hfw1 := hfw.mono G2
    obtain ⟨itp, ep, hp1, hp2, hp3⟩ := hpw1
    obtain ⟨itf, ef, hf1, hf2, hf3⟩ := hfw1
    obtain ⟨q0, u1, u2, u3, u4, u5, u7, hq1, hq2⟩ := hp3 pl hpl
    refine hideQE fun Q0 E0 hQ0 => ?_
    refine wpAny_execs_cons (Assign_Tuple ?_)
    refine Subscript_ (ld F1 rfl (ld F1 rfl ?_))
    refine sub_list (F1.keep _ _ hp1) (by omega) hq1 ?_
    refine unpackN_ F1 N0 ⟨_, F1.keep _ _ hq2, rfl, _, rfl⟩ rfl rfl rfl (fun h2 F2 N2 => ?_)
    k_fold
    k_steps
    refine Stop.mk ?_
    rename_i h3 F3 N3 tk3
    k_dflt (refine' new_headers w p loose mean mg mb _ _ _ _ _ _ _ _ _ _ _ _ _ _ _ _ _ _ ?k1 ?k2 ?k3 ?k4 ?k5 ?k6 ?k7 ?k8 ?_; (case k1 => k_asm); (case k2 => k_asm); (case k3 => k_asm); (case k4 => k_asm); (case k5 => k_asm); (case k6 => exact rfl); (case k7 => ktr_room); (case k8 => ktr_units))
    intro x dx lh hsh kk nn h4 tk4 ht4 F4 N4 x1 x2 x3
    k_steps
    refine Stop.mk ?_
    k_dflt (refine' addh_spec w p loose mean mg mb x dx lh (ps pl).name (ps pl).note u1 u2 #[] 0 nn hsh kk o1 o3 (Nat.le_trans o2 (by decide)) (Nat.le_trans o4 (by decide)) (by decide) _ _ _ _ _ _ _ _ _ _ _ _ _ _ _ _ _ _ ?k1 ?k2 ?k3 ?k4 ?k5 ?k6 x1 x2 x3 ?k7 ?k8 ?_; (case k1 => k_asm); (case k2 => k_asm); (case k3 => k_asm); (case k4 => k_asm); (case k5 => k_asm); (case k6 => exact rfl); (case k7 => ktr_room); (case k8 => ktr_units))
    intro qa ua h5 tk5 ht5 hqa _ F5 N5
    k_steps
    refine Stop.mk ?_

    have htk5 : 1 ≤ tk5 := Nat.le_trans (by assumption) ht5
    let bs : List (Str × Value) := [("head", .ref x), ("link", .str (S (ps pl).link) u7), ("sent", .bool (ps pl).sent), ("hung", .int (ps pl).ab u5), ("end", .int (ps pl).en u4), ("writer", .int (ps pl).wr u3), ("note", .str (S (ps pl).note) u2), ("name", .str (S (ps pl).name) u1), ("far", .ref af), ("places", .ref ap), ("above", .int ab t2), ("place", .int pl t1)]
    refine for_range (h₀ := g1) 5 0 1 (fun i m news => ∃ ov items e tups, (∀ y, m y = if y = "other" then ov else bm bs y) ∧ news = (lh, listOf items e) :: (x, instObj 222 dx) :: (dx, hdO hsh kk lh nn) :: tups ∧ HT tups items.toList (((ps pl).name, (ps pl).note) :: kids ps far (fun o q => pageV ps far f o q) pl ab i) ∧ (∀ p ∈ tups, p.1 ≠ lh)) rfl rfl rfl (fun _ => rfl) ?_
    refine keep_toks 1 htk5 (stopQ ?_)
    k_steps
    refine Stop.mk ?_
    rename_i hR F6 N6 hk6
    intro ht6
    refine ⟨_, _, _, _, _, _, (lh, listOf (#[].push (.ref qa)) (0 + 1)) :: (x, instObj 222 dx) :: (dx, hdO hsh kk lh nn) :: [(qa, tupO [.str (S (ps pl).name) u1, .str (S (ps pl).note) ua])], rfl, hR, rfl, rfl, ht6, F6, fun p hp => N6 p ?_, ⟨none, #[].push (.ref qa), 0 + 1, [(qa, tupO [.str (S (ps pl).name) u1, .str (S (ps pl).note) ua])], fun y => ?_, rfl, .cons (.head _) .nil, ?_⟩, ?_, ?_⟩
    · simp only [List.mem_cons, List.not_mem_nil, or_false] at hp ⊢
      rcases hp with h | h | h | h <;> simp [h]
    · by_cases hy : y = "other"
      · rw [if_pos hy, hy]; rfl
      · rw [if_neg hy]; rfl
    · intro p hp
      rw [List.mem_singleton.mp hp]; exact Nat.ne_of_gt hqa
    · clear F6 N6 hk6 hR hqa ht5 htk5 ht6
      intro i m₁ news₁ I oI h tk t hi htk ⟨ov, items, e, tups, hm, hnews, hT, hlt⟩ hnI FJ NJ
      have F7 : Fr g1 L1 h (bm (("other", .int i t) :: bs)) := fr_of FJ (funext fun y => by
        rw [Int.zero_add, hm]
        by_cases hy : y = "other"
        · rw [if_pos hy]; exact (if_pos hy).symm
        · rw [if_neg hy, if_neg hy]; exact (if_neg hy).symm)
      clear FJ
      dsimp only [bm, bs, List.foldr] at F7
      obtain ⟨qf, itr, er, hf4, hf5, hf6, hf7⟩ := hf3 pl hpl
      obtain ⟨tf, hf8⟩ := hf7 i hi
      subst hnews
      have fin : ∀ {h' : Heap} {tk' : Nat} {items' : Array Value} {e' : Nat} {tups' : List (Addr × Obj)}, Fr g1 L1 h' (bm (("other", .int i t) :: bs)) → News g1 L1 h' ((I, oI) :: (lh, listOf items' e') :: (x, instObj 222 dx) :: (dx, hdO hsh kk lh nn) :: tups') →
          HT tups' items'.toList (((ps pl).name, (ps pl).note) :: kids ps far (fun o q => pageV ps far f o q) pl ab (i + 1)) → (∀ p ∈ tups', p.1 ≠ lh ∧ p.1 ≠ I) →
          ∃ h'' tk'' m'' news'', (⟨h', s.gens, s.drawn, tk', s.os⟩ : Shared) = ⟨h'', s.gens, s.drawn, tk'', s.os⟩ ∧ Fr g1 L1 h'' m'' ∧ News g1 L1 h'' ((I, oI) :: news'') ∧ (∀ p ∈ news'', p.1 ≠ I) ∧
            ∃ ov items e tups, (∀ y, m'' y = if y = "other" then ov else bm bs y) ∧ news'' = (lh, listOf items e) :: (x, instObj 222 dx) :: (dx, hdO hsh kk lh nn) :: tups ∧ HT tups items.toList (((ps pl).name, (ps pl).note) :: kids ps far (fun o q => pageV ps far f o q) pl ab (i + 1)) ∧ (∀ p ∈ tups, p.1 ≠ lh) := by
        intro h' tk' items' e' tups' F' N' hT' hl'
        refine ⟨h', tk', _, _, rfl, F', N', ?_, some (.int i t), items', e', tups', fun y => rfl, rfl, hT', fun p hp => (hl' p hp).1⟩
        intro p hp
        have n1 := hnI (lh, listOf items e) (.head _)
        have n2 := hnI _ (.tail _ (.head _))
        have n3 := hnI _ (.tail _ (.tail _ (.head _)))
        rcases List.mem_cons.mp hp with rfl | hp
        · exact n1
        rcases List.mem_cons.mp hp with rfl | hp
        · exact n2
        rcases List.mem_cons.mp hp with rfl | hp
        · exact n3
        exact (hl' p hp).2
      refine hideQE fun Qh Eh hQh => ?_
      refine wpAny_execs_cons (wpAny_If (isTrue_and (stopQ (wpAny_isTrue_Compare1 ?_ rfl))))
      refine Subscript_ (Subscript_ (ld F7 rfl (ld F7 rfl (sub_list (F7.keep _ _ hf1) (by omega) hf4 (ld F7 rfl (sub_list (F7.keep _ _ hf5) (by omega) hf8 ?_))))))
      k_steps
      refine Stop.mk ?_
      by_cases hc1 : far pl i = 1
      · rw [if_pos (by simp [hc1])]
        refine isTrue_and (stopQ (wpAny_isTrue_Compare1 ?_ rfl))
        k_steps
        refine Stop.mk ?_
        by_cases hc2 : (i : Int) = ab
        · rw [if_neg (by simp [hc2]), if_neg (by decide)]
          have hk0 := kids_skip (ps := ps) (far := far) (rec := fun o q => pageV ps far f o q) (p := pl) (a := ab) (n := i) (fun q => q.2 hc2)
          refine wpAny_execs_nil (wpAny_execs_nil ?_)
          refine hQh _ _ ?_
          exact fin F7 NJ (hk0 ▸ hT) (fun p hp => ⟨hlt p hp, hnI p (.tail _ (.tail _ (.tail _ hp)))⟩)
        · rw [if_pos (by simp [hc2])]
          refine isTrue_and_nil ?_
          k_steps
          refine Stop.mk ?_
          refine max_two_T rfl (by assumption) (by assumption) (fun h8 tk8 ht8 F8 N8 => ?_)
          obtain ⟨q6, v1, v2, v3, v4, v5, v7, hq6, hq7⟩ := hp3 (max pl i) (by omega)
          obtain ⟨r1, r2, r3, r4, r5, r6, r7, r8⟩ := hst (max pl i) (by omega)
          obtain ⟨j1, j2, j3⟩ := hkid i hi hc1 hc2
          refine sub_listE (F8.keep _ _ hp1) (by omega) hq6 max_nat ?_
          refine wpAny_Constant_int (sub_tup (k := 6) (F8.keep _ _ hq7) (by decide) rfl ?_)
          k_steps
          refine Stop.mk ?_
          k_dflt (refine' PS.use (ih i (pl : Int) _ _ j1) ?k1 ?k2 ?k3 ?k4 ?k5 ?k6 ?k7 ?k8 ?k9 ?kA ?_; (case k1 => k_asm); (case k2 => k_asm); (case k3 => k_asm); (case k4 => k_asm); (case k5 => k_asm); (case k6 => exact rfl); (case k7 => exact ⟨hpw.mono fun b o q => F8.keep _ _ (G2 b o q), hfw.mono fun b o q => F8.keep _ _ (G2 b o q)⟩); (case k8 => exact Nat.le_trans (by assumption) (Nat.le_succ_of_le ht8)); (case k9 => ktr_room); (case kA => ktr_units))
          rintro r h9 tk9 ht9 ⟨t9, rfl⟩ - F9 N9
          k_steps
          refine Stop.mk ?_
          have N10 : News g1 L1 h9 ((lh, listOf items e) :: (x, instObj 222 dx) :: (dx, hdO hsh kk lh nn) :: (I, oI) :: tups) := fun p hp => N9 p (by
            simp only [List.mem_cons] at hp ⊢
            rcases hp with h | h | h | h | h <;> simp [h])
          have hsz : items.size ≤ 100 := by
            have := hT.len
            rw [Array.length_toList] at this
            rw [this]
            refine Nat.le_trans (kids_len _ _ _ _ _ _ _) (by omega)
          k_dflt (refine' addh_spec w p loose mean mg mb x dx lh (ps (max pl i)).link (pageV ps far f i pl) v7 t9 items e nn hsh kk r5 j2 (Nat.le_trans r6 (by decide)) j3 hsz _ _ _ _ _ _ _ _ _ _ _ _ _ _ _ _ _ _ ?k1 ?k2 ?k3 ?k4 ?k5 ?k6 x1 x2 ?kn ?k7 ?k8 ?_; (case k1 => k_asm); (case k2 => k_asm); (case k3 => k_asm); (case k4 => exact N10); (case k5 => k_asm); (case k6 => exact rfl); (case k7 => ktr_room); (case k8 => ktr_units))
          · intro p hp
            rcases List.mem_cons.mp hp with rfl | hp
            · exact Ne.symm (hnI (lh, listOf items e) (.head _))
            · exact hlt p hp
          intro qb ub hA tkA htA hqb hqI FA NA
          k_steps
          refine hQh _ _ ?_
          refine fin (items' := items.push (.ref qb)) (e' := e + 1) (tups' := (qb, tupO [.str (S (ps (max pl i)).link) v7, .str (S (pageV ps far f i pl)) ub]) :: tups) FA (fun p hp => NA p ?_) ?_ ?_
          · simp only [List.mem_cons] at hp ⊢
            rcases hp with h | h | h | h | h | h <;> simp [h]
          · rw [kids_take hc1 hc2, Array.toList_push, ← List.cons_append]
            exact HT.snoc (.head _) (hT.mono fun p hp => .tail _ hp)
          · intro p hp
            rcases List.mem_cons.mp hp with rfl | hp
            · refine ⟨Nat.ne_of_gt hqb, ?_⟩
              exact Nat.ne_of_gt (hqI (I, oI) (.head _))
            · exact ⟨hlt p hp, hnI p (.tail _ (.tail _ (.tail _ hp)))⟩
      · rw [if_neg (by simp; omega), if_neg (by decide)]
        have hk0 := kids_skip (ps := ps) (far := far) (rec := fun o q => pageV ps far f o q) (p := pl) (a := ab) (n := i) (fun q => hc1 q.1)
        refine wpAny_execs_nil (wpAny_execs_nil ?_)
        refine hQh _ _ ?_
        exact fin F7 NJ (hk0 ▸ hT) (fun p hp => ⟨hlt p hp, hnI p (.tail _ (.tail _ (.tail _ hp)))⟩)
    · intro m₁ news₁ h tk htk ⟨ov, items, e, tups, hm, hnews, hT, hlt⟩ FJ NJ
      subst hnews
      have F7 : Fr g1 L1 h (fun y => if y = "other" then ov else bm bs y) := fr_of FJ (funext hm)
      clear FJ hm
      dsimp only [bm, bs, List.foldr] at F7
      dsimp only
      refine wpAny_execs_cons (cut (Q' := fun fl s' => Stop (True → fl = .next ∧ ∃ h' tk' t', s' = ⟨h', s.gens, s.drawn, tk', s.os⟩ ∧ 1 ≤ tk' ∧ Fr g1 L1 h' (fun y => if y = "page" then some (.str (S (endsV (ps pl).sent (ps pl).en (headText (((ps pl).name, (ps pl).note) :: kids ps far (fun o q => pageV ps far f o q) pl ab 5)))) t') else if y = "other" then ov else bm bs y))) (wpAny_If (stopQ ?_)) ?_)
      · k_steps
        refine Stop.mk ?_
        cases hs : (ps pl).sent with
        | true =>
          rw [if_pos rfl]
          k_steps
          refine Stop.mk ?_
          refine kso_call (K := Mine.hd.heap_39 w.params) (C := 222) (f := 198) ?k1 (X1.keeps F7.keep) (InstAt.of_news NJ (.tail _ (.head _)) (.tail _ (.tail _ (.head _)))) ?k4 ?k5 ?_
          (case k1 => exact cu2 hu60)
          (case k4 => k_is)
          (case k5 => k_is)
          k_dflt (refine' PS.use (str_spec w p loose mean mg mb x dx lh items e nn hsh kk _ hb hH' hlen) ?k1 ?k2 ?k3 ?k4 ?k5 ?k6 ?k7 ?k8 ?k9 ?kA ?_; (case k1 => k_asm); (case k2 => k_asm); (case k3 => k_asm); (case k4 => k_asm); (case k5 => k_asm); (case k6 => exact rfl); (case k7 => exact ⟨.head _, .tail _ (.head _), .tail _ (.tail _ (.head _)), hT.mono fun p hp => .tail _ (.tail _ (.tail _ hp))⟩); (case k8 => exact Nat.zero_le _); (case k9 => ktr_room); (case kA => ktr_units))
          rintro r h9 tk9 ht9 ⟨t9, rfl⟩ - F9 N9
          show wpAny _ _ _ _ _ _
          have ht9' : 1 ≤ tk9 := Nat.le_trans htk ht9
          k_steps
          refine Stop.mk ?_
          rename_i l10 h10 F10 N10 l10
          obtain ⟨v, hz, hv⟩ := ends_s (en := (ps pl).en) o7 (tk9 + 1) (tk9 + 1 + 1) (tk9 + 1 + 1 + 1) tk9 (Nat.lt_succ_self _) (Nat.le_succ_of_le (Nat.lt_succ_self _)) (Nat.le_succ_of_le (Nat.le_succ_of_le (Nat.lt_succ_self _)))
          refine sub_listE (N10 _ (.head _)).1 (Nat.lt_trans o7 (by decide)) hz rfl ?_
          k_steps
          refine Stop.mk ?_
          refine keep_toks 1 (Nat.succ_pos _) ?_
          refine SC.replaceW2 100000 2 (by decide) (Nat.ne_of_gt ht9') (Nat.ne_of_gt (Nat.lt_of_lt_of_le ht9' (Nat.le_of_lt hv))) (Nat.ne_of_lt hv) (by rw [S_len]; exact hH) (by rw [S_len]; exact (eol_le _).1) (fun t' k hk1 => ?_) (nb (X1.keeps F10.keep))
          have hk1' : 1 ≤ k := hk1
          clear hk1
          rw [repl_S]
          k_steps
          refine Stop.mk ?_
          k_dflt (refine' PS.use (quote_spec w p loose mean mg mb _ _ (hR2 _ (eol_le _).1)) ?k1 ?k2 ?k3 ?k4 ?k5 ?k6 ?k7 ?k8 ?k9 ?kA ?_; (case k1 => k_asm); (case k2 => k_asm); (case k3 => k_asm); (case k4 => k_asm); (case k5 => k_asm); (case k6 => exact rfl); (case k7 => exact trivial); (case k8 => exact Nat.zero_le _); (case k9 => ktr_room); (case kA => ktr_units))
          rintro r h11 tk11 ht11 ⟨t11, rfl⟩ - F11 N11
          k_steps
          refine Stop.mk ?_
          intro _
          refine ⟨rfl, _, _, t11, rfl, by assumption, by assumption⟩
        | false =>
          rw [if_neg (by decide)]
          k_steps
          refine Stop.mk ?_
          refine kso_call (K := Mine.hd.heap_39 w.params) (C := 222) (f := 198) ?k1 (X1.keeps F7.keep) (InstAt.of_news NJ (.tail _ (.head _)) (.tail _ (.tail _ (.head _)))) ?k4 ?k5 ?_
          (case k1 => exact cu2 hu60)
          (case k4 => k_is)
          (case k5 => k_is)
          k_dflt (refine' PS.use (str_spec w p loose mean mg mb x dx lh items e nn hsh kk _ hb hH' hlen) ?k1 ?k2 ?k3 ?k4 ?k5 ?k6 ?k7 ?k8 ?k9 ?kA ?_; (case k1 => k_asm); (case k2 => k_asm); (case k3 => k_asm); (case k4 => k_asm); (case k5 => k_asm); (case k6 => exact rfl); (case k7 => exact ⟨.head _, .tail _ (.head _), .tail _ (.tail _ (.head _)), hT.mono fun p hp => .tail _ (.tail _ (.tail _ hp))⟩); (case k8 => exact Nat.zero_le _); (case k9 => ktr_room); (case kA => ktr_units))
          rintro r h9 tk9 ht9 ⟨t9, rfl⟩ - F9 N9
          show wpAny _ _ _ _ _ _
          have ht9' : 1 ≤ tk9 := Nat.le_trans htk ht9
          k_steps
          refine Stop.mk ?_
          rename_i l10 h10 F10 N10 l10
          obtain ⟨v, hz, hv⟩ := ends_u (en := (ps pl).en) o7 (tk9 + 1) (tk9 + 1 + 1) (tk9 + 1 + 1 + 1) tk9 (Nat.lt_succ_self _) (Nat.le_succ_of_le (Nat.lt_succ_self _)) (Nat.le_succ_of_le (Nat.le_succ_of_le (Nat.lt_succ_self _)))
          refine sub_listE (N10 _ (.head _)).1 (Nat.lt_trans o7 (by decide)) hz rfl ?_
          k_steps
          refine Stop.mk ?_
          refine keep_toks 1 (Nat.succ_pos _) ?_
          refine SC.replaceW2 100000 2 (by decide) (Nat.ne_of_gt ht9') (Nat.ne_of_gt (Nat.lt_of_lt_of_le ht9' (Nat.le_of_lt hv))) (Nat.ne_of_lt hv) (by rw [S_len]; exact hH) (by rw [S_len]; exact (eol_le _).2) (fun t' k hk1 => ?_) (nb (X1.keeps F10.keep))
          have hk1' : 1 ≤ k := hk1
          clear hk1
          rw [repl_S]
          k_steps
          refine Stop.mk ?_
          intro _
          refine ⟨rfl, _, _, t', rfl, by assumption, by assumption⟩
      intro fl s' hfin
      obtain ⟨rfl, h', tk', t', rfl, htk', F12⟩ := hfin.h trivial
      clear hfin
      have N12 : News g1 L1 h' [] := News.nil
      clear F7 NJ hT hlt
      dsimp only [bm, bs, List.foldr] at F12
      dsimp only
      k_steps
      refine Stop.mk ?_
      refine wpAny_If (stopQ ?_)
      k_steps
      refine Stop.mk ?_
      have hP1 : pageV ps far (f + 1) pl ab = escW (ps pl).wr (endsV (ps pl).sent (ps pl).en (headText (((ps pl).name, (ps pl).note) :: kids ps far (fun o q => pageV ps far f o q) pl ab 5))) := rfl
      by_cases hw : (ps pl).wr = 0
      · rw [if_pos (by simp [hw])]
        have hP2 : pageV ps far (f + 1) pl ab = esc0 (endsV (ps pl).sent (ps pl).en (headText (((ps pl).name, (ps pl).note) :: kids ps far (fun o q => pageV ps far f o q) pl ab 5))) := by rw [hP1, hw]; rfl
        rw [hP2] at hP
        k_steps
        refine Stop.mk ?_
        k_dflt (refine' PS.use (esc0_spec w p loose mean mg mb _ _ hP) ?k1 ?k2 ?k3 ?k4 ?k5 ?k6 ?k7 ?k8 ?k9 ?kA ?_; (case k1 => k_asm); (case k2 => k_asm); (case k3 => k_asm); (case k4 => k_asm); (case k5 => k_asm); (case k6 => exact rfl); (case k7 => exact trivial); (case k8 => assumption); (case k9 => ktr_room); (case kA => ktr_units))
        rintro r h13 tk13 ht13 ⟨t13, rfl⟩ - F13 N13
        refine hQ0 _ _ ?_
        exact leaveK_ F13 N13 (fun _ _ htz => hret _ _ _ htz ⟨_, by rw [hP2]⟩ (fun b o e => F13.keep _ _ (G2 b o e)))
      · rw [if_neg (by simp [hw])]
        have hw1 : (ps pl).wr = 1 := by omega
        have hP2 : pageV ps far (f + 1) pl ab = esc1 (endsV (ps pl).sent (ps pl).en (headText (((ps pl).name, (ps pl).note) :: kids ps far (fun o q => pageV ps far f o q) pl ab 5))) := by rw [hP1, hw1]; rfl
        rw [hP2] at hP
        k_steps
        refine Stop.mk ?_
        k_dflt (refine' PS.use (esc1_spec w p loose mean mg mb _ _ hP) ?k1 ?k2 ?k3 ?k4 ?k5 ?k6 ?k7 ?k8 ?k9 ?kA ?_; (case k1 => k_asm); (case k2 => k_asm); (case k3 => k_asm); (case k4 => k_asm); (case k5 => k_asm); (case k6 => exact rfl); (case k7 => exact trivial); (case k8 => assumption); (case k9 => ktr_room); (case kA => ktr_units))
        rintro r h13 tk13 ht13 ⟨t13, rfl⟩ - F13 N13
        refine hQ0 _ _ ?_
        exact leaveK_ F13 N13 (fun _ _ htz => hret _ _ _ htz ⟨_, by rw [hP2]⟩ (fun b o e => F13.keep _ _ (G2 b o e)))
end Mine
namespace Mine
open PySem PySem.W PyProof.Rows PySem.Spec PySem.Calls
/-- a call of a function with cells; all that stands is its ground -/
theorem enterC {prog : Program} {w : World} {A₀ A : Around} {s : Shared} {base h₀ : Heap} {L : Addr} {m : Str → Option Value} {env : Env} {outer : List Env} {K : Frag} {p : Program} {loose : List Str} {mean : ExcName → Option Value} {mg mb : Str → Option Value}
    {R : Result → Shared → Prop} {name qual : Str} {params : Arguments} {body : List Stmt} {scope : Scope} {dV kV doc pm cdv ct oc : Value} {an od : Option Addr} {osl : Array (Option Value)} {f : Addr} {vals : List Value} {binds : List (Str × Value)}
    (B : Below A₀ base outer h₀) (F : Fr h₀ L s.heap m) (X₀ : K.In h₀) (T : Top p loose mean mg mb h₀) (hA : A.frames = some (env :: outer)) (hf : env.frame = some L) (hke : env.scope.kind = .function)
    (ho : K.lookup f = some ⟨oc, od, .func (fnOf name qual params body scope dV kV doc pm an cdv ct), osl⟩) (hcd : codeIn K cdv qual = true) (hroom : A.depth < recursionLimit)
    (hbind : bindArgs (fnOf name qual params body scope dV kV doc pm an cdv ct) ⟨vals, []⟩ = pure binds)
    (hkind : (binds.all fun y => scope.names.lookup y.1 == some .local || scope.names.lookup y.1 == some .cell) = true)
    (hnd : ((cellsFrom 0 scope.names []).map (·.1)).Nodup)
    (h : ∀ g L' h₁ tk cells, InElt s.heap g → Fr g L' h₁ (bindL (envOfC qual scope L' f cdv).kindOf binds fun _ => none) → News g L' h₁ cells →
      CellsAre (bindC (envOfC qual scope L' f cdv).kindOf binds fun _ => none) (cellsFrom (L' + 1) scope.names []) cells → Below A base (env :: outer) g → K.In g → Top p loose mean mg mb g →
      wpAny (model prog w) (A.deeper (envOfC qual scope L' f cdv)) (execs body (envOfC qual scope L' f cdv))
        (fun fl s' => R (.ok (.ret (match fl with | .ret v => v | _ => .none))) s')
        (fun e s' => wpAny (model prog w) (A.deeper (envOfC qual scope L' f cdv)) (leaving (envOfC qual scope L' f cdv) e) (fun _ s'' => R (.error e) s'') (fun e' s'' => R (.error e') s'') s')
        { s with heap := h₁, toks := tk })
    (hco : scope.isCoroutine = false) (hgen : scope.isGenerator = false) (hk : scope.kind = .function) : codeAny (model prog w) A (.call (.ref f) ⟨vals, []⟩) R s := by
  refine codeAny_call_cells hroom ((X₀.keeps F.keep) _ _ ho) rfl (T.nolimit.keeps F.keep) (codeRec_of (X₀.keeps F.keep) hcd) rfl hbind rfl (kindsX hkind _) (fun s₁ x => ?_) hco hgen hk
  obtain ⟨h₁, tk, rfl, _⟩ := x.done
  have hk₁ := x.toInCall.keep
  obtain ⟨cells, NC, Y⟩ := Cl.news (h₀ := s.heap) (Nat.le_refl _) fun n c hm => ⟨x.cell n c (lookup_of_mem_nodup (cellsFrom_names scope.names 0 (s.heap.objs.size + 1) [] [] rfl ▸ hnd) hm), x.above n c hm⟩
  exact h s.heap s.heap.objs.size h₁ tk cells (fun _ _ e => e) ⟨x.toInCall.ns, hk₁, Nat.le_refl _⟩ NC Y ⟨hA, fun b o e => F.keep b o (B.stays b o e), (pushX B F hf hke).frames⟩ (X₀.keeps F.keep) (T.keeps F.keep)
theorem comp_str {prog : Program} {w : World} {A : Around} {env : Env} {s : Shared} {elt iter : Expr} {x : Str} {px : Pos} {scope : Scope} {cl : List (Str × Addr)} {pos : Pos} {Q : Value → Shared → Prop} {E : Value → Shared → Prop} (l : List Nat) (f : Nat → Value → Prop)
    (hh : A.handled = none) (hclos : closureFor scope env = pure cl) (hcell : ∀ y ∈ scope.names, y.2 ≠ .cell) (hkind : scope.kind = .function)
    (hnames : ∀ y ∈ scope.names, y.2 = .local → scope.names.lookup y.1 = some .local) (hx : scope.names.lookup x = some .local) (hsz : l.length ≤ sizeLine) (ha : ∀ c ∈ l, c < 128)
    (h : wpAny (model prog w) A (eval iter env) (fun xv s₁ => ∃ u, xv = .str (S l) u ∧
      (∀ C c t s₃ m₃ E', s₁.heap.objs.size < C → c ∈ l → s₃.heap.Ns C m₃ → m₃ x = some (.str (S [c]) t) → InElt s₁.heap s₃.heap → s₁.toks ≤ s₃.toks → wpAny (model prog w) A (eval elt (compEnvC scope cl C env)) (fun y s₄ => f c y ∧ Keeps s₃ s₄) E' s₃) ∧
      (∀ D h' tk ys e, s₁.heap.get? D = none → h'.get? D = some (listOf ys e) → Paired (fun c y => f c y) l ys.toList → InElt s₁.heap h' → Q (.ref D) { s₁ with heap := h', toks := tk })) E s)
    (hs : ∀ x, foldedSetIterable iter env x = pure x := by intro _; rfl) :
    wpAny (model prog w) A (eval (.ListComp elt [⟨.Name x px, iter, [], 0⟩] scope pos) env) Q E s := by
  refine wpAny_ListComp_free (fun _ => true) (fun v y => ∃ c t, v = .str (S [c]) t ∧ c ∈ l ∧ f c y) hclos hcell hkind hnames hx (wpAny_mono h (fun xv s₁ h₁ => ?_) fun _ _ e => e) hs
  obtain ⟨u, rfl, helt, hQ⟩ := h₁
  refine wpAny_pyIter_ascii (by simpa [S] using ha) ?_
  have up : InElt s₁.heap (s₁.heap.push { cls := .type "str_ascii_iterator", data := .fields #[.str (S l) u, .int 0 0] }) := fun b o e => Heap.get?_push_of_some _ e
  have off : ∀ {b : Addr} {o : Obj}, s₁.heap.get? b = some o → b ∉ [s₁.heap.objs.size] := fun e q => by
    rw [List.mem_singleton.mp q] at e; exact absurd (Heap.lt_size e) (Nat.lt_irrefl _)
  have esz : (s₁.heap.push { cls := .type "str_ascii_iterator", data := .fields #[.str (S l) u, .int 0 0] }).objs.size = s₁.heap.objs.size + 1 := Heap.size_push ..
  have hlen : (S l).cps.size = l.length := by simp [S]
  have at_ : ∀ {i : Nat} {v : Value}, SignAt (S l) i v → ∃ c t, l[i]? = some c ∧ v = .str (S [c]) t := fun {i v} ⟨c, t, e, q⟩ => ⟨c, t, by simpa [S] using e, q⟩
  have W := Walks.strAscii (prog := prog) (w := w) (A := A) hh s₁.heap.objs.size (S l) u
  rw [hlen] at W
  refine ⟨s₁.heap.objs.size, _, _, l.length, _, _, rfl, W, hsz, ⟨_, Heap.get?_push_size _ rfl, rfl, rfl⟩, ?_, ⟨?_, ?_⟩, ?_⟩
  · intro b hb
    show b < (s₁.heap.push _).objs.size
    rw [esz, List.mem_singleton.mp hb]; exact Nat.lt_succ_self _
  · intro C i v s₃ m₃ E' hC hP hn hm hk htk
    exact wpAny_pure ⟨rfl, s₃.heap, s₃.toks, rfl, fun _ _ e => e⟩
  · intro C i v s₃ m₃ E' hC hP _ hn hm hk htk
    have hC' : (s₁.heap.push { cls := .type "str_ascii_iterator", data := .fields #[.str (S l) u, .int 0 0] }).objs.size ≤ C := hC
    obtain ⟨c, t, hi, rfl⟩ := at_ hP
    have hcl : c ∈ l := List.mem_of_getElem? hi
    refine wpAny_mono (helt C c t s₃ m₃ E' (by omega) hcl hn hm (fun b o q => hk b o (off q) (up b o q)) htk) (fun y s₄ h₄ => ⟨⟨c, t, rfl, hcl, h₄.1⟩, h₄.2⟩) fun _ _ e => e
  · intro D h' tk ys vs hD hlD hplD hlen' hP hF hk
    rw [List.filter_eq_self.mpr (fun _ _ => rfl)] at hF
    have key : ∀ (vs ys : List Value) (l' : List Nat), Paired (fun v y => ∃ c t, v = Value.str (S [c]) t ∧ c ∈ l ∧ f c y) vs ys → vs.length = l'.length → (∀ (j : Nat) (v : Value), vs[j]? = some v → ∃ (c : Nat) (t : Tok), l'[j]? = some c ∧ v = Value.str (S [c]) t) → Paired (fun c y => f c y) l' ys := by
      intro vs ys l' hp
      induction hp generalizing l' with
      | nil => intro hl _; rw [List.length_nil] at hl; rw [List.eq_nil_of_length_eq_zero hl.symm]; exact .nil
      | @cons v y l₁ l₂ hv hr ih =>
        intro hl hall
        cases l' with
        | nil => simp at hl
        | cons c l' =>
          obtain ⟨c1, t1, rfl, _, hf⟩ := hv
          obtain ⟨c2, t2, e2, e3⟩ := hall 0 _ rfl
          have hc : c = c1 := by
            have h3 := (Value.str.inj e3).1
            have h4 : [c1] = [c2] := by have := congrArg (fun z => z.cps.toList) h3; simpa [S] using this
            simp at e2 h4
            rw [e2, h4]
          subst hc
          exact .cons hf (ih l' (by simpa using hl) fun j v q => hall (j + 1) v (by simpa using q))
    obtain ⟨e, he⟩ := hplD
    refine hQ D h' tk ys e ?_ he (key vs ys.toList l hF hlen' fun j v q => at_ (hP j v q)) fun b o q => hk b o (off q) (up b o q)
    cases q : s₁.heap.get? D with
    | none => rfl
    | some o =>
      have : (s₁.heap.push { cls := .type "str_ascii_iterator", data := .fields #[.str (S l) u, .int 0 0] }).get? D = none := hD
      rw [up _ _ q] at this; cases this
end Mine
namespace Mine
open PySem PySem.W PyProof.Rows PySem.Spec PySem.Calls
local macro_rules | `(tactic| k_all) => `(tactic| assumption)
theorem addS {prog : Program} {w : World} {A : Around} {E : Value → Shared → Prop} {s : Shared} {x y : Str} {l r : List Nat} {t u : Tok} {Q : Value → Shared → Prop} (hx : x = S l) (hy : y = S r) (hl : l.length + r.length ≤ 16777216)
    {z : List Nat} (hz : l ++ r = z) (h : ∀ t' k, Q (.str (S z) t') { s with toks := k }) : wpAny (model prog w) A (binaryOp .Add (.str x t) (.str y u)) Q E s := by
  subst hx; subst hy; subst hz
  refine SB.add (fun t' k => ?_) (by rw [S_len, S_len]; exact hl)
  rw [S_app]; exact h t' k
theorem iaddS {prog : Program} {w : World} {A : Around} {E : Value → Shared → Prop} {s : Shared} {x y : Str} {l r : List Nat} {t u : Tok} {Q : Value → Shared → Prop} (hx : x = S l) (hy : y = S r) (hl : l.length + r.length ≤ 16777216)
    {z : List Nat} (hz : l ++ r = z) (h : ∀ t' k, Q (.str (S z) t') { s with toks := k }) : wpAny (model prog w) A (inplaceOp .Add (.str x t) (.str y u)) Q E s := by
  subst hx; subst hy; subst hz
  refine SB.iadd (fun t' k => ?_) (by rw [S_len, S_len]; exact hl)
  rw [S_app]; exact h t' k
theorem foldl_rep (l : List Nat) : ∀ (d : Nat) (a : Array Nat), ((List.replicate d (S l).cps).foldl (· ++ ·) a).toList = a.toList ++ (List.replicate d l).flatten
  | 0, a => by simp
  | d + 1, a => by
    rw [List.replicate_succ, List.foldl_cons, foldl_rep l d, List.replicate_succ, List.flatten_cons, Array.toList_append, S_toList, List.append_assoc]
theorem mul_S (l : List Nat) (d : Nat) : Txt.mul (S l) (d : Int) = S (List.replicate d l).flatten := by
  unfold Txt.mul
  split
  · rename_i h
    have : d = 0 := by omega
    subst this; rfl
  · split
    · rename_i h1 h
      rw [Bool.or_eq_true] at h
      rcases h with h | h
      · have : d = 1 := by have := eq_of_beq h; omega
        subst this; simp
      · have hl : l = [] := by
          have := eq_of_beq h
          rw [S_len] at this
          exact List.eq_nil_of_length_eq_zero this
        subst hl
        congr 1
        induction d with
        | zero => rfl
        | succ n ih => simp
    · rw [S_of ⟨_⟩]
      congr 1
      show ((List.replicate (d : Int).toNat (S l).cps).foldl (· ++ ·) #[]).toList = _
      rw [Int.toNat_natCast, foldl_rep]; rfl
def mkV (d : Nat) : List Nat := 38 :: (List.replicate d [97, 109, 112, 59]).flatten
def crV (wr : Nat) : List Nat := match wr with | 0 => [35, 49, 51, 59] | _ => [35, 120, 68, 59]
def nlV (wr : Nat) : List Nat := match wr with | 0 => [35, 49, 48, 59] | _ => [35, 120, 65, 59]
def tbV (wr : Nat) : List Nat := match wr with | 0 => [35, 48, 57, 59] | _ => [35, 120, 57, 59]
def sgV (d wr c : Nat) : List Nat := if c = 38 then mkV d ++ [97, 109, 112, 59] else if c = 60 then mkV d ++ [108, 116, 59] else if c = 34 then mkV d ++ [113, 117, 111, 116, 59] else if c = 9 then mkV d ++ tbV wr else mkV d ++ [103, 116, 59]
def clV (d wr : Nat) (sent : Bool) (en : Nat) : List Nat := if sent then (mkV d ++ crV wr) ++ (mkV d ++ nlV wr) else if en % 2 = 0 then mkV d ++ crV wr else mkV d ++ nlV wr
def dotV (sent : Bool) (l : List Nat) : List Nat := if sent = true ∧ l.head? = some 46 then 46 :: l else l
def headV (p : Pl) (d : Nat) : List Nat := dotV p.sent p.name ++ (([58, 32] ++ p.note.flatMap (sgV d p.wr)) ++ clV d p.wr p.sent p.en)
def limbs (ps : Nat → Pl) (far : Nat → Nat → Nat) (rec : Nat → Nat → List Nat) (p : Nat) (a : Int) (cl : List Nat) (n : Nat) : List Nat :=
  (List.range n).flatMap fun o => if far p o = 1 ∧ (o : Int) ≠ a then dotV (ps p).sent (ps (max p o)).link ++ (([58, 32] ++ rec o p) ++ cl) else []
def toldV (ps : Nat → Pl) (far : Nat → Nat → Nat) : Nat → Nat → Int → Nat → List Nat
  | 0, _, _, _ => []
  | f + 1, p, a, d => headV (ps p) d ++ limbs ps far (fun o q => toldV ps far f o q (d + 1)) p a (clV d (ps p).wr (ps p).sent (ps p).en) 5 ++ clV d (ps p).wr (ps p).sent (ps p).en
def TdOk (ps : Nat → Pl) (far : Nat → Nat → Nat) : Nat → Nat → Int → Nat → Prop
  | 0, _, _, _ => False
  | f + 1, p, a, d => p < 5 ∧ d ≤ 100 ∧ (∀ o, o < 5 → far p o = 1 → (o : Int) ≠ a → TdOk ps far f o p (d + 1) ∧ (toldV ps far f o p (d + 1)).length ≤ 1000000)
def StT (ps : Nat → Pl) : Prop := ∀ k, k < 5 → (ps k).name ≠ [] ∧ (ps k).name.length ≤ 100 ∧ (∀ c ∈ (ps k).note, c = 38 ∨ c = 60 ∨ c = 34 ∨ c = 9 ∨ c = 62) ∧ (ps k).note.length ≤ 100 ∧ (ps k).link ≠ [] ∧ (ps k).link.length ≤ 100 ∧ (ps k).en < 3 ∧ (ps k).wr < 2
theorem mul_amp (d : Nat) : Txt.mul (Str.ofString "amp;") (d : Int) = S (List.replicate d [97, 109, 112, 59]).flatten := by
  rw [show (Str.ofString "amp;" : Str) = S [97, 109, 112, 59] from by decide +kernel]; exact mul_S _ d
theorem two_s {wr : Nat} (h : wr < 2) (x y : Str) (l : Nat → List Nat) (h0 : x = S (l 0)) (h1 : y = S (l 1)) (a b : Tok) : ∃ v, (#[Value.str x a, Value.str y b])[wr]? = some (.str (S (l wr)) v) := by
  subst h0; subst h1
  match wr, h with
  | 0, _ => exact ⟨a, rfl⟩
  | 1, _ => exact ⟨b, rfl⟩
theorem mk_len {d : Nat} (h : d ≤ 100) : (mkV d).length ≤ 401 := by
  unfold mkV
  rw [List.length_cons, List.length_flatten]
  simp
  omega
theorem cr_len (wr : Nat) : (crV wr).length ≤ 4 := by unfold crV; split <;> decide
theorem nl_len (wr : Nat) : (nlV wr).length ≤ 4 := by unfold nlV; split <;> decide
theorem tb_len (wr : Nat) : (tbV wr).length ≤ 4 := by unfold tbV; split <;> decide
theorem le16 {a b m n : Nat} (h1 : a ≤ m) (h2 : b ≤ n) (h : m + n ≤ 16777216) : a + b ≤ 16777216 := by omega
theorem l38 : (Str.ofString "&" : Str) = S [38] := by decide +kernel
theorem lcr0 : (Str.ofString "#13;" : Str) = S (crV 0) := by decide +kernel
theorem lcr1 : (Str.ofString "#xD;" : Str) = S (crV 1) := by decide +kernel
theorem lnl0 : (Str.ofString "#10;" : Str) = S (nlV 0) := by decide +kernel
theorem lnl1 : (Str.ofString "#xA;" : Str) = S (nlV 1) := by decide +kernel
theorem ltb0 : (Str.ofString "#09;" : Str) = S (tbV 0) := by decide +kernel
theorem ltb1 : (Str.ofString "#x9;" : Str) = S (tbV 1) := by decide +kernel
theorem lamp : (Str.ofString "amp;" : Str) = S [97, 109, 112, 59] := by decide +kernel
theorem llt : (Str.ofString "lt;" : Str) = S [108, 116, 59] := by decide +kernel
theorem lquot : (Str.ofString "quot;" : Str) = S [113, 117, 111, 116, 59] := by decide +kernel
theorem lgt : (Str.ofString "gt;" : Str) = S [103, 116, 59] := by decide +kernel
theorem ldot : (Str.ofString "." : Str) = S [46] := by decide +kernel
theorem lsep : (Str.ofString ": " : Str) = S [58, 32] := by decide +kernel
theorem fm2 (n : Nat) : ((n : Int).fmod 2) = ((n % 2 : Nat) : Int) := by
  rw [Int.fmod_eq_emod_of_nonneg _ (by decide)]; omega
theorem cl_at (d wr en : Nat) (a b : Tok) : ∃ v, (#[Value.str (S (mkV d ++ crV wr)) a, Value.str (S (mkV d ++ nlV wr)) b])[en % 2]? = some (.str (S (clV d wr false en)) v) := by
  unfold clV
  rcases Nat.mod_two_eq_zero_or_one en with h | h
  · rw [h]; exact ⟨a, rfl⟩
  · rw [h]; exact ⟨b, rfl⟩
theorem item_S {l : List Nat} {k c : Nat} (h : l[k]? = some c) : Txt.item (S l) (k : Int) = S [c] := by
  have hk : k < l.length := (List.getElem?_eq_some_iff.mp h).1
  unfold Txt.item Txt.charAt
  rw [S_len, seq_nat hk]
  simp [S, h]
theorem sub_strS {prog : Program} {w : World} {A : Around} {E : Value → Shared → Prop} {s : Shared} {l : List Nat} {k c : Nat} {b : Int} {t u : Tok} {value slice : Expr} {Q : Value → Shared → Prop}
    (h : l[k]? = some c) (hb : b = (k : Int)) (hl : l.length ≤ 16777216) (hQ : Q (.str (S [c]) s.toks) { s with toks := s.toks + 1 })
    (hs : subscripted slice false (.str (S l) t) (.int (k : Int) u) = operate [.str (S l) t, .int (k : Int) u] (getItem (.str (S l) t) (.int (k : Int) u)) := by with_unfolding_all rfl)
    (ht : ∀ r, letTemporaryGo value (.str (S l) t) r = pure () := by intro _; with_unfolding_all rfl) :
    wpAny (model prog w) A (subscriptTail value slice (.str (S l) t) (.int b u)) Q E s := by
  subst hb
  have hk : k < l.length := (List.getElem?_eq_some_iff.mp h).1
  refine KXi.item (n := l.length) (S_len l) (by omega) (by omega) hl (fun _ => ?_) hs ht
  rw [item_S h]; exact hQ
theorem eq_strS {prog : Program} {w : World} {A : Around} {E : Value → Shared → Prop} {s : Shared} {x y : Str} {l r : List Nat} {t u : Tok} {Q : Value → Shared → Prop} (hx : x = S l) (hy : y = S r) (h : Q (.bool (l == r)) s) :
    wpAny (model prog w) A (compareOp .Eq (.str x t) (.str y u)) Q E s := by
  subst hx; subst hy
  refine P.eq_str ?_
  rw [S_toList, S_toList]; exact h
theorem dot_if {prog : Program} {w : World} {A : Around} {E : Value → Shared → Prop} {s : Shared} {cn : Str} {cs : Scope} {L a : Addr} {ccd : Value} {cl : List (Str × Addr)} {h₀ : Heap} {m : Str → Option Value} {X : Str} {b : Bool} {l : List Nat} {t : Tok} {Q : Value → Shared → Prop} {p1 p2 p3 p4 p5 p6 p7 p8 p9 p10 p11 p12 : Pos}
    (F : Fr h₀ L s.heap m) (h1 : m "sent" = some (.bool b)) (h2 : m X = some (.str (S l) t)) (hl : l ≠ []) (hn : l.length ≤ 1000) (hQ : ∀ t k, Q (.str (S (dotV b l)) t) { s with toks := k })
    (hk : cs.kind = .function) (k1 : (envX cn cs L a ccd cl).kindOf "sent" = some .local) (k2 : (envX cn cs L a ccd cl).kindOf X = some .local) (hd : (X == ("__debug__" : Str)) = false) :
    wpAny (model prog w) A (eval (.IfExp (.BoolOp .And [.Name "sent" p1, .Compare (.Subscript (.Name X p2) (.Constant (.int 0) 0 p3) p4) [.Eq] [.Constant (.str (Str.ofString ".")) 0 p5] p6] p7) (.BinOp (.Constant (.str (Str.ofString ".")) 0 p8) .Add (.Name X p9) p10) (.Name X p11) p12) (envX cn cs L a ccd cl)) Q E s := by
  obtain ⟨c, r, rfl⟩ := List.exists_cons_of_ne_nil hl
  refine wpAny_IfExp (isTrue_and (wpAny_isTrue_value (nameX_L F h1 (wpAny_truthy_bool ?_) hk k1 (by decide))))
  cases b with
  | false =>
    have e : dotV false (c :: r) = c :: r := by simp [dotV]
    have q := hQ t s.toks
    rw [e] at q
    exact nameX_L F h2 q hk k2 hd
  | true =>
    refine isTrue_and (wpAny_isTrue_Compare1 (Subscript_ (nameX_L F h2 (wpAny_Constant_int (sub_strS (k := 0) (c := c) rfl rfl (by omega) ?_)) hk k2 hd)) rfl)
    refine wpAny_Constant_str (eq_strS rfl ldot (wpAny_truthy_bool ?_))
    by_cases hc : c = 46
    · subst hc
      have e : dotV true (46 :: r) = 46 :: 46 :: r := by simp [dotV]
      rw [e] at hQ
      refine isTrue_and_nil ?_
      refine wpAny_BinOp (wpAny_Constant_str (nameX_L F h2 (addS ldot rfl (by simp at hn ⊢; omega) rfl (fun t' k => ?_)) hk k2 hd))
      exact hQ t' k
    · have e : dotV true (c :: r) = c :: r := by simp [dotV, hc]
      have e2 : (([c] : List Nat) == [46]) = false := by simp [hc]
      rw [e] at hQ
      rw [e2]
      exact nameX_L F h2 (hQ t _) hk k2 hd
theorem lempty : (Str.ofString "" : Str) = S [] := by decide +kernel
theorem paired_strs {g : Nat → List Nat} : ∀ {l : List Nat} {vs : List Value}, Paired (fun c y => ∃ t, y = Value.str (S (g c)) t) l vs → StrsAre vs (l.map fun c => S (g c))
  | _, _, .nil => .nil
  | _, _, .cons ⟨t, e⟩ r => by subst e; exact .cons _ t (paired_strs r)
theorem catS_map (g : Nat → List Nat) : ∀ l : List Nat, catS (l.map fun c => S (g c)) = l.flatMap g
  | [] => rfl
  | c :: r => by
    have ih := catS_map g r
    show (S (g c)).cps.toList ++ catS (r.map fun c => S (g c)) = g c ++ r.flatMap g
    rw [ih, S_toList]
theorem join_str {prog : Program} {w : World} {A : Around} {E : Value → Shared → Prop} {s : Shared} {D : Addr} {items : Array Value} {l : List Nat} {g : Nat → List Nat} {t : Tok} {Q : Value → Shared → Prop} (hl : s.heap.IsList D items)
    (hp : Paired (fun c y => ∃ t, y = Value.str (S (g c)) t) l items.toList) (hok : (l.flatMap g).length ≤ 16777216) (h : ∀ t' k, Q (.str (S (l.flatMap g)) t') { s with toks := k }) :
    wpAny (model prog w) A (call (.builtin "str.join") [.str (Str.ofString "") t, .ref D]) Q E s := by
  refine join_to hl (paired_strs hp) ?_ (by rw [lempty, join_cat, catS_map]) h
  rw [catS_len, catS_map]
  have : (Str.ofString "" : Str).length = 0 := by decide +kernel
  rw [this, Nat.mul_zero]; exact hok
theorem sg_len {d wr c : Nat} (h : d ≤ 100) : (sgV d wr c).length ≤ 406 := by
  have := mk_len h
  have := tb_len wr
  unfold sgV
  split
  · rw [List.length_append]; simp; omega
  split
  · rw [List.length_append]; simp; omega
  split
  · rw [List.length_append]; simp; omega
  split
  · rw [List.length_append]; omega
  · rw [List.length_append]; simp; omega
theorem flat_len {g : Nat → List Nat} {b : Nat} (hg : ∀ c, (g c).length ≤ b) : ∀ l : List Nat, (l.flatMap g).length ≤ l.length * b
  | [] => Nat.zero_le _
  | c :: r => by
    have := flat_len hg r
    have := hg c
    rw [List.flatMap_cons, List.length_append, List.length_cons, Nat.succ_mul]; omega
theorem cl_len {d wr en : Nat} {sent : Bool} (h : d ≤ 100) : (clV d wr sent en).length ≤ 810 := by
  have := mk_len h
  have := cr_len wr
  have := nl_len wr
  unfold clV
  split
  · simp only [List.length_append]; omega
  split
  · simp only [List.length_append]; omega
  · simp only [List.length_append]; omega
theorem dot_len {b : Bool} {l : List Nat} : (dotV b l).length ≤ l.length + 1 := by
  unfold dotV; split
  · simp
  · omega
theorem limbs_take {ps : Nat → Pl} {far : Nat → Nat → Nat} {rec : Nat → Nat → List Nat} {p : Nat} {a : Int} {cl : List Nat} {n : Nat} (h1 : far p n = 1) (h2 : (n : Int) ≠ a) : limbs ps far rec p a cl (n + 1) = limbs ps far rec p a cl n ++ (dotV (ps p).sent (ps (max p n)).link ++ (([58, 32] ++ rec n p) ++ cl)) := by
  unfold limbs
  rw [List.range_succ, List.flatMap_append]
  simp [h1, h2]
theorem limbs_skip {ps : Nat → Pl} {far : Nat → Nat → Nat} {rec : Nat → Nat → List Nat} {p : Nat} {a : Int} {cl : List Nat} {n : Nat} (h : ¬ (far p n = 1 ∧ (n : Int) ≠ a)) : limbs ps far rec p a cl (n + 1) = limbs ps far rec p a cl n := by
  unfold limbs
  rw [List.range_succ, List.flatMap_append]
  simp [h]
theorem limbs_len {ps : Nat → Pl} {far : Nat → Nat → Nat} {rec : Nat → Nat → List Nat} {p : Nat} {a : Int} {cl : List Nat} {B : Nat} (hB : 1000913 ≤ B) (hp : p < 5) (hl : ∀ k, k < 5 → (ps k).link.length ≤ 100) (hcl : cl.length ≤ 810) : ∀ n, n ≤ 5 → (∀ o, o < n → far p o = 1 → (o : Int) ≠ a → (rec o p).length ≤ 1000000) → (limbs ps far rec p a cl n).length ≤ n * B
  | 0, _, _ => by simp [limbs]
  | n + 1, hn, h => by
    have ih := limbs_len hB hp hl hcl n (by omega) fun o ho => h o (by omega)
    rw [Nat.succ_mul]
    by_cases hc : far p n = 1 ∧ (n : Int) ≠ a
    · rw [limbs_take hc.1 hc.2]
      have h1 := h n (Nat.lt_succ_self n) hc.1 hc.2
      have h2 := @dot_len (ps p).sent (ps (max p n)).link
      have h3 := hl (max p n) (by omega)
      simp only [List.length_append, List.length_cons, List.length_nil]
      omega
    · rw [limbs_skip hc]; omega
end Mine
example : True := by
  w_top off
  trivial
namespace Mine
open PySem PySem.W PyProof.Rows PySem.Spec PySem.Calls
local macro_rules | `(tactic| k_all) => `(tactic| assumption)
local macro_rules | `(tactic| kas_types) => `(tactic| refine stop ?_)
theorem stopCT {M : Model} {A : Around} {c : Addr} {as : List Value} {ks : List (Str × Value)} {Q E : Value → Shared → Prop} {s : Shared} (hc : ([250] : List Nat).elem c = true) (h : Stop (wpAny M A (call (.ref c) as ks) Q E s)) :
    wpAny M A (call (.ref c) as ks) Q E s := h.h
local macro_rules | `(tactic| walk_at "call ref") => `(tactic| refine stopCT (by decide) ?_)
local macro_rules | `(tactic| walk_at "exec For Name Call cons nil") => `(tactic| kas_types)
local macro_rules | `(tactic| walk_at "call builtin:max") => `(tactic| kas_types)
local macro_rules | `(tactic| walk_at "subscriptTail") => `(tactic| kas_types)
local macro_rules | `(tactic| walk_at "last subscriptTail") => `(tactic| kas_types)
local macro_rules | `(tactic| walk_at "exec If") => `(tactic| kas_types)
local macro_rules | `(tactic| walk_at "eval ListComp") => `(tactic| kas_types)
local macro_rules | `(tactic| walk_at "eval IfExp") => `(tactic| kas_types)
local macro_rules | `(tactic| walk_at "binaryOp Add str str") => `(tactic| kas_types)
local macro_rules | `(tactic| walk_at "binaryOp Mult str int") => `(tactic| kas_types)
local macro_rules | `(tactic| walk_at "call builtin:str.join") => `(tactic| kas_types)
local macro_rules | `(tactic| walk_at "inplaceOp Add str str") => `(tactic| kas_types)
theorem told_spec (w : World) (p : Program) (loose : List Str) (mean : ExcName → Option Value) (mg mb : Str → Option Value) (ps : Nat → Pl) (far : Nat → Nat → Nat) (ap af : Addr) (hst : StT ps) :
    ∀ (f pl : Nat) (ab : Int) (d : Nat) (t1 t2 t3 : Tok), TdOk ps far f pl ab d →
   PS w p loose mean mg mb 250 (f + 6) (8 * f + 60) 0 [.int pl t1, .int ab t2, .int d t3, .ref ap, .ref af] [] (fun h _ => PW h ap ps ∧ FW h af far) (fun r => ∃ t', r = .str (S (toldV ps far f pl ab d)) t') := by
  intro f
  induction f with
  | zero => intro pl ab d t1 t2 t3 h; exact h.elim
  | succ f ih =>
    intro pl ab d t1 t2 t3 hok dp un gd cn cs a ccd cl outer A₀ base h₀ L m news s Q E B F X N T hk hp htk hd hu hret
    obtain ⟨hpw, hfw⟩ := hp
    obtain ⟨hpl, hdd, hkid⟩ := hok
    obtain ⟨o1, o2, o3, o4, o5, o6, o7, o8⟩ := hst pl hpl
    have hu60 : un + 60 < cLine := by omega
    have hd6 : dp + 6 < recursionLimit := by omega
    refine keep_toks s.toks (Nat.le_refl _) ?_
    refine wpAny_call ?_
    k_dflt (refine' enterC (binds := [("place", .int pl t1), ("above", .int ab t2), ("depth", .int d t3), ("places", .ref ap), ("far", .ref af)]) ?k1 ?k2 ?k3 ?k5 ?kA ?kF ?kK ?k6 ?k7 ?k8 ?k9 ?kB ?kD ?_ ?c2 ?c3 ?c4; (case kA => exact rfl); (case kF => exact rfl); (case kK => assumption); (case k1 => k_asm); (case k2 => k_asm); (case k3 => k_asm); (case k5 => k_asm); (case k6 => k_is); (case k7 => k_is); (case k8 => ktr_room); (case k9 => exact rfl); (case kB => exact rfl); (case kD => decide +kernel); (case c2 => exact rfl); (case c3 => exact rfl); (case c4 => exact rfl); k_whole)
    intro g1 L1 h1 tk1 cells G2 F0 N0 Y B1 X1 T1
    have F1 : Fr g1 L1 h1 (bm [("far", .ref af), ("places", .ref ap), ("depth", .int d t3), ("above", .int ab t2), ("place", .int pl t1)]) := fr_of F0 rfl
    clear F0
    dsimp only [bm, List.foldr] at F1
    k_cells Y
    (try simp only [List.cons_append, List.nil_append] at N0)
    have hpw1 := hpw.mono G2
    have hfw1 := hfw.mono G2
    obtain ⟨itp, ep, hp1, hp2, hp3⟩ := hpw1
    obtain ⟨itf, ef, hf1, hf2, hf3⟩ := hfw1
    obtain ⟨q0, u1, u2, u3, u4, u5, u7, hq1, hq2⟩ := hp3 pl hpl
    refine hideQE fun Q0 E0 hQ0 => ?_
    refine wpAny_execs_cons (Assign_Tuple ?_)
    refine Subscript_ (nameX_L F1 rfl (nameX_L F1 rfl ?_))
    refine sub_list (F1.keep _ _ hp1) (by omega) hq1 ?_
    refine unpackN_ F1 N0 ⟨_, F1.keep _ _ hq2, rfl, _, rfl⟩ rfl rfl rfl (fun h2 F2 N2 => ?_)
    k_fold
    have hmk := mk_len hdd
    k_steps
    refine Stop.mk ?_
    refine SB.mul (mulOk_of 4 100 (by decide) (by omega) (by omega) (by decide) (by decide)) (fun tm km => ?_)
    k_steps
    refine Stop.mk ?_
    refine addS (z := mkV d) l38 (mul_amp d) (by have := hmk; unfold mkV at this; rw [List.length_cons] at this; rw [List.length_singleton]; omega) rfl (fun t4 k4 => ?_)
    k_steps
    refine Stop.mk ?_
    rename_i l5 h5 F5 N5 _
    obtain ⟨v5, hv5⟩ := two_s o8 _ _ crV lcr0 lcr1 (k4 + 1) (k4 + 1 + 1)
    refine sub_listE (N5 _ (.head _)).1 (Nat.lt_trans o8 (by decide)) hv5 rfl ?_
    k_steps
    refine Stop.mk ?_
    refine addS (z := mkV d ++ crV (ps pl).wr) rfl rfl (le16 hmk (cr_len _) (by decide)) rfl (fun t6 k6 => ?_)
    k_steps
    refine Stop.mk ?_
    rename_i l7 h7 F7 N7 _
    obtain ⟨v7, hv7⟩ := two_s o8 _ _ nlV lnl0 lnl1 k6 (k6 + 1)
    refine sub_listE (N7 _ (.head _)).1 (Nat.lt_trans o8 (by decide)) hv7 rfl ?_
    k_steps
    refine Stop.mk ?_
    refine addS (z := mkV d ++ nlV (ps pl).wr) rfl rfl (le16 hmk (nl_len _) (by decide)) rfl (fun t8 k8 => ?_)
    k_steps
    refine Stop.mk ?_
    rename_i l9 _ lt9 h9 F9 N9
    refine cut (Q' := fun v s' => Stop (True → ∃ t k, v = .str (S (clV d (ps pl).wr (ps pl).sent (ps pl).en)) t ∧ s' = ⟨h9, s.gens, s.drawn, k, s.os⟩)) (wpAny_IfExp (stopQ ?_)) ?_
    · k_steps
      refine Stop.mk ?_
      cases hs : (ps pl).sent with
      | true =>
        rw [if_pos rfl]
        k_steps
        refine Stop.mk ?_
        refine sub_listE (k := 0) (v := .str (S (mkV d ++ crV (ps pl).wr)) t6) (N9 _ (.head _)).1 (by decide) rfl rfl ?_
        k_steps
        refine Stop.mk ?_
        refine sub_listE (k := 1) (v := .str (S (mkV d ++ nlV (ps pl).wr)) t8) (N9 _ (.head _)).1 (by decide) rfl rfl ?_
        k_steps
        refine Stop.mk ?_
        refine addS rfl rfl (by rw [List.length_append, List.length_append]; exact le16 (Nat.add_le_add hmk (cr_len _)) (Nat.add_le_add hmk (nl_len _)) (by decide)) rfl (fun t10 k10 => ?_)
        exact Stop.mk fun _ => ⟨_, _, rfl, rfl⟩
      | false =>
        rw [if_neg (by decide)]
        k_steps
        refine Stop.mk ?_
        obtain ⟨v10, hv10⟩ := cl_at d (ps pl).wr (ps pl).en t6 t8
        refine sub_listE (k := (ps pl).en % 2) (N9 _ (.head _)).1 (by omega) hv10 (fm2 _) ?_
        exact Stop.mk fun _ => ⟨_, _, rfl, rfl⟩
    rintro v s' ⟨hfin⟩
    obtain ⟨t11, k11, rfl, rfl⟩ := hfin trivial
    clear hfin
    k_steps
    refine Stop.mk ?_
    rename_i l12 h12 F12 N12 _
    obtain ⟨v12, hv12⟩ := two_s o8 _ _ tbV ltb0 ltb1 (k11 + 1) (k11 + 1 + 1)
    refine sub_listE (N12 _ (.head _)).1 (Nat.lt_trans o8 (by decide)) hv12 rfl ?_
    k_steps
    refine Stop.mk ?_
    refine addS (z := mkV d ++ tbV (ps pl).wr) rfl rfl (le16 hmk (tb_len _) (by decide)) rfl (fun t13 k13 => ?_)
    k_steps
    refine Stop.mk ?_
    refine addS (z := mkV d ++ [97, 109, 112, 59]) rfl lamp (le16 hmk (Nat.le_refl _) (by decide)) rfl (fun t14 k14 => ?_)
    k_steps
    refine Stop.mk ?_
    refine addS (z := mkV d ++ [108, 116, 59]) rfl llt (le16 hmk (Nat.le_refl _) (by decide)) rfl (fun t15 k15 => ?_)
    k_steps
    refine Stop.mk ?_
    refine addS (z := mkV d ++ [113, 117, 111, 116, 59]) rfl lquot (le16 hmk (Nat.le_refl _) (by decide)) rfl (fun t16 k16 => ?_)
    k_steps
    refine Stop.mk ?_
    refine addS (z := mkV d ++ [103, 116, 59]) rfl lgt (le16 hmk (Nat.le_refl _) (by decide)) rfl (fun t17 k17 => ?_)
    k_steps
    refine Stop.mk ?_
    rename_i hD0 hf0 ap0 lt0 hC oC FC NC dC
    clear hf0
    obtain ⟨dD, oD, ND, dD1, hD1⟩ : ∃ dD oD, News g1 L1 hC [(dD, oD), (L1 + 1, oC)] ∧ oC.data = .cell (some (.ref dD)) ∧ Obj.IsDictOf (PySem.strKind PG w) oD [(Str.ofString "&", .str (S (mkV d ++ [97, 109, 112, 59])) t14), (Str.ofString "<", .str (S (mkV d ++ [108, 116, 59])) t15), (Str.ofString "\"", .str (S (mkV d ++ [113, 117, 111, 116, 59])) t16), (Str.ofString "\t", .str (S (mkV d ++ tbV (ps pl).wr)) t13), (Str.ofString ">", .str (S (mkV d ++ [103, 116, 59])) t17)] :=
      ⟨_, _, fun p hp => NC p (by simp only [List.mem_cons, List.not_mem_nil, or_false] at hp ⊢; rcases hp with h | h <;> simp [h]), dC, hD0⟩
    clear NC dC hD0 ap0 lt0
    refine dot_if FC rfl rfl o1 (Nat.le_trans o2 (by decide)) (fun t20 k20 => ?_) rfl rfl rfl (by decide)
    k_steps
    refine Stop.mk ?_
    rename_i hT FT NT
    have hnl : ((ps pl).note.flatMap (sgV d (ps pl).wr)).length ≤ 40600 := Nat.le_trans (flat_len (fun c => sg_len hdd) _) (Nat.le_trans (Nat.mul_le_mul_right 406 o4) (by decide))
    refine comp_str (ps pl).note (fun c y => ∃ t, y = .str (S (sgV d (ps pl).wr c)) t) rfl rfl (by decide) rfl (by decide) rfl (Nat.le_trans o4 (by rw [sizeLine_eq]; decide)) (fun c hc => by rcases o3 c hc with h | h | h | h | h <;> (rw [h]; decide)) ?_
    refine nameX_L FT rfl ⟨u2, rfl, ?_, ?_⟩
    · intro C c t s₃ m₃ E' hC3 hc hn3 hm3 hk3 htk3
      refine Subscript_ (wpAny_Name (wpAny_loadName_cell (c := L1 + 1) (v := .ref dD) rfl rfl rfl ⟨_, hk3 _ _ (NT _ (.tail _ (.head _))).1, dD1⟩ (wpAny_Name (wpAny_loadName_local rfl rfl hn3 hm3 ?_) (by decide))) (by decide))
      have NK := NT.grown hk3
      rcases o3 c hc with h | h | h | h | h
      all_goals subst h
      · exact kda_item (knd := PySem.strKind PG w) NK (.head _) hD1 (strKind_is _ _ _ _) (by rfl) ⟨⟨t14, rfl⟩, _, _, rfl, fun _ _ e => e⟩
      · exact kda_item (knd := PySem.strKind PG w) NK (.head _) hD1 (strKind_is _ _ _ _) (by rfl) ⟨⟨t15, rfl⟩, _, _, rfl, fun _ _ e => e⟩
      · exact kda_item (knd := PySem.strKind PG w) NK (.head _) hD1 (strKind_is _ _ _ _) (by rfl) ⟨⟨t16, rfl⟩, _, _, rfl, fun _ _ e => e⟩
      · exact kda_item (knd := PySem.strKind PG w) NK (.head _) hD1 (strKind_is _ _ _ _) (by rfl) ⟨⟨t13, rfl⟩, _, _, rfl, fun _ _ e => e⟩
      · exact kda_item (knd := PySem.strKind PG w) NK (.head _) hD1 (strKind_is _ _ _ _) (by rfl) ⟨⟨t17, rfl⟩, _, _, rfl, fun _ _ e => e⟩
    · intro D h22 tk22 ys e22 hD22 hys hP hk3
      have F22 := FT.keeps hk3
      have N22 := NT.grown hk3
      k_steps
      refine Stop.mk ?_
      have hcl : (clV d (ps pl).wr (ps pl).sent (ps pl).en).length ≤ 810 := cl_len hdd
      have hdt : (dotV (ps pl).sent (ps pl).name).length ≤ 101 := Nat.le_trans dot_len (Nat.succ_le_succ o2)
      have hl1 : ([58, 32] ++ (ps pl).note.flatMap (sgV d (ps pl).wr)).length ≤ 40602 := by rw [List.length_append]; exact Nat.add_le_add (Nat.le_refl 2) hnl
      have hl2 : (([58, 32] ++ (ps pl).note.flatMap (sgV d (ps pl).wr)) ++ clV d (ps pl).wr (ps pl).sent (ps pl).en).length ≤ 41412 := by rw [List.length_append]; exact Nat.add_le_add hl1 hcl
      have hl3 : (headV (ps pl) d).length ≤ 41513 := by unfold headV; rw [List.length_append]; exact Nat.add_le_add hdt hl2
      refine join_str ⟨_, hys, rfl, _, rfl⟩ hP (Nat.le_trans hnl (by decide)) (fun t23 k23 => ?_)
      k_steps
      refine Stop.mk ?_
      refine addS lsep rfl (le16 (Nat.le_refl 2) hnl (by decide)) rfl (fun t24 k24 => ?_)
      k_steps
      refine Stop.mk ?_
      refine addS rfl rfl (le16 hl1 hcl (by decide)) rfl (fun t25 k25 => ?_)
      k_steps
      refine Stop.mk ?_
      refine iaddS (z := headV (ps pl) d) rfl rfl (le16 hdt hl2 (by decide)) rfl (fun t26 k26 => ?_)
      k_steps
      refine Stop.mk ?_
      rename_i h27 F27 N27
      let bs : List (Str × Value) := [("tab", .str (S (mkV d ++ tbV (ps pl).wr)) t13), ("close", .str (S (clV d (ps pl).wr (ps pl).sent (ps pl).en)) t11), ("ends", .ref l9), ("mark", .str (S (mkV d)) t4), ("link", .str (S (ps pl).link) u7), ("sent", .bool (ps pl).sent), ("hung", .int (ps pl).ab u5), ("end", .int (ps pl).en u4), ("writer", .int (ps pl).wr u3), ("note", .str (S (ps pl).note) u2), ("name", .str (S (ps pl).name) u1), ("far", .ref af), ("places", .ref ap), ("depth", .int d t3), ("above", .int ab t2), ("place", .int pl t1)]
      refine for_range (h₀ := g1) 5 0 0 (fun i m news => ∃ ov wv tv, (∀ y, m y = if y = "other" then ov else if y = "way" then wv else if y = "text" then some (.str (S (headV (ps pl) d ++ limbs ps far (fun o q => toldV ps far f o q (d + 1)) pl ab (clV d (ps pl).wr (ps pl).sent (ps pl).en) i)) tv) else bm bs y) ∧ news = []) rfl rfl rfl (fun _ => rfl) ?_
      refine stopQ ?_
      k_steps
      refine Stop.mk ?_
      rename_i hR F28 N28 hk28
      refine ⟨_, _, _, _, _, _, [], rfl, hR, rfl, rfl, Nat.zero_le _, F28, News.nil, ⟨none, none, t26, fun y => ?_, rfl⟩, ?_, ?_⟩
      · by_cases h1 : y = "other"
        · rw [if_pos h1, h1]; rfl
        · rw [if_neg h1]
          by_cases h2 : y = "way"
          · rw [if_pos h2, h2]; rfl
          · rw [if_neg h2]
            by_cases h3 : y = "text"
            · rw [if_pos h3, if_pos h3]
              unfold limbs
              simp
            · rw [if_neg h3, if_neg h3, if_neg h3]; rfl
      · (try clear F28); (try clear N28); (try clear hk28); (try clear F22); (try clear N22); (try clear FT); (try clear NT); (try clear FC); (try clear ND)
        intro i m₁ news₁ I oI h tk t hi htk ⟨ov, wv, tv, hm, hnews⟩ hnI FJ NJ
        subst hnews
        have F7 : Fr g1 L1 h (fun y => if y = "other" then some (.int i t) else if y = "way" then wv else if y = "text" then some (.str (S (headV (ps pl) d ++ limbs ps far (fun o q => toldV ps far f o q (d + 1)) pl ab (clV d (ps pl).wr (ps pl).sent (ps pl).en) i)) tv) else bm bs y) := fr_of FJ (funext fun y => by
          rw [Int.zero_add, hm]
          by_cases hy : y = "other"
          · rw [if_pos hy, if_pos hy]
          · rw [if_neg hy, if_neg hy, if_neg hy])
        clear FJ
        dsimp only [bm, bs, List.foldr] at F7
        obtain ⟨qf, itr, er, hf4, hf5, hf6, hf7⟩ := hf3 pl hpl
        obtain ⟨tf, hf8⟩ := hf7 i hi
        refine hideQE fun Qh Eh hQh => ?_
        refine wpAny_execs_cons (wpAny_If (isTrue_and (stopQ (wpAny_isTrue_Compare1 ?_ rfl))))
        refine Subscript_ (Subscript_ (nameX_L F7 rfl (nameX_L F7 rfl (sub_list (F7.keep _ _ hf1) (by omega) hf4 (nameX_L F7 rfl (sub_list (F7.keep _ _ hf5) (by omega) hf8 ?_))))))
        k_steps
        refine Stop.mk ?_
        by_cases hc1 : far pl i = 1
        · rw [if_pos (by simp [hc1])]
          refine isTrue_and (stopQ (wpAny_isTrue_Compare1 ?_ rfl))
          k_steps
          refine Stop.mk ?_
          by_cases hc2 : (i : Int) = ab
          · rw [if_neg (by simp [hc2]), if_neg (by decide)]
            have hk0 := limbs_skip (ps := ps) (far := far) (rec := fun o q => toldV ps far f o q (d + 1)) (p := pl) (a := ab) (cl := clV d (ps pl).wr (ps pl).sent (ps pl).en) (n := i) (fun q => q.2 hc2)
            refine wpAny_execs_nil (wpAny_execs_nil ?_)
            refine hQh _ _ ?_
            exact ⟨_, _, _, _, rfl, F7, NJ, hnI, ⟨some (.int i t), wv, tv, fun y => by rw [hk0]; rfl, rfl⟩⟩
          · rw [if_pos (by simp [hc2])]
            refine isTrue_and_nil ?_
            k_steps
            refine Stop.mk ?_
            refine max_two_T rfl (by assumption) (by assumption) (fun h8 tk8 ht8 F8 N8 => ?_)
            k_steps
            refine Stop.mk ?_
            obtain ⟨q6, v1, v2, v3, v4, v5, v7, hq6, hq7⟩ := hp3 (max pl i) (by omega)
            obtain ⟨r1, r2, r3, r4, r5, r6, r7, r8⟩ := hst (max pl i) (by omega)
            obtain ⟨j1, j2⟩ := hkid i hi hc1 hc2
            refine sub_listE (F8.keep _ _ hp1) (by omega) hq6 max_nat ?_
            refine wpAny_Constant_int (sub_tup (k := 6) (F8.keep _ _ hq7) (by decide) rfl ?_)
            k_steps
            refine Stop.mk ?_
            refine dot_if (X := "way") (by assumption) rfl rfl r5 (Nat.le_trans r6 (by decide)) (fun t30 k30 => ?_) rfl rfl rfl (by decide)
            k_steps
            refine Stop.mk ?_
            have hlT : (headV (ps pl) d ++ limbs ps far (fun o q => toldV ps far f o q (d + 1)) pl ab (clV d (ps pl).wr (ps pl).sent (ps pl).en) i).length ≤ 6000000 := by
              rw [List.length_append]
              exact Nat.le_trans (Nat.add_le_add hl3 (Nat.le_trans (limbs_len (Nat.le_refl _) hpl (fun k hk => (hst k hk).2.2.2.2.2.1) hcl i (Nat.le_of_lt hi) fun o ho h1 h2 => (hkid o (by omega) h1 h2).2) (Nat.mul_le_mul_right _ (Nat.le_of_lt hi)))) (by decide)
            have hlW : (dotV (ps pl).sent (ps (max pl i)).link).length ≤ 101 := Nat.le_trans dot_len (Nat.succ_le_succ r6)
            refine iaddS rfl rfl (le16 hlT hlW (by decide)) rfl (fun t31 k31 => ?_)
            k_steps
            refine Stop.mk ?_
            k_dflt (refine' PS.use (ih i (pl : Int) (d + 1) _ _ _ j1) ?k1 ?k2 ?k3 ?k4 ?k5 ?k6 ?k7 ?k8 ?k9 ?kA ?_; (case k1 => k_asm); (case k2 => k_asm); (case k3 => k_asm); (case k4 => k_asm); (case k5 => k_asm); (case k6 => exact rfl); (case k7 => exact ⟨hpw.mono fun b o q => Fr.keep (by assumption) _ _ (G2 b o q), hfw.mono fun b o q => Fr.keep (by assumption) _ _ (G2 b o q)⟩); (case k8 => exact Nat.zero_le _); (case k9 => ktr_room); (case kA => ktr_units))
            rintro r h9 tk9 ht9 ⟨t9, rfl⟩ - F9 N9
            k_steps
            refine Stop.mk ?_
            refine addS lsep rfl (le16 (Nat.le_refl 2) j2 (by decide)) rfl (fun t32 k32 => ?_)
            k_steps
            refine Stop.mk ?_
            have hl5 : ([58, 32] ++ toldV ps far f i pl (d + 1)).length ≤ 1000002 := by rw [List.length_append]; exact Nat.add_le_add (Nat.le_refl 2) j2
            refine addS rfl rfl (le16 hl5 hcl (by decide)) rfl (fun t33 k33 => ?_)
            k_steps
            refine Stop.mk ?_
            have hl6 : (([58, 32] ++ toldV ps far f i pl (d + 1)) ++ clV d (ps pl).wr (ps pl).sent (ps pl).en).length ≤ 1000812 := by rw [List.length_append]; exact Nat.add_le_add hl5 hcl
            refine iaddS (z := headV (ps pl) d ++ limbs ps far (fun o q => toldV ps far f o q (d + 1)) pl ab (clV d (ps pl).wr (ps pl).sent (ps pl).en) (i + 1)) rfl rfl (by rw [List.length_append]; exact le16 (Nat.add_le_add hlT hlW) hl6 (by decide)) (by rw [limbs_take hc1 hc2]; simp only [List.append_assoc]) (fun t34 k34 => ?_)
            k_steps
            rename_i F99 N99
            refine hQh _ _ ?_
            refine ⟨_, _, _, _, rfl, F99, N99, (fun p hp => nomatch hp), ⟨some (.int i t), some (.str (S (ps (max pl i)).link) v7), t34, fun y => ?_, rfl⟩⟩
            by_cases h1 : y = "other"
            · rw [if_pos h1, h1]; rfl
            · rw [if_neg h1]
              by_cases h2 : y = "way"
              · rw [if_pos h2, h2]; rfl
              · rw [if_neg h2]
                by_cases h3 : y = "text"
                · rw [if_pos h3, h3]; rfl
                · rw [if_neg h3]
                  simp only [if_neg h1, if_neg h2, if_neg h3]
                  rfl
        · rw [if_neg (by simp; omega), if_neg (by decide)]
          have hk0 := limbs_skip (ps := ps) (far := far) (rec := fun o q => toldV ps far f o q (d + 1)) (p := pl) (a := ab) (cl := clV d (ps pl).wr (ps pl).sent (ps pl).en) (n := i) (fun q => hc1 q.1)
          refine wpAny_execs_nil (wpAny_execs_nil ?_)
          refine hQh _ _ ?_
          exact ⟨_, _, _, _, rfl, F7, NJ, hnI, ⟨some (.int i t), wv, tv, fun y => by rw [hk0]; rfl, rfl⟩⟩
      · (try clear F28); (try clear N28); (try clear hk28); (try clear F22); (try clear N22); (try clear FT); (try clear NT); (try clear FC); (try clear ND)
        intro m₁ news₁ h tk htk ⟨ov, wv, tv, hm, hnews⟩ FJ NJ
        subst hnews
        have F7 := fr_of FJ (funext hm)
        clear FJ
        dsimp only [bm, bs, List.foldr] at F7
        have hlT : (headV (ps pl) d ++ limbs ps far (fun o q => toldV ps far f o q (d + 1)) pl ab (clV d (ps pl).wr (ps pl).sent (ps pl).en) 5).length ≤ 6000000 := by
          rw [List.length_append]
          exact Nat.le_trans (Nat.add_le_add hl3 (limbs_len (Nat.le_refl _) hpl (fun k hk => (hst k hk).2.2.2.2.2.1) hcl 5 (Nat.le_refl _) fun o ho h1 h2 => (hkid o ho h1 h2).2)) (by decide)
        dsimp only
        refine wpAny_execs_cons (wpAny_Return_some (wpAny_BinOp (nameX_L F7 rfl (nameX_L F7 rfl (addS (z := toldV ps far (f + 1) pl ab d) rfl rfl (le16 hlT hcl (by decide)) rfl (fun t40 k40 => ?_))))))
        refine hQ0 _ _ ?_
        exact fun htz => hret _ _ _ htz ⟨_, rfl⟩ (fun b o e => F7.keep _ _ (G2 b o e))
end Mine
namespace Mine
open PySem PySem.W PyProof.Rows PySem.Spec PySem.Calls
/-- a ledger in which the object at an address is another -/
def repl (news : List (Addr × Obj)) (D : Addr) (o : Obj) : List (Addr × Obj) := news.map fun p => if p.1 = D then (D, o) else p
theorem repl_self {news : List (Addr × Obj)} {D : Addr} {o o' : Obj} (h : (D, o') ∈ news) : (D, o) ∈ repl news D o := List.mem_map.mpr ⟨_, h, if_pos rfl⟩
theorem repl_other {news : List (Addr × Obj)} {D : Addr} {o : Obj} {p : Addr × Obj} (h : p ∈ news) (hp : p.1 ≠ D) : p ∈ repl news D o := List.mem_map.mpr ⟨_, h, if_neg hp⟩
theorem repl_addr {news : List (Addr × Obj)} {D : Addr} {o : Obj} {p : Addr × Obj} (h : p ∈ repl news D o) : ∃ q ∈ news, p.1 = q.1 := by
  obtain ⟨q, hq, e⟩ := List.mem_map.mp h
  refine ⟨q, hq, ?_⟩
  subst e
  show (if q.1 = D then (D, o) else q).1 = q.1
  split
  · rename_i h1; exact h1.symm
  · rfl
theorem repl_cons {news : List (Addr × Obj)} {D : Addr} {o : Obj} {p : Addr × Obj} (hp : p.1 ≠ D) : repl (p :: news) D o = p :: repl news D o := by
  unfold repl
  rw [List.map_cons, if_neg hp]
theorem set_row {prog : Program} {w : World} {A : Around} {E : Value → Shared → Prop} {s : Shared} {h₀ : Heap} {L D : Addr} {m : Str → Option Value} {news : List (Addr × Obj)} {its : Array Value} {n k : Nat} {b : Int} {t : Tok} {v : Value} {Q : Unit → Shared → Prop}
    (F : Fr h₀ L s.heap m) (N : News h₀ L s.heap news) (hm : (D, listOf its n) ∈ news) (hb : b = (k : Int)) (hk : k < its.size) (hz : its.size ≤ 1000)
    (h : ∀ h', Fr h₀ L h' m → News h₀ L h' (repl news D (listOf (its.setIfInBounds k v) n)) → Q () { s with heap := h' }) : wpAny (model prog w) A (setItem (.ref D) (.int b t) v) Q E s := by
  subst hb
  have z := N _ hm
  refine ki_setAt z.1 (Int.natCast_nonneg _) (by omega) (by omega) (h _ (F.change (Heap.SameBut.update ..) z.2.1 z.2.2) ?_)
  refine N.replace (Heap.SameBut.update ..) ?_
  have q := PySem.IsL.update z.1 (fun a => a.setIfInBounds (k : Int).toNat v)
  rw [if_pos (by simp)] at q
  rw [Int.toNat_natCast] at q ⊢
  exact q
/-- the table of distances in a ledger -/
def FN (news : List (Addr × Obj)) (af : Addr) (row : Nat → Addr) (F : Nat → Nat → Nat) : Prop :=
  (∃ outer e, (af, listOf outer e) ∈ news ∧ outer.size = 5 ∧ ∀ k, k < 5 → outer[k]? = some (.ref (row k))) ∧
  (∀ k, k < 5 → ∃ it e, (row k, listOf it e) ∈ news ∧ it.size = 5 ∧ ∀ j, j < 5 → ∃ t, it[j]? = some (.int (F k j) t)) ∧
  (∀ k, k < 5 → row k ≠ af ∧ ∀ j, j < 5 → row k = row j → k = j)
def updF (F : Nat → Nat → Nat) (k j v : Nat) : Nat → Nat → Nat := fun x y => if x = k ∧ y = j then v else F x y
def stepF (a : Nat → Nat) (F : Nat → Nat → Nat) (k j : Nat) : Nat → Nat → Nat := updF (updF F k j (1 + F (a k) j)) j k (1 + F (a k) j)
def innF (a : Nat → Nat) (F : Nat → Nat → Nat) (k : Nat) : Nat → Nat → Nat → Nat
  | 0 => F
  | j + 1 => stepF a (innF a F k j) k j
def outF (a : Nat → Nat) : Nat → Nat → Nat → Nat
  | 0 => fun _ _ => 0
  | n + 1 => innF a (outF a n) (n + 1) (n + 1)
theorem FN.set {news : List (Addr × Obj)} {af : Addr} {row : Nat → Addr} {F : Nat → Nat → Nat} (h : FN news af row F) {k j v : Nat} {t : Tok} {it : Array Value} {e : Nat} (hk : k < 5) (hj : j < 5) (hm : (row k, listOf it e) ∈ news) (hs : it.size = 5)
    (hi : ∀ j, j < 5 → ∃ t, it[j]? = some (.int (F k j) t)) : FN (repl news (row k) (listOf (it.setIfInBounds j (.int v t)) e)) af row (updF F k j v) := by
  obtain ⟨⟨outer, eo, h1, h2, h3⟩, h4, h5⟩ := h
  refine ⟨⟨outer, eo, repl_other h1 (Ne.symm (h5 k hk).1), h2, h3⟩, fun x hx => ?_, h5⟩
  by_cases hxk : x = k
  · subst hxk
    refine ⟨_, e, repl_self hm, by simp [hs], fun y hy => ?_⟩
    by_cases hyj : y = j
    · subst hyj
      refine ⟨t, ?_⟩
      rw [Array.getElem?_setIfInBounds_self_of_lt (by omega)]
      simp [updF]
    · obtain ⟨t', e'⟩ := hi y hy
      refine ⟨t', ?_⟩
      rw [Array.getElem?_setIfInBounds_ne (Ne.symm hyj), e']
      simp [updF, hyj]
  · obtain ⟨it', e', m1, m2, m3⟩ := h4 x hx
    refine ⟨it', e', repl_other m1 (fun q => hxk ((h5 x hx).2 k hk q)), m2, fun y hy => ?_⟩
    obtain ⟨t', q⟩ := m3 y hy
    exact ⟨t', by rw [q]; simp [updF, hxk]⟩
theorem FN.fw {news : List (Addr × Obj)} {af : Addr} {row : Nat → Addr} {F : Nat → Nat → Nat} (h : FN news af row F) {h₀ H : Heap} {L : Addr} (N : News h₀ L H news) : FW H af F := by
  obtain ⟨⟨outer, eo, h1, h2, h3⟩, h4, h5⟩ := h
  refine ⟨outer, eo, (N _ h1).1, h2, fun k hk => ?_⟩
  obtain ⟨it, e, m1, m2, m3⟩ := h4 k hk
  exact ⟨row k, it, e, h3 k hk, (N _ m1).1, m2, m3⟩
/-- the contract of a call that makes objects -/
def PM (w : World) (p : Program) (loose : List Str) (mean : ExcName → Option Value) (mg mb : Str → Option Value) (f : Addr) (dc uc : Nat) (pos : List Value) (pre : Heap → Prop) (R : Value → List (Addr × Obj) → Prop) : Prop :=
  ∀ (dp un : Nat) (gd : Option (List Code)) (cn : Str) (cs : Scope) (a : Addr) (ccd : Value) (cl : List (Str × Addr)) (outer : List Env) (A₀ : Around) (base h₀ : Heap) (L : Addr) (m : Str → Option Value) (news : List (Addr × Obj)) (s : Shared)
    (Q E : Value → Shared → Prop),
    Below A₀ base outer h₀ → Fr h₀ L s.heap m → (Mine.hd.heap_39 w.params).In h₀ → News h₀ L s.heap news → Top p loose mean mg mb h₀ → cs.kind = .function → pre s.heap → dp + dc < recursionLimit → un + uc < cLine →
    (∀ r h' tk' own, s.toks ≤ tk' → R r own → InElt s.heap h' → News h₀ L h' own → (∀ p ∈ own, s.heap.get? p.1 = none) → Q r { s with heap := h', toks := tk' }) →
    wpAny (model PG w) (ktrTop dp un gd cn cs L a ccd cl outer) (call (.ref f) pos []) Q E s
theorem own_news {h₀ H g h' : Heap} {L L' : Addr} {m : Str → Option Value} {own : List (Addr × Obj)} (F : Fr h₀ L H m) (G : InElt H g) (N : News g L' h' own) : News h₀ L h' own ∧ ∀ p ∈ own, H.get? p.1 = none := by
  have hn : ∀ p ∈ own, H.get? p.1 = none := fun p hp => by
    cases q : H.get? p.1 with
    | none => rfl
    | some o => exact absurd ((G _ _ q).symm.trans (N p hp).2.2) (by simp)
  refine ⟨fun p hp => ⟨(N p hp).1, ?_, ?_⟩, hn⟩
  · intro e
    obtain ⟨oL, _, _, hL, _⟩ := F.ns
    have := hn p hp
    rw [e] at this
    exact absurd (hL.symm.trans this) (by simp)
  · cases q : h₀.get? p.1 with
    | none => rfl
    | some o => exact absurd ((F.keep _ _ q).symm.trans (hn p hp)) (by simp)
theorem fn_init {A r0 r1 r2 r3 r4 : Addr} {a0 a1 a2 a3 a4 b0 b1 b2 b3 b4 c0 c1 c2 c3 c4 d0 d1 d2 d3 d4 e0 e1 e2 e3 e4 : Tok} (g0 : @LT.lt Nat _ r0 r1) (g1 : @LT.lt Nat _ r1 r2) (g2 : @LT.lt Nat _ r2 r3) (g3 : @LT.lt Nat _ r3 r4) (g4 : @LT.lt Nat _ r4 A) :
    FN [(A, listOf #[.ref r0, .ref r1, .ref r2, .ref r3, .ref r4] 0), (r4, listOf #[.int 0 e0, .int 0 e1, .int 0 e2, .int 0 e3, .int 0 e4] 0), (r3, listOf #[.int 0 d0, .int 0 d1, .int 0 d2, .int 0 d3, .int 0 d4] 0),
      (r2, listOf #[.int 0 c0, .int 0 c1, .int 0 c2, .int 0 c3, .int 0 c4] 0), (r1, listOf #[.int 0 b0, .int 0 b1, .int 0 b2, .int 0 b3, .int 0 b4] 0), (r0, listOf #[.int 0 a0, .int 0 a1, .int 0 a2, .int 0 a3, .int 0 a4] 0)]
      A (fun k => match k with | 0 => r0 | 1 => r1 | 2 => r2 | 3 => r3 | _ => r4) (fun _ _ => 0) := by
  have five : ∀ {P : Nat → Prop}, P 0 → P 1 → P 2 → P 3 → P 4 → ∀ k, k < 5 → P k := fun p0 p1 p2 p3 p4 k hk => by
    match k, hk with
    | 0, _ => exact p0
    | 1, _ => exact p1
    | 2, _ => exact p2
    | 3, _ => exact p3
    | 4, _ => exact p4
  have h02 := Nat.lt_trans g0 g1
  have h03 := Nat.lt_trans h02 g2
  have h04 := Nat.lt_trans h03 g3
  have h05 := Nat.lt_trans h04 g4
  have h13 := Nat.lt_trans g1 g2
  have h14 := Nat.lt_trans h13 g3
  have h15 := Nat.lt_trans h14 g4
  have h24 := Nat.lt_trans g2 g3
  have h25 := Nat.lt_trans h24 g4
  have h35 := Nat.lt_trans g3 g4
  refine ⟨⟨_, _, .head _, rfl, five rfl rfl rfl rfl rfl⟩, five ?_ ?_ ?_ ?_ ?_, five ?_ ?_ ?_ ?_ ?_⟩
  · exact ⟨_, _, .tail _ (.tail _ (.tail _ (.tail _ (.tail _ (.head _))))), rfl, five ⟨_, rfl⟩ ⟨_, rfl⟩ ⟨_, rfl⟩ ⟨_, rfl⟩ ⟨_, rfl⟩⟩
  · exact ⟨_, _, .tail _ (.tail _ (.tail _ (.tail _ (.head _)))), rfl, five ⟨_, rfl⟩ ⟨_, rfl⟩ ⟨_, rfl⟩ ⟨_, rfl⟩ ⟨_, rfl⟩⟩
  · exact ⟨_, _, .tail _ (.tail _ (.tail _ (.head _))), rfl, five ⟨_, rfl⟩ ⟨_, rfl⟩ ⟨_, rfl⟩ ⟨_, rfl⟩ ⟨_, rfl⟩⟩
  · exact ⟨_, _, .tail _ (.tail _ (.head _)), rfl, five ⟨_, rfl⟩ ⟨_, rfl⟩ ⟨_, rfl⟩ ⟨_, rfl⟩ ⟨_, rfl⟩⟩
  · exact ⟨_, _, .tail _ (.head _), rfl, five ⟨_, rfl⟩ ⟨_, rfl⟩ ⟨_, rfl⟩ ⟨_, rfl⟩ ⟨_, rfl⟩⟩
  all_goals
    refine ⟨?_, five ?_ ?_ ?_ ?_ ?_⟩
    all_goals first | exact fun _ => rfl | exact Nat.ne_of_lt (by assumption) | exact fun q => absurd q (Nat.ne_of_lt (by assumption)) | exact fun q => absurd q (Nat.ne_of_gt (by assumption))
end Mine
example : True := by
  w_top off
  trivial
namespace Mine
open PySem PySem.W PyProof.Rows PySem.Spec PySem.Calls
local macro_rules | `(tactic| k_all) => `(tactic| assumption)
local macro_rules | `(tactic| kas_types) => `(tactic| refine stop ?_)
local macro_rules | `(tactic| walk_at "exec For Name Call cons nil") => `(tactic| kas_types)
local macro_rules | `(tactic| walk_at "subscriptTail") => `(tactic| kas_types)
local macro_rules | `(tactic| walk_at "last subscriptTail") => `(tactic| kas_types)
local macro_rules | `(tactic| walk_at "setItem ref int") => `(tactic| kas_types)
theorem gen_any {α : Type} {M : Model} {A : Around} {t : Sem α} {Q : α → Shared → Prop} {E : Value → Shared → Prop} {h : Heap} {g : Array GenState} {d : Drawn} {o : OsState} {x : Nat}
    (k : ∀ tk, wpAny M A t Q E ⟨h, g, d, tk, o⟩) : wpAny M A t Q E ⟨h, g, d, x, o⟩ := k x
theorem small_i {i : Nat} (h : i < 4) : Builtin.Range.small 0 (1 + (i : Int)) 1 = true ∧ Builtin.Range.rangeSize 0 (1 + (i : Int)) 1 = i + 1 := by
  match i, h with
  | 0, _ => exact ⟨rfl, rfl⟩
  | 1, _ => exact ⟨rfl, rfl⟩
  | 2, _ => exact ⟨rfl, rfl⟩
  | 3, _ => exact ⟨rfl, rfl⟩
theorem far_spec (w : World) (p : Program) (loose : List Str) (mean : ExcName → Option Value) (mg mb : Str → Option Value) (ps : Nat → Pl) (ap : Addr) (ab : Nat → Nat) (hab : ∀ k, 1 ≤ k → k < 5 → (ps k).ab = (ab k : Int) ∧ ab k < k) :
   PM w p loose mean mg mb 238 4 30 [.ref ap] (fun h => PW h ap ps) (fun r own => ∃ af row, r = .ref af ∧ FN own af row (outF ab 4)) := by
  intro dp un gd cn cs a ccd cl outer A₀ base h₀ L m news s Q E B F X N T hk hp hd hu hret
  refine keep_toks s.toks (Nat.le_refl _) ?_
  refine wpAny_call ?_
  k_dflt (refine' code_defG (news := []) ?k1 ?k2 ?k3 ?k4 ?k5 ?kA ?kF ?kK ?k6 ?k7 ?k8 ?k9 ?kB ?_ ?c2 ?c3 ?c4 ?c5; (case kA => exact rfl); (case kF => exact rfl); (case kK => assumption); (case k1 => k_asm); (case k2 => k_asm); (case k3 => k_asm); (case k4 => exact News.nil); (case k5 => k_asm); (case k6 => k_is); (case k7 => k_is); (case k8 => ktr_room); (case k9 => exact BindsTo.of_eq rfl); (case c5 => decide); (case kB => exact locs rfl); (case c2 => exact rfl); (case c3 => exact rfl); (case c4 => exact rfl); k_whole)
  intro g1 L1 h1 FG F0 N0 B1 X1 T1 G1
  have F1 := fr_binds [("places", .ref ap)] F0 rfl
  clear F0
  dsimp only [List.foldr] at F1
  have G2 : InElt s.heap g1 := fun b o e => G1 b o e (fun q => nomatch q)
  have hpw1 := hp.mono G2
  obtain ⟨itp, ep, hp1, hp2, hp3⟩ := hpw1
  with_reducible refine gen_any (fun tk0 => ?_)
  k_steps
  refine Stop.mk ?_
  rename_i r0 _ _ r1 _ q1 r2 _ q2 r3 _ q3 r4 _ q4 af _ q5 hA FA NA
  obtain ⟨row, own0, NO, hF0⟩ : ∃ row own0, News g1 L1 hA own0 ∧ FN own0 af row (outF ab 0) := ⟨_, _, NA, fn_init q1 q2.1 q3.1 q4.1 q5.1⟩
  clear NA
  refine for_range (h₀ := g1) 4 1 0 (fun i m news => ∃ kv jv, (∀ y, m y = if y = "k" then kv else if y = "j" then jv else bm [("far", .ref af), ("places", .ref ap)] y) ∧ FN news af row (outF ab i)) rfl rfl rfl (fun _ => rfl) ?_
  refine stopQ ?_
  k_steps
  refine Stop.mk ?_
  rename_i hR F28 N28 hk28
  refine ⟨_, _, _, _, _, _, own0, rfl, hR, rfl, rfl, Nat.zero_le _, F28, N28, ⟨none, none, fun y => ?_, hF0⟩, ?_, ?_⟩
  · by_cases h1 : y = "k"
    · rw [if_pos h1, h1]; rfl
    · rw [if_neg h1]
      by_cases h2 : y = "j"
      · rw [if_pos h2, h2]; rfl
      · rw [if_neg h2]; rfl
  · (try clear F28); (try clear N28); (try clear hk28)
    intro i m₁ news₁ I oI h tk t hi htk ⟨kv, jv, hm, hFN⟩ hnI FJ NJ
    have F7 : Fr g1 L1 h (fun y => if y = "k" then some (.int (1 + (i : Int)) t) else if y = "j" then jv else bm [("far", .ref af), ("places", .ref ap)] y) := fr_of FJ (funext fun y => by
      rw [hm]
      by_cases hy : y = "k"
      · rw [if_pos hy, if_pos hy]
      · rw [if_neg hy, if_neg hy, if_neg hy])
    clear FJ
    dsimp only [bm, List.foldr] at F7
    refine wpAny_execs_cons ?_
    refine for_range (h₀ := g1) (i + 1) 0 0 (fun j m news => ∃ jv, (∀ y, m y = if y = "j" then jv else if y = "k" then some (.int (1 + (i : Int)) t) else bm [("far", .ref af), ("places", .ref ap)] y) ∧ ∃ news₂, news = (I, oI) :: news₂ ∧ (∀ p ∈ news₂, p.1 ≠ I) ∧ FN news₂ af row (innF ab (outF ab i) (i + 1) j)) rfl rfl rfl (fun _ => rfl) ?_
    refine stopQ ?_
    k_steps
    refine Stop.mk ?_
    rename_i hR F28 N28 hk28
    refine ⟨_, _, _, _, _, _, (I, oI) :: news₁, rfl, hR, (small_i hi).1, (small_i hi).2, Nat.zero_le _, F28, N28, ⟨jv, fun y => ?_, news₁, rfl, hnI, hFN⟩, ?_, ?_⟩
    · by_cases h1 : y = "k"
      · rw [if_pos h1, h1]; rfl
      · rw [if_neg h1]
        by_cases h2 : y = "j"
        · rw [if_pos h2, if_pos h2]
        · rw [if_neg h2, if_neg h2, if_neg h1]; rfl
    · (try clear F28); (try clear N28); (try clear hk28); (try clear F7); (try clear NJ)
      intro j m₂ news₃ I2 oI2 h8 tk8 t8 hj htk8 ⟨jv', hm2, news₂, hnews, hnI', hFN2⟩ hnI2 FJ NJ
      subst hnews
      have F8 : Fr g1 L1 h8 (fun y => if y = "j" then some (.int (j : Int) t8) else if y = "k" then some (.int (1 + (i : Int)) t) else bm [("far", .ref af), ("places", .ref ap)] y) := fr_of FJ (funext fun y => by
        rw [hm2, Int.zero_add]
        by_cases hy : y = "j"
        · rw [if_pos hy, if_pos hy]
        · rw [if_neg hy, if_neg hy, if_neg hy])
      clear FJ
      dsimp only [bm, List.foldr] at F8
      obtain ⟨hab1, hab2⟩ := hab (i + 1) (Nat.succ_le_succ (Nat.zero_le _)) (Nat.succ_lt_succ hi)
      have hj5 : j < 5 := Nat.lt_trans hj (Nat.succ_lt_succ hi)
      have hk5 : i + 1 < 5 := Nat.succ_lt_succ hi
      have ha5 : ab (i + 1) < 5 := Nat.lt_trans hab2 hk5
      have hnb := hFN2
      obtain ⟨⟨outr, eo, o1, o2, o3⟩, r4, r5⟩ := hnb
      obtain ⟨itA, eA, a1, a2, a3⟩ := r4 _ ha5
      obtain ⟨tA, a4⟩ := a3 j hj5
      obtain ⟨itK, eK, b1, b2, b3⟩ := r4 _ hk5
      obtain ⟨q, u1, u2, u3, u4, u5, u7, hq1, hq2⟩ := hp3 (i + 1) hk5
      have e1 : 1 + (i : Int) = ((i + 1 : Nat) : Int) := by rw [Int.natCast_add]; exact Int.add_comm _ _
      refine hideQE fun Qh Eh hQh => ?_
      k_steps
      refine Stop.mk ?_
      refine sub_listE (F8.keep _ _ hp1) (Nat.lt_trans hk5 (by decide)) hq1 e1 ?_
      k_steps
      refine Stop.mk ?_
      refine sub_tup (k := 4) (F8.keep _ _ hq2) (by decide) rfl ?_
      k_steps
      refine Stop.mk ?_
      refine sub_listE (NJ _ (.tail _ (.tail _ o1))).1 (Nat.lt_trans ha5 (by decide)) (o3 _ ha5) hab1 ?_
      k_steps
      refine Stop.mk ?_
      refine sub_listE (NJ _ (.tail _ (.tail _ a1))).1 (Nat.lt_trans hj5 (by decide)) a4 rfl ?_
      k_steps
      refine Stop.mk ?_
      refine sub_listE (NJ _ (.tail _ (.tail _ o1))).1 (Nat.lt_trans hk5 (by decide)) (o3 _ hk5) e1 ?_
      k_steps
      refine Stop.mk ?_
      refine set_row F8 NJ (.tail _ (.tail _ b1)) rfl (by rw [b2]; exact hj5) (by rw [b2]; decide) (fun h9 F9 N9 => ?_)
      have nI1 : I2 ≠ row (i + 1) := Ne.symm (hnI2 _ (.tail _ b1))
      have nI2 : I ≠ row (i + 1) := Ne.symm (hnI' _ b1)
      rw [repl_cons nI1, repl_cons nI2] at N9
      obtain ⟨news₄, N4, n41, n42, hF4⟩ : ∃ news₄, News g1 L1 h9 ((I2, oI2) :: (I, oI) :: news₄) ∧ (∀ p ∈ news₄, p.1 ≠ I) ∧ (∀ p ∈ news₄, p.1 ≠ I2) ∧ FN news₄ af row (updF (innF ab (outF ab i) (i + 1) j) (i + 1) j (1 + innF ab (outF ab i) (i + 1) j (ab (i + 1)) j)) := by
        refine ⟨_, N9, ?_, ?_, FN.set (v := 1 + innF ab (outF ab i) (i + 1) j (ab (i + 1)) j) hFN2 hk5 hj5 b1 b2 b3⟩
        · intro p hp
          obtain ⟨q', h1, h2⟩ := repl_addr hp
          rw [h2]; exact hnI' _ h1
        · intro p hp
          obtain ⟨q', h1, h2⟩ := repl_addr hp
          rw [h2]; exact hnI2 _ (.tail _ h1)
      clear N9
      obtain ⟨⟨outr', eo', o1', o2', o3'⟩, r4', r5'⟩ := id hF4
      obtain ⟨itK', eK', b1', b2', b3'⟩ := r4' _ hk5
      obtain ⟨tK', b4'⟩ := b3' j hj5
      obtain ⟨itJ, eJ, c1, c2, c3⟩ := r4' _ hj5
      have eV : updF (innF ab (outF ab i) (i + 1) j) (i + 1) j (1 + innF ab (outF ab i) (i + 1) j (ab (i + 1)) j) (i + 1) j = 1 + innF ab (outF ab i) (i + 1) j (ab (i + 1)) j := if_pos ⟨rfl, rfl⟩
      rw [eV] at b4'
      k_steps
      refine Stop.mk ?_
      refine sub_listE (N4 _ (.tail _ (.tail _ o1'))).1 (Nat.lt_trans hk5 (by decide)) (o3' _ hk5) e1 ?_
      k_steps
      refine Stop.mk ?_
      refine sub_listE (N4 _ (.tail _ (.tail _ b1'))).1 (Nat.lt_trans hj5 (by decide)) b4' rfl ?_
      k_steps
      refine Stop.mk ?_
      refine sub_listE (N4 _ (.tail _ (.tail _ o1'))).1 (Nat.lt_trans hj5 (by decide)) (o3' _ hj5) rfl ?_
      k_steps
      refine Stop.mk ?_
      refine set_row F9 N4 (.tail _ (.tail _ c1)) e1 (by rw [c2]; exact hk5) (by rw [c2]; decide) (fun hX FX NX => ?_)
      have nJ1 : I2 ≠ row j := Ne.symm (n42 _ c1)
      have nJ2 : I ≠ row j := Ne.symm (n41 _ c1)
      rw [repl_cons nJ1, repl_cons nJ2] at NX
      have hF5 := FN.set (v := 1 + innF ab (outF ab i) (i + 1) j (ab (i + 1)) j) (t := tK') hF4 hj5 hk5 c1 c2 c3
      k_steps
      refine hQh _ _ ?_
      refine ⟨_, _, _, _, rfl, by assumption, by assumption, ?_, some (.int (j : Int) t8), fun y => ?_, _, rfl, ?_, hF5⟩
      · intro p hp
        rcases List.mem_cons.mp hp with rfl | hp
        · exact hnI2 _ (.head _)
        · obtain ⟨q', h1, h2⟩ := repl_addr hp
          rw [h2]; exact n42 _ h1
      · rfl
      · intro p hp
        obtain ⟨q', h1, h2⟩ := repl_addr hp
        rw [h2]; exact n41 _ h1
    · (try clear F28); (try clear N28); (try clear hk28); (try clear F7); (try clear NJ)
      intro m₂ news₃ h8 tk8 htk8 ⟨jv', hm2, news₂, hnews, hnI', hFN2⟩ FJ NJ
      subst hnews
      dsimp only
      refine wpAny_execs_nil ?_
      exact ⟨_, _, _, _, rfl, FJ, NJ, hnI', some (.int (1 + (i : Int)) t), jv', fun y => by
        rw [hm2]
        by_cases h1 : y = "k"
        · rw [if_pos h1, h1]; rfl
        · rw [if_neg h1, if_neg h1], hFN2⟩
  · (try clear F28); (try clear N28); (try clear hk28)
    intro m₁ news₁ h tk htk ⟨kv, jv, hm, hFN⟩ FJ NJ
    have F7 := fr_of FJ (funext hm)
    clear FJ
    dsimp only [bm, List.foldr] at F7
    dsimp only
    k_steps
    exact hret _ _ _ _ (by assumption) ⟨af, row, rfl, hFN⟩ (fun b o e => F7.keep _ _ (G2 b o e)) (own_news F G2 NJ).1 (own_news F G2 NJ).2
end Mine
namespace Mine
open PySem PySem.W PyProof.Rows PySem.Spec PySem.Calls
section
variable {prog : Program} {w : World} {A : Around} {E : Value → Shared → Prop} {s : Shared} {x y : Int} {a b : Nat} {t u : Tok} {Q : Value → Shared → Prop}
theorem divN (hx : x = a) (hy : 0 < y) (hb : y.natAbs.log2 < 9000) (h : Q (.int ((a / y.toNat : Nat) : Int) s.toks) { s with toks := s.toks + 1 }) : wpAny (model prog w) A (binaryOp .FloorDiv (.int x t) (.int y u)) Q E s := by
  subst hx
  obtain ⟨c, rfl⟩ := Int.eq_ofNat_of_zero_le (Int.le_of_lt hy)
  refine floordiv_int (by omega) ?_ (Or.inl (PyProof.noPylong_of_log2 hb))
  have e : ((a : Int).fdiv (c : Int)) = ((a / c : Nat) : Int) := by
    rw [Int.fdiv_eq_ediv_of_nonneg _ (Int.le_of_lt hy)]; exact (Int.natCast_ediv a c).symm
  rw [e]
  exact h
theorem modN (hx : x = a) (hy : 0 < y) (h : Q (.int ((a % y.toNat : Nat) : Int) s.toks) { s with toks := s.toks + 1 }) : wpAny (model prog w) A (binaryOp .Mod (.int x t) (.int y u)) Q E s := by
  subst hx
  obtain ⟨c, rfl⟩ := Int.eq_ofNat_of_zero_le (Int.le_of_lt hy)
  refine mod_int' (by omega) ?_
  have e : ((a : Int).fmod (c : Int)) = ((a % c : Nat) : Int) := by
    rw [Int.fmod_eq_emod_of_nonneg _ (Int.le_of_lt hy)]; exact (Int.natCast_emod a c).symm
  rw [e]
  exact h
theorem addN (hx : x = a) (hy : y = b) (h : Q (.int ((a + b : Nat) : Int) s.toks) { s with toks := s.toks + 1 }) : wpAny (model prog w) A (binaryOp .Add (.int x t) (.int y u)) Q E s := by
  subst hx; subst hy
  exact add_int h
end
section
variable {prog : Program} {w : World} {A : Around} {E : Value → Shared → Prop} {s : Shared}
theorem tail_opsR {value slice : Expr} {o i : Value} {T id : String} {ops : List Value} {Q : Value → Shared → Prop} (hT : s.TypeIs o T)
    (hl : typeLookup (.type T) "__getitem__" = pure (some (.builtin id))) (h : wpAny (model prog w) A (getItem o i) Q E s)
    (hs : subscripted slice false o i = operate ops (getItem o i)) :
    wpAny (model prog w) A (subscriptTail value slice o i) Q E s := by
  unfold subscriptTail
  refine wpAny_bind ?_
  rw [getitemInPython_of_ne hT.not_modules]
  refine wpAny_bind (wpAny_specialOf hT hl ?_)
  have fin : wpAny (model prog w) A (subscripted slice false o i) (fun r s₃ => wpAny (model prog w) A (letTemporaryGo value o r >>= fun _ => pure r) Q E s₃) E s := by
    rw [hs]
    exact wpAny_operating (wpAny_mono h (fun r s₃ h₃ => wpAny_bind (wpAny_letTemporaryGo (wpAny_pure h₃))) fun _ _ x => x)
  first
    | exact wpAny_pure (wpAny_bind fin)
    | exact wpAny_bind (wpAny_pure (wpAny_bind fin))
    | exact wpAny_bind fin
theorem slice3R {h₀ : Heap} {L : Addr} {m : Str → Option Value} {news : List (Addr × Obj)} {value slice : Expr} {l : Addr} {items : Array Value} {vl vu vk : Value} {lo hi st : Option Int} {ops : List Value} {Q : Value → Shared → Prop}
    (F : Fr h₀ L s.heap m) (N : News h₀ L s.heap news) (hl : s.heap.IsList l items) (pl : IsPart vl lo) (pu : IsPart vu hi) (pk : IsPart vk st) (h0 : st ≠ some 0) (hsz : items.size ≤ sizeLine)
    (h : ∀ h', Fr h₀ L h' m → News h₀ L h' ((s.heap.objs.size + 1, { cls := .type "list", data := .seq (slicePick items lo hi st) }) :: news) → Q (.ref (s.heap.objs.size + 1)) { s with heap := h' })
    (hs : subscripted slice false (.ref l) (.ref s.heap.objs.size) = operate ops (getItem (.ref l) (.ref s.heap.objs.size)) := by with_unfolding_all rfl) :
    wpAny (model prog w) A (subscriptTail value slice (.ref l) (.ref s.heap.objs.size)) Q E { s with heap := s.heap.push { cls := .type "slice", data := .fields #[vl, vu, vk] } } := by
  refine tail_opsR (Heap.IsList.typeIs (s := { s with heap := s.heap.push { cls := .type "slice", data := .fields #[vl, vu, vk] } }) (hl.push _)) list_getitem_lookup
    (wpAny_getItem_list_slice (hl.push _) (Heap.IsSliceOf.new ..) pl pu pk h0 ?_ hsz) hs
  have N1 := News.push (F.push { cls := .type "slice", data := .fields #[vl, vu, vk] }) (N.grown fun _ _ e => Heap.get?_push_of_some _ e) { cls := .type "list", data := .seq (slicePick items lo hi st) }
  rw [Heap.size_push] at N1
  show Q (.ref (s.heap.push _).objs.size) _
  rw [Heap.size_push]
  exact h _ ((F.push _).push _) N1
end
theorem sub_strE {prog : Program} {w : World} {A : Around} {E : Value → Shared → Prop} {s : Shared} {x : Str} {l : List Nat} {k c : Nat} {b : Int} {t u : Tok} {value slice : Expr} {Q : Value → Shared → Prop}
    (hx : x = S l) (h : l[k]? = some c) (hb : b = (k : Int)) (hl : l.length ≤ 16777216) (hQ : Q (.str (S [c]) s.toks) { s with toks := s.toks + 1 })
    (hs : subscripted slice false (.str x t) (.int b u) = operate [.str x t, .int b u] (getItem (.str x t) (.int b u)) := by with_unfolding_all rfl)
    (ht : ∀ r, letTemporaryGo value (.str x t) r = pure () := by intro _; with_unfolding_all rfl) :
    wpAny (model prog w) A (subscriptTail value slice (.str x t) (.int b u)) Q E s := by
  subst hx; subst hb
  exact sub_strS h rfl hl hQ hs ht
theorem labc : (Str.ofString "abcde" : Str) = S [97, 98, 99, 100, 101] := by decide +kernel
theorem lABC : (Str.ofString "ABCDE" : Str) = S [65, 66, 67, 68, 69] := by decide +kernel
theorem lkin : (Str.ofString "&<\"\t" : Str) = S [38, 60, 34, 9] := by decide +kernel
theorem lgta : (Str.ofString ">&" : Str) = S [62, 38] := by decide +kernel
theorem lIn : (Str.ofString "In" : Str) = S [73, 110] := by decide +kernel
theorem abc_at {i : Nat} (h : i < 5) : ([97, 98, 99, 100, 101] : List Nat)[i]? = some (97 + i) ∧ ([65, 66, 67, 68, 69] : List Nat)[i]? = some (65 + i) := by
  match i, h with
  | 0, _ => exact ⟨rfl, rfl⟩
  | 1, _ => exact ⟨rfl, rfl⟩
  | 2, _ => exact ⟨rfl, rfl⟩
  | 3, _ => exact ⟨rfl, rfl⟩
  | 4, _ => exact ⟨rfl, rfl⟩
theorem gta_at {i : Nat} (h : i < 2) : ∃ c, ([62, 38] : List Nat)[i]? = some c ∧ (c = 38 ∨ (c = 62 ∧ i = 0)) := by
  match i, h with
  | 0, _ => exact ⟨_, rfl, .inr ⟨rfl, rfl⟩⟩
  | 1, _ => exact ⟨_, rfl, .inl rfl⟩
theorem kin_at {i c : Nat} (h : i < 5) : ∃ d, ([38, 60, 34, 9, c] : List Nat)[i]? = some d ∧ (d = 38 ∨ d = 60 ∨ d = 34 ∨ d = 9 ∨ d = c) := by
  match i, h with
  | 0, _ => exact ⟨_, rfl, .inl rfl⟩
  | 1, _ => exact ⟨_, rfl, .inr (.inl rfl)⟩
  | 2, _ => exact ⟨_, rfl, .inr (.inr (.inl rfl))⟩
  | 3, _ => exact ⟨_, rfl, .inr (.inr (.inr (.inl rfl)))⟩
  | 4, _ => exact ⟨_, rfl, .inr (.inr (.inr (.inr rfl)))⟩
theorem small_m {m : Nat} (h : m < 8) : Builtin.Range.small 0 (m : Int) 1 = true ∧ Builtin.Range.rangeSize 0 (m : Int) 1 = m := by
  match m, h with
  | 0, _ => exact ⟨rfl, rfl⟩
  | 1, _ => exact ⟨rfl, rfl⟩
  | 2, _ => exact ⟨rfl, rfl⟩
  | 3, _ => exact ⟨rfl, rfl⟩
  | 4, _ => exact ⟨rfl, rfl⟩
  | 5, _ => exact ⟨rfl, rfl⟩
  | 6, _ => exact ⟨rfl, rfl⟩
  | 7, _ => exact ⟨rfl, rfl⟩
theorem mul_dot (d : Nat) : Txt.mul (Str.ofString ".") (d : Int) = S (List.replicate d 46) := by
  rw [ldot, mul_S]
  congr 1
  induction d with
  | zero => rfl
  | succ d ih => rw [List.replicate_succ, List.replicate_succ, List.flatten_cons, ih]; rfl
theorem strs_of {P : Nat → Prop} : ∀ {ys : List Value}, (∀ y ∈ ys, ∃ c t, y = Value.str (S [c]) t ∧ P c) → ∃ l : List Nat, Paired (fun c y => ∃ t, y = Value.str (S ((fun c => [c]) c)) t) l ys ∧ l.length = ys.length ∧ ∀ c ∈ l, P c
  | [], _ => ⟨[], .nil, rfl, fun _ h => nomatch h⟩
  | y :: ys, h => by
    obtain ⟨l, h1, h2, h3⟩ := strs_of (ys := ys) fun y hy => h y (List.mem_cons_of_mem _ hy)
    obtain ⟨c, t, e, hc⟩ := h y (List.mem_cons_self ..)
    refine ⟨c :: l, .cons ⟨t, e⟩ h1, by simp [h2], fun d hd => ?_⟩
    rcases List.mem_cons.mp hd with rfl | hd
    · exact hc
    · exact h3 d hd
theorem pow5 {e : Nat} (h : e < 8) : 0 < (5 : Int) ^ ((e : Nat) : Int).toNat ∧ ((5 : Int) ^ ((e : Nat) : Int).toNat).natAbs.log2 < 9000 := by
  match e, h with
  | 0, _ => exact ⟨by decide, by decide⟩
  | 1, _ => exact ⟨by decide, by decide⟩
  | 2, _ => exact ⟨by decide, by decide⟩
  | 3, _ => exact ⟨by decide, by decide⟩
  | 4, _ => exact ⟨by decide, by decide⟩
  | 5, _ => exact ⟨by decide, by decide⟩
  | 6, _ => exact ⟨by decide, by decide⟩
  | 7, _ => exact ⟨by decide, by decide⟩
theorem ints_of {ys : List Value} : ∀ {vs : List Value}, Paired (fun _ y => ∃ z t, y = Value.int z t ∧ 0 ≤ z) vs ys → ∃ zs, IntsAre ys zs ∧ ∃ n : Nat, zs.sum = n
  | _, .nil => ⟨[], .nil, 0, rfl⟩
  | _, .cons ⟨z, t, e, hz⟩ r => by
    obtain ⟨zs, h1, n, h2⟩ := ints_of r
    subst e
    obtain ⟨c, rfl⟩ := Int.eq_ofNat_of_zero_le hz
    exact ⟨_, .cons _ t h1, c + n, by rw [List.sum_cons, h2]; omega⟩
theorem int_mem {vs : List Value} {ns : List Int} (h : IntsAre vs ns) : ∀ v ∈ vs, ∃ n t, v = Value.int n t := by
  induction h with
  | nil => intro v hv; cases hv
  | cons n t _ ih =>
    intro v hv
    rcases List.mem_cons.mp hv with rfl | hv
    · exact ⟨n, t, rfl⟩
    · exact ih v hv
end Mine
example : True := by
  w_top off
  trivial
namespace Mine
open PySem PySem.W PyProof.Rows PySem.Spec PySem.Calls
local macro_rules | `(tactic| k_all) => `(tactic| assumption)
local macro_rules | `(tactic| kas_types) => `(tactic| refine stop ?_)
local macro_rules | `(tactic| walk_at "exec For Name Call cons nil") => `(tactic| kas_types)
local macro_rules | `(tactic| walk_at "subscriptTail") => `(tactic| kas_types)
local macro_rules | `(tactic| walk_at "last subscriptTail") => `(tactic| kas_types)
local macro_rules | `(tactic| walk_at "eval ListComp") => `(tactic| kas_types)
local macro_rules | `(tactic| walk_at "eval IfExp") => `(tactic| kas_types)
local macro_rules | `(tactic| walk_at "binaryOp Add str str") => `(tactic| kas_types)
local macro_rules | `(tactic| walk_at "binaryOp Mult str int") => `(tactic| kas_types)
local macro_rules | `(tactic| walk_at "call builtin:str.join") => `(tactic| kas_types)
local macro_rules | `(tactic| walk_at "call builtin:sum") => `(tactic| kas_types)
local macro_rules | `(tactic| walk_at "binaryOp FloorDiv int int") => `(tactic| refine divN rfl (by decide) (by decide) ?_)
local macro_rules | `(tactic| walk_at "binaryOp Mod int int") => `(tactic| refine modN rfl (by first | decide | assumption) ?_)
local macro_rules | `(tactic| walk_at "binaryOp Add int int") => `(tactic| kas_types)
local macro_rules | `(tactic| k_ne) => `(tactic| assumption)
/-- the list of places in a ledger -/
def PN (own : List (Addr × Obj)) (ap : Addr) (ps : Nat → Pl) : Prop := ∃ its e, (ap, listOf its e) ∈ own ∧ its.size = 5 ∧ ∀ k, k < 5 → ∃ q t1 t2 t3 t4 t5 t7, its[k]? = some (.ref q) ∧ (q, plO (ps k) t1 t2 t3 t4 t5 t7) ∈ own
theorem PN.pw {own : List (Addr × Obj)} {ap : Addr} {ps : Nat → Pl} (h : PN own ap ps) {h₀ H : Heap} {L : Addr} (N : News h₀ L H own) : PW H ap ps := by
  obtain ⟨its, e, h1, h2, h3⟩ := h
  refine ⟨its, e, (N _ h1).1, h2, fun k hk => ?_⟩
  obtain ⟨q, t1, t2, t3, t4, t5, t7, m1, m2⟩ := h3 k hk
  exact ⟨q, t1, t2, t3, t4, t5, t7, m1, (N _ m2).1⟩
/-- what a script's places have -/
def NiceK (ps : Nat → Pl) (k : Nat) : Prop :=
  (∃ d c, d ≤ 2 ∧ (c = 97 + k ∨ c = 65 + k) ∧ (ps k).name = List.replicate d 46 ++ [c]) ∧ (ps k).note.length ≤ 7 ∧ (∀ c ∈ (ps k).note, c = 38 ∨ c = 60 ∨ c = 34 ∨ c = 9 ∨ (c = 62 ∧ (ps k).wr = 0)) ∧
  (∃ d, d ≤ 2 ∧ (ps k).link = List.replicate d 46 ++ [73, 110]) ∧ (ps k).wr < 2 ∧ (ps k).en < 3 ∧ (ps k).sent = (ps 0).sent ∧ (∃ a : Nat, 1 ≤ k → (ps k).ab = a ∧ a < k)
theorem NiceK.congr {ps ps' : Nat → Pl} {k : Nat} (h : NiceK ps k) (e : ps' k = ps k) (e0 : (ps' 0).sent = (ps 0).sent) : NiceK ps' k := by
  unfold NiceK at h ⊢
  rw [e, e0]; exact h
theorem places_spec (w : World) (p : Program) (loose : List Str) (mean : ExcName → Option Value) (mg mb : Str → Option Value) (sc : Addr) (its : Array Value) (ns : List Int) (hI : IntsAre its.toList ns) (h63 : ns.length ≤ 63) :
   PM w p loose mean mg mb 231 4 30 [.ref sc] (fun h => h.IsList sc its) (fun r own => ∃ ap ps, r = .ref ap ∧ PN own ap ps ∧ ∀ k, k < 5 → NiceK ps k) := by
  intro dp un gd cn cs a ccd cl outer A₀ base h₀ L m news s Q E B F X N T hk hp hd hu hret
  refine keep_toks s.toks (Nat.le_refl _) ?_
  refine wpAny_call ?_
  k_dflt (refine' enterC (binds := [("script", .ref sc)]) ?k1 ?k2 ?k3 ?k5 ?kA ?kF ?kK ?k6 ?k7 ?k8 ?k9 ?kB ?kD ?_ ?c2 ?c3 ?c4; (case kA => exact rfl); (case kF => exact rfl); (case kK => assumption); (case k1 => k_asm); (case k2 => k_asm); (case k3 => k_asm); (case k5 => k_asm); (case k6 => k_is); (case k7 => k_is); (case k8 => ktr_room); (case k9 => exact rfl); (case kB => exact rfl); (case kD => decide +kernel); (case c2 => exact rfl); (case c3 => exact rfl); (case c4 => exact rfl); k_whole)
  intro g1 L1 h1 tk1 cells G2 F0 N0 Y B1 X1 T1
  have F1 : Fr g1 L1 h1 (bm [("script", .ref sc)]) := fr_of F0 rfl
  clear F0
  dsimp only [bm, List.foldr] at F1
  obtain ⟨oK0, oN0, hE', d2', d1'⟩ := PyProof.Rows.CellsAre.two Y
  subst hE'
  clear Y
  (try simp only [List.cons_append, List.nil_append] at N0)
  have hp1 : g1.IsList sc its := hp.at fun o e => G2 _ _ e
  k_steps
  refine Stop.mk ?_
  rename_i bl _ lb _ _ pl _ lp hA FA NA
  obtain ⟨lb1, lb2⟩ := lb
  obtain ⟨lp0, lp1, lp2⟩ := lp
  generalize hbs : (#[Value.int 11 tk1, Value.int 1400 (tk1 + 1), Value.int 219 (tk1 + 1 + 1), Value.int 2 (tk1 + 1 + 1 + 1), Value.int 130 (tk1 + 1 + 1 + 1 + 1)] : Array Value) = bsv at NA
  have hbs2 : ∀ k, k < 5 → ∃ (n : Nat) (t : Tok), bsv[k]? = some (.int n t) := by
    intro k hk
    subst hbs
    match k, hk with
    | 0, _ => exact ⟨11, _, rfl⟩
    | 1, _ => exact ⟨1400, _, rfl⟩
    | 2, _ => exact ⟨219, _, rfl⟩
    | 3, _ => exact ⟨2, _, rfl⟩
    | 4, _ => exact ⟨130, _, rfl⟩
  clear hbs
  refine for_range (h₀ := g1) 5 0 0 (fun i m news => (m "places" = some (.ref pl) ∧ m "base" = some (.ref bl) ∧ m "script" = some (.ref sc)) ∧ ∃ items e oK oN vK vN tups, news = (pl, listOf items e) :: (bl, listOf bsv 0) :: (L1 + 1 + 1, oK) :: (L1 + 1, oN) :: tups ∧ oK.data = .cell vK ∧ oN.data = .cell vN ∧
      (∀ p ∈ tups, p.1 ≠ pl ∧ p.1 ≠ L1 + 1 + 1 ∧ p.1 ≠ L1 + 1) ∧ items.size = i ∧ ∃ ps, ∀ j, j < i → NiceK ps j ∧ ∃ q t1 t2 t3 t4 t5 t7, items[j]? = some (.ref q) ∧ (q, plO (ps j) t1 t2 t3 t4 t5 t7) ∈ tups) rfl rfl rfl (fun _ => rfl) ?_
  refine stopQ ?_
  k_steps
  refine Stop.mk ?_
  rename_i hR F28 N28 hk28
  refine ⟨_, _, _, _, _, _, (pl, listOf #[] 0) :: (bl, listOf bsv 0) :: (L1 + 1 + 1, oK0) :: (L1 + 1, oN0) :: [], rfl, hR, rfl, rfl, Nat.zero_le _, F28, N28, ⟨⟨rfl, rfl, rfl⟩, _, _, _, _, _, _, [], rfl, d2', d1', (fun p hp => nomatch hp), rfl, (fun _ => ⟨[], [], 0, 0, 0, false, []⟩), fun j hj => absurd hj (Nat.not_lt_zero _)⟩, ?_, ?_⟩
  · (try clear F28); (try clear N28); (try clear hk28); (try clear hR); (try clear NA); (try clear FA)
    intro i m₁ news₁ I oI h tk t hi htk ⟨⟨hm1, hm2, hm3⟩, items, e, oK, oN, vK, vN, tups, hnews, dK, dN, hdis, hsz, ps, hps⟩ hnI FJ NJ
    subst hnews
    have F7 : Fr g1 L1 h (fun y => if y = "k" then some (.int (i : Int) t) else if y = "places" then some (.ref pl) else if y = "base" then some (.ref bl) else if y = "script" then some (.ref sc) else m₁ y) := fr_of FJ (funext fun y => by
      rw [Int.zero_add]
      by_cases hy : y = "k"
      · rw [if_pos hy, if_pos hy]
      · rw [if_neg hy, if_neg hy]
        by_cases h1 : y = "places"
        · rw [if_pos h1, h1, hm1]
        · rw [if_neg h1]
          by_cases h2 : y = "base"
          · rw [if_pos h2, h2, hm2]
          · rw [if_neg h2]
            by_cases h3 : y = "script"
            · rw [if_pos h3, h3, hm3]
            · rw [if_neg h3])
    clear FJ
    refine hideQE fun Qh Eh hQh => ?_
    k_steps
    refine Stop.mk ?_
    obtain ⟨nb, tb, hb⟩ := hbs2 i hi
    refine sub_listE (NJ _ (.tail _ (.tail _ (.head _)))).1 (Nat.lt_trans hi (by decide)) hb rfl ?_
    k_steps
    refine Stop.mk ?_
    refine comp_list (fun _ y => ∃ z t, y = Value.int z t ∧ 0 ≤ z) rfl rfl (by decide) rfl (by decide) rfl ?_
    refine stopQ ?_
    k_steps
    refine Stop.mk ?_
    rename_i D9 ws9 h9 F9 N9 hI9 _ _ l9
    have hz9 : ws9.toArray.size ≤ sizeLine := by
      have h2 := hI9.length
      have h3 : (List.take 63 ns).length ≤ ns.length := by assumption
      rw [sizeLine_eq, List.size_toArray, h2]
      omega
    refine slice3R F9 N9 ⟨_, (N9 _ (.head _)).1, rfl, _, rfl⟩ (IsPart.int _ _) .none (IsPart.int _ _) (by decide) hz9 (fun hS FS NS => Stop.mk ?_) (by with_unfolding_all rfl)
    · have hpk := hI9.pick (some (i : Int)) none (some 5)
      refine ⟨_, _, rfl, ⟨_, (NS _ (.head _)).1, rfl, _, rfl⟩, ?_, ?_, ?_⟩
      · have h1 := length_pickNums_le hI9 (some (i : Int)) none (some 5)
        have h2 := hpk.length
        rw [Array.length_toList] at h2
        rw [h2, sizeLine_eq]
        have h3 : (List.take 63 ns).length ≤ ns.length := by assumption
        omega
      · intro C v s₃ m₃ E' hC hv hn3 hm3 hk3 htk3
        obtain ⟨n, t', rfl⟩ := int_mem hpk v (by simpa using hv)
        refine wpAny_BinOp (wpAny_Name (wpAny_loadName_local rfl rfl hn3 hm3 (wpAny_BinOp (wpAny_Constant_int (wpAny_Constant_int (pow_int_small (by decide) (by decide) (by decide) ?_))))) (by decide))
        refine mod_int' (by decide) ⟨⟨_, _, rfl, ?_⟩, _, _, rfl, fun _ _ e => e⟩
        exact Int.fmod_nonneg_of_pos _ (by decide)
      · intro D h' tk' ys e' hD hys hP hkK
        have FD := FS.keeps hkK
        have ND := NS.grown hkK
        obtain ⟨zs, hz1, zn, hz2⟩ := ints_of hP
        have N10 : News g1 L1 h' ((I, oI) :: (pl, listOf items e) :: (bl, listOf bsv 0) :: (L1 + 1 + 1, oK) :: (L1 + 1, oN) :: tups) := fun p hp => ND p (.tail _ (.tail _ hp))
        have q1 : I ≠ pl := Ne.symm (hnI _ (.head _))
        have q2 : I ≠ L1 + 1 + 1 := Ne.symm (hnI _ (.tail _ (.tail _ (.head _))))
        have q3 : I ≠ L1 + 1 := Ne.symm (hnI _ (.tail _ (.tail _ (.tail _ (.head _)))))
        have q4 : ∀ p ∈ tups, p.1 ≠ pl := fun p hp => (hdis p hp).1
        have q5 : ∀ p ∈ tups, p.1 ≠ L1 + 1 + 1 := fun p hp => (hdis p hp).2.1
        have q6 : ∀ p ∈ tups, p.1 ≠ L1 + 1 := fun p hp => (hdis p hp).2.2
        have q7 : ∀ p ∈ tups, p.1 ≠ I := fun p hp => hnI _ (.tail _ (.tail _ (.tail _ (.tail _ hp))))
        have q8 : pl ≠ L1 + 1 + 1 := Nat.ne_of_gt lp1
        have q9 : pl ≠ L1 + 1 := Nat.ne_of_gt lp2
        have qA : bl ≠ L1 + 1 + 1 := Nat.ne_of_gt lb1
        have qB : bl ≠ L1 + 1 := Nat.ne_of_gt lb2
        have qC : bl ≠ pl := Nat.ne_of_lt lp0
        have qD : L1 + 1 + 1 ≠ L1 + 1 := Nat.succ_ne_self _
        have qE : L1 + 1 ≠ L1 + 1 + 1 := Ne.symm qD
        have qF : L1 + 1 + 1 ≠ pl := Ne.symm q8
        have qG : L1 + 1 ≠ pl := Ne.symm q9
        (try clear NS); (try clear FS); (try clear F9); (try clear N9); (try clear ND); (try clear NJ)
        k_steps
        refine Stop.mk ?_
        refine sumK (vs := ys.toList) rfl FD N10 ⟨_, hys, rfl, _, rfl⟩ hz1 (fun hE tkE tE FE NE => ?_)
        clear FD N10
        k_steps
        refine Stop.mk ?_
        refine addN rfl hz2 ?_
        obtain ⟨n, hn⟩ : ∃ n, n = nb + zn := ⟨_, rfl⟩
        rw [← hn]
        clear hn hz2 hb
        k_steps
        refine Stop.mk ?_
        rename_i hF oF FF NF dF
        refine cut (Q' := fun v s' => Stop (True → ∃ c t k, v = .str (S [c]) t ∧ s' = ⟨hF, s.gens, s.drawn, k, s.os⟩ ∧ (c = 97 + i ∨ c = 65 + i))) (wpAny_IfExp (stopQ ?_)) ?_
        · k_steps
          refine Stop.mk ?_
          split
          · k_steps
            refine Stop.mk ?_
            refine sub_strE (k := i) labc (abc_at hi).1 rfl (by decide) ?_
            exact Stop.mk fun _ => ⟨_, _, _, rfl, rfl, .inl rfl⟩
          · k_steps
            refine Stop.mk ?_
            refine sub_strE (k := i) lABC (abc_at hi).2 rfl (by decide) ?_
            exact Stop.mk fun _ => ⟨_, _, _, rfl, rfl, .inr rfl⟩
        rintro v s' ⟨hfin⟩
        obtain ⟨cL, tL, kL, rfl, rfl, hcL⟩ := hfin trivial
        clear hfin
        k_steps
        refine Stop.mk ?_
        obtain ⟨cK, hk1, hk2⟩ := gta_at (i := n / Int.toNat 5 % Int.toNat 2) (Nat.mod_lt _ (by decide))
        refine sub_strE lgta hk1 rfl (by decide) ?_
        k_steps
        refine Stop.mk ?_
        refine addS (z := [38, 60, 34, 9, cK]) lkin rfl (Nat.le_of_ble_eq_true rfl) rfl (fun tK kK => ?_)
        k_steps
        refine Stop.mk ?_
        rename_i hK oK2 FK NK dK2
        have hm8 : n / Int.toNat 4 % Int.toNat 8 < 8 := Nat.mod_lt _ (by decide)
        refine comp_range (n / Int.toNat 4 % Int.toNat 8) (fun _ y => ∃ c t, y = Value.str (S [c]) t ∧ (c = 38 ∨ c = 60 ∨ c = 34 ∨ c = 9 ∨ c = cK)) rfl rfl (by decide) rfl (by decide) rfl (by rw [sizeLine_eq]; omega) ?_
        refine stopQ ?_
        k_steps
        refine Stop.mk ?_
        rename_i hR FR NR kR
        refine ⟨_, _, _, _, rfl, hR, (small_m hm8).1, (small_m hm8).2, ?_, ?_⟩
        · intro C j tj s₃ m₃ E' hC hj hn3 hm3 hk3 htk3
          refine Subscript_ (wpAny_Name (wpAny_loadName_cell (c := L1 + 1 + 1) (v := .str (S [38, 60, 34, 9, cK]) tK) rfl rfl rfl ⟨_, hk3 _ _ (NR _ (.tail _ (.tail _ (.tail _ (.head _))))).1, dK2⟩ ?_) (by decide))
          refine wpAny_BinOp (wpAny_BinOp (wpAny_Name (wpAny_loadName_cell (c := L1 + 1) rfl rfl rfl ⟨_, hk3 _ _ (NR _ (.tail _ (.tail _ (.tail _ (.tail _ (.head _)))))).1, dF⟩ ?_) (by decide)))
          refine wpAny_BinOp (wpAny_Constant_int (wpAny_BinOp (wpAny_Constant_int (wpAny_BinOp (wpAny_Name (wpAny_loadName_local rfl rfl hn3 hm3 (wpAny_Constant_int ?_)) (by decide))))))
          refine modN rfl (by decide) (addN (a := 2) rfl rfl ?_)
          have h8 : 2 + j % Int.toNat 6 < 8 := by
            have := Nat.mod_lt j (show 6 > 0 by decide)
            show 2 + j % 6 < 8
            omega
          refine pow_int_small (Int.natCast_nonneg _) (by omega) (by decide) (divN rfl (pow5 h8).1 (pow5 h8).2 (wpAny_Constant_int (modN rfl (by decide) ?_)))
          obtain ⟨cd, hd1, hd2⟩ := kin_at (c := cK) (Nat.mod_lt (n / Int.toNat (5 ^ ((2 + j % Int.toNat 6 : Nat) : Int).toNat)) (show Int.toNat 5 > 0 by decide))
          exact sub_strE rfl hd1 rfl (Nat.le_of_ble_eq_true rfl) ⟨⟨_, _, rfl, hd2⟩, _, _, rfl, fun _ _ e => e⟩
        · intro D hQ tkQ ys' eQ hDQ hysQ hszQ hfQ hkQ
          have FQ := FR.keeps hkQ
          have NQ := NR.grown hkQ
          (try clear FR); (try clear NR); (try clear FK); (try clear NK)
          k_steps
          refine Stop.mk ?_
          obtain ⟨lN, hl1, hl2, hl3⟩ := strs_of (P := fun c => c = 38 ∨ c = 60 ∨ c = 34 ∨ c = 9 ∨ c = cK) (ys := ys'.toList) (fun y hy => by
            obtain ⟨k', hk'⟩ := List.getElem?_of_mem hy
            exact hfQ k' y (by rw [← Array.getElem?_toList]; exact hk'))
          have hl7 : lN.length ≤ 7 := by
            rw [hl2, Array.length_toList, hszQ]; omega
          have hlf : lN.flatMap (fun c => [c]) = lN := by
            clear hl1 hl2 hl3 hl7
            induction lN with
            | nil => rfl
            | cons c l ih => rw [List.flatMap_cons, ih]; rfl
          refine join_str (g := fun c => [c]) ⟨_, hysQ, rfl, _, rfl⟩ hl1 (by rw [hlf]; omega) (fun tN kN => ?_)
          rw [hlf]
          clear hl1 hl2 hysQ hfQ hszQ hlf
          have NQ1 : News g1 L1 hQ ((I, oI) :: (pl, listOf items e) :: (bl, listOf bsv 0) :: (L1 + 1 + 1, oK2) :: (L1 + 1, oF) :: tups) := fun p hp => NQ p (by first | exact hp | exact .tail _ hp)
          clear NQ
          k_steps
          refine Stop.mk ?_
          rename_i hG FG2 NG
          refine cut (Q' := fun v s' => Stop (True → ∃ (z : Int) (t : Tok) (k : Nat), v = .int z t ∧ s' = ⟨hG, s.gens, s.drawn, k, s.os⟩ ∧ ∃ a : Nat, 1 ≤ i → z = a ∧ a < i)) (wpAny_IfExp (stopQ ?_)) ?_
          · k_steps
            refine Stop.mk ?_
            by_cases hi0 : i = 0
            · rw [if_pos (by subst hi0; rfl)]
              k_steps
              exact Stop.mk fun _ => ⟨_, _, _, rfl, rfl, 0, fun q => absurd q (by omega)⟩
            · have hip : 0 < (i : Int) := by omega
              rw [if_neg (by simpa using hi0)]
              k_steps
              exact Stop.mk fun _ => ⟨_, _, _, rfl, rfl, n % i, fun q => ⟨rfl, Nat.mod_lt _ q⟩⟩
          rintro v s' ⟨hfin⟩
          obtain ⟨zA, tA, kA, rfl, rfl, hzA⟩ := hfin trivial
          clear hfin
          k_steps
          refine Stop.mk ?_
          obtain ⟨dl, hdl, hdl2⟩ : ∃ dl, n / Int.toNat 13 % Int.toNat 3 = dl ∧ dl < 3 := ⟨_, rfl, Nat.mod_lt _ (by decide)⟩
          rw [hdl]
          refine SB.mul (mulOk_of 4 100 (by decide) (by omega) (by omega) (by decide) (by decide)) (fun tm km => ?_)
          rw [mul_dot]
          k_steps
          refine Stop.mk ?_
          refine addS rfl lIn (by rw [List.length_replicate]; show dl + 2 ≤ _; omega) rfl (fun tL2 kL2 => ?_)
          k_steps
          refine Stop.mk ?_
          rename_i hV FV NV
          refine cut (Q' := fun v s' => Stop (True → ∃ (b : Bool) (k : Nat), v = .bool b ∧ s' = ⟨hV, s.gens, s.drawn, k, s.os⟩ ∧ (1 ≤ i → b = (ps 0).sent))) (wpAny_IfExp (stopQ ?_)) ?_
          · k_steps
            refine Stop.mk ?_
            by_cases hi0 : i = 0
            · rw [if_pos (by subst hi0; rfl)]
              k_steps
              exact Stop.mk fun _ => ⟨_, _, rfl, rfl, fun q => absurd q (by omega)⟩
            · rw [if_neg (by simpa using hi0)]
              obtain ⟨_, q0, t1, t2, t3, t4, t5, t7, hq1, hq2⟩ := hps 0 (Nat.pos_of_ne_zero hi0)
              k_steps
              refine Stop.mk ?_
              refine sub_listE (k := 0) (NV _ (.tail _ (.head _))).1 (by decide) hq1 rfl ?_
              k_steps
              refine Stop.mk ?_
              refine sub_tup (k := 5) (NV _ (.tail _ (.tail _ (.tail _ (.tail _ (.tail _ hq2)))))).1 (by decide) rfl ?_
              exact Stop.mk fun _ => ⟨_, _, rfl, rfl, fun _ => rfl⟩
          rintro v s' ⟨hfin⟩
          obtain ⟨bS, kS, rfl, rfl, hbS⟩ := hfin trivial
          clear hfin
          k_steps
          refine Stop.mk ?_
          obtain ⟨dn, hdn, hdn2⟩ : ∃ dn, n % Int.toNat 3 = dn ∧ dn < 3 := ⟨_, rfl, Nat.mod_lt _ (by decide)⟩
          rw [hdn]
          refine SB.mul (mulOk_of 4 100 (by decide) (by omega) (by omega) (by decide) (by decide)) (fun tm2 km2 => ?_)
          rw [mul_dot]
          k_steps
          refine Stop.mk ?_
          refine addS rfl rfl (by rw [List.length_replicate]; show dn + 1 ≤ _; omega) rfl (fun tM kM => ?_)
          k_steps
          rename_i D _ lD hZ FZ NZ
          have qH : D ≠ I ∧ D ≠ pl ∧ D ≠ L1 + 1 + 1 ∧ D ≠ L1 + 1 := by
            exact ⟨Nat.ne_of_gt lD.1, Nat.ne_of_gt lD.2.1, Nat.ne_of_gt lD.2.2.2.1, Nat.ne_of_gt lD.2.2.2.2.1⟩
          let P : Pl := ⟨List.replicate dn 46 ++ [cL], lN, n / Int.toNat 5 % Int.toNat 2, n / Int.toNat 11 % Int.toNat 3, zA, bS, List.replicate dl 46 ++ [73, 110]⟩
          let ps' : Nat → Pl := fun j => if j = i then P else ps j
          refine hQh _ _ ?_
          refine ⟨_, _, _, (pl, listOf (items.push (.ref D)) (e + 1)) :: (bl, listOf bsv 0) :: (L1 + 1 + 1, oK2) :: (L1 + 1, oF) :: (D, tupO [.str (S P.name) tM, .str (S P.note) tN, .int P.wr (kM + 1 + 1 + 1), .int P.en (kM + 1 + 1 + 1 + 1 + 1 + 1 + 1), .int P.ab tA, .bool P.sent, .str (S P.link) tL2]) :: tups, rfl, FZ, fun p hp => NZ p ?_, ?_, ⟨rfl, rfl, rfl⟩, _, _, _, _, _, _, _, rfl, dK2, dF, ?_, ?_, ps', fun j hj => ?_⟩
          · simp only [List.mem_cons] at hp ⊢
            rcases hp with h | h | h | h | h | h | h
            · exact .inr (.inl h)
            · exact .inr (.inr (.inl h))
            · exact .inr (.inr (.inr (.inl h)))
            · exact .inr (.inr (.inr (.inr (.inl h))))
            · exact .inr (.inr (.inr (.inr (.inr (.inl h)))))
            · exact .inl h
            · exact .inr (.inr (.inr (.inr (.inr (.inr h)))))
          · intro p hp
            simp only [List.mem_cons] at hp
            rcases hp with h | h | h | h | h | h
            · rw [h]; exact Ne.symm q1
            · rw [h]; exact hnI _ (.tail _ (.head _))
            · rw [h]; exact Ne.symm q2
            · rw [h]; exact Ne.symm q3
            · rw [h]; exact qH.1
            · exact q7 p h
          · intro p hp
            rcases List.mem_cons.mp hp with rfl | hp
            · exact ⟨qH.2.1, qH.2.2.1, qH.2.2.2⟩
            · exact hdis p hp
          · rw [Array.size_push, hsz]
          · by_cases hji : j = i
            · subst hji
              have e1 : ps' j = P := if_pos rfl
              refine ⟨?_, D, tM, tN, kM + 1 + 1 + 1, kM + 1 + 1 + 1 + 1 + 1 + 1 + 1, tA, tL2, ?_, ?_⟩
              · unfold NiceK
                rw [e1]
                refine ⟨⟨dn, cL, by omega, hcL, rfl⟩, hl7, fun c hc => ?_, ⟨dl, by omega, rfl⟩, Nat.mod_lt _ (by decide), Nat.mod_lt _ (by decide), ?_, hzA⟩
                · rcases hl3 c hc with h | h | h | h | h
                  · exact .inl h
                  · exact .inr (.inl h)
                  · exact .inr (.inr (.inl h))
                  · exact .inr (.inr (.inr (.inl h)))
                  · subst h
                    rcases hk2 with h | ⟨h, h'⟩
                    · exact .inl h
                    · exact .inr (.inr (.inr (.inr ⟨h, h'⟩)))
                · by_cases h0 : j = 0
                  · subst h0; rw [e1]
                  · have : ps' 0 = ps 0 := if_neg (Ne.symm h0)
                    rw [this]; exact hbS (Nat.pos_of_ne_zero h0)
              · rw [← hsz, Array.getElem?_push_size]
              · rw [e1]; exact .head _
            · have hji2 : j < i := by omega
              have e1 : ps' j = ps j := if_neg hji
              have e0 : ps' 0 = ps 0 := if_neg (by omega)
              obtain ⟨hk0, q0, t1, t2, t3, t4, t5, t7, hq1, hq2⟩ := hps j hji2
              refine ⟨hk0.congr e1 (by rw [e0]), q0, t1, t2, t3, t4, t5, t7, ?_, ?_⟩
              · rw [Array.getElem?_push_lt (by omega)]; rw [← hq1]; exact (Array.getElem?_eq_getElem (by omega)).symm
              · rw [e1]; exact .tail _ hq2
  · (try clear F28); (try clear N28); (try clear hk28); (try clear hR); (try clear NA); (try clear FA)
    intro m₁ news₁ h tk htk ⟨⟨hm1, hm2, hm3⟩, items, e, oK, oN, vK, vN, tups, hnews, dK, dN, hdis, hsz, ps, hps⟩ FJ NJ
    have F7 : Fr g1 L1 h (fun y => if y = "places" then some (.ref pl) else m₁ y) := fr_of FJ (funext fun y => by
      by_cases h1 : y = "places"
      · rw [if_pos h1, h1, hm1]
      · rw [if_neg h1])
    clear FJ
    dsimp only
    refine wpAny_execs_cons (wpAny_Return_some (nameX_L F7 rfl ?_))
    intro htz
    refine hret _ _ _ _ htz ⟨pl, ps, rfl, ⟨items, e, by rw [hnews]; exact .head _, hsz, fun k hk => ?_⟩, fun k hk => (hps k hk).1⟩ (fun b o e => F7.keep _ _ (G2 b o e)) (own_news F G2 NJ).1 (own_news F G2 NJ).2
    obtain ⟨_, q0, t1, t2, t3, t4, t5, t7, hq1, hq2⟩ := hps k hk
    exact ⟨q0, t1, t2, t3, t4, t5, t7, hq1, by rw [hnews]; exact .tail _ (.tail _ (.tail _ (.tail _ hq2)))⟩
end Mine
namespace Mine
open PySem PySem.W PyProof.Rows PySem.Spec PySem.Calls
def rc (z : List Nat) : List Nat → List Nat
  | [] => []
  | [c] => [c]
  | c :: d :: r => if c = 13 ∧ d = 10 then z ++ rc z r else c :: rc z (d :: r)
theorem rc_cons {z : List Nat} {c : Nat} {r : List Nat} (h : ¬ (c = 13 ∧ r.head? = some 10)) : rc z (c :: r) = c :: rc z r := by
  cases r with
  | nil => rfl
  | cons d r =>
    rw [rc, if_neg]
    intro q
    exact h ⟨q.1, by rw [q.2]; rfl⟩
theorem rc_hit {z r : List Nat} : rc z (13 :: 10 :: r) = z ++ rc z r := by rw [rc, if_pos ⟨rfl, rfl⟩]
theorem at_iff (l : List Nat) (i : Nat) : StrLaws.At (S l) (S [13, 10]) (S l).length i ↔ ∃ r, l.drop i = 13 :: 10 :: r := by
  unfold StrLaws.At
  rw [StrLaws.subAt_eq, S_toList, S_toList, S_len, S_len]
  show i + 2 ≤ l.length ∧ ((l.drop i).take 2 == [13, 10]) = true ↔ _
  rw [beq_iff_eq]
  constructor
  · rintro ⟨_, h⟩
    cases e : l.drop i with
    | nil => rw [e] at h; cases h
    | cons a r =>
      rw [e] at h
      cases r with
      | nil => cases h
      | cons b r =>
        have h' : [a, b] = [13, 10] := h
        simp at h'
        exact ⟨r, by rw [h'.1, h'.2]⟩
  · rintro ⟨r, h⟩
    refine ⟨?_, by rw [h]; rfl⟩
    have := congrArg List.length h
    simp at this
    omega
theorem rc_skip (z l : List Nat) : ∀ (n a b : Nat), b = a + n → b ≤ l.length → (∀ k, a ≤ k → k < b → ¬ StrLaws.At (S l) (S [13, 10]) (S l).length k) → rc z (l.drop a) = (l.drop a).take (b - a) ++ rc z (l.drop b)
  | 0, a, b, e, _, _ => by
    have : b = a := by omega
    subst this; simp
  | n + 1, a, b, e, hb, hn => by
    have ih := rc_skip z l n (a + 1) b (by omega) hb fun k h1 h2 => hn k (by omega) h2
    have ha : a < l.length := by omega
    have h0 := hn a (Nat.le_refl _) (by omega)
    rw [at_iff] at h0
    have e1 : l.drop a = l[a] :: l.drop (a + 1) := List.drop_eq_getElem_cons ha
    have e2 : b - a = (b - (a + 1)) + 1 := by omega
    rw [e2, e1, List.take_succ_cons, rc_cons, ih]
    · rfl
    · rintro ⟨q1, q2⟩
      apply h0
      cases e3 : l.drop (a + 1) with
      | nil => rw [e3] at q2; cases q2
      | cons d r =>
        rw [e3] at q2
        have : d = 10 := by simpa using q2
        exact ⟨r, by rw [e1, e3, q1, this]⟩
theorem rc_parts (z l : List Nat) : ∀ (cuts : List Nat) (a f : Nat), a ≤ l.length → StrLaws.ChainG (S l) (S [13, 10]) (S l).length a cuts f → (∀ k, f ≤ k → ¬ StrLaws.At (S l) (S [13, 10]) (S l).length k) →
    (Str.join (S z) (StrLaws.partsFrom (S l) 2 a cuts)).cps.toList = rc z (l.drop a)
  | [], a, f, ha, h, hn => by
    have e : f = a := h
    subst e
    rw [rc_skip z l (l.length - f) f l.length (by omega) (Nat.le_refl _) fun k h1 _ => hn k h1]
    show (Builtin.Str.strSub (S l) f (S l).length).cps.toList = _
    rw [StrLaws.strSub_toList, S_toList, S_len, List.drop_length]
    simp [rc]
  | c :: r, a, f, ha, h, hn => by
    obtain ⟨h1, h2, h3, h4⟩ := h
    have h2' := h2
    rw [at_iff] at h2
    obtain ⟨w, hw⟩ := h2
    have hl := congrArg List.length hw
    simp at hl
    have h4' : StrLaws.ChainG (S l) (S [13, 10]) (S l).length (c + 2) r f := h4
    have ih := rc_parts z l r (c + 2) f (by omega) h4' hn
    obtain ⟨p, q, e⟩ := StrLaws.partsFrom_ne (S l) 2 (c + 2) r
    rw [rc_skip z l (c - a) a c (by omega) (by omega) h3, hw, rc_hit]
    show (Str.join (S z) (Builtin.Str.strSub (S l) a c :: StrLaws.partsFrom (S l) 2 (c + 2) r)).cps.toList = _
    rw [e] at ih ⊢
    show (Builtin.Str.strSub (S l) a c ++ S z ++ Str.join (S z) (p :: q)).cps.toList = _
    rw [Str.cps_append, Str.cps_append, Array.toList_append, Array.toList_append, ih, StrLaws.strSub_toList, S_toList, S_toList, List.append_assoc]
    congr 2
    have : l.drop (c + 2) = (l.drop c).drop 2 := by rw [List.drop_drop]
    rw [this, hw]
    rfl
theorem replCR_eq (z l : List Nat) : replCR z l = rc z l := by
  unfold replCR Txt.replace
  have h2 : ((S [13, 10]).length == 0) = false := rfl
  rw [h2, Bool.false_and, Bool.or_false]
  obtain ⟨f, h, hn⟩ := StrLaws.occ_tight (S l) (S [13, 10]) (by decide)
  have key := rc_parts z l (Builtin.Str.occurrences (S l) (S [13, 10]) 0 (S l).length ((S l).length + 1)) 0 f (Nat.zero_le _) h hn
  rw [List.drop_zero] at key
  cases he : (Builtin.Str.occurrences (S l) (S [13, 10]) 0 (S l).length ((S l).length + 1)).isEmpty
  · rw [if_neg Bool.false_ne_true, StrLaws.glued_eq_join, StrLaws.partsBetween_eq]
    exact key
  · rw [if_pos rfl]
    rw [List.isEmpty_iff.mp he] at key
    rw [← key]
    show (S l).cps.toList = (Builtin.Str.strSub (S l) 0 (S l).length).cps.toList
    rw [StrLaws.strSub_toList, S_toList, S_len, List.drop_zero, Nat.sub_zero, List.take_length]
theorem rc_line {z r : List Nat} : ∀ {l : List Nat}, 13 ∉ l → rc z (l ++ 13 :: 10 :: r) = l ++ (z ++ rc z r)
  | [], _ => rc_hit
  | c :: l, h => by
    rw [List.cons_append, rc_cons (fun q => h (q.1 ▸ List.mem_cons_self ..)), rc_line (fun q => h (List.mem_cons_of_mem _ q))]
    rfl
/-- lines, each ended by z -/
def lns (z : List Nat) (L : List (List Nat)) : List Nat := L.flatMap (fun l => l ++ z) ++ z
theorem lns_cons (z l : List Nat) (L : List (List Nat)) : lns z (l :: L) = l ++ (z ++ lns z L) := by
  unfold lns
  rw [List.flatMap_cons, List.append_assoc, List.append_assoc]
theorem rc_lns (z : List Nat) : ∀ L : List (List Nat), (∀ l ∈ L, 13 ∉ l) → rc z (lns [13, 10] L) = lns z L
  | [], _ => by
    show rc z (13 :: 10 :: []) = _
    rw [rc_hit]; show z ++ [] = [] ++ z
    simp
  | l :: L, h => by
    rw [lns_cons, lns_cons]
    show rc z (l ++ 13 :: 10 :: lns [13, 10] L) = _
    rw [rc_line (h l (List.mem_cons_self ..)), rc_lns z L fun l hl => h l (List.mem_cons_of_mem _ hl)]
/-- the signs of a line: no ends -/
def ln (c : Nat) : Prop := c ≠ 10 ∧ c ≠ 13
theorem crlf_line {r : List Nat} : ∀ {l : List Nat}, (∀ c ∈ l, ln c) → crlf (l ++ r) = l ++ crlf r
  | [], _ => rfl
  | c :: l, h => by
    obtain ⟨h1, h2⟩ := h c (List.mem_cons_self ..)
    show crB false (c :: (l ++ r)) = _
    rw [crB, if_neg h2, if_neg h1]
    show c :: crlf (l ++ r) = _
    rw [crlf_line fun c hc => h c (List.mem_cons_of_mem _ hc)]
    rfl
theorem crlf_end {en : Nat} (he : en < 3) {r : List Nat} (hr : r.head? ≠ some 10) : crlf (eolS en ++ r) = [13, 10] ++ crlf r := by
  have a : crlf (13 :: 10 :: r) = [13, 10] ++ crlf r := by
    unfold crlf
    rw [crB, if_pos rfl, crB, if_neg (by decide), if_pos rfl, if_pos rfl]; rfl
  have b : crlf (10 :: r) = [13, 10] ++ crlf r := by
    unfold crlf
    rw [crB, if_neg (by decide), if_pos rfl, if_neg (by decide)]; rfl
  have c : crlf (13 :: r) = [13, 10] ++ crlf r := by
    unfold crlf
    rw [crB, if_pos rfl, crB_true hr]; rfl
  match en, he with
  | 0, _ => exact a
  | 1, _ => exact b
  | 2, _ => exact c
theorem crlf_last {en : Nat} (he : en < 3) : crlf (eolS en) = [13, 10] := by
  match en, he with
  | 0, _ => rfl
  | 1, _ => rfl
  | 2, _ => rfl
theorem crlf_lns {en : Nat} (he : en < 3) : ∀ L : List (List Nat), (∀ l ∈ L, l ≠ [] ∧ ∀ c ∈ l, ln c) → crlf (eolS en ++ lns (eolS en) L) = [13, 10] ++ lns [13, 10] L
  | [], _ => by
    show crlf (eolS en ++ eolS en) = [13, 10] ++ [13, 10]
    match en, he with
    | 0, _ => rfl
    | 1, _ => rfl
    | 2, _ => rfl
  | l :: L, h => by
    obtain ⟨h1, h2⟩ := h l (List.mem_cons_self ..)
    have ih := crlf_lns he L fun l hl => h l (List.mem_cons_of_mem _ hl)
    rw [crlf_end he, lns_cons, crlf_line h2, ih, lns_cons]
    cases l with
    | nil => exact absurd rfl h1
    | cons c l =>
      rw [lns_cons]
      intro q
      exact (h2 c (List.mem_cons_self ..)).1 (by simpa using q)
theorem crlf_first {en : Nat} (he : en < 3) {l : List Nat} {L : List (List Nat)} (h : ∀ x ∈ l :: L, x ≠ [] ∧ ∀ c ∈ x, ln c) : crlf (lns (eolS en) (l :: L)) = lns [13, 10] (l :: L) := by
  rw [lns_cons, lns_cons, crlf_line (h l (List.mem_cons_self ..)).2, crlf_lns he L fun x hx => h x (List.mem_cons_of_mem _ hx)]
theorem dots_line : ∀ {l r : List Nat}, (∀ c ∈ l, ln c) → dots false (l ++ 13 :: 10 :: r) = l ++ 13 :: 10 :: dots true r
  | [], r, _ => by
    show dots false (13 :: 10 :: r) = _
    rw [dots, if_neg (by simp), dots, if_neg (by simp)]
    rfl
  | c :: l, r, h => by
    obtain ⟨h1, h2⟩ := h c (List.mem_cons_self ..)
    show dots false (c :: (l ++ 13 :: 10 :: r)) = _
    rw [dots, if_neg (by simp), show (c == 10) = false from by simpa using h1, dots_line fun c hc => h c (List.mem_cons_of_mem _ hc)]
    rfl
theorem dots_head {l r : List Nat} (h0 : l ≠ []) (h : ∀ c ∈ l, ln c) : dots true (l ++ 13 :: 10 :: r) = dotV true l ++ 13 :: 10 :: dots true r := by
  cases l with
  | nil => exact absurd rfl h0
  | cons c l =>
    obtain ⟨h1, h2⟩ := h c (List.mem_cons_self ..)
    have hf := dots_line (r := r) fun c hc => h c (List.mem_cons_of_mem _ hc)
    show dots true (c :: (l ++ 13 :: 10 :: r)) = _
    unfold dotV
    by_cases hc : c = 46
    · subst hc
      rw [dots, if_pos ⟨rfl, rfl⟩, if_pos ⟨rfl, rfl⟩, show ((46 : Nat) == 10) = false from rfl, hf]; rfl
    · rw [dots, if_neg (fun q => hc q.2), if_neg (by simpa using hc), show (c == 10) = false from by simpa using h1, hf]; rfl
theorem dots_lns : ∀ L : List (List Nat), (∀ l ∈ L, l ≠ [] ∧ ∀ c ∈ l, ln c) → dots true (lns [13, 10] L) = lns [13, 10] (L.map (dotV true))
  | [], _ => rfl
  | l :: L, h => by
    obtain ⟨h1, h2⟩ := h l (List.mem_cons_self ..)
    rw [List.map_cons, lns_cons, lns_cons]
    show dots true (l ++ 13 :: 10 :: lns [13, 10] L) = _
    rw [dots_head h1 h2, dots_lns L fun l hl => h l (List.mem_cons_of_mem _ hl)]; rfl
theorem dotV_false (l : List Nat) : dotV false l = l := by unfold dotV; rw [if_neg (by simp)]
theorem head_lns (hs : List (List Nat × List Nat)) : headText hs = lns [13, 10] (hs.map lineOf) := by
  unfold headText lns
  rw [List.flatMap_map]
/-- the ends of a page as sent or unsent -/
def fin (sent : Bool) (en : Nat) : List Nat := if sent then [13, 10] else eolU en
theorem ends_lns (sent : Bool) {en : Nat} (he : en < 3) (hs : List (List Nat × List Nat)) (h0 : hs ≠ []) (h : ∀ x ∈ hs, ∀ c ∈ lineOf x, ln c) : endsV sent en (headText hs) = lns (fin sent en) (hs.map fun x => dotV sent (lineOf x)) := by
  have hl : ∀ l ∈ hs.map lineOf, l ≠ [] ∧ ∀ c ∈ l, ln c := by
    intro l hl
    obtain ⟨x, hx, rfl⟩ := List.mem_map.mp hl
    exact ⟨by simp [lineOf], h x hx⟩
  have h13 : ∀ l ∈ hs.map lineOf, 13 ∉ l := fun l hx q => ((hl l hx).2 13 q).2 rfl
  unfold endsV fin
  rw [head_lns, replCR_eq, replCR_eq, rc_lns _ _ h13, rc_lns _ _ h13]
  cases sent with
  | true =>
    rw [if_pos rfl, if_pos rfl]
    cases hs with
    | nil => exact absurd rfl h0
    | cons x hs =>
      rw [List.map_cons] at hl ⊢
      rw [crlf_first he hl, dots_lns _ hl, List.map_cons, List.map_map, List.map_cons]; rfl
  | false =>
    rw [if_neg (by decide), if_neg (by decide)]
    rw [show (fun x => dotV false (lineOf x)) = lineOf from funext fun x => dotV_false _]
end Mine
namespace Mine
open PySem PySem.W PyProof.Rows PySem.Spec PySem.Calls
theorem PM.use {w : World} {p : Program} {loose : List Str} {mean : ExcName → Option Value} {mg mb : Str → Option Value} {f : Addr} {dc uc : Nat} {pos : List Value} {pre : Heap → Prop} {R : Value → List (Addr × Obj) → Prop}
    (C : PM w p loose mean mg mb f dc uc pos pre R) {dp un : Nat} {gd : Option (List Code)} {cn : Str} {cs : Scope} {a : Addr} {ccd : Value} {cl : List (Str × Addr)} {outer : List Env} {A₀ : Around} {base h₀ : Heap} {L : Addr} {m : Str → Option Value} {news : List (Addr × Obj)} {s : Shared}
    {Q E : Value → Shared → Prop} (B : Below A₀ base outer h₀) (F : Fr h₀ L s.heap m) (X : (Mine.hd.heap_39 w.params).In h₀) (N : News h₀ L s.heap news) (T : Top p loose mean mg mb h₀) (hk : cs.kind = .function) (hp : pre s.heap) (hd : dp + dc < recursionLimit) (hu : un + uc < cLine)
    (ret : ∀ r h' tk' own, R r own → Fr h₀ L h' m → News h₀ L h' news → News h₀ L h' own → (∀ q ∈ news, ∀ p ∈ own, p.1 ≠ q.1) → Q r { s with heap := h', toks := tk' }) :
    wpAny (model PG w) (ktrTop dp un gd cn cs L a ccd cl outer) (call (.ref f) pos []) Q E s := C _ _ _ _ _ _ _ _ _ _ _ _ _ _ _ _ _ _ B F X N T hk hp hd hu fun r h' tk' own _ h2 h3 h4 h5 => ret r h' tk' own h2 (F.keeps h3) (N.grown h3) h4 fun q hq p hp e => by
      have h6 := h5 p hp
      rw [e] at h6
      exact absurd ((N q hq).1.symm.trans h6) (by simp)
theorem PN.mono {own own' : List (Addr × Obj)} {ap : Addr} {ps : Nat → Pl} (h : PN own ap ps) (k : ∀ p ∈ own, p ∈ own') : PN own' ap ps := by
  obtain ⟨its, e, h1, h2, h3⟩ := h
  refine ⟨its, e, k _ h1, h2, fun j hj => ?_⟩
  obtain ⟨q, t1, t2, t3, t4, t5, t7, m1, m2⟩ := h3 j hj
  exact ⟨q, t1, t2, t3, t4, t5, t7, m1, k _ m2⟩
theorem FN.mono {own own' : List (Addr × Obj)} {af : Addr} {row : Nat → Addr} {F : Nat → Nat → Nat} (h : FN own af row F) (k : ∀ p ∈ own, p ∈ own') : FN own' af row F := by
  obtain ⟨⟨outer, eo, h1, h2, h3⟩, h4, h5⟩ := h
  refine ⟨⟨outer, eo, k _ h1, h2, h3⟩, fun j hj => ?_, h5⟩
  obtain ⟨it, e, m1, m2, m3⟩ := h4 j hj
  exact ⟨it, e, k _ m1, m2, m3⟩
section
variable {M : Model} {A : Around} {E : Value → Shared → Prop} {s : Shared} {K : Frag} {h₀ : Heap} {mg mb : Str → Option Value} {p : Program} {loose : List Str} {env : Env} {x : Str} {pos : Pos} {v : Value} {Q : Value → Shared → Prop}
theorem nameC_K (k : InElt h₀ s.heap) (X : K.In h₀) (T : TopRead p loose mg mb h₀) (e : nsIn K mainGlobals x = some (some v)) (h : Q v s)
    (hg : env.globals = mainGlobals := by rfl) (hk : env.scope.kind = .function := by rfl) (hx : env.kindOf x = some .globalImplicit := by rfl) (hd : (x == ("__debug__" : Str)) = false := by decide) :
    wpAny M A (eval (.Name x pos) env) Q E s := Name_function_global hk hx (loadGlobal_global (by rw [hg]; exact T.g.keeps k) (mg_of X T.g e) h) hd
theorem nameC_B (k : InElt h₀ s.heap) (X : K.In h₀) (T : TopRead p loose mg mb h₀) (e : nsIn K mainGlobals x = some none) (hv : bootBuiltins x = some v) (hn : x ≠ "__name__") (h : Q v s)
    (hg : env.globals = mainGlobals := by rfl) (hb : env.builtins = builtinsNs := by rfl) (hk : env.scope.kind = .function := by rfl) (hx : env.kindOf x = some .globalImplicit := by rfl) (hd : (x == ("__debug__" : Str)) = false := by decide) :
    wpAny M A (eval (.Name x pos) env) Q E s :=
  Name_function_global hk hx (loadGlobal_builtin (by rw [hg]; exact T.g.keeps k) (mg_none_of X T.g e) (by rw [hb]; exact T.b.keeps k) ((T.builtins x hn).trans hv) h) hd
end
theorem for_rangeC {prog : Program} {w : World} {A : Around} {s : Shared} {env : Env} {h₀ : Heap} {x : Str} {px pos : Pos} {iter : Expr} {body : List Stmt} {Q : Flow → Shared → Prop} {E : Value → Shared → Prop} (n : Nat) (a : Int)
    (J : Nat → (Str → Option Value) → List (Addr × Obj) → Prop) (hh : A.handled = none)
    (hs : ∀ x, foldedSetIterable iter env x = pure x)
    (h : wpAny (model prog w) A (eval iter env) (fun xv s₁ => ∃ r b t u v m news, xv = .ref r ∧ IsRange s₁.heap r a b 1 t u v ∧ Builtin.Range.small a b 1 = true ∧ Builtin.Range.rangeSize a b 1 = n ∧ Fr h₀ env.locals s₁.heap m ∧ News h₀ env.locals s₁.heap news ∧ J 0 m news ∧
      (∀ (i : Nat) m₁ news₁ I oI h tk t, i < n → J i m₁ news₁ → (∀ p ∈ news₁, p.1 ≠ I) → Fr h₀ env.locals h m₁ → News h₀ env.locals h ((I, oI) :: news₁) →
        wpAny (model prog w) A (storeName env x (.int (a + i) t)) (fun _ s' => wpAny (model prog w) A (execs body env) (TurnE h₀ env.locals I oI (J (i + 1)) Q { s₁ with heap := h, toks := tk }) (fun _ _ => False) s') (fun _ _ => False) { s₁ with heap := h, toks := tk }) ∧
      (∀ m₁ news₁ h tk, J n m₁ news₁ → Fr h₀ env.locals h m₁ → News h₀ env.locals h news₁ → Q .next { s₁ with heap := h, toks := tk })) (fun _ _ => False) s) :
    wpAny (model prog w) A (exec (.For (.Name x px) iter body [] pos) env) Q E s := by
  refine wpAny_noRaise (wpAny_For (wpAny_mono h (fun xv s₁ h₁ => ?_) fun _ _ e => e) hs)
  obtain ⟨r, b, t, u, v, m, news, rfl, hr, hsm, hsz, F, N, hJ, turn, done⟩ := h₁
  refine wpAny_pyIter_range hr hsm ?_
  rw [hsz]
  have W := Walks.range (prog := prog) (w := w) (A := A) hh s₁.heap.objs.size a 1 n
  have hIL : env.locals ≠ s₁.heap.objs.size := Nat.ne_of_lt F.ns.lt
  have hI0 : h₀.get? s₁.heap.objs.size = none := by
    cases e : h₀.get? s₁.heap.objs.size with
    | none => rfl
    | some o => exact absurd (Heap.lt_size (F.keep _ _ e)) (Nat.lt_irrefl _)
  have hst : IsRangeIter (s₁.heap.push { cls := .type "range_iterator", data := .fields #[rawInt a, rawInt n, rawInt 1] }) s₁.heap.objs.size (a + ((0 : Nat) : Int) * 1) ((n : Int) - ((0 : Nat) : Int)) 1 := by
    simpa using Heap.get?_push_size _ rfl
  have hNI : ∀ p ∈ news, p.1 ≠ s₁.heap.objs.size := fun p hp => Nat.ne_of_lt (Heap.lt_size (N p hp).1)
  generalize s₁.heap.objs.size = I at W hIL hI0 hst hNI ⊢
  have F0 := F.push { cls := .type "range_iterator", data := .fields #[rawInt a, rawInt n, rawInt 1] }
  have N0 : News h₀ env.locals (s₁.heap.push { cls := .type "range_iterator", data := .fields #[rawInt a, rawInt n, rawInt 1] }) news := fun p hp => ⟨Heap.get?_push_of_some _ (N p hp).1, (N p hp).2⟩
  generalize (s₁.heap.push { cls := .type "range_iterator", data := .fields #[rawInt a, rawInt n, rawInt 1] }) = H0 at hst F0 N0 ⊢
  refine codeAny_forLoop
    (fun k s' => ∃ h' tk m' news' i, s' = { s₁ with heap := h', toks := tk } ∧ IsRangeIter h' I (a + ((i : Nat) : Int) * 1) ((n : Int) - ((i : Nat) : Int)) 1 ∧ Fr h₀ env.locals h' m' ∧ News h₀ env.locals h' news' ∧ (∀ p ∈ news', p.1 ≠ I) ∧ J i m' news' ∧ i ≤ n ∧ k = n + 1 - i) ?_ (n + 1)
    ⟨H0, s₁.toks, m, news, 0, rfl, hst, F0, N0, hNI, hJ, Nat.zero_le _, rfl⟩
  rintro k s' ⟨h', tk, m', news', i, rfl, hst', F', N', hnw', hJ', hi, rfl⟩
  have next : ∀ h₁ : Heap, (∀ b o, b ∉ [I] → h'.get? b = some o → h₁.get? b = some o) → Fr h₀ env.locals h₁ m' ∧ News h₀ env.locals h₁ news' := fun h₁ hk₁ =>
    ⟨⟨F'.ns.at' fun o e => hk₁ _ o (by simpa using hIL) e, fun b o e => hk₁ b o (by simp; rintro rfl; rw [hI0] at e; cases e) (F'.keep b o e), F'.above⟩, fun p hp => ⟨hk₁ _ _ (by simpa using hnw' p hp) (N' p hp).1, (N' p hp).2⟩⟩
  by_cases hlt : i < n
  · refine W.item i _ _ _ hlt hst' fun v h₁ tk₁ hP hst₁ hk₁ => ?_
    obtain ⟨t, rfl⟩ := hP
    obtain ⟨F₁, N₁⟩ := next h₁ hk₁
    refine wpAny_assign_Name ?_
    have N₂ : News h₀ env.locals h₁ ((I, _) :: news') := fun p hp => by
      rcases List.mem_cons.mp hp with rfl | hp
      · exact ⟨hst₁, Ne.symm hIL, hI0⟩
      · exact N₁ p hp
    have tn := turn i m' news' I _ h₁ tk₁ t hlt hJ' hnw' F₁ N₂
    rw [Int.mul_one]
    refine wpAny_mono tn (fun _ s₂ h₂ => wpAny_mono h₂ (fun f s₃ h₃ => ?_) fun _ _ e => e.elim) fun _ _ e => e.elim
    have fin : (∃ h' tk' m' news', s₃ = { s₁ with heap := h', toks := tk' } ∧ Fr h₀ env.locals h' m' ∧ News h₀ env.locals h' ((I, { cls := .type "range_iterator", dict := none, data := .fields #[rawInt (a + ((i + 1 : Nat) : Int) * 1), rawInt ((n : Int) - ((i + 1 : Nat) : Int)), rawInt 1], slots := #[] }) :: news') ∧ (∀ p ∈ news', p.1 ≠ I) ∧ J (i + 1) m' news') →
        ∃ m, m < n + 1 - i ∧ ∃ h' tk m' news' i, s₃ = { s₁ with heap := h', toks := tk } ∧ IsRangeIter h' I (a + ((i : Nat) : Int) * 1) ((n : Int) - ((i : Nat) : Int)) 1 ∧ Fr h₀ env.locals h' m' ∧ News h₀ env.locals h' news' ∧ (∀ p ∈ news', p.1 ≠ I) ∧ J i m' news' ∧ i ≤ n ∧ m = n + 1 - i := by
      rintro ⟨h3, tk3, m3, news3, rfl, F3, N3, hn3, hJ3⟩
      exact ⟨n + 1 - (i + 1), by omega, h3, tk3, m3, news3, i + 1, rfl, (N3 _ (.head _)).1, F3, (fun p hp => N3 p (.tail _ hp)), hn3, hJ3, hlt, rfl⟩
    cases f with
    | ret v => exact h₃
    | brk => exact h₃
    | next => exact fin h₃
    | cont => exact fin h₃
  · have hin : i = n := by omega
    subst hin
    refine W.done _ _ _ hst' fun h₁ tk₁ hk₁ => wpAny_execs_nil ?_
    obtain ⟨F₁, N₁⟩ := next h₁ hk₁
    exact done m' news' h₁ tk₁ hJ' F₁ N₁
theorem comp_rangeF {prog : Program} {w : World} {A : Around} {env : Env} {s : Shared} {elt iter c : Expr} {x : Str} {px : Pos} {scope : Scope} {cl : List (Str × Addr)} {pos : Pos} {Q : Value → Shared → Prop} {E : Value → Shared → Prop} (n : Nat) (pb : Nat → Bool) (f : Nat → Value → Prop)
    (hh : A.handled = none) (hclos : closureFor scope env = pure cl) (hcell : ∀ y ∈ scope.names, y.2 ≠ .cell) (hkind : scope.kind = .function)
    (hnames : ∀ y ∈ scope.names, y.2 = .local → scope.names.lookup y.1 = some .local) (hx : scope.names.lookup x = some .local) (hsz : n ≤ sizeLine)
    (h : wpAny (model prog w) A (eval iter env) (fun xv s₁ => ∃ r t u v, xv = .ref r ∧ IsRange s₁.heap r 0 n 1 t u v ∧ Builtin.Range.small 0 n 1 = true ∧ Builtin.Range.rangeSize 0 n 1 = n ∧
      (∀ C (i : Nat) t s₃ m₃ E', s₁.heap.objs.size < C → i < n → s₃.heap.Ns C m₃ → m₃ x = some (.int i t) → InElt s₁.heap s₃.heap → s₁.toks ≤ s₃.toks → wpAny (model prog w) A (isTrue c (compEnvC scope cl C env) (eval c (compEnvC scope cl C env))) (fun ok s₄ => ok = pb i ∧ Keeps s₃ s₄) E' s₃) ∧
      (∀ C (i : Nat) t s₃ m₃ E', s₁.heap.objs.size < C → i < n → s₃.heap.Ns C m₃ → m₃ x = some (.int i t) → InElt s₁.heap s₃.heap → s₁.toks ≤ s₃.toks → wpAny (model prog w) A (eval elt (compEnvC scope cl C env)) (fun y s₄ => f i y ∧ Keeps s₃ s₄) E' s₃) ∧
      (∀ D h' tk ys e, s₁.heap.get? D = none → h'.get? D = some (listOf ys e) → Paired (fun i y => f i y) ((List.range n).filter pb) ys.toList → InElt s₁.heap h' → Q (.ref D) { s₁ with heap := h', toks := tk })) E s)
    (hs : ∀ x, foldedSetIterable iter env x = pure x := by intro _; rfl) :
    wpAny (model prog w) A (eval (.ListComp elt [⟨.Name x px, iter, [c], 0⟩] scope pos) env) Q E s := by
  refine wpAny_ListComp_free (fun v => match v with | .int i _ => pb i.toNat | _ => false) (fun v y => ∃ (i : Nat) (t : Tok), v = .int i t ∧ i < n ∧ f i y) hclos hcell hkind hnames hx (wpAny_mono h (fun xv s₁ h₁ => ?_) fun _ _ e => e) hs
  obtain ⟨r, t, u, v, rfl, hr, hsm, hrs, htest, helt, hQ⟩ := h₁
  refine wpAny_pyIter_range hr hsm ?_
  rw [hrs]
  have up : InElt s₁.heap (s₁.heap.push { cls := .type "range_iterator", data := .fields #[rawInt 0, rawInt n, rawInt 1] }) := fun b o e => Heap.get?_push_of_some _ e
  have off : ∀ {b : Addr} {o : Obj}, s₁.heap.get? b = some o → b ∉ [s₁.heap.objs.size] := fun e q => by
    rw [List.mem_singleton.mp q] at e; exact absurd (Heap.lt_size e) (Nat.lt_irrefl _)
  have esz : (s₁.heap.push { cls := .type "range_iterator", data := .fields #[rawInt 0, rawInt n, rawInt 1] }).objs.size = s₁.heap.objs.size + 1 := Heap.size_push ..
  have W : Walks prog w A s₁.heap.objs.size [s₁.heap.objs.size] [s₁.heap.objs.size] n (fun i v => i < n ∧ ∃ t, v = .int (0 + i * 1) t)
      (fun i h => IsRangeIter h s₁.heap.objs.size (0 + (i : Nat) * 1) ((n : Int) - (i : Nat)) 1) := (Walks.range hh _ 0 1 n).bound
  refine ⟨s₁.heap.objs.size, _, _, n, _, _, rfl, W, hsz, by simpa using Heap.get?_push_size _ rfl, ?_, ⟨?_, ?_⟩, ?_⟩
  · intro b hb
    show b < (s₁.heap.push _).objs.size
    rw [esz, List.mem_singleton.mp hb]; exact Nat.lt_succ_self _
  · intro C i v s₃ m₃ E' hC hP hn hm hk htk
    have hC' : (s₁.heap.push { cls := .type "range_iterator", data := .fields #[rawInt 0, rawInt n, rawInt 1] }).objs.size ≤ C := hC
    obtain ⟨hi, t, rfl⟩ := hP
    rw [Int.mul_one, Int.zero_add] at hm
    rw [List.forIn_cons, if_pos rfl]
    refine wpAny_bind (wpAny_bind (wpAny_mono (htest C i t s₃ m₃ E' (by omega) hi hn hm (fun b o q => hk b o (off q) (up b o q)) htk) (fun ok s₄ h₄ => ?_) fun _ _ e => e))
    refine wpAny_pure ?_
    dsimp only
    rw [List.forIn_nil]
    refine wpAny_pure ⟨?_, h₄.2⟩
    rw [h₄.1, Int.mul_one, Int.zero_add]
    rfl
  · intro C i v s₃ m₃ E' hC hP _ hn hm hk htk
    have hC' : (s₁.heap.push { cls := .type "range_iterator", data := .fields #[rawInt 0, rawInt n, rawInt 1] }).objs.size ≤ C := hC
    obtain ⟨hi, t, rfl⟩ := hP
    rw [Int.mul_one, Int.zero_add] at hm
    refine wpAny_mono (helt C i t s₃ m₃ E' (by omega) hi hn hm (fun b o q => hk b o (off q) (up b o q)) htk) (fun y s₄ h₄ => ⟨⟨i, t, by rw [Int.mul_one, Int.zero_add], hi, h₄.1⟩, h₄.2⟩) fun _ _ e => e
  · intro D h' tk ys vs hD hlD hplD hlen hP hF hk
    have key : ∀ (vs : List Value) (ys : List Value) (k : Nat), Paired (fun v y => ∃ (i : Nat) (t : Tok), v = .int i t ∧ i < n ∧ f i y) (vs.filter (fun v => match v with | .int i _ => pb i.toNat | _ => false)) ys → (∀ j v, vs[j]? = some v → ∃ t, v = Value.int ((k + j : Nat) : Int) t) →
        Paired (fun i y => f i y) ((List.range' k vs.length).filter pb) ys := by
      intro vs
      induction vs with
      | nil => intro ys k hp _; cases hp; exact .nil
      | cons v vs ih =>
        intro ys k hp hall
        obtain ⟨t, e⟩ := hall 0 _ rfl
        rw [Nat.add_zero] at e
        subst e
        have hall' : ∀ j v, vs[j]? = some v → ∃ t, v = Value.int ((k + 1 + j : Nat) : Int) t := fun j v q => by
          obtain ⟨t'', q''⟩ := hall (j + 1) v (by simpa using q)
          exact ⟨t'', by rw [q'', show k + (j + 1) = k + 1 + j by omega]⟩
        rw [List.length_cons, List.range'_succ]
        by_cases hb : pb k = true
        · rw [List.filter_cons_of_pos (by simpa using hb)] at hp
          rw [List.filter_cons_of_pos hb]
          cases hp with
          | cons hv hr =>
            obtain ⟨i, t', e, _, hf⟩ := hv
            have : i = k := Int.ofNat.inj (Value.int.inj e).1.symm
            subst this
            exact .cons hf (ih _ _ hr hall')
        · rw [List.filter_cons_of_neg (by simpa using hb)] at hp
          rw [List.filter_cons_of_neg hb]
          exact ih _ _ hp hall'
    have k1 := key vs ys.toList 0 hF fun j v q => by
      obtain ⟨_, t, q'⟩ := hP j v q
      exact ⟨t, by rw [q', Int.mul_one, Int.zero_add, Nat.zero_add]⟩
    rw [hlen, ← List.range_eq_range'] at k1
    obtain ⟨e, he⟩ := hplD
    refine hQ D h' tk ys e ?_ he k1 fun b o q => hk b o (off q) (up b o q)
    cases q : s₁.heap.get? D with
    | none => rfl
    | some o =>
      have : (s₁.heap.push { cls := .type "range_iterator", data := .fields #[rawInt 0, rawInt n, rawInt 1] }).get? D = none := hD
      rw [up _ _ q] at this; cases this
end Mine
namespace Mine
open PySem PySem.W PyProof.Rows PySem.Spec PySem.Calls
theorem ints_pair {g : Nat → Int} : ∀ {l : List Nat} {ys : List Value}, Paired (fun i y => ∃ t, y = Value.int (g i) t) l ys → IntsAre ys (l.map g)
  | _, _, .nil => .nil
  | _, _, .cons ⟨t, e⟩ r => by subst e; exact .cons _ t (ints_pair r)
theorem paired_idx {f : Nat → Value → Prop} : ∀ (ys : List Value) (k : Nat), (∀ i y, ys[i]? = some y → f (k + i) y) → Paired f (List.range' k ys.length) ys
  | [], _, _ => .nil
  | y :: ys, k, h => by
    rw [List.length_cons, List.range'_succ]
    refine .cons (h 0 y rfl) (paired_idx ys (k + 1) fun i y' e => ?_)
    have := h (i + 1) y' (by simpa using e)
    rwa [show k + (i + 1) = k + 1 + i by omega] at this
theorem ints_range {g : Nat → Int} {n : Nat} {ys : Array Value} (hs : ys.size = n) (h : ∀ (i : Nat) y, ys[i]? = some y → ∃ t, y = Value.int (g i) t) : IntsAre ys.toList ((List.range n).map g) := by
  have := paired_idx (f := fun i y => ∃ t, y = Value.int (g i) t) ys.toList 0 (fun i y e => by rw [Nat.zero_add]; exact h i y (by rw [← Array.getElem?_toList]; exact e))
  rw [Array.length_toList, hs, ← List.range_eq_range'] at this
  exact ints_pair this
theorem sum_cast (g : Nat → Nat) : ∀ l : List Nat, (l.map fun i => ((g i : Nat) : Int)).sum = (((l.map g).sum : Nat) : Int)
  | [] => rfl
  | c :: l => by
    rw [List.map_cons, List.sum_cons, sum_cast g l, List.map_cons, List.sum_cons]; rfl
theorem News.made {h₀ H H' : Heap} {L D : Addr} {m : Str → Option Value} {news : List (Addr × Obj)} {o : Obj} (F : Fr h₀ L H m) (N : News h₀ L H news) (hD : H.get? D = none) (hg : H'.get? D = some o) (k : InElt H H') : News h₀ L H' ((D, o) :: news) := by
  intro p hp
  rcases List.mem_cons.mp hp with rfl | hp
  · refine ⟨hg, ?_, ?_⟩
    · intro e
      obtain ⟨oL, _, _, hL, _⟩ := F.ns
      have e' : D = L := e
      rw [e'] at hD
      exact absurd (hL.symm.trans hD) (by simp)
    · cases q : h₀.get? D with
      | none => rfl
      | some o => exact absurd ((F.keep _ _ q).symm.trans hD) (by simp)
  · exact N.grown k p hp
theorem made_ne {h₀ H : Heap} {L D : Addr} {news : List (Addr × Obj)} {q : Addr × Obj} (N : News h₀ L H news) (hD : H.get? D = none) (hq : q ∈ news) : D ≠ q.1 := by
  rintro rfl
  exact absurd ((N q hq).1.symm.trans hD) (by simp)
/-- the numbers of the law -/
def wtV (ps : Nat → Pl) (k : Nat) : Nat := (if (ps k).sent then 24 else 12) + 4 * (ps k).note.length
def lenV (ps : Nat → Pl) (far : Nat → Nat → Nat) (t : Nat) : Nat := (pageV ps far 6 t (-1)).length
def disV (W : Nat → Nat) (far : Nat → Nat → Nat) (t : Nat) : Nat := ((List.range 5).map fun x => W x * far t x).sum
def brV (W : Nat → Nat) (far : Nat → Nat → Nat) (t o : Nat) : Nat := (((List.range 5).filter fun x => decide (far o x < far t x)).map W).sum
def hvV (W : Nat → Nat) (far : Nat → Nat → Nat) (t : Nat) : Nat → Nat
  | 0 => 0
  | n + 1 => if far t n = 1 then max (hvV W far t n) (brV W far t n) else hvV W far t n
def totV (W : Nat → Nat) : Nat := ((List.range 5).map W).sum
def evB (W : Nat → Nat) (far : Nat → Nat → Nat) (t : Nat) : Bool := decide (2 * hvV W far t 5 ≤ totV W)
def minV (len : Nat → Nat) : Nat := min (min (min (min (len 0) (len 1)) (len 2)) (len 3)) (len 4)
def shB (len : Nat → Nat) (t : Nat) : Bool := decide (len t = minV len)
theorem minV_le (f : Nat → Nat) : ∀ s, s < 5 → minV f ≤ f s := fun s hs => by
  unfold minV
  have a4 : min (min (min (min (f 0) (f 1)) (f 2)) (f 3)) (f 4) ≤ f 4 := Nat.min_le_right _ _
  have b3 : min (min (min (min (f 0) (f 1)) (f 2)) (f 3)) (f 4) ≤ min (min (min (f 0) (f 1)) (f 2)) (f 3) := Nat.min_le_left _ _
  have b2 : min (min (min (f 0) (f 1)) (f 2)) (f 3) ≤ min (min (f 0) (f 1)) (f 2) := Nat.min_le_left _ _
  have b1 : min (min (f 0) (f 1)) (f 2) ≤ min (f 0) (f 1) := Nat.min_le_left _ _
  match s, hs with
  | 0, _ => exact Nat.le_trans b3 (Nat.le_trans b2 (Nat.le_trans b1 (Nat.min_le_left _ _)))
  | 1, _ => exact Nat.le_trans b3 (Nat.le_trans b2 (Nat.le_trans b1 (Nat.min_le_right _ _)))
  | 2, _ => exact Nat.le_trans b3 (Nat.le_trans b2 (Nat.min_le_right _ _))
  | 3, _ => exact Nat.le_trans b3 (Nat.min_le_right _ _)
  | 4, _ => exact a4
theorem le_minV {f : Nat → Nat} {m : Nat} (h : ∀ s, s < 5 → m ≤ f s) : m ≤ minV f := by
  unfold minV
  exact Nat.le_min.mpr ⟨Nat.le_min.mpr ⟨Nat.le_min.mpr ⟨Nat.le_min.mpr ⟨h 0 (by decide), h 1 (by decide)⟩, h 2 (by decide)⟩, h 3 (by decide)⟩, h 4 (by decide)⟩
structure Plain (ps : Nat → Pl) (far : Nat → Nat → Nat) : Prop where
  st : StOk ps
  stT : StT ps
  pg : ∀ t, t < 5 → PgOk ps far 6 t (-1)
  td : ∀ t, t < 5 → TdOk ps far 6 t (-1) 0
  same : ∀ t, t < 5 → pageV ps far 6 t (-1) = toldV ps far 6 t (-1) 0
  len : ∀ t, t < 5 → lenV ps far t ≤ 1048576
  ok : ∀ t, t < 5 → PyData.strOk (S (pageV ps far 6 t (-1))) = true
  note : ∀ k, k < 5 → (ps k).note.length ≤ 7
  dist : ∀ t x, t < 5 → x < 5 → far t x ≤ 4
  level : ∀ t, t < 5 → ((lenV ps far t : Nat) : Int) - (disV (wtV ps) far t : Nat) = ((lenV ps far 0 : Nat) : Int) - (disV (wtV ps) far 0 : Nat)
  med : ∀ t, t < 5 → evB (wtV ps) far t = shB (lenV ps far) t
  two : ∃ a b, ((List.range 5).filter (shB (lenV ps far))) = [a, b] ∧ far a b ≤ 1 ∨ ((List.range 5).filter (shB (lenV ps far))) = [a] ∧ far a a ≤ 1
theorem plO_eq {p p' : Pl} {t1 t2 t3 t4 t5 t7 u1 u2 u3 u4 u5 u7 : Tok} (h : plO p t1 t2 t3 t4 t5 t7 = plO p' u1 u2 u3 u4 u5 u7) : p.note = p'.note ∧ p.sent = p'.sent := by
  have h2 := congrArg (fun o : Obj => match o.data with | .seq a _ => a.toList | _ => []) h
  have h3 : [Value.str (S p.name) t1, .str (S p.note) t2, .int p.wr t3, .int p.en t4, .int p.ab t5, .bool p.sent, .str (S p.link) t7] = [Value.str (S p'.name) u1, .str (S p'.note) u2, .int p'.wr u3, .int p'.en u4, .int p'.ab u5, .bool p'.sent, .str (S p'.link) u7] := h2
  simp only [List.cons.injEq, Value.str.injEq, Value.bool.injEq] at h3
  refine ⟨?_, h3.2.2.2.2.2.1⟩
  have h4 := congrArg (fun z : Str => z.cps.toList) h3.2.1.1
  simpa [S] using h4
theorem lenS {prog : Program} {w : World} {A : Around} {E : Value → Shared → Prop} {s : Shared} {l : List Nat} {t : Tok} {Q : Value → Shared → Prop} (hl : l.length ≤ 16777216) (h : Q (.int (l.length : Nat) (s.toks + 1)) { s with toks := s.toks + 1 + 1 }) : wpAny (model prog w) A (call (.builtin "len") [.str (S l) t]) Q E s := by
  refine len_str (by rw [S_len]; omega) ?_
  rw [S_len]; exact h
theorem wt_eq (ps : Nat → Pl) (k : Nat) (t : Tok) : Value.int (((if (ps k).sent then 24 else 12 : Nat) : Int) + 4 * ((ps k).note.length : Int)) t = .int (wtV ps k : Nat) t := by
  unfold wtV
  rw [Int.natCast_add, Int.natCast_mul]
  rfl
theorem paired_at {α β : Type} {F : α → β → Prop} : ∀ {l : List α} {ys : List β}, Paired F l ys → ∀ (i : Nat) (a : α), l[i]? = some a → ∃ y, ys[i]? = some y ∧ F a y
  | _, _, .nil, i, a, h => by simp at h
  | _, _, .cons h r, 0, a, e => by
    simp at e; subst e
    exact ⟨_, rfl, h⟩
  | _, _, .cons h r, i + 1, a, e => by
    obtain ⟨y, h1, h2⟩ := paired_at r i a (by simpa using e)
    exact ⟨y, by simpa using h1, h2⟩
theorem wt_at {own : List (Addr × Obj)} {ps : Nat → Pl} {itp wv : Array Value} {H : Heap} (h3 : ∀ k, k < 5 → ∃ q t1 t2 t3 t4 t5 t7, itp[k]? = some (.ref q) ∧ (q, plO (ps k) t1 t2 t3 t4 t5 t7) ∈ own) (N : ∀ p ∈ own, H.get? p.1 = some p.2)
    (hw : Paired (fun v y => ∃ (k : Nat) (t : Tok), k < 5 ∧ itp[k]? = some v ∧ y = Value.int (wtV ps k : Nat) t) itp.toList wv.toList) (k : Nat) (hk : k < 5) : ∃ t, wv[k]? = some (.int (wtV ps k : Nat) t) := by
  obtain ⟨q, t1, t2, t3, t4, t5, t7, a, b⟩ := h3 k hk
  obtain ⟨y, h1, k', t, h5, h6, rfl⟩ := paired_at hw k (.ref q) (by rw [Array.getElem?_toList]; exact a)
  obtain ⟨q', u1, u2, u3, u4, u5, u7, a', b'⟩ := h3 k' h5
  have e := h6.symm.trans a'
  simp at e
  subst e
  have n1 := N _ b
  have n2 := N _ b'
  have e2 := n1.symm.trans n2
  obtain ⟨e3, e4⟩ := plO_eq (Option.some.inj e2)
  refine ⟨t, ?_⟩
  rw [Array.getElem?_toList] at h1
  rw [h1]
  unfold wtV
  rw [e3, e4]
theorem allLt_ne {d : Addr} : ∀ {l : List (Addr × Obj)}, AllLt d l → ∀ p ∈ l, p.1 ≠ d
  | [], _, p, h => nomatch h
  | q :: r, hl, p, h => by
    rcases List.mem_cons.mp h with rfl | h
    · exact Nat.ne_of_lt hl.1
    · exact allLt_ne hl.2 p h
theorem mulN {prog : Program} {w : World} {A : Around} {E : Value → Shared → Prop} {s : Shared} {a b : Nat} {t u : Tok} {Q : Value → Shared → Prop} (ha : a ≤ 1000000) (hb : b ≤ 1000000) (h : Q (.int ((a * b : Nat) : Int) s.toks) { s with toks := s.toks + 1 }) :
    wpAny (model prog w) A (binaryOp .Mult (.int (a : Int) t) (.int (b : Int) u)) Q E s := by
  rw [Int.natCast_mul] at h
  exact mul_int h
theorem wt_le {ps : Nat → Pl} {k : Nat} (h : (ps k).note.length ≤ 7) : wtV ps k ≤ 52 := by
  unfold wtV
  split <;> omega
theorem sum_le {W : Nat → Nat} {b : Nat} (h : ∀ x, x < 5 → W x ≤ b) : ∀ l : List Nat, (∀ x ∈ l, x < 5) → (l.map W).sum ≤ l.length * b
  | [], _ => Nat.zero_le _
  | c :: l, hl => by
    have h1 := sum_le h l fun x hx => hl x (List.mem_cons_of_mem _ hx)
    have h2 := h c (hl c (List.mem_cons_self ..))
    rw [List.map_cons, List.sum_cons, List.length_cons, Nat.succ_mul]
    omega
theorem br_le {W : Nat → Nat} {far : Nat → Nat → Nat} (h : ∀ x, x < 5 → W x ≤ 52) (t o : Nat) : brV W far t o ≤ 260 := by
  unfold brV
  have h1 := sum_le h ((List.range 5).filter fun x => decide (far o x < far t x)) fun x hx => List.mem_range.mp (List.mem_filter.mp hx).1
  have h2 : ((List.range 5).filter fun x => decide (far o x < far t x)).length ≤ 5 := List.length_filter_le _ _
  have h3 := Nat.mul_le_mul_right 52 h2
  omega
theorem hv_le {W : Nat → Nat} {far : Nat → Nat → Nat} (h : ∀ x, x < 5 → W x ≤ 52) (t : Nat) : ∀ n, hvV W far t n ≤ 260
  | 0 => Nat.zero_le _
  | n + 1 => by
    have h1 := hv_le (far := far) h t n
    have h2 := br_le (far := far) h t n
    unfold hvV
    split
    · omega
    · exact h1
theorem ints_snoc : ∀ {vs : List Value} {ns : List Int}, IntsAre vs ns → ∀ (n : Int) (t : Tok), IntsAre (vs ++ [.int n t]) (ns ++ [n])
  | _, _, .nil, n, t => .cons n t .nil
  | _, _, .cons a b h, n, t => .cons a b (ints_snoc h n t)
theorem even_take {ev : Nat → Bool} {i : Nat} (h : ev i = true) : ((List.range (i + 1)).filter ev).map (fun t => ((t : Nat) : Int)) = ((List.range i).filter ev).map (fun t => ((t : Nat) : Int)) ++ [(i : Int)] := by
  rw [List.range_succ, List.filter_append, List.filter_cons_of_pos h, List.map_append]; rfl
theorem even_skip {ev : Nat → Bool} {i : Nat} (h : ¬ ev i = true) : ((List.range (i + 1)).filter ev) = ((List.range i).filter ev) := by
  rw [List.range_succ, List.filter_append, List.filter_cons_of_neg h, List.filter_nil, List.append_nil]
theorem six (L : Nat) : (L + 1 : Nat) ≠ L + 1 + 1 ∧ (L + 1 : Nat) ≠ L + 1 + 1 + 1 ∧ (L + 1 : Nat) ≠ L + 1 + 1 + 1 + 1 ∧ (L + 1 : Nat) ≠ L + 1 + 1 + 1 + 1 + 1 ∧ (L + 1 : Nat) ≠ L + 1 + 1 + 1 + 1 + 1 + 1 ∧ (L + 1 + 1 : Nat) ≠ L + 1 ∧ (L + 1 + 1 : Nat) ≠ L + 1 + 1 + 1 ∧ (L + 1 + 1 : Nat) ≠ L + 1 + 1 + 1 + 1 ∧ (L + 1 + 1 : Nat) ≠ L + 1 + 1 + 1 + 1 + 1 ∧ (L + 1 + 1 : Nat) ≠ L + 1 + 1 + 1 + 1 + 1 + 1 ∧ (L + 1 + 1 + 1 : Nat) ≠ L + 1 ∧ (L + 1 + 1 + 1 : Nat) ≠ L + 1 + 1 ∧ (L + 1 + 1 + 1 : Nat) ≠ L + 1 + 1 + 1 + 1 ∧ (L + 1 + 1 + 1 : Nat) ≠ L + 1 + 1 + 1 + 1 + 1 ∧ (L + 1 + 1 + 1 : Nat) ≠ L + 1 + 1 + 1 + 1 + 1 + 1 ∧ (L + 1 + 1 + 1 + 1 : Nat) ≠ L + 1 ∧ (L + 1 + 1 + 1 + 1 : Nat) ≠ L + 1 + 1 ∧ (L + 1 + 1 + 1 + 1 : Nat) ≠ L + 1 + 1 + 1 ∧ (L + 1 + 1 + 1 + 1 : Nat) ≠ L + 1 + 1 + 1 + 1 + 1 ∧ (L + 1 + 1 + 1 + 1 : Nat) ≠ L + 1 + 1 + 1 + 1 + 1 + 1 ∧ (L + 1 + 1 + 1 + 1 + 1 : Nat) ≠ L + 1 ∧ (L + 1 + 1 + 1 + 1 + 1 : Nat) ≠ L + 1 + 1 ∧ (L + 1 + 1 + 1 + 1 + 1 : Nat) ≠ L + 1 + 1 + 1 ∧ (L + 1 + 1 + 1 + 1 + 1 : Nat) ≠ L + 1 + 1 + 1 + 1 ∧ (L + 1 + 1 + 1 + 1 + 1 : Nat) ≠ L + 1 + 1 + 1 + 1 + 1 + 1 ∧ (L + 1 + 1 + 1 + 1 + 1 + 1 : Nat) ≠ L + 1 ∧ (L + 1 + 1 + 1 + 1 + 1 + 1 : Nat) ≠ L + 1 + 1 ∧ (L + 1 + 1 + 1 + 1 + 1 + 1 : Nat) ≠ L + 1 + 1 + 1 ∧ (L + 1 + 1 + 1 + 1 + 1 + 1 : Nat) ≠ L + 1 + 1 + 1 + 1 ∧ (L + 1 + 1 + 1 + 1 + 1 + 1 : Nat) ≠ L + 1 + 1 + 1 + 1 + 1 := by
  refine ⟨?_, ?_, ?_, ?_, ?_, ?_, ?_, ?_, ?_, ?_, ?_, ?_, ?_, ?_, ?_, ?_, ?_, ?_, ?_, ?_, ?_, ?_, ?_, ?_, ?_, ?_, ?_, ?_, ?_, ?_⟩ <;> omega
end Mine
namespace Mine
open PySem PySem.W PyProof.Rows PyProof.V PySem.Spec PySem.Calls PySem.SeqAt
theorem canLay_strs : ∀ ns : List Str, (∀ n ∈ ns, PyData.strOk n = true) → PyData.canLayAll0 (ns.map PyData.str) = true
  | [], _ => by simp [PyData.canLayAll0]
  | n :: r, h => by simp [PyData.canLayAll0, PyData.canLay0, canLay_strs r fun x hx => h x (List.mem_cons_of_mem _ hx), h n (List.mem_cons_self ..)]
theorem depth_strs : ∀ ns : List Str, PyData.depthAll (ns.map PyData.str) ≤ 1
  | [] => by simp [PyData.depthAll]
  | n :: r => by
    have := depth_strs r
    simp only [List.map_cons, PyData.depthAll, PyData.depth]
    omega
theorem shaped_strs (ns : List Str) (hok : ∀ n ∈ ns, PyData.strOk n = true) : shaped (.list (ns.map PyData.str)) = true := by
  have h1 := depth_strs ns
  have h2 : PyData.depth (.list (ns.map PyData.str)) ≤ 64 := by simp only [PyData.depth]; omega
  show (PyData.canLay0 (.list (ns.map PyData.str)) && decide (PyData.depth (.list (ns.map PyData.str)) ≤ 64)) = true
  rw [Bool.and_eq_true]
  exact ⟨by simp only [PyData.canLay0]; exact canLay_strs ns hok, decide_eq_true h2⟩
theorem noMix_strs : ∀ ns ms : List Str, noMixAll (ns.map PyData.str) (ms.map PyData.str) = true
  | [], [] => by simp [noMixAll]
  | [], _ :: _ => by simp [noMixAll]
  | _ :: _, [] => by simp [noMixAll]
  | _ :: r, _ :: q => by simp [noMixAll, noMix, noMix_strs r q]
theorem same_strs : ∀ ns : List Str, PySem.Spec.sameAll (ns.map PyData.str) (ns.map PyData.str) = true
  | [] => by simp [PySem.Spec.sameAll]
  | n :: r => by simp only [List.map_cons, PySem.Spec.sameAll, PySem.Spec.same, same_strs r]; simp
theorem eq_strsL {prog : Program} {w : World} {A : Around} {E : Value → Shared → Prop} {s : Shared} {a b : Addr} {vs us : List Value} {ns : List Str} {Q : Value → Shared → Prop} (hl : s.heap.IsList a vs.toArray) (hi : StrsAre vs ns) (hl' : s.heap.IsList b us.toArray) (hi' : StrsAre us ns) (hok : ∀ n ∈ ns, PyData.strOk n = true) (hu : A.units + 64 < cLine)
    (h : Q (.bool true) s) : wpAny (model prog w) A (compareOp .Eq (.ref a) (.ref b)) Q E s := by
  obtain ⟨o, ho, hc, n, hd⟩ := hl
  obtain ⟨o', ho', hc', n', hd'⟩ := hl'
  exact eq_dataH_same (Reads.list ho hc hd (by simpa using strs_readAll s.heap hi)) (Reads.list ho' hc' hd' (by simpa using strs_readAll s.heap hi')) (shaped_strs ns hok) (shaped_strs ns hok) hu (by simp only [noMix]; exact noMix_strs ns ns) (by simp only [PySem.Spec.same]; rw [same_strs]; exact h)
theorem strs_pair {g : Nat → List Nat} : ∀ {l : List Nat} {ys : List Value}, Paired (fun i y => ∃ t, y = Value.str (S (g i)) t) l ys → StrsAre ys (l.map fun i => S (g i))
  | _, _, .nil => .nil
  | _, _, .cons ⟨t, e⟩ r => by subst e; exact .cons _ t (strs_pair r)
theorem strs_range {g : Nat → List Nat} {n : Nat} {ys : Array Value} (hs : ys.size = n) (h : ∀ (i : Nat) y, ys[i]? = some y → ∃ t, y = Value.str (S (g i)) t) : StrsAre ys.toList ((List.range n).map fun i => S (g i)) := by
  have := paired_idx (f := fun i y => ∃ t, y = Value.str (S (g i)) t) ys.toList 0 (fun i y e => by rw [Nat.zero_add]; exact h i y (by rw [← Array.getElem?_toList]; exact e))
  rw [Array.length_toList, hs, ← List.range_eq_range'] at this
  exact strs_pair this
theorem min_listE {prog : Program} {w : World} {A : Around} {E : Value → Shared → Prop} {s : Shared} {l : Addr} {vs : List Value} {ns : List Int} {Q : Value → Shared → Prop} (hh : A.handled = none)
    (hl : s.heap.IsList l vs.toArray) (hi : IntsAre vs ns) (hne : 0 < ns.length)
    (h : ∀ h' M (t : Tok) tk, InElt s.heap h' → M ∈ ns → (∀ a, a ∈ ns → M ≤ a) → Q (.int M t) { s with heap := h', toks := tk }) :
    wpAny (model prog w) A (call (.builtin "min") [.ref l]) Q E s := by
  obtain ⟨xs, e⟩ := hi.allInts.items
  have hns : ns = xs.toList.map (·.1) := by
    rw [← hi.numsOf, ← nums_intItems, ← e]
  have hsz : 0 < xs.size := by
    have h3 := hne; rw [hns, List.length_map, Array.length_toList] at h3; exact h3
  rw [e] at hl
  refine min_intList hh hl hsz fun v h' tk hv hk => ?_
  obtain ⟨t, rfl⟩ := intItems_at hv
  obtain ⟨h1, h2⟩ := argBest_lt (numAt xs) (xs.size - 1)
  refine h _ _ t tk hk ?_ fun a ha => ?_
  · rw [hns, numAt_eq]; exact getD_mem (by rw [List.length_map, Array.length_toList]; omega)
  · rw [hns] at ha
    obtain ⟨j, hj, rfl⟩ := mem_getD ha
    rw [List.length_map, Array.length_toList] at hj
    rw [← numAt_eq]; exact h2 j (by omega)
/-- the least of five -/
theorem min_is {f : Nat → Nat} {M : Int} (h1 : M ∈ ((List.range 5).map fun i => ((f i : Nat) : Int))) (h2 : ∀ a, a ∈ ((List.range 5).map fun i => ((f i : Nat) : Int)) → M ≤ a) : M = (minV f : Nat) := by
  obtain ⟨i, hi, rfl⟩ := List.mem_map.mp h1
  have ha : ∀ s, s < 5 → f i ≤ f s := fun s hs => Int.ofNat_le.mp (h2 _ (List.mem_map.mpr ⟨s, List.mem_range.mpr hs, rfl⟩))
  exact congrArg Nat.cast (Nat.le_antisymm (le_minV ha) (minV_le f i (List.mem_range.mp hi)))
theorem len_pair {W : Nat → Nat} {its ys : List Value} (h : Paired (fun v y => ∃ (k : Nat) (t : Tok), k < 5 ∧ its[k]? = some v ∧ y = Value.int (W k : Nat) t) its ys) (hl : its.length = 5) (hu : ∀ j k v, its[j]? = some v → its[k]? = some v → W j = W k) :
    IntsAre ys ((List.range 5).map fun i => ((W i : Nat) : Int)) := by
  have hy : ys.length = 5 := by rw [← h.length, hl]
  have := paired_idx (f := fun i y => ∃ t, y = Value.int ((W i : Nat) : Int) t) ys 0 (fun i y e => by
    rw [Nat.zero_add]
    have hi : i < its.length := by rw [hl, ← hy]; exact (List.getElem?_eq_some_iff.mp e).1
    obtain ⟨y', e1, k, t, h1, h2, h3⟩ := paired_at h i _ (List.getElem?_eq_getElem hi)
    have : y = y' := Option.some.inj (e.symm.trans e1)
    exact ⟨t, by rw [this, h3, hu i k _ (List.getElem?_eq_getElem hi) h2]⟩)
  rw [hy, ← List.range_eq_range'] at this
  exact ints_pair this
theorem Fr.assign {h₀ H h' : Heap} {L : Addr} {m m' : Str → Option Value} (F : Fr h₀ L H m) (hn : h'.Ns L m') (k : ∀ b o, b ≠ L → H.get? b = some o → h'.get? b = some o) : Fr h₀ L h' m' :=
  ⟨hn, fun b o e => k b o (fun q => Nat.lt_irrefl _ (Nat.lt_of_lt_of_le (Heap.lt_size (q ▸ e)) F.above)) (F.keep b o e), F.above⟩
theorem News.assign {h₀ H h' : Heap} {L : Addr} {news : List (Addr × Obj)} (N : News h₀ L H news) (k : ∀ b o, b ≠ L → H.get? b = some o → h'.get? b = some o) : News h₀ L h' news :=
  fun p hp => ⟨k _ _ (N p hp).2.1 (N p hp).1, (N p hp).2⟩
theorem News.madeA {h₀ H H' : Heap} {L D : Addr} {m : Str → Option Value} {news : List (Addr × Obj)} {o : Obj} (F : Fr h₀ L H m) (N : News h₀ L H news) (hD : H.get? D = none) (hg : H'.get? D = some o) (k : ∀ b o, b ≠ L → H.get? b = some o → H'.get? b = some o) : News h₀ L H' ((D, o) :: news) := by
  intro p hp
  rcases List.mem_cons.mp hp with rfl | hp
  · refine ⟨hg, ?_, ?_⟩
    · intro e
      obtain ⟨oL, _, _, hL, _⟩ := F.ns
      have e' : D = L := e
      rw [e'] at hD
      exact absurd (hL.symm.trans hD) (by simp)
    · cases q : h₀.get? D with
      | none => rfl
      | some o => exact absurd ((F.keep _ _ q).symm.trans hD) (by simp)
  · exact News.assign N k p hp
theorem beq_cast (a b : Nat) : (((a : Nat) : Int) == ((b : Nat) : Int)) = decide (a = b) := by
  by_cases h : a = b
  · subst h; simp
  · have h' : ¬ ((a : Int) = (b : Int)) := fun q => h (Int.ofNat.inj q)
    rw [decide_eq_false h]
    exact beq_false_of_ne h'
theorem sub_last {prog : Program} {w : World} {A : Around} {E : Value → Shared → Prop} {s : Shared} {l : Addr} {items : Array Value} {v : Value} {u : Tok} {value slice : Expr} {Q : Value → Shared → Prop}
    (hl : s.heap.IsList l items) (h0 : 0 < items.size) (hx : items[items.size - 1]? = some v) (h : Q v s)
    (hs : subscripted slice false (.ref l) (.int (-1) u) = operate [.ref l, .int (-1) u] (getItem (.ref l) (.int (-1) u)) := by with_unfolding_all rfl) :
    wpAny (model prog w) A (subscriptTail value slice (.ref l) (.int (-1) u)) Q E s := by
  refine tail_any hl.typeIs slot_list_getitem.lookup (wpAny_getItem_list_neg hl (by decide) (by omega) (by decide) ?_ h) hs
  have e : ((-1 : Int) + (items.size : Int)).toNat = items.size - 1 := by omega
  rw [e]; exact hx
theorem two_facts {ps : Nat → Pl} {far : Nat → Nat → Nat} (P : Plain ps far) : ∃ a b, ((List.range 5).filter (shB (lenV ps far)))[0]? = some a ∧ ((List.range 5).filter (shB (lenV ps far)))[((List.range 5).filter (shB (lenV ps far))).length - 1]? = some b ∧
    ((List.range 5).filter (shB (lenV ps far))).length ≤ 2 ∧ 0 < ((List.range 5).filter (shB (lenV ps far))).length ∧ far a b ≤ 1 ∧ a < 5 ∧ b < 5 := by
  obtain ⟨a, b, h⟩ := P.two
  have hm : ∀ x ∈ ((List.range 5).filter (shB (lenV ps far))), x < 5 := fun x hx => List.mem_range.mp (List.mem_filter.mp hx).1
  rcases h with ⟨h, hf⟩ | ⟨h, hf⟩
  · rw [h] at hm ⊢
    exact ⟨a, b, rfl, rfl, Nat.le_refl 2, Nat.succ_pos 1, hf, hm a (by simp), hm b (by simp)⟩
  · rw [h] at hm ⊢
    exact ⟨a, a, rfl, rfl, Nat.le_succ 1, Nat.succ_pos 0, hf, hm a (by simp), hm a (by simp)⟩
theorem comp_rangeA {prog : Program} {w : World} {A : Around} {env : Env} {s : Shared} {elt iter c : Expr} {x y : Str} {px py : Pos} {scope : Scope} {cl : List (Str × Addr)} {pos spos : Pos} {Q : Flow → Shared → Prop} {E : Value → Shared → Prop} (n : Nat) (pb : Nat → Bool) (f : Nat → Value → Prop)
    (hh : A.handled = none) (hsw : swapsWith (.ListComp elt [⟨.Name x px, iter, [c], 0⟩] scope pos) (some (.Name y py)) spos.line env = pure true) (hy : env.kindOf y = some .local) (hpk : (env.scope.kind == .class || (env.scope.kind == .module && env.locals != env.globals)) = false) (hclos : closureFor scope env = pure cl) (hcell : ∀ y ∈ scope.names, y.2 ≠ .cell) (hkind : scope.kind = .function)
    (hnames : ∀ y ∈ scope.names, y.2 = .local → scope.names.lookup y.1 = some .local) (hx : scope.names.lookup x = some .local) (hsz : n ≤ sizeLine)
    (h : wpAny (model prog w) A (eval iter env) (fun xv s₁ => ∃ r t u v m, xv = .ref r ∧ IsRange s₁.heap r 0 n 1 t u v ∧ Builtin.Range.small 0 n 1 = true ∧ Builtin.Range.rangeSize 0 n 1 = n ∧ s₁.heap.Ns env.locals m ∧
      (∀ C (i : Nat) t s₃ m₃ E', s₁.heap.objs.size < C → i < n → s₃.heap.Ns C m₃ → m₃ x = some (.int i t) → InElt s₁.heap s₃.heap → s₁.toks ≤ s₃.toks → wpAny (model prog w) A (isTrue c (compEnvC scope cl C env) (eval c (compEnvC scope cl C env))) (fun ok s₄ => ok = pb i ∧ Keeps s₃ s₄) E' s₃) ∧
      (∀ C (i : Nat) t s₃ m₃ E', s₁.heap.objs.size < C → i < n → s₃.heap.Ns C m₃ → m₃ x = some (.int i t) → InElt s₁.heap s₃.heap → s₁.toks ≤ s₃.toks → wpAny (model prog w) A (eval elt (compEnvC scope cl C env)) (fun y s₄ => f i y ∧ Keeps s₃ s₄) E' s₃) ∧
      (∀ D h' tk ys e, s₁.heap.get? D = none → h'.get? D = some (listOf ys e) → Paired (fun i y => f i y) ((List.range n).filter pb) ys.toList → h'.Ns env.locals (fun z => if z = y then some (.ref D) else m z) → (∀ b o, b ≠ env.locals → s₁.heap.get? b = some o → h'.get? b = some o) → Q .next { s₁ with heap := h', toks := tk })) E s)
    (hs : ∀ x, foldedSetIterable iter env x = pure x := by intro _; rfl) :
    wpAny (model prog w) A (exec (.Assign [.Name y py] (.ListComp elt [⟨.Name x px, iter, [c], 0⟩] scope pos) spos) env) Q E s := by
  refine wpAny_Assign_ListComp_free (fun v => match v with | .int i _ => pb i.toNat | _ => false) (fun v y => ∃ (i : Nat) (t : Tok), v = .int i t ∧ i < n ∧ f i y) hsw hclos hcell hkind hnames hx hy hpk (wpAny_mono h (fun xv s₁ h₁ => ?_) fun _ _ e => e) hs
  obtain ⟨r, t, u, v, m, rfl, hr, hsm, hrs, hns, htest, helt, hQ⟩ := h₁
  refine wpAny_pyIter_range hr hsm ?_
  rw [hrs]
  have up : InElt s₁.heap (s₁.heap.push { cls := .type "range_iterator", data := .fields #[rawInt 0, rawInt n, rawInt 1] }) := fun b o e => Heap.get?_push_of_some _ e
  have off : ∀ {b : Addr} {o : Obj}, s₁.heap.get? b = some o → b ∉ [s₁.heap.objs.size] := fun e q => by
    rw [List.mem_singleton.mp q] at e; exact absurd (Heap.lt_size e) (Nat.lt_irrefl _)
  have esz : (s₁.heap.push { cls := .type "range_iterator", data := .fields #[rawInt 0, rawInt n, rawInt 1] }).objs.size = s₁.heap.objs.size + 1 := Heap.size_push ..
  have W : Walks prog w A s₁.heap.objs.size [s₁.heap.objs.size] [s₁.heap.objs.size] n (fun i v => i < n ∧ ∃ t, v = .int (0 + i * 1) t)
      (fun i h => IsRangeIter h s₁.heap.objs.size (0 + (i : Nat) * 1) ((n : Int) - (i : Nat)) 1) := (Walks.range hh _ 0 1 n).bound
  have hL1 : env.locals ≠ s₁.heap.objs.size := by
    obtain ⟨o, _, _, ho, _⟩ := hns
    exact Nat.ne_of_lt (Heap.lt_size ho)
  refine ⟨s₁.heap.objs.size, _, _, n, _, _, m, rfl, W, hsz, by simpa using Heap.get?_push_size _ rfl, ?_, by simpa using hL1, hns.at' fun o e => up _ _ e, ⟨?_, ?_⟩, ?_⟩
  · intro b hb
    show b < (s₁.heap.push _).objs.size
    rw [esz, List.mem_singleton.mp hb]; exact Nat.lt_succ_self _
  · intro C i v s₃ m₃ E' hC hP hn hm hk htk
    have hC' : (s₁.heap.push { cls := .type "range_iterator", data := .fields #[rawInt 0, rawInt n, rawInt 1] }).objs.size ≤ C := hC
    obtain ⟨hi, t, rfl⟩ := hP
    rw [Int.mul_one, Int.zero_add] at hm
    rw [List.forIn_cons, if_pos rfl]
    refine wpAny_bind (wpAny_bind (wpAny_mono (htest C i t s₃ m₃ E' (by omega) hi hn hm (fun b o q => hk b o (off q) (up b o q)) htk) (fun ok s₄ h₄ => ?_) fun _ _ e => e))
    refine wpAny_pure ?_
    dsimp only
    rw [List.forIn_nil]
    refine wpAny_pure ⟨?_, h₄.2⟩
    rw [h₄.1, Int.mul_one, Int.zero_add]
    rfl
  · intro C i v s₃ m₃ E' hC hP _ hn hm hk htk
    have hC' : (s₁.heap.push { cls := .type "range_iterator", data := .fields #[rawInt 0, rawInt n, rawInt 1] }).objs.size ≤ C := hC
    obtain ⟨hi, t, rfl⟩ := hP
    rw [Int.mul_one, Int.zero_add] at hm
    refine wpAny_mono (helt C i t s₃ m₃ E' (by omega) hi hn hm (fun b o q => hk b o (off q) (up b o q)) htk) (fun y s₄ h₄ => ⟨⟨i, t, by rw [Int.mul_one, Int.zero_add], hi, h₄.1⟩, h₄.2⟩) fun _ _ e => e
  · intro D h' tk ys vs hD hlD hplD hlen hP hF hnD hk
    have key : ∀ (vs : List Value) (ys : List Value) (k : Nat), Paired (fun v y => ∃ (i : Nat) (t : Tok), v = .int i t ∧ i < n ∧ f i y) (vs.filter (fun v => match v with | .int i _ => pb i.toNat | _ => false)) ys → (∀ j v, vs[j]? = some v → ∃ t, v = Value.int ((k + j : Nat) : Int) t) →
        Paired (fun i y => f i y) ((List.range' k vs.length).filter pb) ys := by
      intro vs
      induction vs with
      | nil => intro ys k hp _; cases hp; exact .nil
      | cons v vs ih =>
        intro ys k hp hall
        obtain ⟨t, e⟩ := hall 0 _ rfl
        rw [Nat.add_zero] at e
        subst e
        have hall' : ∀ j v, vs[j]? = some v → ∃ t, v = Value.int ((k + 1 + j : Nat) : Int) t := fun j v q => by
          obtain ⟨t'', q''⟩ := hall (j + 1) v (by simpa using q)
          exact ⟨t'', by rw [q'', show k + (j + 1) = k + 1 + j by omega]⟩
        rw [List.length_cons, List.range'_succ]
        by_cases hb : pb k = true
        · rw [List.filter_cons_of_pos (by simpa using hb)] at hp
          rw [List.filter_cons_of_pos hb]
          cases hp with
          | cons hv hr =>
            obtain ⟨i, t', e, _, hf⟩ := hv
            have : i = k := Int.ofNat.inj (Value.int.inj e).1.symm
            subst this
            exact .cons hf (ih _ _ hr hall')
        · rw [List.filter_cons_of_neg (by simpa using hb)] at hp
          rw [List.filter_cons_of_neg hb]
          exact ih _ _ hp hall'
    have k1 := key vs ys.toList 0 hF fun j v q => by
      obtain ⟨_, t, q'⟩ := hP j v q
      exact ⟨t, by rw [q', Int.mul_one, Int.zero_add, Nat.zero_add]⟩
    rw [hlen, ← List.range_eq_range'] at k1
    obtain ⟨e, he⟩ := hplD
    refine hQ D h' tk ys e ?_ he k1 hnD fun b o hb q => hk b o hb (off q) (up b o q)
    cases q : s₁.heap.get? D with
    | none => rfl
    | some o =>
      have : (s₁.heap.push { cls := .type "range_iterator", data := .fields #[rawInt 0, rawInt n, rawInt 1] }).get? D = none := hD
      rw [up _ _ q] at this; cases this
end Mine
namespace Mine
open PySem PySem.W PyProof.Rows PySem.Spec PySem.Calls
/-- the writer, sign by sign -/
def e0 (c : Nat) : List Nat := if c = 38 then [38, 97, 109, 112, 59] else if c = 60 then [38, 108, 116, 59] else if c = 62 then [38, 103, 116, 59] else if c = 34 then [38, 113, 117, 111, 116, 59] else if c = 13 then [38, 35, 49, 51, 59] else if c = 10 then [38, 35, 49, 48, 59] else if c = 9 then [38, 35, 48, 57, 59] else [c]
def e1 (c : Nat) : List Nat := if c = 38 then [38, 97, 109, 112, 59] else if c = 60 then [38, 108, 116, 59] else if c = 34 then [38, 113, 117, 111, 116, 59] else if c = 9 then [38, 35, 120, 57, 59] else if c = 10 then [38, 35, 120, 65, 59] else if c = 13 then [38, 35, 120, 68, 59] else [c]
theorem rp_one {c k : Nat} {z : List Nat} (h : ¬ k = c) : rp c z [k] = [k] := by
  unfold rp
  rw [List.flatMap_cons, if_neg h, List.flatMap_nil]; rfl
theorem esc0_one (c : Nat) : esc0 [c] = e0 c := by
  unfold e0
  split
  · rename_i h; subst h; decide
  split
  · rename_i h; subst h; decide
  split
  · rename_i h; subst h; decide
  split
  · rename_i h; subst h; decide
  split
  · rename_i h; subst h; decide
  split
  · rename_i h; subst h; decide
  split
  · rename_i h; subst h; decide
  · rename_i h1 h2 h3 h4 h5 h6 h7
    unfold esc0
    rw [rp_one h1, rp_one h2, rp_one h3, rp_one h4, rp_one h5, rp_one h6, rp_one h7]
theorem esc1_one (c : Nat) : esc1 [c] = e1 c := by
  unfold e1
  split
  · rename_i h; subst h; decide
  split
  · rename_i h; subst h; decide
  split
  · rename_i h; subst h; decide
  split
  · rename_i h; subst h; decide
  split
  · rename_i h; subst h; decide
  split
  · rename_i h; subst h; decide
  · rename_i h1 h2 h3 h4 h5 h6
    unfold esc1
    rw [rp_one h1, rp_one h2, rp_one h3, rp_one h4, rp_one h5, rp_one h6]
theorem esc0_app (a b : List Nat) : esc0 (a ++ b) = esc0 a ++ esc0 b := by
  unfold esc0; simp only [rp_app]
theorem esc1_app (a b : List Nat) : esc1 (a ++ b) = esc1 a ++ esc1 b := by
  unfold esc1; simp only [rp_app]
theorem escW_app (w : Nat) (a b : List Nat) : escW w (a ++ b) = escW w a ++ escW w b := by
  cases w with
  | zero => exact esc0_app a b
  | succ n => exact esc1_app a b
def eW (w c : Nat) : List Nat := match w with | 0 => e0 c | _ => e1 c
theorem escW_eq (w : Nat) : ∀ l : List Nat, escW w l = l.flatMap (eW w)
  | [] => by cases w <;> rfl
  | c :: l => by
    have h := escW_app w [c] l
    rw [List.singleton_append, escW_eq w l] at h
    rw [h, List.flatMap_cons]
    congr 1
    cases w with
    | zero => exact esc0_one c
    | succ n => exact esc1_one c
/-- a sign that the writers let be -/
def calm (c : Nat) : Prop := c ≠ 38 ∧ c ≠ 60 ∧ c ≠ 62 ∧ c ≠ 34 ∧ c ≠ 13 ∧ c ≠ 10 ∧ c ≠ 9
theorem eW_calm (w : Nat) {c : Nat} (h : calm c) : eW w c = [c] := by
  obtain ⟨h1, h2, h3, h4, h5, h6, h7⟩ := h
  cases w with
  | zero => show e0 c = _; unfold e0; rw [if_neg h1, if_neg h2, if_neg h3, if_neg h4, if_neg h5, if_neg h6, if_neg h7]
  | succ n => show e1 c = _; unfold e1; rw [if_neg h1, if_neg h2, if_neg h4, if_neg h7, if_neg h6, if_neg h5]
/-- a sign of a page: calm, or & -/
def leaf (c : Nat) : Prop := 32 ≤ c ∧ c < 127 ∧ c ≠ 60 ∧ c ≠ 62 ∧ c ≠ 34
theorem eW_leaf (w : Nat) {c : Nat} (h : leaf c) : eW w c = if c = 38 then [38, 97, 109, 112, 59] else [c] := by
  obtain ⟨h0, _, h2, h3, h4⟩ := h
  by_cases h1 : c = 38
  · subst h1
    rw [if_pos rfl]
    cases w <;> rfl
  · rw [if_neg h1]
    exact eW_calm w ⟨h1, h2, h3, h4, by omega, by omega, by omega⟩
theorem esc_calm (w : Nat) {l : List Nat} (h : ∀ c ∈ l, calm c) : escW w l = l := by
  rw [escW_eq]
  induction l with
  | nil => rfl
  | cons c l ih => rw [List.flatMap_cons, eW_calm w (h c (List.mem_cons_self ..)), ih fun c hc => h c (List.mem_cons_of_mem _ hc)]; rfl
/-- one amp; more at each & -/
def amp (l : List Nat) : List Nat := rp 38 [38, 97, 109, 112, 59] l
theorem amp_app (a b : List Nat) : amp (a ++ b) = amp a ++ amp b := rp_app _ _ _ _
theorem esc_leaf (w : Nat) {l : List Nat} (h : ∀ c ∈ l, leaf c) : escW w l = amp l := by
  rw [escW_eq]
  unfold amp rp
  induction l with
  | nil => rfl
  | cons c l ih => rw [List.flatMap_cons, List.flatMap_cons, eW_leaf w (h c (List.mem_cons_self ..)), ih fun c hc => h c (List.mem_cons_of_mem _ hc)]
theorem amp_free {l : List Nat} (h : 38 ∉ l) : amp l = l := rp_free _ _ _ h
theorem amp_mk (d : Nat) : amp (mkV d) = mkV (d + 1) := by
  unfold mkV
  have : 38 ∉ (List.replicate d [97, 109, 112, 59]).flatten := by
    intro h
    obtain ⟨l, hl, hc⟩ := List.mem_flatten.mp h
    rw [List.eq_of_mem_replicate hl] at hc
    exact absurd hc (by decide)
  rw [show (38 :: (List.replicate d [97, 109, 112, 59]).flatten) = [38] ++ (List.replicate d [97, 109, 112, 59]).flatten from rfl, amp_app, amp_free this, List.replicate_succ, List.flatten_cons]
  rfl
end Mine
namespace Mine
open PySem PySem.W PyProof.Rows PySem.Spec PySem.Calls
/-- a sign of a name or a link -/
def nm (c : Nat) : Prop := calm c ∧ leaf c
theorem nm46 : nm 46 := ⟨⟨by decide, by decide, by decide, by decide, by decide, by decide, by decide⟩, by decide, by decide, by decide, by decide, by decide⟩
structure Good (p : Pl) : Prop where
  name : ∀ c ∈ p.name, nm c
  name0 : p.name ≠ []
  name3 : p.name.length ≤ 3
  link : ∀ c ∈ p.link, nm c
  link0 : p.link ≠ []
  link4 : p.link.length ≤ 4
  note : ∀ c ∈ p.note, c = 38 ∨ c = 60 ∨ c = 34 ∨ c = 9 ∨ (c = 62 ∧ p.wr = 0)
  note7 : p.note.length ≤ 7
  wr : p.wr < 2
  en : p.en < 3
theorem good_of {ps : Nat → Pl} {k : Nat} (hk : k < 5) (h : NiceK ps k) : Good (ps k) := by
  obtain ⟨⟨d, c, hd, hc, hn⟩, h7, hnote, ⟨d', hd', hl⟩, hw, he, _, _⟩ := h
  have hc' : nm c := by
    have h1 : 65 ≤ c ∧ c ≤ 101 := by omega
    exact ⟨⟨by omega, by omega, by omega, by omega, by omega, by omega, by omega⟩, by omega, by omega, by omega, by omega, by omega⟩
  have hrep : ∀ {d x}, x ∈ List.replicate d 46 → nm x := fun {d x} hx => by rw [List.eq_of_mem_replicate hx]; exact nm46
  refine ⟨fun x hx => ?_, by rw [hn]; simp, by rw [hn]; simp; omega, fun x hx => ?_, by rw [hl]; simp, by rw [hl]; simp; omega, hnote, h7, hw, he⟩
  · rw [hn] at hx
    rcases List.mem_append.mp hx with hx | hx
    · exact hrep hx
    · rw [List.mem_singleton.mp hx]; exact hc'
  · rw [hl] at hx
    rcases List.mem_append.mp hx with hx | hx
    · exact hrep hx
    · simp at hx
      rcases hx with rfl | rfl
      · exact ⟨⟨by decide, by decide, by decide, by decide, by decide, by decide, by decide⟩, by decide, by decide, by decide, by decide, by decide⟩
      · exact ⟨⟨by decide, by decide, by decide, by decide, by decide, by decide, by decide⟩, by decide, by decide, by decide, by decide, by decide⟩
theorem dot_mem {s : Bool} {l : List Nat} (h : ∀ c ∈ l, nm c) : ∀ c ∈ dotV s l, nm c := by
  intro c hc
  unfold dotV at hc
  split at hc
  · rcases List.mem_cons.mp hc with rfl | hc
    · exact nm46
    · exact h c hc
  · exact h c hc
theorem dot_app {s : Bool} {l r : List Nat} (h : l ≠ []) : dotV s (l ++ r) = dotV s l ++ r := by
  cases l with
  | nil => exact absurd rfl h
  | cons c l =>
    unfold dotV
    show (if s = true ∧ some c = some 46 then 46 :: (c :: l ++ r) else c :: l ++ r) = (if s = true ∧ some c = some 46 then 46 :: c :: l else c :: l) ++ r
    split <;> rfl
theorem mk_mem {d : Nat} : ∀ c ∈ mkV d, leaf c := by
  intro c hc
  unfold mkV at hc
  rcases List.mem_cons.mp hc with rfl | hc
  · exact ⟨by decide, by decide, by decide, by decide, by decide⟩
  · obtain ⟨l, hl, hc⟩ := List.mem_flatten.mp hc
    rw [List.eq_of_mem_replicate hl] at hc
    simp at hc
    rcases hc with rfl | rfl | rfl | rfl <;> exact ⟨by decide, by decide, by decide, by decide, by decide⟩
def lfB (c : Nat) : Bool := decide (32 ≤ c) && decide (c < 127) && decide (c ≠ 60) && decide (c ≠ 62) && decide (c ≠ 34)
theorem lf_of {c : Nat} (h : lfB c = true) : leaf c := by
  unfold lfB at h
  simp only [Bool.and_eq_true, decide_eq_true_eq] at h
  exact ⟨h.1.1.1.1, h.1.1.1.2, h.1.1.2, h.1.2, h.2⟩
theorem all_lf {l : List Nat} (h : l.all lfB = true) : ∀ c ∈ l, leaf c := fun c hc => lf_of (List.all_eq_true.mp h c hc)
theorem mem_app {P : Nat → Prop} {a b : List Nat} (ha : ∀ c ∈ a, P c) (hb : ∀ c ∈ b, P c) : ∀ c ∈ a ++ b, P c := fun c hc => (List.mem_append.mp hc).elim (ha c) (hb c)
theorem cr_lf (w : Nat) : ∀ c ∈ crV w, leaf c := by cases w with | zero => exact all_lf (by decide) | succ n => exact all_lf (by show ([35, 120, 68, 59] : List Nat).all lfB = true; decide)
theorem nl_lf (w : Nat) : ∀ c ∈ nlV w, leaf c := by cases w with | zero => exact all_lf (by decide) | succ n => exact all_lf (by show ([35, 120, 65, 59] : List Nat).all lfB = true; decide)
theorem tb_lf (w : Nat) : ∀ c ∈ tbV w, leaf c := by cases w with | zero => exact all_lf (by decide) | succ n => exact all_lf (by show ([35, 120, 57, 59] : List Nat).all lfB = true; decide)
theorem sg_lf (d w k : Nat) : ∀ c ∈ sgV d w k, leaf c := by
  unfold sgV
  split
  · exact mem_app mk_mem (all_lf (by decide))
  split
  · exact mem_app mk_mem (all_lf (by decide))
  split
  · exact mem_app mk_mem (all_lf (by decide))
  split
  · exact mem_app mk_mem (tb_lf w)
  · exact mem_app mk_mem (all_lf (by decide))
theorem cl_lf (d w : Nat) (s : Bool) (e : Nat) : ∀ c ∈ clV d w s e, leaf c := by
  unfold clV
  split
  · exact mem_app (mem_app mk_mem (cr_lf w)) (mem_app mk_mem (nl_lf w))
  split
  · exact mem_app mk_mem (cr_lf w)
  · exact mem_app mk_mem (nl_lf w)
theorem no38 {l : List Nat} (h : l.all (fun c => decide (c ≠ 38)) = true) : amp l = l := amp_free fun q => by
  have := List.all_eq_true.mp h 38 q
  simp at this
theorem cr_amp (w : Nat) : amp (crV w) = crV w := by cases w with | zero => exact no38 (by decide) | succ n => exact no38 (by show ([35, 120, 68, 59] : List Nat).all _ = true; decide)
theorem nl_amp (w : Nat) : amp (nlV w) = nlV w := by cases w with | zero => exact no38 (by decide) | succ n => exact no38 (by show ([35, 120, 65, 59] : List Nat).all _ = true; decide)
theorem tb_amp (w : Nat) : amp (tbV w) = tbV w := by cases w with | zero => exact no38 (by decide) | succ n => exact no38 (by show ([35, 120, 57, 59] : List Nat).all _ = true; decide)
theorem sg_amp (d w k : Nat) : amp (sgV d w k) = sgV (d + 1) w k := by
  unfold sgV
  split
  · rw [amp_app, amp_mk, no38 (by decide)]
  split
  · rw [amp_app, amp_mk, no38 (by decide)]
  split
  · rw [amp_app, amp_mk, no38 (by decide)]
  split
  · rw [amp_app, amp_mk, tb_amp]
  · rw [amp_app, amp_mk, no38 (by decide)]
theorem cl_amp (d w : Nat) (s : Bool) (e : Nat) : amp (clV d w s e) = clV (d + 1) w s e := by
  unfold clV
  split
  · simp only [amp_app, amp_mk, cr_amp, nl_amp]
  split
  · rw [amp_app, amp_mk, cr_amp]
  · rw [amp_app, amp_mk, nl_amp]
theorem amp_flat (g : Nat → List Nat) : ∀ l : List Nat, amp (l.flatMap g) = l.flatMap fun c => amp (g c)
  | [] => rfl
  | c :: l => by rw [List.flatMap_cons, amp_app, amp_flat g l, List.flatMap_cons]
theorem nm_amp {l : List Nat} (h : ∀ c ∈ l, nm c) : amp l = l := amp_free fun q => (h 38 q).1.1 rfl
theorem flat_lf {g : Nat → List Nat} (h : ∀ k, ∀ c ∈ g k, leaf c) {l : List Nat} : ∀ c ∈ l.flatMap g, leaf c := fun c hc => by
  obtain ⟨k, _, hc⟩ := List.mem_flatMap.mp hc
  exact h k c hc
theorem flatMap_eq {g h : Nat → List Nat} : ∀ {l : List Nat}, (∀ o ∈ l, g o = h o) → l.flatMap g = l.flatMap h
  | [], _ => rfl
  | c :: l, e => by rw [List.flatMap_cons, List.flatMap_cons, e c (List.mem_cons_self ..), flatMap_eq fun o ho => e o (List.mem_cons_of_mem _ ho)]
/-- the tree from a place, as deep as the fuel -/
def Tr (far : Nat → Nat → Nat) : Nat → Nat → Int → Prop
  | 0, _, _ => False
  | f + 1, p, a => p < 5 ∧ ∀ o, o < 5 → far p o = 1 → (o : Int) ≠ a → Tr far f o p
section
variable {ps : Nat → Pl} {far : Nat → Nat → Nat} (hg : ∀ k, k < 5 → Good (ps k))
include hg
theorem told_lf : ∀ f p a d, Tr far f p a → ∀ c ∈ toldV ps far f p a d, leaf c
  | 0, _, _, _, h => h.elim
  | f + 1, p, a, d, h => by
    obtain ⟨hp, hk⟩ := h
    have g := hg p hp
    show ∀ c ∈ headV (ps p) d ++ limbs ps far (fun o q => toldV ps far f o q (d + 1)) p a (clV d (ps p).wr (ps p).sent (ps p).en) 5 ++ clV d (ps p).wr (ps p).sent (ps p).en, leaf c
    refine mem_app (mem_app ?_ ?_) (cl_lf _ _ _ _)
    · exact mem_app (fun c hc => (dot_mem g.name c hc).2) (mem_app (mem_app (all_lf (by decide)) (flat_lf fun k => sg_lf _ _ _)) (cl_lf _ _ _ _))
    · intro c hc
      unfold limbs at hc
      obtain ⟨o, ho, hc⟩ := List.mem_flatMap.mp hc
      have ho5 := List.mem_range.mp ho
      split at hc
      · rename_i hq
        have gm := hg (max p o) (by omega)
        exact mem_app (fun c hc => (dot_mem gm.link c hc).2) (mem_app (mem_app (all_lf (by decide)) (told_lf f o p (d + 1) (hk o ho5 hq.1 hq.2))) (cl_lf _ _ _ _)) c hc
      · cases hc
theorem told_amp : ∀ f p a d, Tr far f p a → amp (toldV ps far f p a d) = toldV ps far f p a (d + 1)
  | 0, _, _, _, h => h.elim
  | f + 1, p, a, d, h => by
    obtain ⟨hp, hk⟩ := h
    have g := hg p hp
    show amp (headV (ps p) d ++ limbs ps far (fun o q => toldV ps far f o q (d + 1)) p a (clV d (ps p).wr (ps p).sent (ps p).en) 5 ++ clV d (ps p).wr (ps p).sent (ps p).en) = headV (ps p) (d + 1) ++ limbs ps far (fun o q => toldV ps far f o q (d + 1 + 1)) p a (clV (d + 1) (ps p).wr (ps p).sent (ps p).en) 5 ++ clV (d + 1) (ps p).wr (ps p).sent (ps p).en
    rw [amp_app, amp_app, cl_amp]
    congr 1
    congr 1
    · unfold headV
      rw [amp_app, amp_app, amp_app, cl_amp, nm_amp (dot_mem g.name), amp_flat, no38 (l := [58, 32]) (by decide)]
      simp only [sg_amp]
    · unfold limbs
      rw [amp_flat]
      refine flatMap_eq fun o ho => ?_
      have ho5 := List.mem_range.mp ho
      split
      · rename_i hq
        have gm := hg (max p o) (by omega)
        rw [amp_app, amp_app, amp_app, cl_amp, nm_amp (dot_mem gm.link), told_amp f o p (d + 1) (hk o ho5 hq.1 hq.2), no38 (l := [58, 32]) (by decide)]
      · rfl
end
end Mine
namespace Mine
open PySem PySem.W PyProof.Rows PySem.Spec PySem.Calls
theorem flatMap_eq' {α : Type} {g h : α → List Nat} : ∀ {l : List α}, (∀ o ∈ l, g o = h o) → l.flatMap g = l.flatMap h
  | [], _ => rfl
  | c :: l, e => by rw [List.flatMap_cons, List.flatMap_cons, e c (List.mem_cons_self ..), flatMap_eq' fun o ho => e o (List.mem_cons_of_mem _ ho)]
theorem esc_note {p : Pl} (g : Good p) : escW p.wr p.note = p.note.flatMap (sgV 0 p.wr) := by
  rw [escW_eq]
  refine flatMap_eq fun c hc => ?_
  have h := g.note c hc
  have hw := g.wr
  generalize p.wr = w at h hw
  match w, hw with
  | 0, _ => rcases h with h | h | h | h | h <;> (first | (rw [h]; decide) | (rw [h.1]; decide))
  | 1, _ => rcases h with h | h | h | h | h <;> (first | (rw [h]; decide) | exact absurd h.2 (by decide))
theorem esc_fin {w en : Nat} (hw : w < 2) (he : en < 3) (s : Bool) : escW w (fin s en) = clV 0 w s en := by
  match w, hw, en, he, s with
  | 0, _, 0, _, true => decide
  | 0, _, 1, _, true => decide
  | 0, _, 2, _, true => decide
  | 1, _, 0, _, true => decide
  | 1, _, 1, _, true => decide
  | 1, _, 2, _, true => decide
  | 0, _, 0, _, false => decide
  | 0, _, 1, _, false => decide
  | 0, _, 2, _, false => decide
  | 1, _, 0, _, false => decide
  | 1, _, 1, _, false => decide
  | 1, _, 2, _, false => decide
theorem esc_lns (w : Nat) (z : List Nat) : ∀ L : List (List Nat), escW w (lns z L) = lns (escW w z) (L.map (escW w))
  | [] => by
    show escW w ([] ++ z) = [] ++ escW w z
    rw [List.nil_append, List.nil_append]
  | l :: L => by rw [lns_cons, escW_app, escW_app, esc_lns w z L, List.map_cons, lns_cons]
theorem esc_line {w : Nat} {s : Bool} {n v : List Nat} (h : ∀ c ∈ n, nm c) (h0 : n ≠ []) : escW w (dotV s (lineOf (n, v))) = dotV s n ++ ([58, 32] ++ escW w v) := by
  have e : lineOf (n, v) = n ++ ([58, 32] ++ v) := by show n ++ [58, 32] ++ v = _; rw [List.append_assoc]
  rw [e, dot_app h0, escW_app, escW_app, esc_calm w (fun c hc => (dot_mem h c hc).1)]
  congr 2
  exact esc_calm w (fun c hc => by simp at hc; rcases hc with rfl | rfl <;> exact ⟨by decide, by decide, by decide, by decide, by decide, by decide, by decide⟩)
theorem lns_flat (z : List Nat) (L : List (List Nat)) : lns z L = L.flatMap (fun l => l ++ z) ++ z := rfl
theorem ln_of_leaf {c : Nat} (h : leaf c) : ln c := ⟨by have := h.1; omega, by have := h.1; omega⟩
section
variable {ps : Nat → Pl} {far : Nat → Nat → Nat} (hg : ∀ k, k < 5 → Good (ps k))
include hg
theorem page_told : ∀ f p a, Tr far f p a → pageV ps far f p a = toldV ps far f p a 0
  | 0, _, _, h => h.elim
  | f + 1, p, a, h => by
    have hT := h
    obtain ⟨hp, hk⟩ := h
    have g := hg p hp
    have hrec : ∀ o, o < 5 → far p o = 1 → (o : Int) ≠ a → pageV ps far f o p = toldV ps far f o p 0 := fun o h1 h2 h3 => page_told f o p (hk o h1 h2 h3)
    show escW (ps p).wr (endsV (ps p).sent (ps p).en (headText (((ps p).name, (ps p).note) :: kids ps far (fun o q => pageV ps far f o q) p a 5))) = headV (ps p) 0 ++ limbs ps far (fun o q => toldV ps far f o q (0 + 1)) p a (clV 0 (ps p).wr (ps p).sent (ps p).en) 5 ++ clV 0 (ps p).wr (ps p).sent (ps p).en
    have hmem : ∀ x ∈ kids ps far (fun o q => pageV ps far f o q) p a 5, ∃ o, o < 5 ∧ far p o = 1 ∧ (o : Int) ≠ a ∧ x = ((ps (max p o)).link, pageV ps far f o p) := by
      intro x hx
      unfold kids at hx
      obtain ⟨o, ho, hx⟩ := List.mem_flatMap.mp hx
      split at hx
      · rename_i hq
        exact ⟨o, List.mem_range.mp ho, hq.1, hq.2, List.mem_singleton.mp hx⟩
      · cases hx
    have hln : ∀ x ∈ ((ps p).name, (ps p).note) :: kids ps far (fun o q => pageV ps far f o q) p a 5, ∀ c ∈ lineOf x, ln c := by
      intro x hx
      rcases List.mem_cons.mp hx with rfl | hx
      · refine mem_app (mem_app (fun c hc => ln_of_leaf (g.name c hc).2) (fun c hc => ?_)) (fun c hc => ?_)
        · simp at hc; rcases hc with rfl | rfl <;> exact ⟨by decide, by decide⟩
        · rcases g.note c hc with h | h | h | h | h
          · rw [h]; exact ⟨by decide, by decide⟩
          · rw [h]; exact ⟨by decide, by decide⟩
          · rw [h]; exact ⟨by decide, by decide⟩
          · rw [h]; exact ⟨by decide, by decide⟩
          · rw [h.1]; exact ⟨by decide, by decide⟩
      · obtain ⟨o, ho, h1, h2, rfl⟩ := hmem x hx
        have gm := hg (max p o) (by omega)
        refine mem_app (mem_app (fun c hc => ln_of_leaf (gm.link c hc).2) (fun c hc => ?_)) (fun c hc => ?_)
        · simp at hc; rcases hc with rfl | rfl <;> exact ⟨by decide, by decide⟩
        · have hc' : c ∈ pageV ps far f o p := hc
          rw [hrec o ho h1 h2] at hc'
          exact ln_of_leaf (told_lf hg f o p 0 (hk o ho h1 h2) c hc')
    rw [ends_lns _ g.en _ (by simp) hln, esc_lns, esc_fin g.wr g.en, lns_flat]
    congr 1
    rw [List.map_map, List.map_cons, List.flatMap_cons]
    congr 1
    · show escW (ps p).wr (dotV (ps p).sent (lineOf ((ps p).name, (ps p).note))) ++ _ = headV (ps p) 0
      rw [esc_line g.name g.name0, esc_note g]
      unfold headV
      simp only [List.append_assoc]
    · rw [List.flatMap_map]
      unfold kids limbs
      rw [List.flatMap_assoc]
      refine flatMap_eq fun o ho => ?_
      have ho5 := List.mem_range.mp ho
      split
      · rename_i hq
        have gm := hg (max p o) (by omega)
        rw [List.flatMap_cons, List.flatMap_nil, List.append_nil]
        show escW (ps p).wr (dotV (ps p).sent (lineOf ((ps (max p o)).link, pageV ps far f o p))) ++ _ = _
        rw [esc_line gm.link gm.link0, hrec o ho5 hq.1 hq.2, esc_leaf _ (told_lf hg f o p 0 (hk o ho5 hq.1 hq.2)), told_amp hg f o p 0 (hk o ho5 hq.1 hq.2)]
        simp only [List.append_assoc]
      · rfl
end
end Mine
namespace Mine
open PySem PySem.W PyProof.Rows PySem.Spec PySem.Calls
def vis (far : Nat → Nat → Nat) : Nat → Nat → Int → Nat → List (Nat × Nat)
  | 0, _, _, _ => []
  | f + 1, p, a, d => (p, d) :: (List.range 5).flatMap fun o => if far p o = 1 ∧ (o : Int) ≠ a then vis far f o p (d + 1) else []
def edg (far : Nat → Nat → Nat) : Nat → Nat → Int → Nat → List (Nat × Nat)
  | 0, _, _, _ => []
  | f + 1, p, a, d => (List.range 5).flatMap fun o => if far p o = 1 ∧ (o : Int) ≠ a then (max p o, d) :: edg far f o p (d + 1) else []
theorem sum_flat {α : Type} (h : α → Nat) (g : Nat → List α) : ∀ l : List Nat, ((l.flatMap g).map h).sum = (l.map fun o => ((g o).map h).sum).sum
  | [] => rfl
  | c :: l => by rw [List.flatMap_cons, List.map_append, List.sum_append, sum_flat h g l, List.map_cons, List.sum_cons]
theorem sum_add (g h : Nat → Nat) : ∀ l : List Nat, (l.map fun o => g o + h o).sum = (l.map g).sum + (l.map h).sum
  | [] => rfl
  | c :: l => by
    have := sum_add g h l
    simp only [List.map_cons, List.sum_cons, this]; omega
theorem sum_eq {g h : Nat → Nat} : ∀ {l : List Nat}, (∀ o ∈ l, g o = h o) → (l.map g).sum = (l.map h).sum
  | [], _ => rfl
  | c :: l, e => by rw [List.map_cons, List.map_cons, List.sum_cons, List.sum_cons, e c (List.mem_cons_self ..), sum_eq fun o ho => e o (List.mem_cons_of_mem _ ho)]
theorem sum_le' {g h : Nat → Nat} : ∀ {l : List Nat}, (∀ o ∈ l, g o ≤ h o) → (l.map g).sum ≤ (l.map h).sum
  | [], _ => Nat.le_refl _
  | c :: l, e => by
    have h1 := e c (List.mem_cons_self ..)
    have h2 := sum_le' (l := l) fun o ho => e o (List.mem_cons_of_mem _ ho)
    rw [List.map_cons, List.map_cons, List.sum_cons, List.sum_cons]; omega
theorem sum_mul (g : Nat → Nat) (b : Nat) : ∀ l : List Nat, (l.map g).sum * b = (l.map fun o => g o * b).sum
  | [] => Nat.zero_mul _
  | c :: l => by rw [List.map_cons, List.sum_cons, Nat.add_mul, sum_mul g b l, List.map_cons, List.sum_cons]
theorem mk_length (d : Nat) : (mkV d).length = 1 + 4 * d := by
  unfold mkV
  rw [List.length_cons, List.length_flatten]
  simp; omega
theorem cr_length (w : Nat) : (crV w).length = 4 := by cases w <;> rfl
theorem nl_length (w : Nat) : (nlV w).length = 4 := by cases w <;> rfl
theorem tb_length (w : Nat) : (tbV w).length = 4 := by cases w <;> rfl
theorem sg_length (d w c : Nat) : (sgV d w c).length = (sgV 0 w c).length + 4 * d := by
  unfold sgV
  split
  · simp only [List.length_append, mk_length]; omega
  split
  · simp only [List.length_append, mk_length]; omega
  split
  · simp only [List.length_append, mk_length]; omega
  split
  · simp only [List.length_append, mk_length]; omega
  · simp only [List.length_append, mk_length]; omega
theorem sg0_le (w c : Nat) : (sgV 0 w c).length ≤ 6 := by
  have := tb_length w
  unfold sgV
  split
  · decide
  split
  · decide
  split
  · decide
  split
  · simp only [List.length_append, mk_length, this]; decide
  · decide
def c0 (s : Bool) : Nat := if s then 10 else 5
def kp (s : Bool) : Nat := if s then 8 else 4
theorem cl_length (d w : Nat) (s : Bool) (e : Nat) : (clV d w s e).length = c0 s + kp s * d := by
  unfold clV c0 kp
  split
  · simp only [List.length_append, mk_length, cr_length, nl_length]; omega
  split
  · simp only [List.length_append, mk_length, cr_length]; omega
  · simp only [List.length_append, mk_length, nl_length]; omega
theorem note_length (d w : Nat) : ∀ l : List Nat, (l.flatMap (sgV d w)).length = (l.flatMap (sgV 0 w)).length + 4 * d * l.length
  | [] => rfl
  | c :: l => by
    rw [List.flatMap_cons, List.flatMap_cons, List.length_append, List.length_append, note_length d w l, sg_length, List.length_cons, Nat.mul_succ]
    omega
theorem note0_le (w : Nat) : ∀ l : List Nat, (l.flatMap (sgV 0 w)).length ≤ 6 * l.length
  | [] => Nat.le_refl _
  | c :: l => by
    have h1 := note0_le w l
    have h2 := sg0_le w c
    rw [List.flatMap_cons, List.length_append, List.length_cons]; omega
def nB (ps : Nat → Pl) (x : Nat) : Nat := (dotV (ps x).sent (ps x).name).length + 2 + ((ps x).note.flatMap (sgV 0 (ps x).wr)).length + 2 * c0 (ps x).sent
def lB (ps : Nat → Pl) (s : Bool) (m : Nat) : Nat := (dotV s (ps m).link).length + 2 + c0 s
def al (ps : Nat → Pl) (v : Nat × Nat) : Nat := nB ps v.1 + (4 * (ps v.1).note.length + 2 * kp (ps v.1).sent) * v.2
def be (ps : Nat → Pl) (s : Bool) (v : Nat × Nat) : Nat := lB ps s v.1 + kp s * v.2
theorem told_len {ps : Nat → Pl} {far : Nat → Nat → Nat} {s : Bool} (hs : ∀ k, k < 5 → (ps k).sent = s) : ∀ f p a d, Tr far f p a →
    (toldV ps far f p a d).length = ((vis far f p a d).map (al ps)).sum + ((edg far f p a d).map (be ps s)).sum
  | 0, _, _, _, h => h.elim
  | f + 1, p, a, d, h => by
    obtain ⟨hp, hk⟩ := h
    show (headV (ps p) d ++ limbs ps far (fun o q => toldV ps far f o q (d + 1)) p a (clV d (ps p).wr (ps p).sent (ps p).en) 5 ++ clV d (ps p).wr (ps p).sent (ps p).en).length = _
    unfold vis edg
    rw [List.map_cons, List.sum_cons, sum_flat, sum_flat, Nat.add_assoc, ← sum_add]
    rw [List.length_append, List.length_append, cl_length]
    have e1 : (limbs ps far (fun o q => toldV ps far f o q (d + 1)) p a (clV d (ps p).wr (ps p).sent (ps p).en) 5).length = ((List.range 5).map fun o => ((if far p o = 1 ∧ (o : Int) ≠ a then vis far f o p (d + 1) else []).map (al ps)).sum + ((if far p o = 1 ∧ (o : Int) ≠ a then (max p o, d) :: edg far f o p (d + 1) else []).map (be ps s)).sum).sum := by
      unfold limbs
      rw [List.length_flatMap]
      refine sum_eq fun o ho => ?_
      have ho5 := List.mem_range.mp ho
      split
      · rename_i hq
        have ih := told_len hs f o p (d + 1) (hk o ho5 hq.1 hq.2)
        rw [List.length_append, List.length_append, List.length_append, ih, cl_length, List.map_cons, List.sum_cons]
        unfold be lB
        rw [hs p hp]
        simp only [List.length_cons, List.length_nil]
        omega
      · rfl
    rw [e1]
    have e2 : (headV (ps p) d).length = (dotV (ps p).sent (ps p).name).length + (2 + (((ps p).note.flatMap (sgV 0 (ps p).wr)).length + 4 * d * (ps p).note.length) + (c0 (ps p).sent + kp (ps p).sent * d)) := by
      unfold headV
      rw [List.length_append, List.length_append, List.length_append, note_length, cl_length]; rfl
    rw [e2]
    unfold al nB
    show _ = (dotV (ps p).sent (ps p).name).length + 2 + ((ps p).note.flatMap (sgV 0 (ps p).wr)).length + 2 * c0 (ps p).sent + (4 * (ps p).note.length + 2 * kp (ps p).sent) * d + _
    have e3 : (4 * (ps p).note.length + 2 * kp (ps p).sent) * d = 4 * d * (ps p).note.length + 2 * (kp (ps p).sent * d) := by
      rw [Nat.add_mul, Nat.mul_assoc, Nat.mul_assoc, Nat.mul_comm (ps p).note.length d, ← Nat.mul_assoc]
    rw [e3]
    omega
def nvis (far : Nat → Nat → Nat) : Nat → Nat → Int → Nat
  | 0, _, _ => 0
  | f + 1, p, a => 1 + ((List.range 5).map fun o => if far p o = 1 ∧ (o : Int) ≠ a then nvis far f o p else 0).sum
theorem dot_le1 (s : Bool) (l : List Nat) : (dotV s l).length ≤ l.length + 1 := by
  unfold dotV
  split
  · simp
  · omega
theorem told_le {ps : Nat → Pl} {far : Nat → Nat → Nat} (hg : ∀ k, k < 5 → Good (ps k)) : ∀ f p a d, Tr far f p a → d + f ≤ 12 → (toldV ps far f p a d).length + 120 ≤ nvis far f p a * 1000
  | 0, _, _, _, h, _ => h.elim
  | f + 1, p, a, d, h, hd => by
    obtain ⟨hp, hk⟩ := h
    have g := hg p hp
    show (headV (ps p) d ++ limbs ps far (fun o q => toldV ps far f o q (d + 1)) p a (clV d (ps p).wr (ps p).sent (ps p).en) 5 ++ clV d (ps p).wr (ps p).sent (ps p).en).length + 120 ≤ (1 + ((List.range 5).map fun o => if far p o = 1 ∧ (o : Int) ≠ a then nvis far f o p else 0).sum) * 1000
    have hcl : ∀ w s e, (clV d w s e).length ≤ 106 := fun w s e => by
      rw [cl_length]; unfold c0 kp; split <;> omega
    have hn : ((ps p).note.flatMap (sgV d (ps p).wr)).length ≤ 42 + 4 * 12 * 7 := by
      rw [note_length]
      have h1 := note0_le (ps p).wr (ps p).note
      have h7 := g.note7
      have h2 : 4 * d * (ps p).note.length ≤ 4 * 12 * 7 := Nat.mul_le_mul (by omega) h7
      omega
    have e2 : (headV (ps p) d).length ≤ 4 + (2 + 378 + 106) := by
      unfold headV
      rw [List.length_append, List.length_append, List.length_append]
      have h1 := dot_le1 (ps p).sent (ps p).name
      have h2 := g.name3
      have h3 := hcl (ps p).wr (ps p).sent (ps p).en
      simp only [List.length_cons, List.length_nil]
      omega
    have e1 : (limbs ps far (fun o q => toldV ps far f o q (d + 1)) p a (clV d (ps p).wr (ps p).sent (ps p).en) 5).length ≤ ((List.range 5).map fun o => if far p o = 1 ∧ (o : Int) ≠ a then nvis far f o p else 0).sum * 1000 := by
      unfold limbs
      rw [List.length_flatMap, sum_mul]
      refine sum_le' fun o ho => ?_
      have ho5 := List.mem_range.mp ho
      split
      · rename_i hq
        have ih := told_le hg f o p (d + 1) (hk o ho5 hq.1 hq.2) (by omega)
        have gm := hg (max p o) (by omega)
        have h1 := dot_le1 (ps p).sent (ps (max p o)).link
        have h2 := gm.link4
        have h3 := hcl (ps p).wr (ps p).sent (ps p).en
        rw [List.length_append, List.length_append, List.length_append]
        simp only [List.length_cons, List.length_nil]
        omega
      · exact Nat.zero_le _
    have h3 := hcl (ps p).wr (ps p).sent (ps p).en
    rw [List.length_append, List.length_append, Nat.add_mul]
    omega
end Mine
namespace Mine
open PySem PySem.W PyProof.Rows PySem.Spec PySem.Calls
def mk4 (b2 b3 b4 : Nat) : Nat → Nat := fun k => match k with | 0 => 0 | 1 => 0 | 2 => b2 | 3 => b3 | _ => b4
abbrev fr (b2 b3 b4 : Nat) : Nat → Nat → Nat := outF (mk4 b2 b3 b4) 4
theorem innF_congr {a b : Nat → Nat} {F G : Nat → Nat → Nat} {k : Nat} (h : a k = b k) (e : F = G) : ∀ n, innF a F k n = innF b G k n
  | 0 => e
  | n + 1 => by
    show stepF a (innF a F k n) k n = stepF b (innF b G k n) k n
    rw [innF_congr h e n]
    unfold stepF
    rw [h]
theorem outF_congr {a b : Nat → Nat} : ∀ n, (∀ k, 1 ≤ k → k ≤ n → a k = b k) → outF a n = outF b n
  | 0, _ => rfl
  | n + 1, h => innF_congr (h (n + 1) (by omega) (Nat.le_refl _)) (outF_congr n fun k h1 h2 => h k h1 (by omega)) (n + 1)
theorem out4 {ab : Nat → Nat} (h : ab 1 = 0) : outF ab 4 = fr (ab 2) (ab 3) (ab 4) := outF_congr 4 fun k h1 h2 => by
  match k, h1, h2 with
  | 1, _, _ => exact h
  | 2, _, _ => rfl
  | 3, _, _ => rfl
  | 4, _, _ => rfl
/-- the least weight sum is where no branch weighs more than half -/
def Med (W : Nat → Nat) (F : Nat → Nat → Nat) : Prop := (∀ t, t < 5 → (2 * hvV W F t 5 ≤ totV W ↔ ∀ s, s < 5 → disV W F t ≤ disV W F s)) ∧ (∀ t s, t < 5 → s < 5 → (∀ u, u < 5 → disV W F t ≤ disV W F u) → (∀ u, u < 5 → disV W F s ≤ disV W F u) → F t s ≤ 1)
structure FOk (F : Nat → Nat → Nat) : Prop where
  br : ∀ t, t < 5 → ∀ o, o < 5 → F t o = 1 → ∀ x, x < 5 → F o x + 2 * (if F o x < F t x then 1 else 0) = F t x + 1
  cv : ∀ a, a < 5 → ∀ b, b < 5 → F a b = 1 → ∀ c, c < 5 → F b c = 1 → a ≠ c → ∀ x, x < 5 → 2 * F b x + (if x = b then 2 else 0) ≤ F a x + F c x
  pd : ∀ t, t < 5 → ∀ s, s < 5 → t ≠ s → ∃ p, p < 5 ∧ F p s = 1 ∧ F t p + 1 = F t s
  zz : ∀ t, t < 5 → F t t = 0
  le : ∀ t, t < 5 → ∀ x, x < 5 → F t x ≤ 4
theorem sum_two (W g : Nat → Nat) : ∀ l : List Nat, (l.map fun x => W x * (2 * g x)).sum = 2 * (l.map fun x => W x * g x).sum
  | [] => rfl
  | c :: l => by
    have h := sum_two W g l
    have e : W c * (2 * g c) = 2 * (W c * g c) := Nat.mul_left_comm _ _ _
    rw [List.map_cons, List.sum_cons, h, List.map_cons, List.sum_cons, e]; omega
theorem sum_ind (W : Nat → Nat) (p : Nat → Bool) : ∀ l : List Nat, ((l.filter p).map W).sum = (l.map fun x => W x * (if p x = true then 1 else 0)).sum
  | [] => rfl
  | c :: l => by
    rw [List.map_cons, List.sum_cons, ← sum_ind W p l]
    by_cases h : p c = true
    · rw [List.filter_cons_of_pos h, List.map_cons, List.sum_cons, if_pos h, Nat.mul_one]
    · rw [List.filter_cons_of_neg h, if_neg h, Nat.mul_zero, Nat.zero_add]
theorem sum_at (W : Nat → Nat) {b : Nat} (hb : b < 5) : ((List.range 5).map fun x => W x * (if x = b then 2 else 0)).sum = 2 * W b := by
  show W 0 * (if 0 = b then 2 else 0) + (W 1 * (if 1 = b then 2 else 0) + (W 2 * (if 2 = b then 2 else 0) + (W 3 * (if 3 = b then 2 else 0) + (W 4 * (if 4 = b then 2 else 0) + 0)))) = _
  match b, hb with
  | 0, _ => simp; omega
  | 1, _ => simp; omega
  | 2, _ => simp; omega
  | 3, _ => simp; omega
  | 4, _ => simp; omega
section
variable {W : Nat → Nat} {F : Nat → Nat → Nat} (H : FOk F)
include H
theorem near {t o : Nat} (ht : t < 5) (ho : o < 5) (h : F t o = 1) : disV W F o + 2 * brV W F t o = disV W F t + totV W := by
  have e1 : brV W F t o = ((List.range 5).map fun x => W x * (if F o x < F t x then 1 else 0)).sum := by
    unfold brV
    rw [sum_ind]
    refine sum_eq fun x _ => ?_
    simp only [decide_eq_true_eq]
  have e2 : totV W = ((List.range 5).map fun x => W x * 1).sum := sum_eq fun x _ => (Nat.mul_one _).symm
  rw [e1, e2, ← sum_two]
  unfold disV
  rw [← sum_add, ← sum_add]
  refine sum_eq fun x hx => ?_
  rw [← Nat.mul_add, ← Nat.mul_add, H.br t ht o ho h x (List.mem_range.mp hx)]
theorem conv {a b c : Nat} (ha : a < 5) (hb : b < 5) (hc : c < 5) (h1 : F a b = 1) (h2 : F b c = 1) (hn : a ≠ c) : 2 * disV W F b + 2 * W b ≤ disV W F a + disV W F c := by
  have e := sum_at W hb
  unfold disV
  rw [← e, ← sum_two, ← sum_add, ← sum_add]
  refine sum_le' fun x hx => ?_
  rw [← Nat.mul_add, ← Nat.mul_add]
  exact Nat.mul_le_mul_left _ (H.cv a ha b hb h1 c hc h2 hn x (List.mem_range.mp hx))
theorem local_min (hW : ∀ x, x < 5 → 1 ≤ W x) {t : Nat} (ht : t < 5) (hl : ∀ o, o < 5 → F t o = 1 → disV W F t ≤ disV W F o) : ∀ m s, s < 5 → F t s = m + 1 → ∃ p, p < 5 ∧ F p s = 1 ∧ F t p = m ∧ disV W F p ≤ disV W F s ∧ (1 ≤ m → disV W F p < disV W F s)
  | 0, s, hs, h => by
    have hts : t ≠ s := fun q => by
      rw [q, H.zz s hs] at h; cases h
    obtain ⟨p, hp, h1, h2⟩ := H.pd t ht s hs hts
    have hpt : p = t := by
      refine Classical.byContradiction fun q => ?_
      obtain ⟨q', hq', h3, h4⟩ := H.pd t ht p hp (fun e => q e.symm)
      omega
    subst hpt
    exact ⟨p, hp, h1, H.zz p hp, hl s hs h, fun q => absurd q (by decide)⟩
  | m + 1, s, hs, h => by
    have hts : t ≠ s := fun q => by
      rw [q, H.zz s hs] at h; cases h
    obtain ⟨p, hp, h1, h2⟩ := H.pd t ht s hs hts
    have hp1 : F t p = m + 1 := by omega
    obtain ⟨q, hq, h3, h4, h5, _⟩ := local_min hW ht hl m p hp hp1
    have hqs : q ≠ s := fun e => by rw [e, h] at h4; omega
    have hc := conv (W := W) H hq hp hs h3 h1 hqs
    have hw := hW p hp
    exact ⟨p, hp, h1, hp1, by omega, fun _ => by omega⟩
theorem to_all (hW : ∀ x, x < 5 → 1 ≤ W x) {t : Nat} (ht : t < 5) (hl : ∀ o, o < 5 → F t o = 1 → disV W F t ≤ disV W F o) : ∀ m s, s < 5 → F t s = m → disV W F t ≤ disV W F s ∧ (2 ≤ m → disV W F t < disV W F s)
  | 0, s, hs, h => by
    by_cases hts : t = s
    · subst hts; exact ⟨Nat.le_refl _, fun q => absurd q (by decide)⟩
    · obtain ⟨p, _, _, h2⟩ := H.pd t ht s hs hts
      omega
  | m + 1, s, hs, h => by
    obtain ⟨p, hp, _, h2, h3, h4⟩ := local_min H hW ht hl m s hs h
    have ih := (to_all hW ht hl m p hp h2).1
    exact ⟨Nat.le_trans ih h3, fun q => Nat.lt_of_le_of_lt ih (h4 (by omega))⟩
omit H in
theorem hv_iff {t m : Nat} (ht : t < 5) : ∀ n, n ≤ 5 → (2 * hvV W F t n ≤ m ↔ ∀ o, o < n → F t o = 1 → 2 * brV W F t o ≤ m)
  | 0, _ => ⟨fun _ o ho => absurd ho (Nat.not_lt_zero _), fun _ => Nat.zero_le _⟩
  | n + 1, hn => by
    have ih := hv_iff (t := t) (m := m) ht n (by omega)
    unfold hvV
    constructor
    · intro h o ho h1
      rcases Nat.lt_succ_iff_lt_or_eq.mp ho with h2 | rfl
      · refine ih.mp ?_ o h2 h1
        split at h <;> omega
      · rw [if_pos h1] at h; omega
    · intro h
      have h0 := ih.mpr fun o ho h1 => h o (by omega) h1
      split
      · rename_i h1
        have := h n (Nat.lt_succ_self _) h1
        omega
      · exact h0
theorem med_of (hW : ∀ x, x < 5 → 1 ≤ W x) : Med W F := by
  refine ⟨fun t ht => ?_, fun t s ht hs h1 h2 => ?_⟩
  · rw [hv_iff ht 5 (Nat.le_refl _)]
    constructor
    · intro h s hs
      refine (to_all H hW ht (fun o ho h1 => ?_) _ s hs rfl).1
      have e := near (W := W) H ht ho h1
      have := h o ho h1
      omega
    · intro h o ho h1
      have e := near (W := W) H ht ho h1
      have := h o ho
      omega
  · refine Classical.byContradiction fun q => ?_
    have h3 := (to_all H hW ht (fun o ho _ => h1 o ho) _ s hs rfl).2 (by omega)
    have := h2 t ht
    omega
end
def ckBr (F : Nat → Nat → Nat) : Bool := (List.range 5).all fun t => (List.range 5).all fun o => !(F t o == 1) || (List.range 5).all fun x => F o x + 2 * (if F o x < F t x then 1 else 0) == F t x + 1
def ckCv (F : Nat → Nat → Nat) : Bool := (List.range 5).all fun a => (List.range 5).all fun b => !(F a b == 1) || (List.range 5).all fun c => !(F b c == 1) || (a == c) || (List.range 5).all fun x => decide (2 * F b x + (if x = b then 2 else 0) ≤ F a x + F c x)
def ckPd (F : Nat → Nat → Nat) : Bool := (List.range 5).all fun t => (List.range 5).all fun s => (t == s) || (List.range 5).any fun p => (F p s == 1) && (F t p + 1 == F t s)
def ckLe (F : Nat → Nat → Nat) : Bool := (List.range 5).all fun t => (F t t == 0) && (List.range 5).all fun x => decide (F t x ≤ 4)
def trees : List (Nat × Nat × Nat) := (List.range 2).flatMap fun a => (List.range 3).flatMap fun b => (List.range 4).map fun c => (a, b, c)
theorem trees_mem {a b c : Nat} (h2 : a < 2) (h3 : b < 3) (h4 : c < 4) : (a, b, c) ∈ trees := List.mem_flatMap.mpr ⟨a, List.mem_range.mpr h2, List.mem_flatMap.mpr ⟨b, List.mem_range.mpr h3, List.mem_map.mpr ⟨c, List.mem_range.mpr h4, rfl⟩⟩⟩
theorem all5 {p : Nat → Bool} (h : (List.range 5).all p = true) {x : Nat} (hx : x < 5) : p x = true := List.all_eq_true.mp h x (List.mem_range.mpr hx)
theorem fok_all : trees.all (fun v => ckBr (fr v.1 v.2.1 v.2.2) && ckCv (fr v.1 v.2.1 v.2.2) && ckPd (fr v.1 v.2.1 v.2.2) && ckLe (fr v.1 v.2.1 v.2.2)) = true := by decide +kernel
theorem fok {b2 b3 b4 : Nat} (h2 : b2 < 2) (h3 : b3 < 3) (h4 : b4 < 4) : FOk (fr b2 b3 b4) := by
  have h := List.all_eq_true.mp fok_all _ (trees_mem h2 h3 h4)
  simp only [Bool.and_eq_true] at h
  obtain ⟨⟨⟨k1, k2⟩, k3⟩, k4⟩ := h
  refine ⟨fun t ht o ho h1 x hx => ?_, fun a ha b hb h1 c hc h2 hn x hx => ?_, fun t ht s hs hn => ?_, fun t ht => ?_, fun t ht x hx => ?_⟩
  · have e := all5 (all5 k1 ht) ho
    rw [h1] at e
    have e2 : ∀ x, x < 5 → fr b2 b3 b4 o x + 2 * (if fr b2 b3 b4 o x < fr b2 b3 b4 t x then 1 else 0) = fr b2 b3 b4 t x + 1 := by simpa using e
    exact e2 x hx
  · have e := all5 (all5 k2 ha) hb
    rw [h1] at e
    have e2 : ∀ c, c < 5 → (¬ fr b2 b3 b4 b c = 1 ∨ a = c) ∨ ∀ x, x < 5 → 2 * fr b2 b3 b4 b x + (if x = b then 2 else 0) ≤ fr b2 b3 b4 a x + fr b2 b3 b4 c x := by simpa using e
    rcases e2 c hc with (q | q) | q
    · exact absurd h2 q
    · exact absurd q hn
    · exact q x hx
  · have e := all5 (all5 k3 ht) hs
    rw [show (t == s) = false from by simpa using hn] at e
    simpa using e
  · have e := all5 k4 ht
    rw [Bool.and_eq_true] at e
    exact eq_of_beq e.1
  · have e := all5 k4 ht
    rw [Bool.and_eq_true] at e
    exact of_decide_eq_true (all5 e.2 hx)
end Mine
namespace Mine
open PySem PySem.W PyProof.Rows PySem.Spec PySem.Calls
def okT (far : Nat → Nat → Nat) : Nat → Nat → Int → Bool
  | 0, _, _ => false
  | f + 1, p, a => decide (p < 5) && decide (nvis far (f + 1) p a ≤ 5) && (List.range 5).all fun o => !(decide (far p o = 1 ∧ (o : Int) ≠ a)) || okT far f o p
theorem okT_parts {far : Nat → Nat → Nat} {f p : Nat} {a : Int} (h : okT far (f + 1) p a = true) : p < 5 ∧ nvis far (f + 1) p a ≤ 5 ∧ ∀ o, o < 5 → far p o = 1 → (o : Int) ≠ a → okT far f o p = true := by
  unfold okT at h
  rw [Bool.and_eq_true, Bool.and_eq_true] at h
  obtain ⟨⟨h1, h2⟩, h3⟩ := h
  refine ⟨of_decide_eq_true h1, of_decide_eq_true h2, fun o ho q1 q2 => ?_⟩
  have h4 := all5 h3 ho
  rw [decide_eq_true (show far p o = 1 ∧ (o : Int) ≠ a from ⟨q1, q2⟩)] at h4
  simpa using h4
theorem okT_tr {far : Nat → Nat → Nat} : ∀ f p a, okT far f p a = true → Tr far f p a
  | 0, _, _, h => by cases h
  | f + 1, p, a, h => ⟨(okT_parts h).1, fun o h1 h2 h3 => okT_tr f o p ((okT_parts h).2.2 o h1 h2 h3)⟩
theorem rc_len {z : List Nat} (hz : z.length ≤ 2) : ∀ l : List Nat, (rc z l).length ≤ l.length
  | [] => Nat.le_refl _
  | [c] => Nat.le_refl _
  | c :: d :: r => by
    have h1 := rc_len hz r
    have h2 := rc_len hz (d :: r)
    rw [rc]
    split
    · rw [List.length_append, List.length_cons, List.length_cons]; omega
    · rw [List.length_cons, List.length_cons]; omega
section
variable {ps : Nat → Pl} {far : Nat → Nat → Nat} (hg : ∀ k, k < 5 → Good (ps k))
include hg
theorem td_ok : ∀ f p a d, okT far f p a = true → d + f ≤ 12 → TdOk ps far f p a d
  | 0, _, _, _, h, _ => by cases h
  | f + 1, p, a, d, h, hd => by
    obtain ⟨h1, _, h3⟩ := okT_parts h
    refine ⟨h1, by omega, fun o ho q1 q2 => ?_⟩
    have hk := h3 o ho q1 q2
    refine ⟨td_ok f o p (d + 1) hk (by omega), ?_⟩
    have hl := told_le (d := d + 1) hg f o p (okT_tr f o p hk) (by omega)
    have hn : nvis far f o p ≤ 5 := by
      cases f with
      | zero => cases hk
      | succ f => exact (okT_parts hk).2.1
    omega
theorem page_len : ∀ f p a, okT far f p a = true → f ≤ 12 → (pageV ps far f p a).length ≤ 5000
  | 0, _, _, h, _ => by cases h
  | f + 1, p, a, h, hf => by
    rw [page_told hg (f + 1) p a (okT_tr _ _ _ h)]
    have hl := told_le (d := 0) hg (f + 1) p a (okT_tr _ _ _ h) (by omega)
    have hn := (okT_parts h).2.1
    omega
theorem head_le {f p : Nat} {a : Int} (h : okT far (f + 1) p a = true) (hf : f + 1 ≤ 12) : (headText (((ps p).name, (ps p).note) :: kids ps far (fun o q => pageV ps far f o q) p a 5)).length ≤ 100000 := by
  obtain ⟨hp, _, h3⟩ := okT_parts h
  have g := hg p hp
  have hk : ((kids ps far (fun o q => pageV ps far f o q) p a 5).flatMap (fun h => lineOf h ++ [13, 10])).length ≤ 5 * 10000 := by
    unfold kids
    rw [List.flatMap_assoc, List.length_flatMap]
    have e : ((List.range 5).map fun _ => 10000).sum = 5 * 10000 := rfl
    rw [← e]
    refine sum_le' fun o ho => ?_
    have ho5 := List.mem_range.mp ho
    split
    · rename_i hq
      have gm := hg (max p o) (by omega)
      have hl := page_len hg f o p (h3 o ho5 hq.1 hq.2) (by omega)
      have h4 := gm.link4
      rw [List.flatMap_cons, List.flatMap_nil, List.append_nil]
      unfold lineOf
      simp only [List.length_append, List.length_cons, List.length_nil]
      omega
    · exact Nat.zero_le _
  have h5 := g.name3
  have h6 := g.note7
  unfold headText
  rw [List.flatMap_cons, List.length_append, List.length_append]
  have h7 : (lineOf ((ps p).name, (ps p).note) ++ [13, 10]).length ≤ 14 := by
    unfold lineOf
    simp only [List.length_append, List.length_cons, List.length_nil]
    omega
  simp only [List.length_cons, List.length_nil]
  omega
theorem pg_ok : ∀ f p a, okT far f p a = true → f ≤ 12 → PgOk ps far f p a
  | 0, _, _, h, _ => by cases h
  | f + 1, p, a, h, hf => by
    obtain ⟨hp, _, h3⟩ := okT_parts h
    refine ⟨hp, fun o ho q1 q2 => ?_, head_le hg h hf, fun z hz => ?_, Nat.le_trans (page_len hg (f + 1) p a h hf) (by decide)⟩
    · have hk := h3 o ho q1 q2
      refine ⟨pg_ok f o p hk (by omega), fun c hc => ?_, Nat.le_trans (page_len hg f o p hk (by omega)) (by decide)⟩
      rw [page_told hg f o p (okT_tr _ _ _ hk)] at hc
      have := told_lf hg f o p 0 (okT_tr _ _ _ hk) c hc
      exact .inr ⟨this.1, this.2.1⟩
    · rw [replCR_eq]
      exact Nat.le_trans (rc_len hz _) (Nat.le_trans (head_le hg h hf) (by decide))
theorem st_ok : StOk ps := fun k hk => by
  have g := hg k hk
  have hn : ∀ c, nm c → okN c := fun c h => ⟨h.2.1, h.2.2.1⟩
  refine ⟨fun c hc => hn c (g.name c hc), Nat.le_trans g.name3 (by decide), fun c hc => ?_, Nat.le_trans g.note7 (by decide), fun c hc => hn c (g.link c hc), Nat.le_trans g.link4 (by decide), g.en, g.wr⟩
  rcases g.note c hc with h | h | h | h | h
  · rw [h]; exact .inr ⟨by decide, by decide⟩
  · rw [h]; exact .inr ⟨by decide, by decide⟩
  · rw [h]; exact .inr ⟨by decide, by decide⟩
  · rw [h]; exact .inl rfl
  · rw [h.1]; exact .inr ⟨by decide, by decide⟩
theorem st_T : StT ps := fun k hk => by
  have g := hg k hk
  refine ⟨g.name0, Nat.le_trans g.name3 (by decide), fun c hc => ?_, Nat.le_trans g.note7 (by decide), g.link0, Nat.le_trans g.link4 (by decide), g.en, g.wr⟩
  rcases g.note c hc with h | h | h | h | h
  · exact .inl h
  · exact .inr (.inl h)
  · exact .inr (.inr (.inl h))
  · exact .inr (.inr (.inr (.inl h)))
  · exact .inr (.inr (.inr (.inr h.1)))
end
end Mine
namespace Mine
open PySem PySem.W PyProof.Rows PySem.Spec PySem.Calls
def rowL (F : Nat → Nat → Nat) (t : Nat) : List (Nat × Nat) := (List.range 5).map fun x => (x, F t x)
def ckV (F : Nat → Nat → Nat) : Bool := (List.range 5).all fun t => (vis F 6 t (-1) 0).isPerm (rowL F t) && ((edg F 6 t (-1) 0).map (·.1)).isPerm [1, 2, 3, 4] && (((edg F 6 t (-1) 0).map (·.2)).sum + 4 == ((List.range 5).map (F t)).sum) && okT F 6 t (-1)
theorem ckV_all : trees.all (fun v => ckV (fr v.1 v.2.1 v.2.2)) = true := by decide +kernel
/-- which of five are chosen -/
def pick (m : List Bool) (t : Nat) : Bool := m.getD t false
def vects : Nat → List (List Bool)
  | 0 => [[]]
  | n + 1 => (vects n).flatMap fun m => [true :: m, false :: m]
theorem vects_mem : ∀ m : List Bool, m ∈ vects m.length
  | [] => .head _
  | b :: m => by
    refine List.mem_flatMap.mpr ⟨m, vects_mem m, ?_⟩
    cases b
    · exact .tail _ (.head _)
    · exact .head _
def twoB (F : Nat → Nat → Nat) (l : List Nat) : Bool := match l with
  | [a, b] => decide (F a b ≤ 1)
  | [a] => decide (F a a ≤ 1)
  | _ => false
def pairB (F : Nat → Nat → Nat) (m : List Bool) : Bool := ((List.range 5).any (pick m)) && (List.range 5).all fun t => (List.range 5).all fun s => !(pick m t) || !(pick m s) || decide (F t s ≤ 1)
def ckTwo (F : Nat → Nat → Nat) : Bool := (vects 5).all fun m => !(pairB F m) || twoB F ((List.range 5).filter (pick m))
theorem ckTwo_all : trees.all (fun v => ckTwo (fr v.1 v.2.1 v.2.2)) = true := by decide +kernel
theorem two_of {F : Nat → Nat → Nat} (h : ckTwo F = true) {sh : Nat → Bool} (hex : ∃ t, t < 5 ∧ sh t = true) (hp : ∀ t s, t < 5 → s < 5 → sh t = true → sh s = true → F t s ≤ 1) :
    ∃ a b, ((List.range 5).filter sh) = [a, b] ∧ F a b ≤ 1 ∨ ((List.range 5).filter sh) = [a] ∧ F a a ≤ 1 := by
  have hpk : ∀ t, t < 5 → pick [sh 0, sh 1, sh 2, sh 3, sh 4] t = sh t := fun t ht => by
    match t, ht with
    | 0, _ => rfl
    | 1, _ => rfl
    | 2, _ => rfl
    | 3, _ => rfl
    | 4, _ => rfl
  have hm := List.all_eq_true.mp h _ (vects_mem [sh 0, sh 1, sh 2, sh 3, sh 4])
  have hpb : pairB F [sh 0, sh 1, sh 2, sh 3, sh 4] = true := by
    unfold pairB
    rw [Bool.and_eq_true]
    constructor
    · obtain ⟨t, ht, e⟩ := hex
      exact List.any_eq_true.mpr ⟨t, List.mem_range.mpr ht, by rw [hpk t ht]; exact e⟩
    · refine List.all_eq_true.mpr fun t ht => List.all_eq_true.mpr fun s hs => ?_
      have ht := List.mem_range.mp ht
      have hs := List.mem_range.mp hs
      rw [hpk t ht, hpk s hs]
      cases e1 : sh t
      · rfl
      · cases e2 : sh s
        · rfl
        · exact decide_eq_true (hp t s ht hs e1 e2)
  rw [hpb] at hm
  have hm : twoB F ((List.range 5).filter (pick [sh 0, sh 1, sh 2, sh 3, sh 4])) = true := by simpa using hm
  rw [List.filter_congr fun x hx => hpk x (List.mem_range.mp hx)] at hm
  generalize (List.range 5).filter sh = l at hm ⊢
  match l, hm with
  | [a, b], hm => exact ⟨a, b, .inl ⟨rfl, of_decide_eq_true hm⟩⟩
  | [a], hm => exact ⟨a, a, .inr ⟨rfl, of_decide_eq_true hm⟩⟩
theorem perm_sum {l l' : List Nat} (h : l.Perm l') : l.sum = l'.sum := by
  induction h with
  | nil => rfl
  | cons x _ ih => rw [List.sum_cons, List.sum_cons, ih]
  | swap x y l => simp only [List.sum_cons]; omega
  | trans _ _ h1 h2 => exact h1.trans h2
theorem sum_addP {α : Type} (g h : α → Nat) : ∀ l : List α, (l.map fun o => g o + h o).sum = (l.map g).sum + (l.map h).sum
  | [] => rfl
  | c :: l => by
    have := sum_addP g h l
    simp only [List.map_cons, List.sum_cons, this]; omega
theorem sum_mulP {α : Type} (b : Nat) (g : α → Nat) : ∀ l : List α, (l.map fun o => b * g o).sum = b * (l.map g).sum
  | [] => rfl
  | c :: l => by rw [List.map_cons, List.sum_cons, sum_mulP b g l, List.map_cons, List.sum_cons, Nat.mul_add]
theorem min_two (a b : Nat) : min a b = a ∨ min a b = b := (Nat.le_total a b).imp Nat.min_eq_left Nat.min_eq_right
theorem min_ex (f : Nat → Nat) : ∃ t, t < 5 ∧ f t = minV f := by
  unfold minV
  rcases min_two (min (min (min (f 0) (f 1)) (f 2)) (f 3)) (f 4) with e | e
  · rw [e]
    rcases min_two (min (min (f 0) (f 1)) (f 2)) (f 3) with e | e
    · rw [e]
      rcases min_two (min (f 0) (f 1)) (f 2) with e | e
      · rw [e]
        rcases min_two (f 0) (f 1) with e | e
        · rw [e]; exact ⟨0, by decide, rfl⟩
        · rw [e]; exact ⟨1, by decide, rfl⟩
      · rw [e]; exact ⟨2, by decide, rfl⟩
    · rw [e]; exact ⟨3, by decide, rfl⟩
  · rw [e]; exact ⟨4, by decide, rfl⟩
theorem min_iff {f : Nat → Nat} {t : Nat} (ht : t < 5) : f t = minV f ↔ ∀ s, s < 5 → f t ≤ f s :=
  ⟨fun h s hs => by rw [h]; exact minV_le f s hs, fun h => Nat.le_antisymm (le_minV h) (minV_le f t ht)⟩
theorem wt_kp (ps : Nat → Pl) (x : Nat) : wtV ps x = 4 * (ps x).note.length + 3 * kp (ps x).sent := by
  unfold wtV kp
  split <;> omega
theorem len_law {ps : Nat → Pl} {F : Nat → Nat → Nat} {s : Bool} (hg : ∀ k, k < 5 → Good (ps k)) (hs : ∀ k, k < 5 → (ps k).sent = s) (hv : ckV F = true) {t : Nat} (ht : t < 5) :
    lenV ps F t + 4 * kp s = (((List.range 5).map (nB ps)).sum + (([1, 2, 3, 4] : List Nat).map (lB ps s)).sum) + disV (wtV ps) F t := by
  have h := all5 hv ht
  rw [Bool.and_eq_true, Bool.and_eq_true, Bool.and_eq_true] at h
  obtain ⟨⟨⟨h1, h2⟩, h3⟩, h4⟩ := h
  have p1 := perm_sum ((List.isPerm_iff.mp h1).map (al ps))
  have p2 := perm_sum ((List.isPerm_iff.mp h2).map (lB ps s))
  have e3 := eq_of_beq h3
  have tr := okT_tr _ _ _ h4
  unfold lenV
  rw [page_told hg 6 t (-1) tr, told_len hs 6 t (-1) 0 tr, p1]
  have e4 : ((edg F 6 t (-1) 0).map (be ps s)).sum = ((edg F 6 t (-1) 0).map fun v => lB ps s v.1).sum + kp s * ((edg F 6 t (-1) 0).map (·.2)).sum := by
    rw [← sum_mulP, ← sum_addP]; rfl
  have e5 : ((edg F 6 t (-1) 0).map fun v => lB ps s v.1).sum = (([1, 2, 3, 4] : List Nat).map (lB ps s)).sum := by
    rw [← p2, List.map_map]; rfl
  rw [e4, e5]
  have e6 : ((rowL F t).map (al ps)).sum = ((List.range 5).map (nB ps)).sum + ((List.range 5).map fun x => (4 * (ps x).note.length + 2 * kp s) * F t x).sum := by
    unfold rowL
    rw [List.map_map, ← sum_add]
    refine sum_eq fun x hx => ?_
    show al ps (x, F t x) = _
    unfold al
    rw [hs x (List.mem_range.mp hx)]
  have e7 : disV (wtV ps) F t = ((List.range 5).map fun x => (4 * (ps x).note.length + 2 * kp s) * F t x).sum + kp s * ((List.range 5).map (F t)).sum := by
    unfold disV
    rw [← sum_mulP, ← sum_addP]
    refine sum_eq fun x hx => ?_
    rw [wt_kp, hs x (List.mem_range.mp hx), ← Nat.add_mul]
    congr 1
    omega
  rw [e6, e7, ← e3, Nat.mul_add, Nat.mul_comm (kp s) 4]
  omega
theorem aff_level {ln ds : Nat → Nat} {C K : Nat} (h : ∀ t, t < 5 → ln t + K = C + ds t) (t : Nat) (ht : t < 5) : ((ln t : Nat) : Int) - (ds t : Nat) = ((ln 0 : Nat) : Int) - (ds 0 : Nat) := by
  have e1 := h t ht
  have e2 := h 0 (by decide)
  omega
theorem aff_le {ln ds : Nat → Nat} {C K : Nat} (h : ∀ t, t < 5 → ln t + K = C + ds t) {t s : Nat} (ht : t < 5) (hs : s < 5) : ln t ≤ ln s ↔ ds t ≤ ds s := by
  have e1 := h t ht
  have e2 := h s hs
  omega
theorem tr_ckV {a b c : Nat} (h2 : a < 2) (h3 : b < 3) (h4 : c < 4) : ckV (fr a b c) = true := by
  have h := List.all_eq_true.mp ckV_all _ (trees_mem h2 h3 h4)
  dsimp only at h
  exact h
theorem tr_ckTwo {a b c : Nat} (h2 : a < 2) (h3 : b < 3) (h4 : c < 4) : ckTwo (fr a b c) = true := by
  have h := List.all_eq_true.mp ckTwo_all _ (trees_mem h2 h3 h4)
  dsimp only at h
  exact h
theorem plain (ps : Nat → Pl) (h : ∀ k, k < 5 → NiceK ps k) : ∃ ab, (∀ k, 1 ≤ k → k < 5 → (ps k).ab = (ab k : Int) ∧ ab k < k) ∧ Plain ps (outF ab 4) := by
  have hab0 : ∀ k : Nat, ∃ a : Nat, k < 5 → 1 ≤ k → (ps k).ab = a ∧ a < k := fun k => by
    by_cases hk : k < 5
    · obtain ⟨_, _, _, _, _, _, _, a, ha⟩ := h k hk
      exact ⟨a, fun _ q => ha q⟩
    · exact ⟨0, fun q => absurd q hk⟩
  obtain ⟨ab, hab⟩ := Classical.skolem.mp hab0
  have hab' : ∀ k, 1 ≤ k → k < 5 → (ps k).ab = (ab k : Int) ∧ ab k < k := fun k h1 h2 => hab k h2 h1
  refine ⟨ab, hab', ?_⟩
  have g : ∀ k, k < 5 → Good (ps k) := fun k hk => good_of hk (h k hk)
  have hs : ∀ k, k < 5 → (ps k).sent = (ps 0).sent := fun k hk => (h k hk).2.2.2.2.2.2.1
  have b1 := (hab' 1 (by decide) (by decide)).2
  have b2 := (hab' 2 (by decide) (by decide)).2
  have b3 := (hab' 3 (by decide) (by decide)).2
  have b4 := (hab' 4 (by decide) (by decide)).2
  rw [out4 (show ab 1 = 0 by omega)]
  have fk := fok b2 b3 b4
  have hv := tr_ckV b2 b3 b4
  have ht2 := tr_ckTwo b2 b3 b4
  generalize fr (ab 2) (ab 3) (ab 4) = F at fk hv ht2
  have hok : ∀ t, t < 5 → okT F 6 t (-1) = true := fun t ht => by
    have e := all5 hv ht
    rw [Bool.and_eq_true] at e
    exact e.2
  have hlen : ∀ t, t < 5 → lenV ps F t + 4 * kp (ps 0).sent = (((List.range 5).map (nB ps)).sum + (([1, 2, 3, 4] : List Nat).map (lB ps (ps 0).sent)).sum) + disV (wtV ps) F t := fun t ht => len_law g hs hv ht
  have hW : ∀ x, x < 5 → 1 ≤ wtV ps x := fun x _ => by
    unfold wtV
    split <;> omega
  have med := med_of fk hW
  have hsh : ∀ t, t < 5 → (shB (lenV ps F) t = true ↔ ∀ s, s < 5 → disV (wtV ps) F t ≤ disV (wtV ps) F s) := fun t ht => by
    unfold shB
    rw [decide_eq_true_iff, min_iff ht]
    exact ⟨fun q s hs' => (aff_le hlen ht hs').mp (q s hs'), fun q s hs' => (aff_le hlen ht hs').mpr (q s hs')⟩
  have hl : ∀ t, t < 5 → lenV ps F t ≤ 5000 := fun t ht => page_len g 6 t (-1) (hok t ht) (by decide)
  refine ⟨st_ok g, st_T g, fun t ht => pg_ok g 6 t (-1) (hok t ht) (by decide), fun t ht => td_ok g 6 t (-1) 0 (hok t ht) (by decide), fun t ht => page_told g 6 t (-1) (okT_tr _ _ _ (hok t ht)), fun t ht => Nat.le_trans (hl t ht) (by decide), fun t ht => ?_, fun k hk => (g k hk).note7, fun t x ht hx => fk.le t ht x hx, fun t ht => ?_, fun t ht => ?_, ?_⟩
  · rw [page_told g 6 t (-1) (okT_tr _ _ _ (hok t ht))]
    have hlf := told_lf g 6 t (-1) 0 (okT_tr _ _ _ (hok t ht))
    generalize toldV ps F 6 t (-1) 0 = l at hlf
    show (l.toArray.all (· < 0x110000)) = true
    rw [List.all_toArray, List.all_eq_true]
    exact fun c hc => decide_eq_true (Nat.lt_trans (hlf c hc).2.1 (by decide))
  · exact aff_level hlen t ht
  · have e1 := hsh t ht
    have e2 := med.1 t ht
    rw [Bool.eq_iff_iff]
    unfold evB
    rw [decide_eq_true_iff, e1]
    exact e2
  · refine two_of ht2 ?_ fun t s ht hs' q1 q2 => med.2 t s ht hs' ((hsh t ht).mp q1) ((hsh s hs').mp q2)
    have hmin := min_ex (lenV ps F)
    obtain ⟨t, ht, e⟩ := hmin
    exact ⟨t, ht, decide_eq_true e⟩
end Mine
example : True := by
  w_top off
  trivial
namespace Mine
open PySem PySem.W PyProof.Rows PySem.Spec PySem.Calls
local macro_rules | `(tactic| k_all) => `(tactic| assumption)
local macro_rules | `(tactic| k_ne) => `(tactic| assumption)
local macro_rules | `(tactic| k_qdec) => `(tactic| decide +kernel)
local macro_rules | `(tactic| kas_types) => `(tactic| refine stop ?_)
theorem stopCM {M : Model} {A : Around} {c : Addr} {as : List Value} {ks : List (Str × Value)} {Q E : Value → Shared → Prop} {s : Shared} (hc : ([231, 238, 245, 250] : List Nat).elem c = true) (h : Stop (wpAny M A (call (.ref c) as ks) Q E s)) :
    wpAny M A (call (.ref c) as ks) Q E s := h.h
local macro_rules | `(tactic| walk_at "call ref") => `(tactic| refine stopCM (by decide) ?_)
local macro_rules | `(tactic| walk_at "exec For Name Call cons nil") => `(tactic| kas_types)
local macro_rules | `(tactic| walk_at "subscriptTail") => `(tactic| kas_types)
local macro_rules | `(tactic| walk_at "subscriptTail Name Constant ref int") => `(tactic| kas_types)
local macro_rules | `(tactic| walk_at "subscriptTail Name UnaryOp ref int") => `(tactic| kas_types)
local macro_rules | `(tactic| walk_at "last subscriptTail") => `(tactic| kas_types)
local macro_rules | `(tactic| walk_at "eval ListComp") => `(tactic| kas_types)
local macro_rules | `(tactic| walk_at "eval IfExp") => `(tactic| kas_types)
local macro_rules | `(tactic| walk_at "exec If") => `(tactic| kas_types)
local macro_rules | `(tactic| walk_at "call builtin:len") => `(tactic| kas_types)
local macro_rules | `(tactic| walk_at "call builtin:max") => `(tactic| kas_types)
local macro_rules | `(tactic| walk_at "binaryOp Mult int int") => `(tactic| kas_types)
theorem stopSh {M : Model} {A : Around} {i j e v} {Q : Flow → Shared → Prop} {E : Value → Shared → Prop} {s : Shared} (h : Stop (wpAny M A (exec (Stmt.Assign [Expr.Name (Str.ofString "shortest") i] e j) v) Q E s)) : wpAny M A (exec (Stmt.Assign [Expr.Name (Str.ofString "shortest") i] e j) v) Q E s := h.h
local macro_rules | `(tactic| walk_at "exec Assign cons ListComp") => `(tactic| with_reducible refine stopSh ?_)
local macro_rules | `(tactic| walk_at "call builtin:min") => `(tactic| kas_types)
local macro_rules | `(tactic| walk_at "compareOp NotEq ref ref") => `(tactic| kas_types)
local macro_rules | `(tactic| walk_at "compareOp Eq ref ref") => `(tactic| kas_types)
local macro_rules | `(tactic| walk_at "call builtin:sum") => `(tactic| kas_types)
theorem stopNm {M : Model} {A : Around} {x a b c d} {Q : Value → Shared → Prop} {E : Value → Shared → Prop} {s : Shared} (h : Stop (wpAny M A (eval x (compEnvC a b c d)) Q E s)) : wpAny M A (eval x (compEnvC a b c d)) Q E s := h.h
local macro_rules | `(tactic| walk_at "eval Name") => `(tactic| with_reducible refine stopNm ?_)
theorem M1 : PySem.Challenge.rw_sr0063_01.Holds := hd (by
  k_go0
  (all_goals try k_fold)
  k_steps
  refine Stop.mk ?_
  rename_i w sh0 s1 mg mb G Y fa o pm doc ho hg KX Xm V GL T Bt TE TW wa wb Mm cdA wd hcd ns hs hl0 hL1 hr1 hl2 r10 r9 sc vs r6 hL ra w1' r0 hI hr hc63 hct K0 hD h1 tk1 F o6 o5 o4 o3 o2 o1 d6 d5 d4 d3 d2 d1 N0 X0
  have F1 : Fr s1.heap s1.heap.objs.size h1 (bm [("script", .ref sc)]) := fr_of F rfl
  have e6 : o6.data = .cell none := d6
  have e5 : o5.data = .cell none := d5
  have e4 : o4.data = .cell none := d4
  have e3 : o3.data = .cell none := d3
  have e2 : o2.data = .cell none := d2
  have e1 : o1.data = .cell none := d1
  clear F X0 d6 d5 d4 d3 d2 d1 hcd hD
  dsimp only [bm, List.foldr] at F1
  have h63 : ns.length ≤ 63 := by
    have h : ¬ (63 : Int) < (ns.length : Int) := hc63
    omega
  have hI' : IntsAre vs.toArray.toList ns := hI
  k_dflt (refine' PM.use (places_spec w _ _ _ mg mb sc vs.toArray ns hI' h63) (below_caller s1.heap) ?k2 ?k3 ?k4 ?k5 ?k6 ?k7 ?k8 ?k9 ?_; (case k2 => k_asm); (case k3 => k_asm); (case k4 => k_asm); (case k5 => k_asm); (case k6 => exact rfl); (case k7 => exact hL.at fun o e => F1.keep _ _ e); (case k8 => ktr_room); (case k9 => ktr_units))
  rintro _ h2 tk2 own1 ⟨ap, ps, rfl, hPN, hNice⟩ F2 N2 NO1 hne1
  obtain ⟨ab, hab, P⟩ := plain ps hNice
  obtain ⟨n12, n13, n14, n15, n16, n21, n23, n24, n25, n26, n31, n32, n34, n35, n36, n41, n42, n43, n45, n46, n51, n52, n53, n54, n56, n61, n62, n63, n64, n65⟩ := six s1.heap.objs.size
  have N3 : News s1.heap s1.heap.objs.size h2 (((s1.heap.objs.size + 1 + 1 + 1 + 1 + 1 + 1), o6) :: ((s1.heap.objs.size + 1 + 1 + 1 + 1 + 1), o5) :: ((s1.heap.objs.size + 1 + 1 + 1 + 1), o4) :: ((s1.heap.objs.size + 1 + 1 + 1), o3) :: ((s1.heap.objs.size + 1 + 1), o2) :: ((s1.heap.objs.size + 1), o1) :: own1) := fun p hp => by
    simp only [List.mem_cons] at hp
    rcases hp with h | h | h | h | h | h | h
    · exact N2 p (by rw [h]; exact .head _)
    · exact N2 p (by rw [h]; exact .tail _ (.head _))
    · exact N2 p (by rw [h]; exact .tail _ (.tail _ (.head _)))
    · exact N2 p (by rw [h]; exact .tail _ (.tail _ (.tail _ (.head _))))
    · exact N2 p (by rw [h]; exact .tail _ (.tail _ (.tail _ (.tail _ (.head _)))))
    · exact N2 p (by rw [h]; exact .tail _ (.tail _ (.tail _ (.tail _ (.tail _ (.head _))))))
    · exact NO1 p h
  have c6 : ∀ p ∈ own1, p.1 ≠ (s1.heap.objs.size + 1 + 1 + 1 + 1 + 1 + 1) := hne1 _ (.head _)
  have c5 : ∀ p ∈ own1, p.1 ≠ (s1.heap.objs.size + 1 + 1 + 1 + 1 + 1) := hne1 _ (.tail _ (.head _))
  have c4 : ∀ p ∈ own1, p.1 ≠ (s1.heap.objs.size + 1 + 1 + 1 + 1) := hne1 _ (.tail _ (.tail _ (.head _)))
  have c3 : ∀ p ∈ own1, p.1 ≠ (s1.heap.objs.size + 1 + 1 + 1) := hne1 _ (.tail _ (.tail _ (.tail _ (.head _))))
  have c2 : ∀ p ∈ own1, p.1 ≠ (s1.heap.objs.size + 1 + 1) := hne1 _ (.tail _ (.tail _ (.tail _ (.tail _ (.head _)))))
  have c1 : ∀ p ∈ own1, p.1 ≠ (s1.heap.objs.size + 1) := hne1 _ (.tail _ (.tail _ (.tail _ (.tail _ (.tail _ (.head _))))))
  clear N0 N2 NO1 hne1 F1
  k_steps
  refine Stop.mk ?_
  rename_i h4 p1 F4 N4 g1'
  have hpw4 : PW h4 ap ps := hPN.pw (fun p hp => N4 p (.tail _ (.tail _ (.tail _ (.tail _ (.tail _ (.tail _ hp)))))))
  k_dflt (refine' PM.use (far_spec w _ _ _ mg mb ps ap ab hab) (below_caller s1.heap) ?k2 ?k3 ?k4 ?k5 ?k6 ?k7 ?k8 ?k9 ?_; (case k2 => k_asm); (case k3 => k_asm); (case k4 => k_asm); (case k5 => k_asm); (case k6 => exact rfl); (case k7 => exact hpw4); (case k8 => ktr_room); (case k9 => ktr_units))
  rintro _ h5 tk5 own2 ⟨af, row, rfl, hFN⟩ F5 N5 NO2 hne2
  have N6 : News s1.heap s1.heap.objs.size h5 (((s1.heap.objs.size + 1 + 1 + 1 + 1 + 1 + 1), o6) :: ((s1.heap.objs.size + 1 + 1 + 1 + 1 + 1), o5) :: ((s1.heap.objs.size + 1 + 1 + 1 + 1), o4) :: ((s1.heap.objs.size + 1 + 1 + 1), o3) :: ((s1.heap.objs.size + 1 + 1), o2) :: ((s1.heap.objs.size + 1), p1) :: (own2 ++ own1)) := fun p hp => by
    simp only [List.mem_cons, List.mem_append] at hp
    rcases hp with h | h | h | h | h | h | h | h
    · exact N5 p (by rw [h]; exact .head _)
    · exact N5 p (by rw [h]; exact .tail _ (.head _))
    · exact N5 p (by rw [h]; exact .tail _ (.tail _ (.head _)))
    · exact N5 p (by rw [h]; exact .tail _ (.tail _ (.tail _ (.head _))))
    · exact N5 p (by rw [h]; exact .tail _ (.tail _ (.tail _ (.tail _ (.head _)))))
    · exact N5 p (by rw [h]; exact .tail _ (.tail _ (.tail _ (.tail _ (.tail _ (.head _))))))
    · exact NO2 p h
    · exact N5 p (.tail _ (.tail _ (.tail _ (.tail _ (.tail _ (.tail _ h))))))
  have app : ∀ {a : Addr}, (∀ p ∈ own2, p.1 ≠ a) → (∀ p ∈ own1, p.1 ≠ a) → ∀ p ∈ own2 ++ own1, p.1 ≠ a := fun x y p hp => (List.mem_append.mp hp).elim (x p) (y p)
  replace c6 := app (hne2 _ (.head _)) c6
  replace c5 := app (hne2 _ (.tail _ (.head _))) c5
  replace c4 := app (hne2 _ (.tail _ (.tail _ (.head _)))) c4
  replace c3 := app (hne2 _ (.tail _ (.tail _ (.tail _ (.head _))))) c3
  replace c2 := app (hne2 _ (.tail _ (.tail _ (.tail _ (.tail _ (.head _)))))) c2
  replace c1 := app (hne2 _ (.tail _ (.tail _ (.tail _ (.tail _ (.tail _ (.head _))))))) c1
  replace hPN := hPN.mono (own' := own2 ++ own1) fun p hp => List.mem_append_right _ hp
  replace hFN := hFN.mono (own' := own2 ++ own1) fun p hp => List.mem_append_left _ hp
  generalize own2 ++ own1 = own at N6 c6 c5 c4 c3 c2 c1 hPN hFN
  clear app N5 NO2 hne2 N4 hpw4 F4
  k_steps
  refine Stop.mk ?_
  rename_i h7 p2 F7 N7 g2'
  obtain ⟨itp, ep, hp1, hp2, hp3⟩ := id hPN
  refine comp_list (fun v y => ∃ (k : Nat) (t : Tok), k < 5 ∧ itp[k]? = some v ∧ y = .int (wtV ps k : Nat) t) rfl rfl (by decide) rfl (by decide) rfl ?_
  refine stopQ ?_
  k_steps
  refine Stop.mk ?_
  refine ⟨_, _, rfl, ⟨_, (N7 _ (.tail _ (.tail _ (.tail _ (.tail _ (.tail _ (.tail _ hp1))))))).1, rfl, _, rfl⟩, by rw [hp2, sizeLine_eq]; decide, ?_, ?_⟩
  · intro C v s₃ m₃ E' hC hv hn3 hm3 hk3 htk3
    obtain ⟨k, hk'⟩ := Array.getElem?_of_mem hv
    have hk5 : k < 5 := by rw [← hp2]; exact (Array.getElem?_eq_some_iff.mp hk').1
    obtain ⟨q, t1, t2, t3, t4, t5, t7, hq1, hq2⟩ := hp3 k hk5
    have hvq : v = .ref q := Option.some.inj (hk'.symm.trans hq1)
    subst hvq
    have hob := hk3 _ _ (N7 _ (.tail _ (.tail _ (.tail _ (.tail _ (.tail _ (.tail _ hq2))))))).1
    have kk : InElt s1.heap s₃.heap := fun b o e => hk3 _ _ (F7.keep _ _ e)
    refine stopQ ?_
    refine wpAny_BinOp (cut (Q' := fun v s' => Stop (True → ∃ (t : Tok) (k' : Nat), v = .int ((if (ps k).sent then 24 else 12 : Nat) : Int) t ∧ s' = { s₃ with toks := k' })) (wpAny_IfExp (wpAny_isTrue_value (Subscript_ (wpAny_Name (wpAny_loadName_local rfl rfl hn3 hm3 (wpAny_Constant_int (sub_tup (k := 5) hob (by decide) rfl (wpAny_truthy_bool ?_)))) (by decide))))) ?_)
    · cases hsn : (ps k).sent with
      | true => exact wpAny_Constant_int (Stop.mk fun _ => ⟨_, _, rfl, rfl⟩)
      | false => exact wpAny_Constant_int (Stop.mk fun _ => ⟨_, _, rfl, rfl⟩)
    rintro _ _ ⟨hfin⟩
    obtain ⟨tw, kw, rfl, rfl⟩ := hfin trivial
    refine wpAny_BinOp (wpAny_Constant_int ?_)
    k_steps
    refine Stop.mk ?_
    k_dflt (refine' nameC_B ?zk ?zX ?zT ?ze ?zv ?zn ?_ ?zg ?zb ?zh ?zx; (case zg => exact rfl); (case zb => exact rfl); (case zh => exact rfl); (case zx => exact rfl); (case zk => exact kk); (case zX => exact KX); (case zT => exact topRead_of T); (case ze => k_is); (case zv => boot_fast); (case zn => decide); k_whole)
    k_steps
    refine Stop.mk ?_
    refine wpAny_Name (wpAny_loadName_local rfl rfl hn3 hm3 ?_) (by decide)
    k_steps
    refine Stop.mk ?_
    refine sub_tup (k := 1) hob (by decide) rfl ?_
    k_steps
    refine Stop.mk ?_
    refine lenS (Nat.le_trans (P.note k hk5) (by decide)) ?_
    exact mul_int (add_int (Stop.mk ⟨⟨k, _, hk5, hk', wt_eq ps k _⟩, _, _, rfl, fun _ _ e => e⟩))
  intro wl h8 tk8 wv we hwD hwl hwP hw8
  have hwz : wv.size = 5 := by rw [← Array.length_toList, ← hwP.length, Array.length_toList, hp2]
  have N8 : News s1.heap s1.heap.objs.size h8 ((wl, listOf wv we) :: ((s1.heap.objs.size + 1 + 1 + 1 + 1 + 1 + 1), o6) :: ((s1.heap.objs.size + 1 + 1 + 1 + 1 + 1), o5) :: ((s1.heap.objs.size + 1 + 1 + 1 + 1), o4) :: ((s1.heap.objs.size + 1 + 1 + 1), o3) :: ((s1.heap.objs.size + 1 + 1), p2) :: ((s1.heap.objs.size + 1), p1) :: own) := News.made F7 N7 hwD hwl hw8
  have hwt := wt_at hp3 (fun p hp => (N8 p (.tail _ (.tail _ (.tail _ (.tail _ (.tail _ (.tail _ (.tail _ hp)))))))).1) hwP
  have F8 := F7.keeps hw8
  have w6 : wl ≠ (s1.heap.objs.size + 1 + 1 + 1 + 1 + 1 + 1) := made_ne N7 hwD (.head _)
  have w5 : wl ≠ (s1.heap.objs.size + 1 + 1 + 1 + 1 + 1) := made_ne N7 hwD (.tail _ (.head _))
  have w4 : wl ≠ (s1.heap.objs.size + 1 + 1 + 1 + 1) := made_ne N7 hwD (.tail _ (.tail _ (.head _)))
  have w3 : wl ≠ (s1.heap.objs.size + 1 + 1 + 1) := made_ne N7 hwD (.tail _ (.tail _ (.tail _ (.head _))))
  have w2 : wl ≠ (s1.heap.objs.size + 1 + 1) := made_ne N7 hwD (.tail _ (.tail _ (.tail _ (.tail _ (.head _)))))
  have w1 : wl ≠ (s1.heap.objs.size + 1) := made_ne N7 hwD (.tail _ (.tail _ (.tail _ (.tail _ (.tail _ (.head _))))))
  clear hwP hwD hwl hw8 N7 F7
  k_steps
  refine Stop.mk ?_
  rename_i h9 p3 F9 N9 g3'
  have kN9 : ∀ p ∈ own, p ∈ (wl, listOf wv we) :: ((s1.heap.objs.size + 1 + 1 + 1 + 1 + 1 + 1), o6) :: ((s1.heap.objs.size + 1 + 1 + 1 + 1 + 1), o5) :: ((s1.heap.objs.size + 1 + 1 + 1 + 1), o4) :: ((s1.heap.objs.size + 1 + 1 + 1), p3) :: ((s1.heap.objs.size + 1 + 1), p2) :: ((s1.heap.objs.size + 1), p1) :: own := fun p hp => .tail _ (.tail _ (.tail _ (.tail _ (.tail _ (.tail _ (.tail _ hp))))))
  have hpw9 : PW h9 ap ps := hPN.pw (fun p hp => N9 p (kN9 p hp))
  have hfw9 : FW h9 af (outF ab 4) := hFN.fw (fun p hp => N9 p (kN9 p hp))
  refine comp_range 5 (fun i y => ∃ t, y = .str (S (pageV ps (outF ab 4) 6 i (-1))) t) rfl rfl (by decide) rfl (by decide) rfl (by rw [sizeLine_eq]; decide) ?_
  refine stopQ ?_
  k_steps
  refine Stop.mk ?_
  rename_i hR10 F10 N10 k10
  refine ⟨_, _, _, _, rfl, hR10, rfl, rfl, ?_, ?_⟩
  · intro C i t s₃ m₃ E' hC hi hn3 hm3 hk3 htk3
    have kk : InElt s1.heap s₃.heap := fun b o e => hk3 _ _ (F10.keep _ _ e)
    have F11 := F10.keeps hk3
    have N11 := N10.grown hk3
    refine stopQ ?_
    k_steps
    refine Stop.mk ?_
    k_dflt (refine' nameC_K ?zk ?zX ?zT ?ze ?_ ?zg ?zh ?zx; (case zg => exact rfl); (case zh => exact rfl); (case zx => exact rfl); (case zk => exact kk); (case zX => exact KX); (case zT => exact topRead_of T); (case ze => k_is); k_whole)
    k_steps
    refine Stop.mk ?_
    refine wpAny_Name (wpAny_loadName_local rfl rfl hn3 hm3 ?_) (by decide)
    k_steps
    refine Stop.mk ?_
    refine wpAny_Name (wpAny_loadName_cell (c := (s1.heap.objs.size + 1)) (v := .ref ap) rfl rfl rfl ⟨_, (N11 _ (.tail _ (.tail _ (.tail _ (.tail _ (.tail _ (.tail _ (.head _)))))))).1, g1'⟩ ?_) (by decide)
    k_steps
    refine Stop.mk ?_
    refine wpAny_Name (wpAny_loadName_cell (c := (s1.heap.objs.size + 1 + 1)) (v := .ref af) rfl rfl rfl ⟨_, (N11 _ (.tail _ (.tail _ (.tail _ (.tail _ (.tail _ (.head _))))))).1, g2'⟩ ?_) (by decide)
    k_steps
    refine Stop.mk ?_
    k_dflt (refine' PS.use (page_spec w _ _ _ mg mb ps (outF ab 4) ap af P.st 6 i (-1) _ _ (P.pg i hi)) (below_caller s1.heap) ?k2 ?k3 ?k4 ?k5 ?k6 ?k7 ?k8 ?k9 ?kA ?_; (case k2 => exact F11); (case k3 => k_asm); (case k4 => exact N11); (case k5 => k_asm); (case k6 => exact rfl); (case k7 => exact ⟨(hpw9.mono k10).mono hk3, (hfw9.mono k10).mono hk3⟩); (case k8 => exact Nat.succ_pos _); (case k9 => ktr_room); (case kA => ktr_units))
    rintro r h12 tk12 ht12 ⟨t12, rfl⟩ hk12 F12 N12
    exact Stop.mk ⟨⟨_, rfl⟩, _, _, rfl, hk12⟩
  intro pg h13 tk13 pv pe hpD hpl hpz hpf hp13
  have F13 := F10.keeps hp13
  have N13 : News s1.heap s1.heap.objs.size h13 ((pg, listOf pv pe) :: (wl, listOf wv we) :: ((s1.heap.objs.size + 1 + 1 + 1 + 1 + 1 + 1), o6) :: ((s1.heap.objs.size + 1 + 1 + 1 + 1 + 1), o5) :: ((s1.heap.objs.size + 1 + 1 + 1 + 1), o4) :: ((s1.heap.objs.size + 1 + 1 + 1), p3) :: ((s1.heap.objs.size + 1 + 1), p2) :: ((s1.heap.objs.size + 1), p1) :: own) := News.made F10 N10 hpD hpl hp13
  have hpt : ∀ k, k < 5 → ∃ t, pv[k]? = some (.str (S (pageV ps (outF ab 4) 6 k (-1))) t) := fun k hk => by
    have hk' : k < pv.size := by rw [hpz]; exact hk
    obtain ⟨t, e⟩ := hpf k pv[k] (Array.getElem?_eq_getElem hk')
    exact ⟨t, by rw [Array.getElem?_eq_getElem hk', e]⟩
  have z6 : pg ≠ (s1.heap.objs.size + 1 + 1 + 1 + 1 + 1 + 1) := made_ne N10 hpD (.tail _ (.head _))
  have z5 : pg ≠ (s1.heap.objs.size + 1 + 1 + 1 + 1 + 1) := made_ne N10 hpD (.tail _ (.tail _ (.head _)))
  have z4 : pg ≠ (s1.heap.objs.size + 1 + 1 + 1 + 1) := made_ne N10 hpD (.tail _ (.tail _ (.tail _ (.head _))))
  have z3 : pg ≠ (s1.heap.objs.size + 1 + 1 + 1) := made_ne N10 hpD (.tail _ (.tail _ (.tail _ (.tail _ (.head _)))))
  have z2 : pg ≠ (s1.heap.objs.size + 1 + 1) := made_ne N10 hpD (.tail _ (.tail _ (.tail _ (.tail _ (.tail _ (.head _))))))
  have z1 : pg ≠ (s1.heap.objs.size + 1) := made_ne N10 hpD (.tail _ (.tail _ (.tail _ (.tail _ (.tail _ (.tail _ (.head _)))))))
  obtain ⟨own', kown, hwm, hpm⟩ : ∃ own', (∀ p ∈ own, p ∈ own') ∧ (wl, listOf wv we) ∈ own' ∧ (pg, listOf pv pe) ∈ own' ∧ News s1.heap s1.heap.objs.size h13 (((s1.heap.objs.size + 1 + 1 + 1 + 1 + 1 + 1), o6) :: ((s1.heap.objs.size + 1 + 1 + 1 + 1 + 1), o5) :: ((s1.heap.objs.size + 1 + 1 + 1 + 1), o4) :: ((s1.heap.objs.size + 1 + 1 + 1), p3) :: ((s1.heap.objs.size + 1 + 1), p2) :: ((s1.heap.objs.size + 1), p1) :: own') ∧ (∀ p ∈ own', p.1 ≠ (s1.heap.objs.size + 1) ∧ p.1 ≠ (s1.heap.objs.size + 1 + 1) ∧ p.1 ≠ (s1.heap.objs.size + 1 + 1 + 1) ∧ p.1 ≠ (s1.heap.objs.size + 1 + 1 + 1 + 1) ∧ p.1 ≠ (s1.heap.objs.size + 1 + 1 + 1 + 1 + 1) ∧ p.1 ≠ (s1.heap.objs.size + 1 + 1 + 1 + 1 + 1 + 1)) := by
    refine ⟨(pg, listOf pv pe) :: (wl, listOf wv we) :: own, fun p hp => .tail _ (.tail _ hp), .tail _ (.head _), .head _, fun p hp => N13 p ?_, fun p hp => ?_⟩
    · simp only [List.mem_cons] at hp ⊢
      rcases hp with h | h | h | h | h | h | h | h | h <;> simp [h]
    · simp only [List.mem_cons] at hp
      rcases hp with h | h | h
      · rw [h]; exact ⟨z1, z2, z3, z4, z5, z6⟩
      · rw [h]; exact ⟨w1, w2, w3, w4, w5, w6⟩
      · exact ⟨c1 p h, c2 p h, c3 p h, c4 p h, c5 p h, c6 p h⟩
  obtain ⟨hpm, N14, hdis⟩ := hpm
  replace c6 : ∀ p ∈ own', p.1 ≠ (s1.heap.objs.size + 1 + 1 + 1 + 1 + 1 + 1) := fun p hp => (hdis p hp).2.2.2.2.2
  replace c5 : ∀ p ∈ own', p.1 ≠ (s1.heap.objs.size + 1 + 1 + 1 + 1 + 1) := fun p hp => (hdis p hp).2.2.2.2.1
  replace c4 : ∀ p ∈ own', p.1 ≠ (s1.heap.objs.size + 1 + 1 + 1 + 1) := fun p hp => (hdis p hp).2.2.2.1
  replace c3 : ∀ p ∈ own', p.1 ≠ (s1.heap.objs.size + 1 + 1 + 1) := fun p hp => (hdis p hp).2.2.1
  replace c2 : ∀ p ∈ own', p.1 ≠ (s1.heap.objs.size + 1 + 1) := fun p hp => (hdis p hp).2.1
  replace c1 : ∀ p ∈ own', p.1 ≠ (s1.heap.objs.size + 1) := fun p hp => (hdis p hp).1
  replace hPN := hPN.mono kown
  replace hFN := hFN.mono kown
  (try clear hdis)
  (try clear kown)
  (try clear N13)
  (try clear F10)
  (try clear N10)
  (try clear k10)
  (try clear kN9)
  (try clear hpw9)
  (try clear hfw9)
  (try clear F9)
  (try clear N9)
  (try clear hpD)
  (try clear hpl)
  (try clear hpf)
  (try clear hp13)
  (try clear w1)
  (try clear w2)
  (try clear w3)
  (try clear w4)
  (try clear w5)
  (try clear w6)
  (try clear z1)
  (try clear z2)
  (try clear z3)
  (try clear z4)
  (try clear z5)
  (try clear z6)
  (try clear F8)
  (try clear N8)
  (try clear hp1)
  (try clear hp2)
  (try clear hp3)
  (try clear own)
  k_steps
  refine Stop.mk ?_
  rename_i p5 g5' _ el _ lel h15 F15 N15
  obtain ⟨l6, l5, l4, l3, l2, l1, lo⟩ := lel
  have y6 : el ≠ (s1.heap.objs.size + 1 + 1 + 1 + 1 + 1 + 1) := Nat.ne_of_gt l6
  have y5 : el ≠ (s1.heap.objs.size + 1 + 1 + 1 + 1 + 1) := Nat.ne_of_gt l5
  have y4 : el ≠ (s1.heap.objs.size + 1 + 1 + 1 + 1) := Nat.ne_of_gt l4
  have y3 : el ≠ (s1.heap.objs.size + 1 + 1 + 1) := Nat.ne_of_gt l3
  have y2 : el ≠ (s1.heap.objs.size + 1 + 1) := Nat.ne_of_gt l2
  have y1 : el ≠ (s1.heap.objs.size + 1) := Nat.ne_of_gt l1
  have x6 : (s1.heap.objs.size + 1 + 1 + 1 + 1 + 1 + 1) ≠ el := Ne.symm y6
  have x5 : (s1.heap.objs.size + 1 + 1 + 1 + 1 + 1) ≠ el := Ne.symm y5
  have x4 : (s1.heap.objs.size + 1 + 1 + 1 + 1) ≠ el := Ne.symm y4
  have x3 : (s1.heap.objs.size + 1 + 1 + 1) ≠ el := Ne.symm y3
  have x2 : (s1.heap.objs.size + 1 + 1) ≠ el := Ne.symm y2
  have x1 : (s1.heap.objs.size + 1) ≠ el := Ne.symm y1
  have c0 : ∀ p ∈ own', p.1 ≠ el := allLt_ne lo
  clear l6 l5 l4 l3 l2 l1 lo
  obtain ⟨⟨outr, eo, fo1, fo2, fo3⟩, fr4, fr5⟩ := id hFN
  have hwI : IntsAre wv.toList ((List.range 5).map fun x => ((wtV ps x : Nat) : Int)) := ints_range hwz (fun k y e => by
    have hk : k < 5 := by rw [← hwz]; exact (Array.getElem?_eq_some_iff.mp e).1
    obtain ⟨t, e'⟩ := hwt k hk
    exact ⟨t, Option.some.inj (e.symm.trans e')⟩)
  refine for_rangeC (h₀ := s1.heap) 5 0 (fun i m news => (m "even" = some (.ref el)) ∧ ∃ items e q6 q4 v6 v4, news = (el, listOf items e) :: ((s1.heap.objs.size + 1 + 1 + 1 + 1 + 1 + 1), q6) :: ((s1.heap.objs.size + 1 + 1 + 1 + 1 + 1), p5) :: ((s1.heap.objs.size + 1 + 1 + 1 + 1), q4) :: ((s1.heap.objs.size + 1 + 1 + 1), p3) :: ((s1.heap.objs.size + 1 + 1), p2) :: ((s1.heap.objs.size + 1), p1) :: own' ∧ q6.data = .cell v6 ∧ q4.data = .cell v4 ∧ IntsAre items.toList (((List.range i).filter (evB (wtV ps) (outF ab 4))).map fun t => ((t : Nat) : Int))) rfl (fun _ => rfl) ?_
  refine stopQ ?_
  k_steps
  refine Stop.mk ?_
  rename_i hR F28 N28 hk28
  refine ⟨_, _, _, _, _, _, _, rfl, hR, rfl, rfl, F28, N28, ⟨rfl, #[], 0, o6, o4, none, none, rfl, e6, e4, .nil⟩, ?_, ?_⟩
  · (try clear F28); (try clear N28); (try clear hk28); (try clear hR); (try clear F15); (try clear N15)
    intro i m₁ news₁ I oI h tk t hi ⟨hm1, items, e, q6, q4, v6, v4, hnews, dq6, dq4, hev⟩ hnI FJ NJ
    subst hnews
    have F7 : Fr s1.heap s1.heap.objs.size h (fun y => if y = "even" then some (.ref el) else m₁ y) := fr_of FJ (funext fun y => by
      by_cases h1 : y = "even"
      · rw [if_pos h1, h1, hm1]
      · rw [if_neg h1])
    clear FJ
    have q0 : I ≠ el := Ne.symm (hnI _ (.head _))
    have r6 : I ≠ (s1.heap.objs.size + 1 + 1 + 1 + 1 + 1 + 1) := Ne.symm (hnI _ (.tail _ (.head _)))
    have r5 : I ≠ (s1.heap.objs.size + 1 + 1 + 1 + 1 + 1) := Ne.symm (hnI _ (.tail _ (.tail _ (.head _))))
    have r4 : I ≠ (s1.heap.objs.size + 1 + 1 + 1 + 1) := Ne.symm (hnI _ (.tail _ (.tail _ (.tail _ (.head _)))))
    have r3 : I ≠ (s1.heap.objs.size + 1 + 1 + 1) := Ne.symm (hnI _ (.tail _ (.tail _ (.tail _ (.tail _ (.head _))))))
    have r2 : I ≠ (s1.heap.objs.size + 1 + 1) := Ne.symm (hnI _ (.tail _ (.tail _ (.tail _ (.tail _ (.tail _ (.head _)))))))
    have r1 : I ≠ (s1.heap.objs.size + 1) := Ne.symm (hnI _ (.tail _ (.tail _ (.tail _ (.tail _ (.tail _ (.tail _ (.head _))))))))
    have cI : ∀ p ∈ own', p.1 ≠ I := fun p hp => hnI p (.tail _ (.tail _ (.tail _ (.tail _ (.tail _ (.tail _ (.tail _ hp)))))))
    obtain ⟨tpg, hpgi⟩ := hpt i hi
    rw [Int.zero_add]
    refine hideC fun Qh hQh => ?_
    k_steps
    refine Stop.mk ?_
    rename_i h16 p4 F16 N16 gt
    have hlv : ((pageV ps (outF ab 4) 6 i (-1)).length : Int) - (disV (wtV ps) (outF ab 4) i : Nat) = ((pageV ps (outF ab 4) 6 0 (-1)).length : Int) - (disV (wtV ps) (outF ab 4) 0 : Nat) := P.level i hi
    refine sub_listE (N16 _ (.tail _ (.tail _ (.tail _ (.tail _ (.tail _ (.tail _ (.tail _ (.tail _ (hpm)))))))))).1 (Nat.lt_trans hi (by decide)) hpgi rfl ?_
    k_steps
    refine Stop.mk ?_
    refine lenS (Nat.le_trans (P.len i hi) (by decide)) ?_
    k_steps
    refine Stop.mk ?_
    refine comp_range 5 (fun x y => ∃ t, y = .int ((wtV ps x * outF ab 4 i x : Nat) : Int) t) rfl rfl (by decide) rfl (by decide) rfl (by rw [sizeLine_eq]; decide) ?_
    refine stopQ ?_
    k_steps
    refine Stop.mk ?_
    rename_i hRa FRa NRa kRa
    refine ⟨_, _, _, _, rfl, hRa, rfl, rfl, ?_, ?_⟩
    · intro C x tx s₃ m₃ E' hC hx hn3 hm3 hk3 htk3
      have N3 := NRa.grown hk3
      obtain ⟨tw, hwx⟩ := hwt x hx
      obtain ⟨itr1, er1, fm1, fs1, fv1⟩ := fr4 i hi
      obtain ⟨tf, hfx⟩ := fv1 x hx
      refine stopQ ?_
      k_steps
      refine Stop.mk ?_
      refine wpAny_Name (wpAny_loadName_cell (c := (s1.heap.objs.size + 1 + 1 + 1)) (v := .ref wl) rfl rfl rfl ⟨_, (N3 _ (.tail _ (.tail _ (.tail _ (.tail _ (.tail _ (.head _))))))).1, g3'⟩ ?_) (by decide)
      k_steps
      refine Stop.mk ?_
      refine wpAny_Name (wpAny_loadName_local rfl rfl hn3 hm3 ?_) (by decide)
      k_steps
      refine Stop.mk ?_
      refine sub_listE (N3 _ (.tail _ (.tail _ (.tail _ (.tail _ (.tail _ (.tail _ (.tail _ (.tail _ (hwm)))))))))).1 (Nat.lt_trans hx (by decide)) hwx rfl ?_
      k_steps
      refine Stop.mk ?_
      refine wpAny_Name (wpAny_loadName_cell (c := (s1.heap.objs.size + 1 + 1)) (v := .ref af) rfl rfl rfl ⟨_, (N3 _ (.tail _ (.tail _ (.tail _ (.tail _ (.tail _ (.tail _ (.head _)))))))).1, g2'⟩ ?_) (by decide)
      k_steps
      refine Stop.mk ?_
      refine wpAny_Name (wpAny_loadName_cell (c := (s1.heap.objs.size + 1 + 1 + 1 + 1)) (v := .int i t) rfl rfl rfl ⟨_, (N3 _ (.tail _ (.tail _ (.tail _ (.tail _ (.head _)))))).1, gt⟩ ?_) (by decide)
      k_steps
      refine Stop.mk ?_
      refine sub_listE (N3 _ (.tail _ (.tail _ (.tail _ (.tail _ (.tail _ (.tail _ (.tail _ (.tail _ (fo1)))))))))).1 (Nat.lt_trans hi (by decide)) (fo3 i hi) rfl ?_
      k_steps
      refine Stop.mk ?_
      refine wpAny_Name (wpAny_loadName_local rfl rfl hn3 hm3 ?_) (by decide)
      k_steps
      refine Stop.mk ?_
      refine sub_listE (N3 _ (.tail _ (.tail _ (.tail _ (.tail _ (.tail _ (.tail _ (.tail _ (.tail _ (fm1)))))))))).1 (Nat.lt_trans hx (by decide)) hfx rfl ?_
      exact mulN (Nat.le_trans (wt_le (P.note x hx)) (by decide)) (Nat.le_trans (P.dist i x hi hx) (by decide)) (Stop.mk ⟨⟨_, rfl⟩, _, _, rfl, fun _ _ e => e⟩)
    intro Da hDa tkDa ysa eDa hDna hDla hDsa hDfa hDka
    have FDa := FRa.keeps hDka
    have NDa := NRa.grown hDka
    (try clear FRa)
    (try clear NRa)
    (try clear kRa)
    k_steps
    refine Stop.mk ?_
    refine sumK (vs := ysa.toList) rfl FDa NDa ⟨_, hDla, rfl, _, rfl⟩ (ints_range hDsa hDfa) (fun hEa tkEa tEa FEa NEa => ?_)
    rw [sum_cast (fun x => wtV ps x * outF ab 4 i x)]
    rw [show ((List.range 5).map (fun x => wtV ps x * outF ab 4 i x)).sum = disV (wtV ps) (outF ab 4) i from rfl]
    (try clear FDa)
    (try clear NDa)
    clear hDfa hDsa hDla hDna hDka
    k_steps
    refine Stop.mk ?_
    rename_i h17 F17 N17
    obtain ⟨tp0, hpg0⟩ := hpt 0 (by decide)
    refine wpAny_If (stopQ ?_)
    k_steps
    refine Stop.mk ?_
    refine sub_listE (k := 0) (N17 _ (.tail _ (.tail _ (.tail _ (.tail _ (.tail _ (.tail _ (.tail _ (.tail _ (hpm)))))))))).1 (by decide) hpg0 rfl ?_
    k_steps
    refine Stop.mk ?_
    refine lenS (Nat.le_trans (P.len 0 (by decide)) (by decide)) ?_
    k_steps
    refine Stop.mk ?_
    refine comp_range 5 (fun x y => ∃ t, y = .int ((wtV ps x * outF ab 4 0 x : Nat) : Int) t) rfl rfl (by decide) rfl (by decide) rfl (by rw [sizeLine_eq]; decide) ?_
    refine stopQ ?_
    k_steps
    refine Stop.mk ?_
    rename_i hRb FRb NRb kRb
    refine ⟨_, _, _, _, rfl, hRb, rfl, rfl, ?_, ?_⟩
    · intro C x tx s₃ m₃ E' hC hx hn3 hm3 hk3 htk3
      have N3 := NRb.grown hk3
      obtain ⟨tw, hwx⟩ := hwt x hx
      obtain ⟨itr1, er1, fm1, fs1, fv1⟩ := fr4 0 (by decide)
      obtain ⟨tf, hfx⟩ := fv1 x hx
      refine stopQ ?_
      k_steps
      refine Stop.mk ?_
      refine wpAny_Name (wpAny_loadName_cell (c := (s1.heap.objs.size + 1 + 1 + 1)) (v := .ref wl) rfl rfl rfl ⟨_, (N3 _ (.tail _ (.tail _ (.tail _ (.tail _ (.tail _ (.head _))))))).1, g3'⟩ ?_) (by decide)
      k_steps
      refine Stop.mk ?_
      refine wpAny_Name (wpAny_loadName_local rfl rfl hn3 hm3 ?_) (by decide)
      k_steps
      refine Stop.mk ?_
      refine sub_listE (N3 _ (.tail _ (.tail _ (.tail _ (.tail _ (.tail _ (.tail _ (.tail _ (.tail _ (hwm)))))))))).1 (Nat.lt_trans hx (by decide)) hwx rfl ?_
      k_steps
      refine Stop.mk ?_
      refine wpAny_Name (wpAny_loadName_cell (c := (s1.heap.objs.size + 1 + 1)) (v := .ref af) rfl rfl rfl ⟨_, (N3 _ (.tail _ (.tail _ (.tail _ (.tail _ (.tail _ (.tail _ (.head _)))))))).1, g2'⟩ ?_) (by decide)
      k_steps
      refine Stop.mk ?_
      refine sub_listE (k := 0) (N3 _ (.tail _ (.tail _ (.tail _ (.tail _ (.tail _ (.tail _ (.tail _ (.tail _ (fo1)))))))))).1 (by decide) (fo3 0 (by decide)) rfl ?_
      k_steps
      refine Stop.mk ?_
      refine wpAny_Name (wpAny_loadName_local rfl rfl hn3 hm3 ?_) (by decide)
      k_steps
      refine Stop.mk ?_
      refine sub_listE (N3 _ (.tail _ (.tail _ (.tail _ (.tail _ (.tail _ (.tail _ (.tail _ (.tail _ (fm1)))))))))).1 (Nat.lt_trans hx (by decide)) hfx rfl ?_
      exact mulN (Nat.le_trans (wt_le (P.note x hx)) (by decide)) (Nat.le_trans (P.dist 0 x (by decide) hx) (by decide)) (Stop.mk ⟨⟨_, rfl⟩, _, _, rfl, fun _ _ e => e⟩)
    intro Db hDb tkDb ysb eDb hDnb hDlb hDsb hDfb hDkb
    have FDb := FRb.keeps hDkb
    have NDb := NRb.grown hDkb
    (try clear FRb)
    (try clear NRb)
    (try clear kRb)
    k_steps
    refine Stop.mk ?_
    refine sumK (vs := ysb.toList) rfl FDb NDb ⟨_, hDlb, rfl, _, rfl⟩ (ints_range hDsb hDfb) (fun hEb tkEb tEb FEb NEb => ?_)
    rw [sum_cast (fun x => wtV ps x * outF ab 4 0 x)]
    rw [show ((List.range 5).map (fun x => wtV ps x * outF ab 4 0 x)).sum = disV (wtV ps) (outF ab 4) 0 from rfl]
    (try clear FDb)
    (try clear NDb)
    clear hDfb hDsb hDlb hDnb hDkb
    k_steps
    refine Stop.mk ?_
    rw [if_neg (by rw [hlv]; simp)]
    k_steps
    refine Stop.mk ?_
    rename_i h18 F18 N18
    refine for_rangeC (h₀ := s1.heap) 5 0 (fun n m news => (m "even" = some (.ref el) ∧ ∃ th, m "heaviest" = some (.int (hvV (wtV ps) (outF ab 4) i n : Nat) th)) ∧ ∃ q6 v6, news = (I, oI) :: (el, listOf items e) :: ((s1.heap.objs.size + 1 + 1 + 1 + 1 + 1 + 1), q6) :: ((s1.heap.objs.size + 1 + 1 + 1 + 1 + 1), p5) :: ((s1.heap.objs.size + 1 + 1 + 1 + 1), p4) :: ((s1.heap.objs.size + 1 + 1 + 1), p3) :: ((s1.heap.objs.size + 1 + 1), p2) :: ((s1.heap.objs.size + 1), p1) :: own' ∧ q6.data = .cell v6) rfl (fun _ => rfl) ?_
    refine stopQ ?_
    k_steps
    refine Stop.mk ?_
    rename_i hR F28 N28 hk28
    refine ⟨_, _, _, _, _, _, _, rfl, hR, rfl, rfl, F28, N28, ⟨⟨rfl, _, rfl⟩, _, _, rfl, dq6⟩, ?_, ?_⟩
    · (try clear F28); (try clear N28); (try clear hk28); (try clear hR); (try clear F18); (try clear N18)
      intro n m₂ news₂ I2 oI2 hB tkB tB hn ⟨⟨hm2, th, hm3⟩, q6', v6', hnews2, dq6'⟩ hnI2 FJ NJ2
      subst hnews2
      have F7 : Fr s1.heap s1.heap.objs.size hB (fun y => if y = "even" then some (.ref el) else if y = "heaviest" then some (.int (hvV (wtV ps) (outF ab 4) i n : Nat) th) else m₂ y) := fr_of FJ (funext fun y => by
        by_cases h1 : y = "even"
        · rw [if_pos h1, h1, hm2]
        · rw [if_neg h1]
          by_cases h2 : y = "heaviest"
          · rw [if_pos h2, h2, hm3]
          · rw [if_neg h2])
      clear FJ
      have u0 : I2 ≠ el := Ne.symm (hnI2 _ (.tail _ (.head _)))
      have u7 : I2 ≠ I := Ne.symm (hnI2 _ (.head _))
      have u8 : ∀ p ∈ own', p.1 ≠ I2 := fun p hp => hnI2 p (.tail _ (.tail _ (.tail _ (.tail _ (.tail _ (.tail _ (.tail _ (.tail _ hp))))))))
      have u6 : I2 ≠ (s1.heap.objs.size + 1 + 1 + 1 + 1 + 1 + 1) := Ne.symm (hnI2 _ (.tail _ (.tail _ (.head _))))
      have u5 : I2 ≠ (s1.heap.objs.size + 1 + 1 + 1 + 1 + 1) := Ne.symm (hnI2 _ (.tail _ (.tail _ (.tail _ (.head _)))))
      have u4 : I2 ≠ (s1.heap.objs.size + 1 + 1 + 1 + 1) := Ne.symm (hnI2 _ (.tail _ (.tail _ (.tail _ (.tail _ (.head _))))))
      have u3 : I2 ≠ (s1.heap.objs.size + 1 + 1 + 1) := Ne.symm (hnI2 _ (.tail _ (.tail _ (.tail _ (.tail _ (.tail _ (.head _)))))))
      have u2 : I2 ≠ (s1.heap.objs.size + 1 + 1) := Ne.symm (hnI2 _ (.tail _ (.tail _ (.tail _ (.tail _ (.tail _ (.tail _ (.head _))))))))
      have u1 : I2 ≠ (s1.heap.objs.size + 1) := Ne.symm (hnI2 _ (.tail _ (.tail _ (.tail _ (.tail _ (.tail _ (.tail _ (.tail _ (.head _)))))))))
      obtain ⟨itB, eB, fmB, fsB, fvB⟩ := fr4 i hi
      obtain ⟨tfB, hfB⟩ := fvB n hn
      rw [Int.zero_add]
      refine hideC fun Qi hQi => ?_
      k_steps
      refine Stop.mk ?_
      rename_i h19 q6'' F19 N19 gq6
      refine wpAny_If (stopQ ?_)
      k_steps
      refine Stop.mk ?_
      refine sub_listE (N19 _ (.tail _ (.tail _ (.tail _ (.tail _ (.tail _ (.tail _ (.tail _ (.tail _ (.tail _ (fo1))))))))))).1 (Nat.lt_trans hi (by decide)) (fo3 i hi) rfl ?_
      k_steps
      refine Stop.mk ?_
      refine sub_listE (N19 _ (.tail _ (.tail _ (.tail _ (.tail _ (.tail _ (.tail _ (.tail _ (.tail _ (.tail _ (fmB))))))))))).1 (Nat.lt_trans hn (by decide)) hfB rfl ?_
      k_steps
      refine Stop.mk ?_
      have hst : hvV (wtV ps) (outF ab 4) i (n + 1) = if outF ab 4 i n = 1 then max (hvV (wtV ps) (outF ab 4) i n) (brV (wtV ps) (outF ab 4) i n) else hvV (wtV ps) (outF ab 4) i n := rfl
      by_cases hfn : outF ab 4 i n = 1
      · rw [if_pos hfn] at hst
        rw [if_pos (by rw [hfn]; rfl)]
        k_steps
        refine Stop.mk ?_
        refine comp_rangeF 5 (fun x => decide (outF ab 4 n x < outF ab 4 i x)) (fun x y => ∃ t, y = .int ((wtV ps x : Nat) : Int) t) rfl rfl (by decide) rfl (by decide) rfl (by rw [sizeLine_eq]; decide) ?_
        refine stopQ ?_
        k_steps
        refine Stop.mk ?_
        rename_i hRc FRc NRc kRc
        refine ⟨_, _, _, _, rfl, hRc, rfl, rfl, ?_, ?_, ?_⟩
        · intro C x tx s₃ m₃ E' hC hx hn3 hm3 hk3 htk3
          have N3 := NRc.grown hk3
          obtain ⟨itC, eC, fmC, fsC, fvC⟩ := fr4 n hn
          obtain ⟨tfC, hfC⟩ := fvC x hx
          obtain ⟨tfD, hfD⟩ := fvB x hx
          refine stopQ ?_
          refine wpAny_isTrue_Compare1 ?_ rfl
          k_steps
          refine Stop.mk ?_
          refine wpAny_Name (wpAny_loadName_cell (c := (s1.heap.objs.size + 1 + 1)) (v := .ref af) rfl rfl rfl ⟨_, (N3 _ (.tail _ (.tail _ (.tail _ (.tail _ (.tail _ (.tail _ (.tail _ (.head _))))))))).1, g2'⟩ ?_) (by decide)
          k_steps
          refine Stop.mk ?_
          refine wpAny_Name (wpAny_loadName_cell (c := (s1.heap.objs.size + 1 + 1 + 1 + 1 + 1 + 1)) (v := .int n tB) rfl rfl rfl ⟨_, (N3 _ (.tail _ (.tail _ (.tail _ (.head _))))).1, gq6⟩ ?_) (by decide)
          k_steps
          refine Stop.mk ?_
          refine sub_listE (N3 _ (.tail _ (.tail _ (.tail _ (.tail _ (.tail _ (.tail _ (.tail _ (.tail _ (.tail _ (fo1))))))))))).1 (Nat.lt_trans hn (by decide)) (fo3 n hn) rfl ?_
          k_steps
          refine Stop.mk ?_
          refine wpAny_Name (wpAny_loadName_local rfl rfl hn3 hm3 ?_) (by decide)
          k_steps
          refine Stop.mk ?_
          refine sub_listE (N3 _ (.tail _ (.tail _ (.tail _ (.tail _ (.tail _ (.tail _ (.tail _ (.tail _ (.tail _ (fmC))))))))))).1 (Nat.lt_trans hx (by decide)) hfC rfl ?_
          k_steps
          refine Stop.mk ?_
          refine wpAny_Name (wpAny_loadName_cell (c := (s1.heap.objs.size + 1 + 1)) (v := .ref af) rfl rfl rfl ⟨_, (N3 _ (.tail _ (.tail _ (.tail _ (.tail _ (.tail _ (.tail _ (.tail _ (.head _))))))))).1, g2'⟩ ?_) (by decide)
          k_steps
          refine Stop.mk ?_
          refine wpAny_Name (wpAny_loadName_cell (c := (s1.heap.objs.size + 1 + 1 + 1 + 1)) (v := .int i t) rfl rfl rfl ⟨_, (N3 _ (.tail _ (.tail _ (.tail _ (.tail _ (.tail _ (.head _))))))).1, gt⟩ ?_) (by decide)
          k_steps
          refine Stop.mk ?_
          refine sub_listE (N3 _ (.tail _ (.tail _ (.tail _ (.tail _ (.tail _ (.tail _ (.tail _ (.tail _ (.tail _ (fo1))))))))))).1 (Nat.lt_trans hi (by decide)) (fo3 i hi) rfl ?_
          k_steps
          refine Stop.mk ?_
          refine wpAny_Name (wpAny_loadName_local rfl rfl hn3 hm3 ?_) (by decide)
          k_steps
          refine Stop.mk ?_
          refine sub_listE (N3 _ (.tail _ (.tail _ (.tail _ (.tail _ (.tail _ (.tail _ (.tail _ (.tail _ (.tail _ (fmB))))))))))).1 (Nat.lt_trans hx (by decide)) hfD rfl ?_
          k_steps
          exact Stop.mk ⟨decide_eq_decide.mpr Int.ofNat_lt, _, _, rfl, fun _ _ e => e⟩
        · intro C x tx s₃ m₃ E' hC hx hn3 hm3 hk3 htk3
          have N3 := NRc.grown hk3
          obtain ⟨tw, hwx⟩ := hwt x hx
          refine stopQ ?_
          k_steps
          refine Stop.mk ?_
          refine wpAny_Name (wpAny_loadName_cell (c := (s1.heap.objs.size + 1 + 1 + 1)) (v := .ref wl) rfl rfl rfl ⟨_, (N3 _ (.tail _ (.tail _ (.tail _ (.tail _ (.tail _ (.tail _ (.head _)))))))).1, g3'⟩ ?_) (by decide)
          k_steps
          refine Stop.mk ?_
          refine wpAny_Name (wpAny_loadName_local rfl rfl hn3 hm3 ?_) (by decide)
          k_steps
          refine Stop.mk ?_
          refine sub_listE (N3 _ (.tail _ (.tail _ (.tail _ (.tail _ (.tail _ (.tail _ (.tail _ (.tail _ (.tail _ (hwm))))))))))).1 (Nat.lt_trans hx (by decide)) hwx rfl ?_
          exact Stop.mk ⟨⟨_, rfl⟩, _, _, rfl, fun _ _ e => e⟩
        intro Dc hDc tkDc ysc eDc hDnc hDlc hDPc hDkc
        have FDc := FRc.keeps hDkc
        have NDc := NRc.grown hDkc
        (try clear FRc); (try clear NRc); (try clear kRc)
        k_steps
        refine Stop.mk ?_
        refine sumK (vs := ysc.toList) rfl FDc NDc ⟨_, hDlc, rfl, _, rfl⟩ (ints_pair (g := fun x => ((wtV ps x : Nat) : Int)) hDPc) (fun hEc tkEc tEc FEc NEc => ?_)
        rw [sum_cast (fun x => wtV ps x)]
        rw [show (((List.range 5).filter fun x => decide (outF ab 4 n x < outF ab 4 i x)).map (fun x => wtV ps x)).sum = brV (wtV ps) (outF ab 4) i n from rfl]
        (try clear FDc); (try clear NDc); clear hDPc hDlc hDnc hDkc
        k_steps
        refine Stop.mk ?_
        refine max_two_T rfl (by assumption) (by assumption) (fun hG tkG _ FG NG => ?_)
        rw [max_nat, ← hst]
        k_steps
        refine hQi _ _ ?_
        refine ⟨_, _, _, (I, oI) :: (el, listOf items e) :: ((s1.heap.objs.size + 1 + 1 + 1 + 1 + 1 + 1), q6'') :: ((s1.heap.objs.size + 1 + 1 + 1 + 1 + 1), p5) :: ((s1.heap.objs.size + 1 + 1 + 1 + 1), p4) :: ((s1.heap.objs.size + 1 + 1 + 1), p3) :: ((s1.heap.objs.size + 1 + 1), p2) :: ((s1.heap.objs.size + 1), p1) :: own', rfl, by assumption, by assumption, ?_, ⟨rfl, _, rfl⟩, _, _, rfl, gq6⟩
        intro p hp
        simp only [List.mem_cons] at hp
        rcases hp with h | h | h | h | h | h | h | h | h
        · rw [h]; exact Ne.symm u7
        · rw [h]; exact Ne.symm u0
        · rw [h]; exact Ne.symm u6
        · rw [h]; exact Ne.symm u5
        · rw [h]; exact Ne.symm u4
        · rw [h]; exact Ne.symm u3
        · rw [h]; exact Ne.symm u2
        · rw [h]; exact Ne.symm u1
        · exact u8 p h
      · rw [if_neg hfn] at hst
        rw [if_neg (by simp; omega)]
        k_steps
        refine hQi _ _ ?_
        refine ⟨_, _, _, (I, oI) :: (el, listOf items e) :: ((s1.heap.objs.size + 1 + 1 + 1 + 1 + 1 + 1), q6'') :: ((s1.heap.objs.size + 1 + 1 + 1 + 1 + 1), p5) :: ((s1.heap.objs.size + 1 + 1 + 1 + 1), p4) :: ((s1.heap.objs.size + 1 + 1 + 1), p3) :: ((s1.heap.objs.size + 1 + 1), p2) :: ((s1.heap.objs.size + 1), p1) :: own', rfl, by assumption, by assumption, ?_, ⟨rfl, th, by rw [hst]; rfl⟩, _, _, rfl, gq6⟩
        intro p hp
        simp only [List.mem_cons] at hp
        rcases hp with h | h | h | h | h | h | h | h | h
        · rw [h]; exact Ne.symm u7
        · rw [h]; exact Ne.symm u0
        · rw [h]; exact Ne.symm u6
        · rw [h]; exact Ne.symm u5
        · rw [h]; exact Ne.symm u4
        · rw [h]; exact Ne.symm u3
        · rw [h]; exact Ne.symm u2
        · rw [h]; exact Ne.symm u1
        · exact u8 p h
    (try clear F28); (try clear N28); (try clear hk28); (try clear hR); (try clear F18); (try clear N18)
    intro m₂ news₂ hB tkB ⟨⟨hm2, th, hm3⟩, q6', v6', hnews2, dq6'⟩ FJ NJ2
    subst hnews2
    have F7 : Fr s1.heap s1.heap.objs.size hB (fun y => if y = "even" then some (.ref el) else if y = "heaviest" then some (.int (hvV (wtV ps) (outF ab 4) i 5 : Nat) th) else m₂ y) := fr_of FJ (funext fun y => by
      by_cases h1 : y = "even"
      · rw [if_pos h1, h1, hm2]
      · rw [if_neg h1]
        by_cases h2 : y = "heaviest"
        · rw [if_pos h2, h2, hm3]
        · rw [if_neg h2])
    clear FJ
    dsimp only
    k_steps
    refine Stop.mk ?_
    refine wpAny_If (stopQ ?_)
    k_steps
    refine Stop.mk ?_
    refine mulN (a := 2) (by decide) (Nat.le_trans (hv_le (fun x hx => wt_le (P.note x hx)) i 5) (by decide)) ?_
    k_steps
    refine Stop.mk ?_
    refine sumK (vs := wv.toList) rfl F7 NJ2 ⟨_, (NJ2 _ (.tail _ (.tail _ (.tail _ (.tail _ (.tail _ (.tail _ (.tail _ (.tail _ (hwm)))))))))).1, rfl, _, rfl⟩ hwI (fun hEc tkEc tEc FEc NEc => ?_)
    rw [sum_cast (fun x => wtV ps x)]
    rw [show ((List.range 5).map (fun x => wtV ps x)).sum = totV (wtV ps) from rfl]
    (try clear F7); (try clear NJ2)
    k_steps
    refine Stop.mk ?_
    by_cases hle : 2 * hvV (wtV ps) (outF ab 4) i 5 ≤ totV (wtV ps)
    · have hsz : items.size ≤ 5 := by
        have h1 := hev.length
        rw [Array.length_toList, List.length_map] at h1
        have h2 := List.length_filter_le (evB (wtV ps) (outF ab 4)) (List.range i)
        rw [List.length_range] at h2
        omega
      have hev1 : evB (wtV ps) (outF ab 4) i = true := decide_eq_true hle
      rw [if_pos (decide_eq_true (Int.ofNat_le.mpr hle))]
      k_steps
      refine hQh _ _ ?_
      refine ⟨_, _, _, (el, listOf (items.push (.int i t)) (e + 1)) :: ((s1.heap.objs.size + 1 + 1 + 1 + 1 + 1 + 1), q6') :: ((s1.heap.objs.size + 1 + 1 + 1 + 1 + 1), p5) :: ((s1.heap.objs.size + 1 + 1 + 1 + 1), p4) :: ((s1.heap.objs.size + 1 + 1 + 1), p3) :: ((s1.heap.objs.size + 1 + 1), p2) :: ((s1.heap.objs.size + 1), p1) :: own', rfl, by assumption, by assumption, ?_, rfl, _, _, _, _, _, _, rfl, dq6', gt, ?_⟩
      · intro p hp
        simp only [List.mem_cons] at hp
        rcases hp with h | h | h | h | h | h | h | h
        · rw [h]; exact Ne.symm q0
        · rw [h]; exact Ne.symm r6
        · rw [h]; exact Ne.symm r5
        · rw [h]; exact Ne.symm r4
        · rw [h]; exact Ne.symm r3
        · rw [h]; exact Ne.symm r2
        · rw [h]; exact Ne.symm r1
        · exact cI p h
      · rw [even_take hev1, Array.toList_push]
        exact ints_snoc hev _ _
    · have hev0 : ¬ evB (wtV ps) (outF ab 4) i = true := fun q => hle (of_decide_eq_true q)
      rw [if_neg (fun q => hle (Int.ofNat_le.mp (of_decide_eq_true q)))]
      k_steps
      refine hQh _ _ ?_
      refine ⟨_, _, _, (el, listOf items e) :: ((s1.heap.objs.size + 1 + 1 + 1 + 1 + 1 + 1), q6') :: ((s1.heap.objs.size + 1 + 1 + 1 + 1 + 1), p5) :: ((s1.heap.objs.size + 1 + 1 + 1 + 1), p4) :: ((s1.heap.objs.size + 1 + 1 + 1), p3) :: ((s1.heap.objs.size + 1 + 1), p2) :: ((s1.heap.objs.size + 1), p1) :: own', rfl, by assumption, by assumption, ?_, rfl, _, _, _, _, _, _, rfl, dq6', gt, ?_⟩
      · intro p hp
        simp only [List.mem_cons] at hp
        rcases hp with h | h | h | h | h | h | h | h
        · rw [h]; exact Ne.symm q0
        · rw [h]; exact Ne.symm r6
        · rw [h]; exact Ne.symm r5
        · rw [h]; exact Ne.symm r4
        · rw [h]; exact Ne.symm r3
        · rw [h]; exact Ne.symm r2
        · rw [h]; exact Ne.symm r1
        · exact cI p h
      · rw [even_skip hev0]
        exact hev
  (try clear F28); (try clear N28); (try clear hk28); (try clear hR); (try clear F15); (try clear N15)
  intro m₁ news₁ h tk ⟨hm1, items, e, q6, q4, v6, v4, hnews, dq6, dq4, hev⟩ FJ NJ
  subst hnews
  have F7 : Fr s1.heap s1.heap.objs.size h (fun y => if y = "even" then some (.ref el) else m₁ y) := fr_of FJ (funext fun y => by
    by_cases h1 : y = "even"
    · rw [if_pos h1, h1, hm1]
    · rw [if_neg h1])
  clear FJ
  dsimp only
  k_steps
  refine Stop.mk ?_
  refine comp_rangeA 5 (shB (lenV ps (outF ab 4))) (fun i y => ∃ t, y = .int ((i : Nat) : Int) t) rfl rfl rfl rfl rfl (by decide) rfl (by decide) rfl (by rw [sizeLine_eq]; decide) ?_
  refine stopQ ?_
  k_steps
  refine Stop.mk ?_
  rename_i hRd FRd NRd kRd
  refine ⟨_, _, _, _, _, rfl, hRd, rfl, rfl, FRd.ns, ?_, ?_, ?_⟩
  · intro C i ti s₃ m₃ E' hC hi hn3 hm3 hk3 htk3
    have N3 := NRd.grown hk3
    have kk : InElt s1.heap s₃.heap := fun b o e => hk3 _ _ (FRd.keep _ _ e)
    obtain ⟨tpi, hpi⟩ := hpt i hi
    refine stopQ ?_
    refine wpAny_isTrue_Compare1 ?_ rfl
    k_steps
    refine Stop.mk ?_
    k_dflt (refine' nameC_B ?zk ?zX ?zT ?ze ?zv ?zn ?_ ?zg ?zb ?zh ?zx; (case zg => exact rfl); (case zb => exact rfl); (case zh => exact rfl); (case zx => exact rfl); (case zk => exact kk); (case zX => exact KX); (case zT => exact topRead_of T); (case ze => k_is); (case zv => boot_fast); (case zn => decide); k_whole)
    k_steps
    refine Stop.mk ?_
    refine wpAny_Name (wpAny_loadName_cell (c := (s1.heap.objs.size + 1 + 1 + 1 + 1 + 1)) (v := .ref pg) rfl rfl rfl ⟨_, (N3 _ (.tail _ (.tail _ (.head _)))).1, g5'⟩ ?_) (by decide)
    k_steps
    refine Stop.mk ?_
    refine wpAny_Name (wpAny_loadName_local rfl rfl hn3 hm3 ?_) (by decide)
    k_steps
    refine Stop.mk ?_
    refine sub_listE (N3 _ (.tail _ (.tail _ (.tail _ (.tail _ (.tail _ (.tail _ (.tail _ (hpm))))))))).1 (Nat.lt_trans hi (by decide)) hpi rfl ?_
    k_steps
    refine Stop.mk ?_
    refine lenS (Nat.le_trans (P.len i hi) (by decide)) ?_
    k_steps
    refine Stop.mk ?_
    k_dflt (refine' nameC_B ?zk ?zX ?zT ?ze ?zv ?zn ?_ ?zg ?zb ?zh ?zx; (case zg => exact rfl); (case zb => exact rfl); (case zh => exact rfl); (case zx => exact rfl); (case zk => exact kk); (case zX => exact KX); (case zT => exact topRead_of T); (case ze => k_is); (case zv => boot_fast); (case zn => decide); k_whole)
    k_steps
    refine Stop.mk ?_
    refine comp_list (fun v y => ∃ (k : Nat) (t : Tok), k < 5 ∧ pv.toList[k]? = some v ∧ y = .int (lenV ps (outF ab 4) k : Nat) t) rfl rfl (by decide) rfl (by decide) rfl ?_
    refine stopQ ?_
    k_steps
    refine Stop.mk ?_
    refine wpAny_Name (wpAny_loadName_cell (c := (s1.heap.objs.size + 1 + 1 + 1 + 1 + 1)) (v := .ref pg) rfl rfl rfl ⟨_, (N3 _ (.tail _ (.tail _ (.head _)))).1, g5'⟩ ?_) (by decide)
    refine Stop.mk ⟨_, _, rfl, ⟨_, (N3 _ (.tail _ (.tail _ (.tail _ (.tail _ (.tail _ (.tail _ (.tail _ (hpm))))))))).1, rfl, _, rfl⟩, by rw [hpz, sizeLine_eq]; decide, ?_, ?_⟩
    · intro C2 v s₄ m₄ E2 hC2 hv hn4 hm4 hk4 htk4
      obtain ⟨k, hk'⟩ := Array.getElem?_of_mem hv
      have hk5 : k < 5 := by rw [← hpz]; exact (Array.getElem?_eq_some_iff.mp hk').1
      obtain ⟨tpk, hpk⟩ := hpt k hk5
      have hvq := Option.some.inj (hk'.symm.trans hpk)
      subst hvq
      have kk4 : InElt s1.heap s₄.heap := fun b o e => hk4 _ _ (kk _ _ e)
      refine stopQ ?_
      k_steps
      refine Stop.mk ?_
      k_dflt (refine' nameC_B ?zk ?zX ?zT ?ze ?zv ?zn ?_ ?zg ?zb ?zh ?zx; (case zg => exact rfl); (case zb => exact rfl); (case zh => exact rfl); (case zx => exact rfl); (case zk => exact kk4); (case zX => exact KX); (case zT => exact topRead_of T); (case ze => k_is); (case zv => boot_fast); (case zn => decide); k_whole)
      k_steps
      refine Stop.mk ?_
      refine wpAny_Name (wpAny_loadName_local rfl rfl hn4 hm4 ?_) (by decide)
      k_steps
      refine Stop.mk ?_
      refine lenS (Nat.le_trans (P.len k hk5) (by decide)) ?_
      exact Stop.mk ⟨⟨k, _, hk5, by rw [Array.getElem?_toList]; exact hpk, rfl⟩, _, _, rfl, fun _ _ e => e⟩
    · intro D2 hD2' tkD2 ys2 eD2 hDn2 hDl2 hDP2 hDk2
      have hIn := len_pair hDP2 (by rw [Array.length_toList, hpz]) (fun a b v ha hb => by
        rw [Array.getElem?_toList] at ha hb
        have ha5 : a < 5 := by rw [← hpz]; exact (Array.getElem?_eq_some_iff.mp ha).1
        have hb5 : b < 5 := by rw [← hpz]; exact (Array.getElem?_eq_some_iff.mp hb).1
        obtain ⟨ta, ea⟩ := hpt a ha5
        obtain ⟨tb, eb⟩ := hpt b hb5
        have e1 := (Option.some.inj (ea.symm.trans ha)).trans (Option.some.inj (eb.symm.trans hb)).symm
        have e2 := congrArg (fun z => z.cps.toList.length) (Value.str.inj e1).1
        unfold lenV
        simpa [S] using e2)
      k_steps
      refine Stop.mk ?_
      refine min_listE (vs := ys2.toList) rfl ⟨_, hDl2, rfl, _, rfl⟩ hIn (by rw [List.length_map]; decide) (fun hM M tM tkM hkM hM1 hM2 => ?_)
      rw [min_is hM1 hM2]
      k_steps
      exact Stop.mk ⟨beq_cast _ _, _, _, rfl, fun b o e => hkM _ _ (hDk2 _ _ e)⟩
  · intro C i ti s₃ m₃ E' hC hi hn3 hm3 hk3 htk3
    exact wpAny_Name (wpAny_loadName_local rfl rfl hn3 hm3 ⟨⟨_, rfl⟩, _, _, rfl, fun _ _ e => e⟩) (by decide)
  intro sl hS tkS sv se hSn hSl hSP hSns hSk
  have FS : Fr s1.heap s1.heap.objs.size hS (fun y => if y = "shortest" then some (.ref sl) else if y = "even" then some (.ref el) else m₁ y) := Mine.Fr.assign FRd hSns hSk
  have NS : News s1.heap s1.heap.objs.size hS ((sl, listOf sv se) :: (el, listOf items e) :: ((s1.heap.objs.size + 1 + 1 + 1 + 1 + 1 + 1), q6) :: ((s1.heap.objs.size + 1 + 1 + 1 + 1 + 1), p5) :: ((s1.heap.objs.size + 1 + 1 + 1 + 1), q4) :: ((s1.heap.objs.size + 1 + 1 + 1), p3) :: ((s1.heap.objs.size + 1 + 1), p2) :: ((s1.heap.objs.size + 1), p1) :: own') := Mine.News.madeA FRd NRd hSn hSl hSk
  have hsI := ints_pair (g := fun i => ((i : Nat) : Int)) hSP
  have hfe : (List.range 5).filter (evB (wtV ps) (outF ab 4)) = (List.range 5).filter (shB (lenV ps (outF ab 4))) := List.filter_congr fun x hx => P.med x (List.mem_range.mp hx)
  rw [hfe] at hev
  (try clear FRd); (try clear NRd); (try clear kRd); clear hSn hSl hSns hSk
  dsimp only
  k_steps
  refine Stop.mk ?_
  obtain ⟨sa, sb, hs1, hs2, hs3, hs4, hs5, hs6, hs7⟩ := two_facts P
  have hsz : sv.size = ((List.range 5).filter (shB (lenV ps (outF ab 4)))).length := by rw [← Array.length_toList, ← hSP.length]
  obtain ⟨_, hy1, ty1, rfl⟩ := paired_at hSP 0 sa hs1
  obtain ⟨_, hy2, ty2, rfl⟩ := paired_at hSP _ sb hs2
  rw [Array.getElem?_toList] at hy1 hy2
  rw [← hsz] at hs3 hs4 hy2
  obtain ⟨itZ, eZ, fmZ, fsZ, fvZ⟩ := fr4 sa hs6
  obtain ⟨tfZ, hfZ⟩ := fvZ sb hs7
  refine wpAny_If (isTrue_or (stopQ (wpAny_isTrue_Compare1 ?_ rfl)))
  k_steps
  refine Stop.mk ?_
  k_dflt (refine' ne_intsK (vs := sv.toList) (us := items.toList) ?zl ?zi ?zm ?zj ?zu ?_; (case zl => exact ⟨_, (NS _ (.head _)).1, rfl, _, rfl⟩); (case zi => exact hsI); (case zm => exact ⟨_, (NS _ (.tail _ (.head _))).1, rfl, _, rfl⟩); (case zj => exact hev); (case zu => units_room); k_whole)
  rw [decide_eq_true rfl]
  k_steps
  refine Stop.mk ?_
  rw [if_neg (by decide)]
  refine isTrue_or (stopQ (wpAny_isTrue_Compare1 ?_ rfl))
  k_steps
  refine Stop.mk ?_
  refine len_list ⟨_, (NS _ (.head _)).1, rfl, _, rfl⟩ (by omega) ?_
  k_steps
  refine Stop.mk ?_
  rw [if_neg (fun q => by have := of_decide_eq_true q; omega)]
  refine isTrue_or (stopQ (wpAny_isTrue_Compare1 ?_ rfl))
  k_steps
  refine Stop.mk ?_
  refine sub_listE (k := 0) (NS _ (.head _)).1 (by decide) hy1 rfl ?_
  k_steps
  refine Stop.mk ?_
  refine sub_listE (NS _ (.tail _ (.tail _ (.tail _ (.tail _ (.tail _ (.tail _ (.tail _ (.tail _ (fo1)))))))))).1 (Nat.lt_trans hs6 (by decide)) (fo3 sa hs6) rfl ?_
  k_steps
  refine Stop.mk ?_
  refine sub_last ⟨_, (NS _ (.head _)).1, rfl, _, rfl⟩ hs4 hy2 ?_
  k_steps
  refine Stop.mk ?_
  refine sub_listE (NS _ (.tail _ (.tail _ (.tail _ (.tail _ (.tail _ (.tail _ (.tail _ (.tail _ (fmZ)))))))))).1 (Nat.lt_trans hs7 (by decide)) hfZ rfl ?_
  k_steps
  refine Stop.mk ?_
  rw [if_neg (fun q => by have := of_decide_eq_true q; omega)]
  refine isTrue_or_nil ?_
  rw [if_neg (by decide)]
  k_steps
  refine Stop.mk ?_
  have hpwS : PW hS ap ps := hPN.pw (fun p hp => NS p (.tail _ (.tail _ (.tail _ (.tail _ (.tail _ (.tail _ (.tail _ (.tail _ (hp))))))))))
  have hfwS : FW hS af (outF ab 4) := hFN.fw (fun p hp => NS p (.tail _ (.tail _ (.tail _ (.tail _ (.tail _ (.tail _ (.tail _ (.tail _ (hp))))))))))
  refine comp_range 5 (fun i y => ∃ t, y = .str (S (pageV ps (outF ab 4) 6 i (-1))) t) rfl rfl (by decide) rfl (by decide) rfl (by rw [sizeLine_eq]; decide) ?_
  refine stopQ ?_
  k_steps
  refine Stop.mk ?_
  rename_i hRe FRe NRe kRe
  refine ⟨_, _, _, _, rfl, hRe, rfl, rfl, ?_, ?_⟩
  · intro C i t s₃ m₃ E' hC hi hn3 hm3 hk3 htk3
    have kk : InElt s1.heap s₃.heap := fun b o e => hk3 _ _ (FRe.keep _ _ e)
    have F11 := FRe.keeps hk3
    have N11 := NRe.grown hk3
    refine stopQ ?_
    k_steps
    refine Stop.mk ?_
    k_dflt (refine' nameC_K ?zk ?zX ?zT ?ze ?_ ?zg ?zh ?zx; (case zg => exact rfl); (case zh => exact rfl); (case zx => exact rfl); (case zk => exact kk); (case zX => exact KX); (case zT => exact topRead_of T); (case ze => k_is); k_whole)
    k_steps
    refine Stop.mk ?_
    refine wpAny_Name (wpAny_loadName_local rfl rfl hn3 hm3 ?_) (by decide)
    k_steps
    refine Stop.mk ?_
    refine wpAny_Name (wpAny_loadName_cell (c := (s1.heap.objs.size + 1)) (v := .ref ap) rfl rfl rfl ⟨_, (N11 _ (.tail _ (.tail _ (.tail _ (.tail _ (.tail _ (.tail _ (.tail _ (.head _))))))))).1, g1'⟩ ?_) (by decide)
    k_steps
    refine Stop.mk ?_
    refine wpAny_Name (wpAny_loadName_cell (c := (s1.heap.objs.size + 1 + 1)) (v := .ref af) rfl rfl rfl ⟨_, (N11 _ (.tail _ (.tail _ (.tail _ (.tail _ (.tail _ (.tail _ (.head _)))))))).1, g2'⟩ ?_) (by decide)
    k_steps
    refine Stop.mk ?_
    k_dflt (refine' PS.use (told_spec w _ _ _ mg mb ps (outF ab 4) ap af P.stT 6 i (-1) 0 _ _ _ (P.td i hi)) (below_caller s1.heap) ?k2 ?k3 ?k4 ?k5 ?k6 ?k7 ?k8 ?k9 ?kA ?_; (case k2 => exact F11); (case k3 => k_asm); (case k4 => exact N11); (case k5 => k_asm); (case k6 => exact rfl); (case k7 => exact ⟨(hpwS.mono kRe).mono hk3, (hfwS.mono kRe).mono hk3⟩); (case k8 => exact Nat.zero_le _); (case k9 => ktr_room); (case kA => ktr_units))
    rintro r h12 tk12 ht12 ⟨t12, rfl⟩ hk12 F12 N12
    exact Stop.mk ⟨⟨t12, by rw [P.same i hi]⟩, _, _, rfl, hk12⟩
  intro tl hT tkT tv te hTn hTl hTz hTf hTk
  have hpgI : StrsAre pv.toList ((List.range 5).map fun i => S (pageV ps (outF ab 4) 6 i (-1))) := strs_range hpz (fun k y e => by
    have hk : k < 5 := by rw [← hpz]; exact (Array.getElem?_eq_some_iff.mp e).1
    obtain ⟨t, e'⟩ := hpt k hk
    exact ⟨t, Option.some.inj (e.symm.trans e')⟩)
  have htlI : StrsAre tv.toList ((List.range 5).map fun i => S (pageV ps (outF ab 4) 6 i (-1))) := strs_range hTz hTf
  have hoks : ∀ n ∈ ((List.range 5).map fun i => S (pageV ps (outF ab 4) 6 i (-1))), PyData.strOk n = true := fun n hn => by
    obtain ⟨i, hi, rfl⟩ := List.mem_map.mp hn
    exact P.ok i (List.mem_range.mp hi)
  have NT := NRe.grown hTk
  have FT := FRe.keeps hTk
  (try clear FRe); (try clear NRe)
  k_steps
  refine Stop.mk ?_
  k_dflt (refine' eq_strsL (vs := pv.toList) (us := tv.toList) ?zl ?zi ?zm ?zj ?zo ?zu ?_; (case zl => exact ⟨_, (NT _ (.tail _ (.tail _ (.tail _ (.tail _ (.tail _ (.tail _ (.tail _ (.tail _ (hpm)))))))))).1, rfl, _, rfl⟩); (case zi => exact hpgI); (case zm => exact ⟨_, hTl, rfl, _, rfl⟩); (case zj => exact htlI); (case zo => exact hoks); (case zu => units_room); k_whole)
  exact goodW_bool (L := s1.heap.objs.size) (by first | exact FT | assumption) hg (by intro _; with_unfolding_all rfl) (by with_unfolding_all rfl))
end Mine
theorem PySem.Challenge.cw_sr0063_01_holds : PySem.Challenge.rw_sr0063_01.Holds := by
  exact Mine.M1
