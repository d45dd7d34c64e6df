import PyProof.Rows.All
import Wide.All
import OpenK.AllK
import Wide.FinOn
import Lean
import PySem.Challenge.RW_pa0004_01
open PySem PySem.W PyProof.Rows
set_option Elab.async false
set_option compiler.extract_closed false
set_option rowWalk.seconds 0
namespace Mine
set_option maxRecDepth 100000 in
set_option maxHeartbeats 8000000 in
open_top hd for PySem.Challenge.rw_pa0004_01
section
open PySem PySem.W PySem.Calls PySem.Spec PyProof.Rows
/-- what a call of the def at f with these arguments gives, from any caller's frame: the answer and the new objects that stay known -/
noncomputable def Says (w : World) (f : Addr) (news : List (Addr × Obj)) (vs : List Value) (deep room : Nat) (Out : Value → List (Addr × Obj) → Prop) : Prop :=
  ∀ (mean : ExcName → Option Value) (mg mb : Str → Option Value) (dp un : Nat) (gd : Option (List Code)) (cn : Str) (cs : Scope) (a : Addr) (ccd : Value) (cl : List (Str × Addr)) (outer : List Env) (A₀ : Around) (base h₀ : Heap) (L : Addr) (m : Str → Option Value) (s : Shared) (Q E : Value → Shared → Prop),
    Below A₀ base outer h₀ → Fr h₀ L s.heap m → (hd.heap_39 w.params).In h₀ → News h₀ L s.heap news →
    Top hd.view_39 (looseW hd.view_39 [Str.ofString "bytes_types", Str.ofString "a2b_base64", Str.ofString "b2a_base64", Str.ofString "b64encode", Str.ofString "b64decode"]) mean mg mb h₀ →
    cs.kind = .function → dp + deep < recursionLimit → un + room < cLine →
    (∀ r tl h' tk', Out r tl → Fr h₀ L h' m → News h₀ L h' (tl ++ news) → Q r { s with heap := h', toks := tk' }) →
    wpAny (model Challenge.rw_pa0004_01.row.prog w) (ktrTop dp un gd cn cs L a ccd cl outer) (call (.ref f) vs) Q E s

theorem says_use {w : World} {f : Addr} {news : List (Addr × Obj)} {vs : List Value} {deep room : Nat} {Out : Value → List (Addr × Obj) → Prop} (C : Says w f news vs deep room Out)
    {mean : ExcName → Option Value} {mg mb : Str → Option Value} {dp un : Nat} {gd : Option (List Code)} {cn : Str} {cs : Scope} {a : Addr} {ccd : Value} {cl : List (Str × Addr)} {outer : List Env} {A₀ : Around} {base h₀ : Heap} {L : Addr} {m : Str → Option Value} {s : Shared} {Q E : Value → Shared → Prop}
    (B : Below A₀ base outer h₀) (F : Fr h₀ L s.heap m) (X : (hd.heap_39 w.params).In h₀) (N : News h₀ L s.heap news)
    (T : Top hd.view_39 (looseW hd.view_39 [Str.ofString "bytes_types", Str.ofString "a2b_base64", Str.ofString "b2a_base64", Str.ofString "b64encode", Str.ofString "b64decode"]) mean mg mb h₀)
    (hk : cs.kind = .function) (hdp : dp + deep < recursionLimit) (hun : un + room < cLine)
    (ret : ∀ r tl h' tk', Out r tl → Fr h₀ L h' m → News h₀ L h' (tl ++ news) → Q r { s with heap := h', toks := tk' }) :
    wpAny (model Challenge.rw_pa0004_01.row.prog w) (ktrTop dp un gd cn cs L a ccd cl outer) (call (.ref f) vs) Q E s :=
  C mean mg mb dp un gd cn cs a ccd cl outer A₀ base h₀ L m s Q E B F X N T hk hdp hun ret

theorem ret0 {h₀ h' : Heap} {L : Addr} {m : Str → Option Value} {s : Shared} {news : List (Addr × Obj)} {Out : Value → List (Addr × Obj) → Prop} {Q : Value → Shared → Prop} {r : Value} {tk' : Nat}
    (hret : ∀ r tl h' tk', Out r tl → Fr h₀ L h' m → News h₀ L h' (tl ++ news) → Q r { s with heap := h', toks := tk' })
    (F : Fr h₀ L h' m) (N : News h₀ L h' news) (o : Out r []) : Q r { s with heap := h', toks := tk' } :=
  hret r [] h' tk' o F N

theorem newsCons {h₀ h : Heap} {L : Addr} {news : List (Addr × Obj)} {p : Addr × Obj} (N : News h₀ L h news) (hp : p ∈ news) : News h₀ L h (p :: news) := fun q hq => by
  rcases List.mem_cons.mp hq with rfl | hq
  · exact N _ hp
  · exact N _ hq
theorem newsSub {h₀ h : Heap} {L : Addr} {news led : List (Addr × Obj)} (N : News h₀ L h led) (hs : ∀ p ∈ news, p ∈ led) : News h₀ L h news := fun p hp => N p (hs p hp)

section
variable {prog : Program} {w : World} {A : Around} {α : Type} {c : Sem α} {Q : α → Shared → Prop} {E : Value → Shared → Prop} {s : Shared} {env : Env} {AA : Around} {ol : List Env} {base g : Heap} {dp un : Nat} {gd : Option (List Code)}
/-- a frame's surroundings with few letters -/
abbrev flatA (dp un : Nat) (gd : Option (List Code)) (fr : List Env) : Around := { handled := none, depth := dp, frames := some fr, guards := gd, units := un }
theorem gen_tk {h : Heap} {tk : Nat} (s₀ : Shared) (t : ∀ tk, wpAny (model prog w) A c Q E { s₀ with heap := h, toks := tk }) : wpAny (model prog w) A c Q E { s₀ with heap := h, toks := tk } := t _
/-- what is under this frame is any list, and nothing is raised -/
theorem gen_A (deep room : Nat) (B : Below AA base ol g) (hd : dp + deep < recursionLimit) (hu : un + room < cLine)
    (t : ∀ AA ol dp un gd, Below AA base ol g → dp + deep < recursionLimit → un + room < cLine → wpAny (model prog w) (flatA dp un gd (env :: ol)) c Q (fun _ _ => False) s) : wpAny (model prog w) (flatA dp un gd (env :: ol)) c Q E s := wpAny_noRaise (t _ _ _ _ _ B hd hu)
/-- a loop's turn, with what comes behind it left open -/
theorem gen_turn {h₀ h : Heap} {tk : Nat} {L : Addr} {body : List Stmt} {J : (Str → Option Value) → List (Addr × Obj) → Prop} {own : List (Addr × Obj)} {adr : List Addr} {Q : Flow → Shared → Prop}
    (t : ∀ (R : Flow → Shared → Prop) (s : Shared), (∀ f h' tk', (f = .next ∨ f = .cont) → InvEndN h₀ L J own adr { s with heap := h, toks := tk } { s with heap := h', toks := tk' } → R f { s with heap := h', toks := tk' }) →
      wpAny (model prog w) A (execs body env) R (fun _ _ => False) { s with heap := h, toks := tk }) :
    wpAny (model prog w) A (execs body env) (InvPostN h₀ L J own adr { s with heap := h, toks := tk } Q) E { s with heap := h, toks := tk } :=
  wpAny_noRaise (t _ s fun f h' tk' hf j => by rcases hf with rfl | rfl <;> exact j)
end
theorem fr_two {h₀ h : Heap} {L : Addr} {m : Str → Option Value} {a b : Str} {u v : Value} (F : Fr h₀ L h m) (ha : m a = some u) (hb : m b = some v) : ∃ m', m' = m ∧ Fr h₀ L h (fun y => if y = a then some u else if y = b then some v else m' y) := by
  refine ⟨m, rfl, ?_⟩
  have e : (fun y => if y = a then some u else if y = b then some v else m y) = m := by
    funext y
    split
    · rename_i q; rw [q, ha]
    · split
      · rename_i q; rw [q, hb]
      · rfl
  rw [e]
  exact F
theorem lt_up0 {x b n : Nat} (h : x + b < n) : x < n := Nat.lt_of_le_of_lt (Nat.le_add_right x b) h
theorem lt_up1 {x a b n : Nat} (h : x + b < n) (e : a ≤ b) : x + a < n := Nat.lt_of_le_of_lt (Nat.add_le_add_left e x) h
theorem lt_up2 {x a₁ a b n : Nat} (h : x + b < n) (e : a₁ + a ≤ b) : x + a₁ + a < n := by rw [Nat.add_assoc]; exact lt_up1 h e
theorem lt_up3 {x a₁ a₂ a b n : Nat} (h : x + b < n) (e : a₁ + a₂ + a ≤ b) : x + a₁ + a₂ + a < n := by rw [Nat.add_assoc x a₁ a₂]; exact lt_up2 h e
theorem lt_up4 {x a₁ a₂ a₃ a b n : Nat} (h : x + b < n) (e : a₁ + a₂ + a₃ + a ≤ b) : x + a₁ + a₂ + a₃ + a < n := by rw [Nat.add_assoc x a₁ a₂]; exact lt_up3 h e
local macro_rules | `(tactic| k_room) => `(tactic| ((try dsimp only [depth_deeper, units_deeper, ktrTop, flatA]); first | exact lt_up0 (by assumption) | exact lt_up1 (by assumption) (by decide) | exact lt_up2 (by assumption) (by decide) | exact lt_up3 (by assumption) (by decide) | exact lt_up4 (by assumption) (by decide) | ((try simp only [depth_under_make, depth_under_kw, depth_in1, depth_deeper, depth_caller, units_in1, units_deeper, Around.mark_units, units_caller]); (try dsimp only [ktrTop, flatA]); omega)))
local macro_rules | `(tactic| k_units) => `(tactic| k_room)
set_option maxRecDepth 100000 in
set_option maxHeartbeats 8000000 in
theorem c_comment (w : World) (news : List (Addr × Obj)) (x : Str) (t : Tok) (hx : x.length ≤ 1000) :
    Says w 28 news [.str x t] 1 8 (fun r tl => tl = [] ∧ ∃ t', r = .str (if (Txt.rstrip x).length = 0 then Str.ofString "#" else Str.ofString "# " ++ Txt.rstrip x) t') := by
  w_top off
  unfold Says
  k_fill
  intro mean mg mb dp un gd cn cs a ccd cl outer A₀ base h₀ L m s Q E B F X N T hk hdp hun hret
  have kMk : KstMark := kstMark
  refine wpAny_call ?_
  k_dflt (first
    | (refine' code_def ?k1 ?k2 ?k3 ?k4 ?k5 ?kA ?kF ?kK ?k6 ?k7 ?k8 ?k9 ?kB ?_ ?c2 ?c3 ?c4 ?c5; (case kA => exact rfl); (case kF => exact rfl); (case kK => assumption); (case k1 => k_asm); (case k2 => k_asm); (case k3 => k_asm); (case k4 => k_asm); (case k5 => k_asm); (case k6 => k_is); (case k7 => k_is); (case k8 => k_room); (case k9 => first | exact BindsTo.of_eq rfl | exact binds_K (by k_in) rfl (by k_is) rfl rfl rfl); (case c5 => decide); (case kB => exact locs rfl); (case c2 => exact rfl); (case c3 => exact rfl); (case c4 => exact rfl); k_whole; intro g' L' h' FG' F' N' B' X' T'; (try dsimp only); (try k_lift B'); (try k_fold))
    | (refine' code_defC ?k1 ?k2 ?k3 ?k4 ?k5 ?kA ?kF ?kK ?k6 ?k7 ?k8 ?k9 ?kB ?kD ?_ ?c2 ?c3 ?c4; (case kA => exact rfl); (case kF => exact rfl); (case kK => assumption); (case k1 => k_asm); (case k2 => k_asm); (case k3 => k_asm); (case k4 => k_asm); (case k5 => k_asm); (case k6 => k_is); (case k7 => k_is); (case k8 => k_room); (case k9 => first | exact BindsTo.of_eq rfl | exact binds_K (by k_in) rfl (by k_is) rfl rfl rfl); (case kB => exact rfl); (case kD => decide +kernel); (case c2 => exact rfl); (case c3 => exact rfl); (case c4 => exact rfl); k_whole; intro g' L' h' tk' cells' FG' F' N' Y' B' X' T' l1; (try k_lt l1); k_cells Y'; (try simp only [List.cons_append, List.nil_append] at N'); (try dsimp only); (try k_lift B'); (try k_fold)))
  k_steps
  · refine ret0 hret (by k_asm) (by k_asm) ⟨rfl, _, congrArg (Value.str · _) (if_neg (by omega)).symm⟩
  · refine ret0 hret (by k_asm) (by k_asm) ⟨rfl, _, congrArg (Value.str · _) (if_pos (by omega)).symm⟩
section
noncomputable def octStep (c : List Int × Int × Int) (f : Int) : List Int × Int × Int :=
  if c.2.2 * 64 < 256 then (c.1, c.2.1 * 64 + f, c.2.2 * 64)
  else (c.1 ++ [(c.2.1 * 64 + f).fdiv ((c.2.2 * 64).fdiv 256)], (c.2.1 * 64 + f).fmod ((c.2.2 * 64).fdiv 256), (c.2.2 * 64).fdiv 256)
noncomputable def octFold (ns : List Int) : List Int × Int × Int := ns.foldl octStep ([], 0, 1)
noncomputable def octets (ns : List Int) : List Int := (octFold ns).1
noncomputable def OctI (pre row : List Int) (kept room : Int) : Prop := octFold pre = (row, kept, room) ∧ KBa.In row
theorem octI_nil : OctI [] [] 0 1 := ⟨rfl, fun _ h => nomatch h⟩
theorem octStep_lo {row : List Int} {kept room f : Int} (hr : room = 1) : octStep (row, kept, room) f = (row, kept * 64 + f, 64) := by subst hr; rfl
theorem octStep_hi {row : List Int} {kept room f r : Int} (hr : room = 4 * r) (h1 : 1 ≤ r) (hk : 0 ≤ kept * 64 + f) : octStep (row, kept, room) f = (row ++ [(kept * 64 + f) / r], (kept * 64 + f) % r, r) := by
  have e : (room * 64).fdiv 256 = r := by rw [Int.fdiv_eq_ediv_of_nonneg _ (by decide)]; omega
  unfold octStep
  rw [if_neg (by show ¬ room * 64 < 256; omega)]
  show (row ++ [(kept * 64 + f).fdiv ((room * 64).fdiv 256)], (kept * 64 + f).fmod ((room * 64).fdiv 256), (room * 64).fdiv 256) = _
  rw [e, Int.fdiv_eq_ediv_of_nonneg _ (by omega), Int.fmod_eq_emod_of_nonneg _ (by omega)]
theorem oct_turn {pre row row' : List Int} {kept kept' room room' f : Int} (h : OctI pre row kept room) (h0 : 0 ≤ kept) (h1 : kept < room) (hr : room = 1 ∨ room = 4 ∨ room = 16 ∨ room = 64) (hf : 0 ≤ f ∧ f < 64)
    (hl : row.length ≤ pre.length) (e : octStep (row, kept, room) f = (row', kept', room')) :
    0 ≤ kept' ∧ kept' < room' ∧ (room' = 1 ∨ room' = 4 ∨ room' = 16 ∨ room' = 64) ∧ row'.length ≤ (pre ++ [f]).length ∧ OctI (pre ++ [f]) row' kept' room' := by
  have hO : octFold (pre ++ [f]) = (row', kept', room') := by
    have h1 : List.foldl octStep ([], 0, 1) pre = (row, kept, room) := h.1
    unfold octFold
    rw [List.foldl_append, h1]
    exact e
  have hi : ∀ r : Int, room = 4 * r → (r = 1 ∨ r = 4 ∨ r = 16) →
      0 ≤ kept' ∧ kept' < room' ∧ (room' = 1 ∨ room' = 4 ∨ room' = 16 ∨ room' = 64) ∧ row'.length ≤ (pre ++ [f]).length ∧ OctI (pre ++ [f]) row' kept' room' := by
    intro r hr' hr3
    have hr1 : 1 ≤ r := by rcases hr3 with h | h | h <;> rw [h] <;> decide
    have hr4 : r = 1 ∨ r = 4 ∨ r = 16 ∨ r = 64 := hr3.elim .inl fun h => .inr (h.elim .inl fun h => .inr (.inl h))
    clear hr3
    have h2 := octStep_hi (row := row) (f := f) (kept := kept) hr' hr1 (by omega)
    rw [h2] at e
    injection e with e1 e2
    injection e2 with e2 e3
    subst e1 e2 e3
    have q0 : 0 ≤ (kept * 64 + f) / r := Int.ediv_nonneg (by omega) (by omega)
    have q1 : (kept * 64 + f) / r < 256 := Int.ediv_lt_of_lt_mul (by omega) (by omega)
    refine ⟨Int.emod_nonneg _ (by omega), Int.emod_lt_of_pos _ (by omega), hr4, by rw [List.length_append, List.length_append]; exact Nat.add_le_add_right hl 1, hO, ?_⟩
    intro k hk
    rcases List.mem_append.mp hk with hk | hk
    · exact h.2 k hk
    · rw [List.mem_singleton.mp hk]; exact ⟨q0, q1⟩
  rcases hr with hr | hr | hr | hr
  · rw [octStep_lo hr] at e
    injection e with e1 e2
    injection e2 with e2 e3
    subst e1 e2 e3
    exact ⟨by omega, by omega, .inr (.inr (.inr rfl)), by rw [List.length_append]; exact Nat.le_add_right_of_le hl, hO, h.2⟩
  · exact hi 1 (by rw [hr]; rfl) (.inl rfl)
  · exact hi 4 (by rw [hr]; rfl) (.inr (.inl rfl))
  · exact hi 16 (by rw [hr]; rfl) (.inr (.inr rfl))

theorem oct_lo {row : List Int} {kept room f : Int} (h : ¬ 256 ≤ room * 64) : octStep (row, kept, room) f = (row, kept * 64 + f, room * 64) := if_pos (by show room * 64 < 256; omega)
theorem oct_hi {row : List Int} {kept room f r9 : Int} (h : 256 ≤ room * 64) (hr : (room * 64).fdiv 256 = r9) : octStep (row, kept, room) f = (row ++ [(kept * 64 + f).fdiv r9], (kept * 64 + f).fmod r9, r9) := by
  subst hr
  exact if_neg (by show ¬ room * 64 < 256; omega)
theorem room_le {room : Int} (h : room = 1 ∨ room = 4 ∨ room = 16 ∨ room = 64) : room ≤ 64 := by rcases h with h | h | h | h <;> rw [h] <;> decide
theorem room_div {room : Int} (h : room = 1 ∨ room = 4 ∨ room = 16 ∨ room = 64) (h2 : 256 ≤ room * 64) : ∃ r9, (room * 64).fdiv 256 = r9 ∧ (r9 = 1 ∨ r9 = 4 ∨ r9 = 16) := by
  refine ⟨_, rfl, ?_⟩
  rcases h with rfl | rfl | rfl | rfl <;> revert h2 <;> decide
set_option maxRecDepth 100000 in
set_option maxHeartbeats 8000000 in
theorem c_octets (w : World) (news : List (Addr × Obj)) (l : Addr) (vs : List Value) (ns : List Int) (n : Nat) (hl : (l, listOf vs.toArray n) ∈ news) (hi : IntsAre vs ns) (hn : ∀ k ∈ ns, 0 ≤ k ∧ k < 64) (hlen : ns.length ≤ 100) :
    Says w 121 news [.ref l] 10 100 (fun r tl => tl = [] ∧ ∃ t', r = .bytes (byteArr (octets ns)) t') := by
  w_top off
  unfold Says
  k_fill
  intro mean mg mb dp un gd cn cs a ccd cl outer A₀ base h₀ L m s Q E B F X N T hk hdp hun hret
  have kMk : KstMark := kstMark
  replace N := newsCons N hl
  k_with_none
  k_with "state" =>
    first
    | exact ⟨by decide, by decide, .inl rfl, Nat.le_refl _, octI_nil⟩
    | exact oct_turn (by assumption) (by assumption) (by assumption) (by assumption) (by assumption) (by assumption) (oct_lo (by assumption))
    | exact oct_turn (by assumption) (by assumption) (by assumption) (by decide) (by assumption) (by assumption) rfl
  refine wpAny_call ?_
  k_dflt (first
    | (refine' code_def ?k1 ?k2 ?k3 ?k4 ?k5 ?kA ?kF ?kK ?k6 ?k7 ?k8 ?k9 ?kB ?_ ?c2 ?c3 ?c4 ?c5; (case kA => exact rfl); (case kF => exact rfl); (case kK => assumption); (case k1 => k_asm); (case k2 => k_asm); (case k3 => k_asm); (case k4 => k_asm); (case k5 => k_asm); (case k6 => k_is); (case k7 => k_is); (case k8 => k_room); (case k9 => first | exact BindsTo.of_eq rfl | exact binds_K (by k_in) rfl (by k_is) rfl rfl rfl); (case c5 => decide); (case kB => exact locs rfl); (case c2 => exact rfl); (case c3 => exact rfl); (case c4 => exact rfl); k_whole; intro g' L' h' FG' F' N' B' X' T'; (try dsimp only); (try k_lift B'); (try k_fold))
    | (refine' code_defC ?k1 ?k2 ?k3 ?k4 ?k5 ?kA ?kF ?kK ?k6 ?k7 ?k8 ?k9 ?kB ?kD ?_ ?c2 ?c3 ?c4; (case kA => exact rfl); (case kF => exact rfl); (case kK => assumption); (case k1 => k_asm); (case k2 => k_asm); (case k3 => k_asm); (case k4 => k_asm); (case k5 => k_asm); (case k6 => k_is); (case k7 => k_is); (case k8 => k_room); (case k9 => first | exact BindsTo.of_eq rfl | exact binds_K (by k_in) rfl (by k_is) rfl rfl rfl); (case kB => exact rfl); (case kD => decide +kernel); (case c2 => exact rfl); (case c3 => exact rfl); (case c4 => exact rfl); k_whole; intro g' L' h' tk' cells' FG' F' N' Y' B' X' T' l1; (try k_lt l1); k_cells Y'; (try simp only [List.cons_append, List.nil_append] at N'); (try dsimp only); (try k_lift B'); (try k_fold)))
  repeat' (first | (k_unfold; (try dsimp only)) | (k_end; wrow_close) | ((fail_if_success (with_reducible show wpAny _ _ (pyIter _) _ _ _)); walk1) | ((fail_if_success (with_reducible show wpAny _ _ (pyIter _) _ _ _)); dsimp only; walk1) | (leave1; try dsimp only) | fail "no step")
  k_state (fun pre row kept room => 0 ≤ kept ∧ kept < room ∧ (room = 1 ∨ room = 4 ∨ room = 16 ∨ room = 64) ∧ row.length ≤ pre.length ∧ OctI pre row kept room) "row" "kept" "room"
  · have hN := hn kN kMem
    rename_i kL h0 h1 hroom hle hoct hlen2
    have hr64 := room_le hroom
    refine gen_turn ?_
    intro R s hR
    refine gen_A 6 60 (by assumption) (by k_room) (by k_units) ?_
    repeat (rename Below _ _ _ _ => hz; clear hz)
    intro A₀ outer dp un gd B' hdp hun
    repeat' (first | (k_unfold; (try dsimp only)) | (k_end; wrow_close) | ((fail_if_success (with_reducible show wpAny _ _ (binaryOp Operator.FloorDiv _ _) _ _ _)); walk1) | ((fail_if_success (with_reducible show wpAny _ _ (binaryOp Operator.FloorDiv _ _) _ _ _)); dsimp only; walk1) | (leave1; try dsimp only) | fail "no step")
    · rcases hroom with rfl | rfl | rfl | rfl
      · exfalso
        omega
      all_goals (
        k_steps
        refine hR _ _ _ (.inl rfl) ?_
        k_steps)
    · refine hR _ _ _ (.inl rfl) ?_
      k_steps
  · rename_i h0 h1 hroom hle hoct hlen2
    have hin : KBa.In _ := hoct.2
    k_steps
    have hE : octets ns = _ := congrArg Prod.fst hoct.1
    exact ret0 hret (by k_asm) (newsSub (by k_asm) (by intro p9 h9; repeat (first | exact h9 | refine List.Mem.tail _ ?_))) ⟨rfl, _, by rw [hE]⟩
end
section
noncomputable def due (ns : List Int) (fl : Int) : Option (List Int) :=
  if (ns.length % 4 = 1 ∨ (1 < ns.length % 4 ∧ (ns.length % 4 : Nat) + fl < 4)) then none else some (octets ns)
noncomputable def oval (o : Option (List Int)) (t : Tok) : Value := match o with
  | none => .none
  | some ks => .bytes (byteArr ks) t

set_option maxRecDepth 100000 in
set_option maxHeartbeats 8000000 in
theorem c_due (w : World) (news : List (Addr × Obj)) (l : Addr) (vs : List Value) (ns : List Int) (n : Nat) (fl : Int) (t1 : Tok) (hf0 : 0 ≤ fl) (hf4 : fl < 4) (hl : (l, listOf vs.toArray n) ∈ news) (hi : IntsAre vs ns) (hn : ∀ k ∈ ns, 0 ≤ k ∧ k < 64) (hlen : ns.length ≤ 100) :
    Says w 143 news [.ref l, .int fl t1] 12 120 (fun r tl => tl = [] ∧ ∃ t', r = oval (due ns fl) t') := by
  w_top off
  unfold Says
  k_fill
  intro mean mg mb dp un gd cn cs a ccd cl outer A₀ base h₀ L m s Q E B F X N T hk hdp hun hret
  have kMk : KstMark := kstMark
  replace N := newsCons N hl
  k_with_none
  refine wpAny_call ?_
  k_dflt (first
    | (refine' code_def ?k1 ?k2 ?k3 ?k4 ?k5 ?kA ?kF ?kK ?k6 ?k7 ?k8 ?k9 ?kB ?_ ?c2 ?c3 ?c4 ?c5; (case kA => exact rfl); (case kF => exact rfl); (case kK => assumption); (case k1 => k_asm); (case k2 => k_asm); (case k3 => k_asm); (case k4 => k_asm); (case k5 => k_asm); (case k6 => k_is); (case k7 => k_is); (case k8 => k_room); (case k9 => first | exact BindsTo.of_eq rfl | exact binds_K (by k_in) rfl (by k_is) rfl rfl rfl); (case c5 => decide); (case kB => exact locs rfl); (case c2 => exact rfl); (case c3 => exact rfl); (case c4 => exact rfl); k_whole; intro g' L' h' FG' F' N' B' X' T'; (try dsimp only); (try k_lift B'); (try k_fold))
    | (refine' code_defC ?k1 ?k2 ?k3 ?k4 ?k5 ?kA ?kF ?kK ?k6 ?k7 ?k8 ?k9 ?kB ?kD ?_ ?c2 ?c3 ?c4; (case kA => exact rfl); (case kF => exact rfl); (case kK => assumption); (case k1 => k_asm); (case k2 => k_asm); (case k3 => k_asm); (case k4 => k_asm); (case k5 => k_asm); (case k6 => k_is); (case k7 => k_is); (case k8 => k_room); (case k9 => first | exact BindsTo.of_eq rfl | exact binds_K (by k_in) rfl (by k_is) rfl rfl rfl); (case kB => exact rfl); (case kD => decide +kernel); (case c2 => exact rfl); (case c3 => exact rfl); (case c4 => exact rfl); k_whole; intro g' L' h' tk' cells' FG' F' N' Y' B' X' T' l1; (try k_lt l1); k_cells Y'; (try simp only [List.cons_append, List.nil_append] at N'); (try dsimp only); (try k_lift B'); (try k_fold)))
  repeat' (first | (k_unfold; (try dsimp only)) | (k_end; wrow_close) | ((fail_if_success (with_reducible show wpAny _ _ (call (Value.ref _) _) _ _ _)); walk1) | ((fail_if_success (with_reducible show wpAny _ _ (call (Value.ref _) _) _ _ _)); dsimp only; walk1) | (leave1; try dsimp only) | fail "no step")
  all_goals have hm4 : ((ns.length : Int).fmod 4) = ((ns.length % 4 : Nat) : Int) := by rw [Int.fmod_eq_emod_of_nonneg _ (by decide)]; omega
  · exact ret0 hret (by k_asm) (newsSub (by k_asm) (by intro p9 h9; repeat (first | exact h9 | refine List.Mem.tail _ ?_))) ⟨rfl, 0, by unfold due; rw [if_pos (by omega)]; rfl⟩
  · exact ret0 hret (by k_asm) (newsSub (by k_asm) (by intro p9 h9; repeat (first | exact h9 | refine List.Mem.tail _ ?_))) ⟨rfl, 0, by unfold due; rw [if_pos (by omega)]; rfl⟩
  all_goals (
    rename News _ _ _ _ => NL
    refine says_use (c_octets _ _ _ _ _ _ (List.Mem.head _) hi hn hlen) (by k_asm) (by k_asm) (by k_asm) NL (by k_asm) rfl (by k_room) (by k_units) ?_
    rintro r9 tl9 h9 tk9 ⟨e9, t9, e9'⟩ F9 N9
    subst e9
    subst e9'
    dsimp only
    k_steps
    exact ret0 hret (by k_asm) (newsSub (by k_asm) (by intro p9 h9; repeat (first | exact h9 | refine List.Mem.tail _ ?_))) ⟨rfl, _, by unfold due; rw [if_neg (by omega)]; rfl⟩)
end
section
theorem pow64_ne (k : Nat) : (64 : Int) ^ k ≠ 0 := by
  exact Int.ne_of_gt (Int.pow_pos (by decide))
theorem pow64_log {k : Nat} (h : k ≤ 100) : ((64 : Int) ^ k).natAbs.log2 < 9000 := by
  have e : ((64 : Int) ^ k).natAbs = 64 ^ k := by rw [Int.natAbs_pow]; rfl
  rw [e]
  have h1 : 64 ^ k ≤ 64 ^ 100 := Nat.pow_le_pow_right (by decide) h
  have h0 : 64 ^ k ≠ 0 := Nat.ne_of_gt (Nat.pow_pos (by decide))
  have h2 : (64 ^ k).log2 < 601 := (Nat.log2_lt h0).mpr (Nat.lt_of_le_of_lt h1 (by decide +kernel))
  exact Nat.lt_of_lt_of_le h2 (by decide)
theorem pow_e {k : Int} {cnt : Nat} (h0 : 0 ≤ k) (h1 : k < 0 + ((((cnt : Int) - 0).toNat : Nat) : Int)) (h2 : cnt ≤ 14) : 0 ≤ (cnt : Int) - 1 - k ∧ (cnt : Int) - 1 - k ≤ 1000000 ∧ ((cnt : Int) - 1 - k).toNat ≤ 100 := by
  rw [Int.sub_zero, Int.toNat_natCast, Int.zero_add] at h1
  refine ⟨by omega, by omega, by omega⟩
local macro_rules | `(tactic| walk_at "binaryOp FloorDiv int int") => `(tactic| ((with_reducible show wpAny _ _ (binaryOp Operator.FloorDiv (Value.int _ _) (Value.int (64 ^ _) _)) _ _ _); refine floordiv_int (pow64_ne _) ?_ (Or.inl (PyProof.noPylong_of_log2 (pow64_log (pow_e (by assumption) (by assumption) (by assumption)).2.2)))))
local macro_rules | `(tactic| walk_at "binaryOp Pow int int") => `(tactic| ((with_reducible show wpAny _ _ (binaryOp Operator.Pow (Value.int 64 _) _) _ _ _); refine pow_int_small (pow_e (by assumption) (by assumption) (by assumption)).1 (pow_e (by assumption) (by assumption) (by assumption)).2.1 (by decide) ?_))
theorem below_up {news : List (Addr × Obj)} {L : Addr} (h : ∀ p ∈ news, p.1 < L) : AllLt (L + 1) news ∧ AllLt (L + 1 + 1) news :=
  ⟨allLt_of fun p hp => Nat.lt_succ_of_lt (h p hp), allLt_of fun p hp => Nat.lt_succ_of_lt (Nat.lt_succ_of_lt (h p hp))⟩
noncomputable def valOf (ks : List Int) : Int := ks.foldl (fun v o => v * 256 + o) 0
theorem valOf_snoc (ks : List Int) (o : Int) : valOf (ks ++ [o]) = valOf ks * 256 + o := by unfold valOf; rw [List.foldl_append]; rfl
noncomputable def ValI (pre : List Int) (v : Int) : Prop := v = valOf pre ∧ 0 ≤ v ∧ v < ((256 ^ pre.length : Nat) : Int)
theorem valI_nil : ValI [] 0 := ⟨rfl, by decide, by decide⟩
theorem valI_small {pre : List Int} {v : Int} (h : ValI pre v) (hl : pre.length ≤ 10) : 0 ≤ v ∧ v < 1208925819614629174706176 := by
  refine ⟨h.2.1, Int.lt_of_lt_of_le h.2.2 ?_⟩
  have h1 : 256 ^ pre.length ≤ 256 ^ 10 := Nat.pow_le_pow_right (by decide) hl
  have h2 : 256 ^ 10 = 1208925819614629174706176 := by decide +kernel
  rw [h2] at h1
  exact Int.ofNat_le.mpr h1
theorem valI_turn {pre : List Int} {v o : Int} (h : ValI pre v) (h0 : 0 ≤ o) (h1 : o < 256) : ValI (pre ++ [o]) (v * 256 + o) := by
  have h2 := h.2.1
  have h3 := h.2.2
  refine ⟨by rw [valOf_snoc, ← h.1], by omega, ?_⟩
  rw [List.length_append, List.length_singleton, Nat.pow_succ]
  generalize 256 ^ pre.length = q at *
  omega

noncomputable def figCount (ks : List Int) : Nat := (ks.length * 4 + 2) / 3
noncomputable def figVal (ks : List Int) : Int := valOf ks * 2 ^ (figCount ks * 6 - ks.length * 8)
noncomputable def figs (ks : List Int) : List Int := (rangeKs 0 (figCount ks)).map fun k => ((figVal ks).fdiv (64 ^ ((figCount ks : Int) - 1 - k).toNat)).fmod 64

theorem fig_ar : ∀ n < 11, (n * 4 + 2) / 3 ≤ 14 ∧ (n * 4 + 2) / 3 * 6 - n * 8 ≤ 4 ∧ n * 8 ≤ (n * 4 + 2) / 3 * 6 ∧ (∀ i < n * 8 / 6, 6 * ((n * 4 + 2) / 3 - 1 - i) = ((n * 4 + 2) / 3 * 6 - n * 8) + (n * 8 - 6 * (i + 1))) ∧
    (n * 4 + 2) / 3 = n * 8 / 6 + (if n * 8 % 6 = 0 then 0 else 1) ∧ (n * 8 % 6 = 2 → (n * 4 + 2) / 3 * 6 - n * 8 = 4) ∧ (n * 8 % 6 = 4 → (n * 4 + 2) / 3 * 6 - n * 8 = 2) ∧
    (n * 8 % 6 = 0 → (4 - (n * 4 + 2) / 3 % 4) % 4 = 0) ∧ (n * 8 % 6 = 2 → (4 - (n * 4 + 2) / 3 % 4) % 4 = 2) ∧ (n * 8 % 6 = 4 → (4 - (n * 4 + 2) / 3 % 4) % 4 = 1) := by decide +kernel
theorem fig_nums {ks : List Int} (hz : ks.length ≤ 10) : ∃ cnt pad : Nat, ((ks.length : Int) * 4 + 2).fdiv 3 = (cnt : Int) ∧ (cnt : Int) * 6 - (ks.length : Int) * 8 = (pad : Int) ∧ pad ≤ 4 ∧ cnt ≤ 14 ∧ figCount ks = cnt ∧ figCount ks * 6 - ks.length * 8 = pad := by
  obtain ⟨h1, h2, h3, _⟩ := fig_ar ks.length (Nat.lt_succ_of_le hz)
  refine ⟨_, _, ?_, (Int.ofNat_sub h3).symm, h2, h1, rfl, rfl⟩
  rw [Int.fdiv_eq_ediv_of_nonneg _ (by decide)]; rfl
theorem pad_fit {pad : Nat} (hp4 : pad ≤ 4) : Builtin.Int.intBits ((2 : Int) ^ ((pad : Int)).toNat) ≤ 64 :=
  (show ∀ pad < 5, Builtin.Int.intBits ((2 : Int) ^ (((pad : Nat) : Int)).toNat) ≤ 64 by decide +kernel) pad (Nat.lt_succ_of_le hp4)
theorem pad_V {v : Int} {pad : Nat} (hs : 0 ≤ v ∧ v < 1208925819614629174706176) (hp4 : pad ≤ 4) : 0 ≤ v * 2 ^ ((pad : Int)).toNat ∧ v * 2 ^ ((pad : Int)).toNat < 19342813113834066795298816 := by
  have hp := (show ∀ pad < 5, (0 : Int) ≤ (2 : Int) ^ (((pad : Nat) : Int)).toNat ∧ (2 : Int) ^ (((pad : Nat) : Int)).toNat ≤ 16 by decide +kernel) pad (Nat.lt_succ_of_le hp4)
  exact ⟨Int.mul_nonneg hs.1 hp.1, Int.lt_of_le_of_lt (Int.mul_le_mul_of_nonneg_left hp.2 hs.1) (Int.lt_of_lt_of_le (Int.mul_lt_mul_of_pos_right hs.2 (by decide)) (by decide))⟩
set_option maxRecDepth 100000 in
set_option maxHeartbeats 8000000 in
theorem c_figures (w : World) (news : List (Addr × Obj)) (b : Array UInt8) (ks : List Int) (t : Tok) (hb : KBw.bInts b = ks) (hz : ks.length ≤ 10) :
    Says w 126 news [.bytes b t] 10 100 (fun r tl => ∃ d ys, r = .ref d ∧ tl = [(d, listOf ys.toArray ys.length)] ∧ IntsAre ys (figs ks)) := by
  w_top off
  unfold Says
  k_fill
  intro mean mg mb dp un gd cn cs a ccd cl outer A₀ base h₀ L m s Q E B F X N T hk hdp hun hret
  have kMk : KstMark := kstMark
  k_with_none
  k_with "state" => exact valI_turn (by assumption) (by assumption) (by assumption)
  refine wpAny_call ?_
  k_dflt (first
    | (refine' code_def ?k1 ?k2 ?k3 ?k4 ?k5 ?kA ?kF ?kK ?k6 ?k7 ?k8 ?k9 ?kB ?_ ?c2 ?c3 ?c4 ?c5; (case kA => exact rfl); (case kF => exact rfl); (case kK => assumption); (case k1 => k_asm); (case k2 => k_asm); (case k3 => k_asm); (case k4 => k_asm); (case k5 => k_asm); (case k6 => k_is); (case k7 => k_is); (case k8 => k_room); (case k9 => first | exact BindsTo.of_eq rfl | exact binds_K (by k_in) rfl (by k_is) rfl rfl rfl); (case c5 => decide); (case kB => exact locs rfl); (case c2 => exact rfl); (case c3 => exact rfl); (case c4 => exact rfl); k_whole; intro g' L' h' FG' F' N' B' X' T'; (try dsimp only); (try k_lift B'); (try k_fold))
    | (refine' code_defC ?k1 ?k2 ?k3 ?k4 ?k5 ?kA ?kF ?kK ?k6 ?k7 ?k8 ?k9 ?kB ?kD ?_ ?c2 ?c3 ?c4; (case kA => exact rfl); (case kF => exact rfl); (case kK => assumption); (case k1 => k_asm); (case k2 => k_asm); (case k3 => k_asm); (case k4 => k_asm); (case k5 => k_asm); (case k6 => k_is); (case k7 => k_is); (case k8 => k_room); (case k9 => first | exact BindsTo.of_eq rfl | exact binds_K (by k_in) rfl (by k_is) rfl rfl rfl); (case kB => exact rfl); (case kD => decide +kernel); (case c2 => exact rfl); (case c3 => exact rfl); (case c4 => exact rfl); k_whole; intro g' L' h' tk' cells' FG' F' N' Y' B' X' T' l1; (try k_lt l1); k_cells Y'; (try simp only [List.cons_append, List.nil_append] at N'); (try dsimp only); (try k_lift B'); (try k_fold)))
  obtain ⟨hbl1, hbl2⟩ := below_up l1
  repeat' (first | (k_unfold; (try dsimp only)) | (k_end; wrow_close) | ((fail_if_success (with_reducible show wpAny _ _ (pyIter _) _ _ _)); walk1) | ((fail_if_success (with_reducible show wpAny _ _ (pyIter _) _ _ _)); dsimp only; walk1) | (leave1; try dsimp only) | fail "no step")
  refine gen_tk s ?_
  intro tk0
  rename_i d1 d2 h1' oC dC hV oV FV NV dV
  clear d1 d2
  with_unfolding_all refine' KStb.kst_bytes (σ := Obj × Int × Nat) (fun c => (L' + 1 + 1, c.1) :: (L' + 1, oC) :: news) (fun _ => []) (fun c => c.1.data = Data.cell (some (Value.int c.2.1 c.2.2))) [] (fun pre c => ValI pre c.2.1) (oV, 0, _) hb rfl (by rfl) FV NV dV (fun _ h => nomatch h) valI_nil ?_ ?_
  · rintro ⟨oW, v, tv⟩ pre post o to u h tk own e hlt h0 h1 hoff fac inv F' N'
    dsimp only at fac inv N'
    dsimp only [kstB] at F'
    simp only [List.cons_append] at N'
    have hs := valI_small inv (by omega)
    refine gen_turn ?_
    intro R s hR
    refine gen_A 6 60 (by assumption) (by k_room) (by k_units) ?_
    repeat (rename Below _ _ _ _ => hz; clear hz)
    intro A₀ outer dp un gd B' hdp hun
    k_steps
    refine hR _ _ _ (.inl rfl) ?_
    k_steps
  · rintro ⟨oW, v, tv⟩ u h tk hl fac inv F' N'
    dsimp only at fac inv N'
    dsimp only [kstB] at F'
    have hs := valI_small inv (by omega)
    obtain ⟨cnt, pad, hc, hpe, hp4, hcl, hcnt, hpad⟩ := fig_nums hz
    rw [hc] at dC
    clear hc
    repeat' (first | (k_unfold; (try dsimp only)) | (k_end; wrow_close) | ((fail_if_success (with_reducible show wpAny _ _ (inplaceOp _ _ _) _ _ _)); walk1) | ((fail_if_success (with_reducible show wpAny _ _ (inplaceOp _ _ _) _ _ _)); dsimp only; walk1) | (leave1; try dsimp only) | fail "no step")
    rw [hpe]
    have hfit := pad_fit hp4
    have hV := pad_V hs hp4
    walk1
    have hVe : figVal ks = v * 2 ^ ((pad : Int)).toNat := by
      rw [inv.1, Int.toNat_natCast]
      unfold figVal
      rw [hpad]
    generalize v * 2 ^ ((pad : Int)).toNat = V at *
    k_steps
    refine hret _ [_] _ _ ⟨_, ys, rfl, rfl, ?_⟩ (by k_asm) (newsSub (by k_asm) ?_)
    · rename IntsAre ys _ => hI
      have e : ((cnt : Int) - 0).toNat = cnt := by rw [Int.sub_zero, Int.toNat_natCast]
      rw [e] at hI
      unfold figs
      rw [hVe, hcnt]
      exact hI
    · intro p hp
      rcases List.mem_cons.mp hp with rfl | hp
      · exact .head _
      · exact .tail _ (.tail _ (.tail _ hp))
end
section
open LCg LCt

/-- the items of a made list, one by one -/
inductive Res {α : Type} (res : α → Tok → Value) : List Value → List α → Prop
  | nil : Res res [] []
  | cons {ys : List Value} {as : List α} (a : α) (t : Tok) : Res res ys as → Res res (res a t :: ys) (a :: as)
theorem Res.snoc {α : Type} {res : α → Tok → Value} {a : α} {t : Tok} : ∀ {ys : List Value} {as : List α}, Res res ys as → Res res (ys ++ [res a t]) (as ++ [a])
  | _, _, .nil => .cons a t .nil
  | _, _, .cons b u r => .cons b u (Res.snoc r)
theorem Res.ints {α : Type} {g : α → Int} : ∀ {ys : List Value} {as : List α}, Res (fun a t => Value.int (g a) t) ys as → IntsAre ys (as.map g)
  | _, _, .nil => .nil
  | _, _, .cons a t r => .cons _ t r.ints
theorem Res.strs {α : Type} {g : α → Str} : ∀ {ys : List Value} {as : List α}, Res (fun a t => Value.str (g a) t) ys as → StrsAre ys (as.map g)
  | _, _, .nil => .nil
  | _, _, .cons a t r => .cons _ t r.strs

section
variable {prog : Program} {w : World} {A : Around} {h₀ : Heap} {L : Addr} {m : Str → Option Value} {env : Env} {ct elt : Expr} {x : Str} {scope : Scope} {cl : List (Str × Addr)} {s : Shared} {S : List (Addr × Obj) → Prop} {P : Nat → Value → Prop} {Fin : List Value → List (Addr × Obj) → Prop} {news : List (Addr × Obj)}
theorem kz_rest {α : Type} {n : Nat} {as : List α} (val res : α → Tok → Value) (b : α → Bool) (hn : as.length = n) (hP : ∀ i v, i < n → P i v → ∃ a t, as[i]? = some a ∧ v = val a t)
    (turn : ∀ a t I oI C oC D m₂ ys h tk (E' : Value → Shared → Prop), a ∈ as → NsObj oC m₂ → m₂ x = some (val a t) → Fr h₀ L h m → News h₀ L h ((I, oI) :: (C, oC) :: (D, lst ys) :: news) → Off3 I C D news → ((@Ne Nat I C) ∧ (@Ne Nat I D) ∧ (@Ne Nat C D)) →
      wpAny (model prog w) A (isTrue ct (compEnvC scope cl C env) (eval ct (compEnvC scope cl C env))) (fun ok s' => if ok = true then
        wpAny (model prog w) A (eval elt (compEnvC scope cl C env)) (CompEnd h₀ L m { s with heap := h, toks := tk } I oI C oC D (lst ys) S (fun y news' => news' = news ∧ b a = true ∧ ∃ t', y = res a t')) E' s'
        else CompEnd h₀ L m { s with heap := h, toks := tk } I oI C oC D (lst ys) S (fun _ news' => news' = news ∧ b a = false) Value.none s') E' { s with heap := h, toks := tk })
    (fin : ∀ ys, Res res ys (as.filter b) → Fin ys news) : CompRestT prog w A h₀ L m env ct elt x scope cl s S P Fin n 0 [] news := by
  have key : ∀ (j i : Nat) (ys : List Value), i + j = n → Res res ys ((as.take i).filter b) → CompRestT prog w A h₀ L m env ct elt x scope cl s S P Fin j i ys news := by
    intro j
    induction j with
    | zero =>
      intro i ys hi hy
      have e : as.take i = as := List.take_of_length_le (by omega)
      rw [e] at hy
      exact CompRestT.zero (fin ys hy)
    | succ j ih =>
      intro i ys hi hy
      refine CompRestT.succ ?_
      intro v I oI C oC D m₂ h tk E' hv hC hx F N off ne
      obtain ⟨a, t, ha, hv'⟩ := hP i v (by omega) hv
      rw [hv'] at hx
      have ht : as.take (i + 1) = as.take i ++ [a] := by rw [List.take_add_one, ha]; rfl
      refine wpAny_mono (turn a t I oI C oC D m₂ ys h tk E' (List.mem_of_getElem? ha) hC hx F N off ne) (fun ok s₁ hq => ?_) fun _ _ e => e
      cases ok with
      | true =>
        simp only [if_true] at hq ⊢
        refine wpAny_mono hq (fun y s₂ hq => ?_) fun _ _ e => e
        obtain ⟨h', tk', nw, e, F', N', off', hS, hn', hb, t', hy'⟩ := hq
        rw [hn'] at N' off' hS
        refine ⟨h', tk', news, e, F', N', off', hS, ih (i + 1) _ (by omega) ?_⟩
        rw [ht, List.filter_append, hy']
        have : [a].filter b = [a] := by simp [hb]
        rw [this]
        exact hy.snoc
      | false =>
        simp only [Bool.false_eq_true, if_false] at hq ⊢
        obtain ⟨h', tk', nw, e, F', N', off', hS, hn', hb⟩ := hq
        rw [hn'] at N' off' hS
        refine ⟨h', tk', news, e, F', N', off', hS, ih (i + 1) _ (by omega) ?_⟩
        rw [ht, List.filter_append]
        have : [a].filter b = [] := by simp [hb]
        rw [this, List.append_nil]
        exact hy
  exact key n 0 [] (by omega) (by rw [List.take_zero]; exact .nil)
end

section
variable {prog : Program} {w : World} {A : Around} {E : Value → Shared → Prop} {s : Shared} {h₀ : Heap} {L : Addr} {m : Str → Option Value} {env : Env}
/-- a text as a comprehension's source -/
noncomputable def SrcS (prog : Program) (w : World) (A : Around) (h₀ : Heap) (L : Addr) (m : Str → Option Value) (env : Env) (ct elt : Expr) (x : Str) (scope : Scope) (cl : List (Str × Addr)) (Fin : Shared → List Value → List (Addr × Obj) → Prop) (xv : Value) (s₁ : Shared) : Prop :=
  ∃ y t news, xv = .str y t ∧ y.cps.all (· < 128) = true ∧ y.cps.size ≤ sizeLine ∧ A.handled = none ∧ Fr h₀ L s₁.heap m ∧ News h₀ L s₁.heap news ∧
    ∀ g, CompRestT prog w A h₀ L m env ct elt x scope cl { s₁ with heap := g } (fun _ => True) (SignAt y) (Fin { s₁ with heap := g }) y.cps.size 0 [] news
theorem str_st {I : Addr} {y : Str} {t : Tok} : ∀ i (h h' : Heap) (o : Obj) (nw : List (Addr × Obj)), h.IsStrIter I "str_ascii_iterator" y t i → h.get? I = some o → h'.get? I = some o → (∀ b o, h₀.get? b = some o → h'.get? b = some o) → News h₀ L h' nw → True → h'.IsStrIter I "str_ascii_iterator" y t i :=
  fun i h h' o nw st e e' _ _ _ => by
    obtain ⟨o', q, r⟩ := st
    rw [e] at q
    cases q
    exact ⟨o, e', r⟩
/-- the turns over a text, up to the list's being made: what is left is said once for both uses -/
theorem text_turns {ct elt : Expr} {x : Str} {px : Pos} {scope : Scope} {cl : List (Str × Addr)} {pos : Pos} {Fin : Shared → List Value → List (Addr × Obj) → Prop} {xv : Value} {s₁ : Shared} {RR : Value → Addr → Result → Shared → Prop}
    (kCell : ∀ y ∈ scope.names, y.2 ≠ .cell) (kFun : scope.kind = .function) (kVar : scope.names.lookup x = some .local) (src : SrcS prog w A h₀ L m env ct elt x scope cl Fin xv s₁)
    (made : ∀ g D C h tk mC ys led, Fr h₀ L h m → News h₀ L h ((D, lst ys) :: led) → Off1 D led → h.Ns C mC → h₀.get? C = none → C ≠ L → (∀ p ∈ (D, lst ys) :: led, p.1 ≠ C) → Fin { s₁ with heap := g } ys led → RR (.ref D) C (.ok .next) { s₁ with heap := h, toks := tk }) :
    wpAny (model prog w) A (pyIter xv) (fun it s₂ => wpAny (model prog w) A (newList []) (fun acc s₃ => wpAny (model prog w) A (newFunctionEnv scope env.globals cl [] env.qual none .none (some env)) (fun cenv s₄ =>
      codeAny (model prog w) A (.compStart (.ListComp elt [⟨.Name x px, iter, [ct], 0⟩] scope pos) 0 it acc { cenv with scope := relabel scope env }) (RR acc cenv.locals) s₄) E s₃) E s₂) E s₁ := by
  obtain ⟨y, t, news, rfl, ha, hsz, hh, F, N, R⟩ := src
  have grow : ∀ b o, s₁.heap.get? b = some o → (s₁.heap.push { cls := .type "str_ascii_iterator", data := .fields #[.str y t, .int 0 0] }).get? b = some o := fun _ _ e => Heap.get?_push_of_some _ e
  exact wpAny_pyIter_ascii ha (block_T (Walks.strAscii hh s₁.heap.objs.size y t) hsz (fun _ _ st => st.elim fun o q => ⟨o, q.1⟩) str_st kCell kFun kVar ⟨_, Heap.get?_push_size _ rfl, rfl, rfl⟩
    (fun b hb => List.mem_singleton.mp hb ▸ (Heap.size_push s₁.heap _).symm ▸ Nat.lt_succ_self _) (F.keeps grow) (N.grown grow) (Nat.ne_of_lt F.ns.lt) (next_is_new F) (fun p hp => Nat.ne_of_lt (Heap.lt_size (N p hp).1)) trivial (R _)
    fun D C h tk mC ys led F' N' o1 hn hC₀ _ hCL _ hCD off fin => made _ D C h tk mC ys led F' N' o1 hn hC₀ hCL (List.forall_mem_cons.mpr ⟨Ne.symm hCD, off⟩) fin)
theorem news_same {h h' : Heap} {L C : Addr} {led : List (Addr × Obj)} (N : News h₀ L h led) (hs : Heap.SameBut C h h') (off : ∀ p ∈ led, p.1 ≠ C) : News h₀ L h' led :=
  fun p hp => ⟨(hs.2 p.1 (off p hp)).trans (N p hp).1, (N p hp).2⟩
/-- [elt for x in TEXT if ct], given back -/
theorem ListComp_S {ct elt iter : Expr} {x : Str} {px : Pos} {scope : Scope} {cl : List (Str × Addr)} {pos : Pos} {Q : Value → Shared → Prop} (_F : Fr h₀ L s.heap m)
    (kClos : closureFor scope env = pure cl) (kCell : ∀ y ∈ scope.names, y.2 ≠ .cell) (kFun : scope.kind = .function) (kNames : ∀ y ∈ scope.names, y.2 = .local → scope.names.lookup y.1 = some .local) (kVar : scope.names.lookup x = some .local)
    (src : wpAny (model prog w) A (eval iter env) (SrcS prog w A h₀ L m env ct elt x scope cl fun s₂ => FinE h₀ L m s₂ Q) E s) (kFold : ∀ x, foldedSetIterable iter env x = pure x := by intro _; rfl) :
    wpAny (model prog w) A (eval (.ListComp elt [⟨.Name x px, iter, [ct], 0⟩] scope pos) env) Q E s := by
  rw [eval_ListComp]
  exact wpAny_comprehension_free (use := none) rfl kFold kClos kFun kNames (wpAny_mono src (fun _ _ q => text_turns kCell kFun kVar q
    fun _ D C _ tk mC _ _ F' N' o1 hn hC hCL off fin => ⟨mC, hn, fun h₂ hs => fin D h₂ tk (F'.change hs hCL hC) (news_same N' hs off) o1⟩) fun _ _ e => e)
/-- y = [elt for x in TEXT if ct] -/
theorem Assign_ListComp_S {ct elt iter : Expr} {x y : Str} {px py : Pos} {scope : Scope} {cl : List (Str × Addr)} {pos spos : Pos} {Q : Flow → Shared → Prop} (_F : Fr h₀ L s.heap m) (kL : env.locals = L)
    (kUsed : swapsWith (.ListComp elt [⟨.Name x px, iter, [ct], 0⟩] scope pos) (some (.Name y py)) spos.line env = pure true)
    (kClos : closureFor scope env = pure cl) (kCell : ∀ z ∈ scope.names, z.2 ≠ .cell) (kFun : scope.kind = .function) (kNames : ∀ z ∈ scope.names, z.2 = .local → scope.names.lookup z.1 = some .local) (kVar : scope.names.lookup x = some .local)
    (kY : env.kindOf y = some .local) (kPlain : (env.scope.kind == .class || (env.scope.kind == .module && env.locals != env.globals)) = false)
    (src : wpAny (model prog w) A (eval iter env) (SrcS prog w A h₀ L m env ct elt x scope cl fun s₂ => FinA h₀ L m s₂ y Q) E s) (kFold : ∀ x, foldedSetIterable iter env x = pure x := by intro _; rfl) :
    wpAny (model prog w) A (exec (.Assign [.Name y py] (.ListComp elt [⟨.Name x px, iter, [ct], 0⟩] scope pos) spos) env) Q E s := by
  subst kL
  rw [exec_Assign_Name_used _ _ _ _ kUsed]
  have C := wpAny_comprehension_free (pos := firstIterPos [⟨.Name x px, iter, [ct], 0⟩] pos) (newAcc := newList []) (use := some (assign (.Name y py) env)) (Q := fun _ s' => Q .next s') rfl kFold kClos kFun kNames (wpAny_mono src (fun _ _ q => text_turns (pos := pos) (px := px) (iter := iter) kCell kFun kVar q
    fun _ D C _ tk mC _ _ F' N' o1 hn hC hCL off fin => wpAny_assign_Name (wpAny_storeName_local kY F'.ns (fun h₂ hn₂ hs₂ => ⟨mC, hn.sameBut hs₂ hCL, fun h₃ hs => fin D h₃ _ ((F'.set hn₂ hs₂).change hs hCL hC)
      (news_same (news_same N' hs₂ fun p hp => (N' p hp).2.1) hs off) o1⟩) kPlain)) fun _ _ e => e)
  exact wpAny_bind (wpAny_standAt (wpAny_bind (wpAny_bind (wpAny_mono C (fun _ _ q => wpAny_pure (wpAny_pure q)) fun _ _ e => e))))
theorem signs_at {y : Str} : ∀ i v, i < y.cps.size → SignAt y i v → ∃ a t, y.cps.toList[i]? = some a ∧ v = (fun (c : Nat) (t : Tok) => Value.str ⟨#[c]⟩ t) a t := by
  rintro i v _ ⟨c, u, hc, rfl⟩
  exact ⟨c, u, by rw [Array.getElem?_toList]; exact hc, rfl⟩
end
end
section
open LCg LCt
local macro_rules | `(tactic| walk_at "CompEnd") => `(tactic| (refine LCg.CompEnd.intro (by k_asm) (by k_asm) _ (fun p9 h9 => h9) (by assumption) (by first | exact True.intro | exact Or.inr ⟨_, by k_mem, rfl, _, rfl⟩) ?_))
section
theorem below_one {news : List (Addr × Obj)} {L : Addr} (h : ∀ p ∈ news, p.1 < L) : AllLt (L + 1) news := allLt_of fun p hp => Nat.lt_succ_of_lt (h p hp)
theorem menu_item {k : Int} (h0 : 0 ≤ k) (h5 : k < 5) : ∃ c ∈ [32, 35, 9, 45, 10], Txt.item (Str.ofString " #\t-\n") k = ⟨#[c]⟩ := by
  have : k = 0 ∨ k = 1 ∨ k = 2 ∨ k = 3 ∨ k = 4 := by omega
  rcases this with rfl | rfl | rfl | rfl | rfl
  · exact ⟨32, by decide, by decide +kernel⟩
  · exact ⟨35, by decide, by decide +kernel⟩
  · exact ⟨9, by decide, by decide +kernel⟩
  · exact ⟨45, by decide, by decide +kernel⟩
  · exact ⟨10, by decide, by decide +kernel⟩
theorem one_eq {a b : Nat} (h : (⟨#[a]⟩ : Str) = ⟨#[b]⟩) : a = b := by injection h with e; injection e with e; injection e
theorem one_ne {a b : Nat} (h : a ≠ b) : (⟨#[a]⟩ : Str) ≠ ⟨#[b]⟩ := fun e => h (by injection e with e; injection e with e; injection e)

set_option maxRecDepth 100000 in
set_option maxHeartbeats 8000000 in
theorem c_marks (w : World) (news : List (Addr × Obj)) (k : Int) (t : Tok) (hk0 : 0 ≤ k) (hkb : k < 1000000000) :
    Says w 114 news [.int k t] 10 100 (fun r tl => tl = [] ∧ ∃ c0 c1 t', r = .str ⟨#[c0, c1]⟩ t' ∧ c0 ∈ [32, 35, 9, 45, 10] ∧ c1 ∈ [32, 35, 9, 45, 10] ∧ c0 ≠ c1) := by
  w_top off
  unfold Says
  k_fill
  intro mean mg mb dp un gd cn cs a ccd cl outer A₀ base h₀ L m s Q E B F X N T hk hdp hun hret
  have kMk : KstMark := kstMark
  k_with_none
  refine wpAny_call ?_
  k_dflt (first
    | (refine' code_def ?k1 ?k2 ?k3 ?k4 ?k5 ?kA ?kF ?kK ?k6 ?k7 ?k8 ?k9 ?kB ?_ ?c2 ?c3 ?c4 ?c5; (case kA => exact rfl); (case kF => exact rfl); (case kK => assumption); (case k1 => k_asm); (case k2 => k_asm); (case k3 => k_asm); (case k4 => k_asm); (case k5 => k_asm); (case k6 => k_is); (case k7 => k_is); (case k8 => k_room); (case k9 => first | exact BindsTo.of_eq rfl | exact binds_K (by k_in) rfl (by k_is) rfl rfl rfl); (case c5 => decide); (case kB => exact locs rfl); (case c2 => exact rfl); (case c3 => exact rfl); (case c4 => exact rfl); k_whole; intro g' L' h' FG' F' N' B' X' T'; (try dsimp only); (try k_lift B'); (try k_fold))
    | (refine' code_defC ?k1 ?k2 ?k3 ?k4 ?k5 ?kA ?kF ?kK ?k6 ?k7 ?k8 ?k9 ?kB ?kD ?_ ?c2 ?c3 ?c4; (case kA => exact rfl); (case kF => exact rfl); (case kK => assumption); (case k1 => k_asm); (case k2 => k_asm); (case k3 => k_asm); (case k4 => k_asm); (case k5 => k_asm); (case k6 => k_is); (case k7 => k_is); (case k8 => k_room); (case k9 => first | exact BindsTo.of_eq rfl | exact binds_K (by k_in) rfl (by k_is) rfl rfl rfl); (case kB => exact rfl); (case kD => decide +kernel); (case c2 => exact rfl); (case c3 => exact rfl); (case c4 => exact rfl); k_whole; intro g' L' h' tk' cells' FG' F' N' Y' B' X' T' l1; (try k_lt l1); k_cells Y'; (try simp only [List.cons_append, List.nil_append] at N'); (try dsimp only); (try k_lift B'); (try k_fold)))
  have hbl := below_one l1
  have hf0 : 0 ≤ k.fmod 5 := by rw [Int.fmod_eq_emod_of_nonneg _ (by decide)]; omega
  have hf5 : k.fmod 5 < 5 := by rw [Int.fmod_eq_emod_of_nonneg _ (by decide)]; omega
  repeat' (first | (k_unfold; (try dsimp only)) | (k_end; wrow_close) | ((fail_if_success (with_reducible show wpAny _ _ (subscriptTail _ _ _ _) _ _ _)); walk1) | ((fail_if_success (with_reducible show wpAny _ _ (subscriptTail _ _ _ _) _ _ _)); dsimp only; walk1) | (leave1; try dsimp only) | fail "no step")
  refine item_str (by unfold fitsSsize; simp; omega) (by show -((5 : Nat) : Int) ≤ _; omega) (by show _ < ((5 : Nat) : Int); omega) ?_
  obtain ⟨c0, hc0, e0⟩ := menu_item hf0 hf5
  rw [e0]
  intro _
  repeat' (first | (k_unfold; (try dsimp only)) | (k_end; wrow_close) | ((fail_if_success (with_reducible show wpAny _ _ (exec (Stmt.Assign _ (Expr.ListComp _ _ _ _) _) _) _ _ _)); walk1) | ((fail_if_success (with_reducible show wpAny _ _ (exec (Stmt.Assign _ (Expr.ListComp _ _ _ _) _) _) _ _ _)); dsimp only; walk1) | (leave1; try dsimp only) | fail "no step")
  k_dflt (refine Assign_ListComp_S (_F := by k_asm) (by rfl) (by with_unfolding_all rfl) (by with_unfolding_all rfl) (by decide) (by rfl) (by decide) (by rfl) (by rfl) (by rfl) ?_)
  walk1
  refine ⟨_, _, _, rfl, by decide +kernel, by decide +kernel, by rfl, by k_asm, by k_asm, ?_⟩
  intro g
  refine kz_rest (as := [32, 35, 9, 45, 10]) (fun (c : Nat) t => Value.str ⟨#[c]⟩ t) (fun c t => Value.str ⟨#[c]⟩ t) (fun c => c != c0) rfl signs_at ?_ ?_
  · intro c tc I oI C oC D m₂ ys h tk E' hc hC hx F' N' off ne
    k_steps
    · refine bne_iff_ne.mpr fun e => ?_
      subst e
      simp_all
    · have e : c = c0 := one_eq (by simp_all)
      simp [e]
  · intro ys hys
    replace hys := hys.strs
    have hl4 : ([32, 35, 9, 45, 10].filter fun c => c != c0).length = 4 := by
      rcases List.mem_cons.mp hc0 with rfl | hc0
      · decide
      rcases List.mem_cons.mp hc0 with rfl | hc0
      · decide
      rcases List.mem_cons.mp hc0 with rfl | hc0
      · decide
      rcases List.mem_cons.mp hc0 with rfl | hc0
      · decide
      rw [List.mem_singleton.mp hc0]
      decide
    have hg0 : 0 ≤ (k.fdiv 5).fmod 4 := by rw [Int.fmod_eq_emod_of_nonneg _ (by decide)]; omega
    have hg4 : (k.fdiv 5).fmod 4 < 4 := by rw [Int.fmod_eq_emod_of_nonneg _ (by decide)]; omega
    generalize hG : [32, 35, 9, 45, 10].filter (fun c => c != c0) = G at *
    repeat' (first | (k_unfold; (try dsimp only)) | (k_end; wrow_close) | ((fail_if_success (with_reducible show wpAny _ _ (subscriptTail _ _ _ _) _ _ _)); walk1) | ((fail_if_success (with_reducible show wpAny _ _ (subscriptTail _ _ _ _) _ _ _)); dsimp only; walk1) | (leave1; try dsimp only) | fail "no step")
    refine item_strsA (News.isList (by k_asm) (by k_mem)) hys hg0 (by rw [List.length_map, hl4]; exact hg4) (by omega) ?_
    intro t9
    obtain ⟨c1, hc1, e1⟩ : ∃ c1 ∈ G, (G.map fun c => (⟨#[c]⟩ : Str)).getD ((k.fdiv 5).fmod 4).toNat Str.empty = ⟨#[c1]⟩ := by
      have hlt : ((k.fdiv 5).fmod 4).toNat < G.length := by omega
      refine ⟨G[((k.fdiv 5).fmod 4).toNat], List.getElem_mem hlt, ?_⟩
      simp [List.getD, hlt]
    rw [e1]
    have hc1' := hc1
    rw [← hG] at hc1'
    have hc1m := (List.mem_filter.mp hc1').1
    have hne : c1 ≠ c0 := bne_iff_ne.mp (List.mem_filter.mp hc1').2
    k_steps
    exact ret0 hret (by k_asm) (newsSub (by k_asm) (by intro p9 h9; repeat (first | exact h9 | refine List.Mem.tail _ ?_))) ⟨rfl, c0, c1, _, rfl, hc0, hc1m, Ne.symm hne⟩
end
section
theorem occ_in : ∀ c ∈ [35, 32], ∀ c0 ∈ [32, 35, 9, 45, 10], ∀ c1 ∈ [32, 35, 9, 45, 10],
    (Builtin.Str.occurrences ⟨#[c0, c1]⟩ ⟨#[c]⟩ 0 (⟨#[c0, c1]⟩ : Str).length 1).isEmpty = !(c == c0 || c == c1) := by decide +kernel
theorem find_in : ∀ c ∈ [35, 32], ∀ c0 ∈ [32, 35, 9, 45, 10], ∀ c1 ∈ [32, 35, 9, 45, 10], (c == c0 || c == c1) = true →
    Txt.find ⟨#[c0, c1]⟩ ⟨#[c]⟩ = if c = c0 then 0 else 1 := by decide +kernel
theorem not_f {b : Bool} (h : (!b) = false) : b = true := by cases b <;> simp_all
theorem not_t {b : Bool} (h : (!b) = true) : b = false := by cases b <;> simp_all
noncomputable def aheadSigns (tm : Int) (e : Bool) : List Nat := if tm = 1 then (if e then [35] else [35, 32]) else (if e then [35, 32, 35] else [35, 32, 35, 32])
noncomputable def ahead (tm : Int) (e : Bool) (c0 c1 : Nat) : List Int := ((aheadSigns tm e).filter fun c => c == c0 || c == c1).map fun c => 62 + if c = c0 then 0 else 1

set_option maxRecDepth 100000 in
set_option maxHeartbeats 8000000 in
theorem c_ahead (w : World) (news : List (Addr × Obj)) (l : Addr) (vs : List Value) (ns : List Int) (n : Nat) (tm : Int) (htm : tm = 1 ∨ tm = 2) (c0 c1 : Nat) (t t1 : Tok) (hc0 : c0 ∈ [32, 35, 9, 45, 10]) (hc1 : c1 ∈ [32, 35, 9, 45, 10]) (hl : (l, listOf vs.toArray n) ∈ news) (hi : IntsAre vs ns) (hlen : ns.length ≤ 100) :
    Says w 136 news [.int tm t1, .ref l, .str ⟨#[c0, c1]⟩ t] 10 100 (fun r tl => ∃ d ys, r = .ref d ∧ tl = [(d, listOf ys.toArray ys.length)] ∧ IntsAre ys (ahead tm (decide (ns = [])) c0 c1)) := by
  w_top off
  unfold Says
  k_fill
  intro mean mg mb dp un gd cn cs a ccd cl outer A₀ base h₀ L m s Q E B F X N T hk hdp hun hret
  have kMk : KstMark := kstMark
  replace N := newsCons N hl
  k_with_none
  rcases htm with rfl | rfl
  all_goals (
  refine wpAny_call ?_
  k_dflt (first
    | (refine' code_def ?k1 ?k2 ?k3 ?k4 ?k5 ?kA ?kF ?kK ?k6 ?k7 ?k8 ?k9 ?kB ?_ ?c2 ?c3 ?c4 ?c5; (case kA => exact rfl); (case kF => exact rfl); (case kK => assumption); (case k1 => k_asm); (case k2 => k_asm); (case k3 => k_asm); (case k4 => k_asm); (case k5 => k_asm); (case k6 => k_is); (case k7 => k_is); (case k8 => k_room); (case k9 => first | exact BindsTo.of_eq rfl | exact binds_K (by k_in) rfl (by k_is) rfl rfl rfl); (case c5 => decide); (case kB => exact locs rfl); (case c2 => exact rfl); (case c3 => exact rfl); (case c4 => exact rfl); k_whole; intro g' L' h' FG' F' N' B' X' T'; (try dsimp only); (try k_lift B'); (try k_fold))
    | (refine' code_defC ?k1 ?k2 ?k3 ?k4 ?k5 ?kA ?kF ?kK ?k6 ?k7 ?k8 ?k9 ?kB ?kD ?_ ?c2 ?c3 ?c4; (case kA => exact rfl); (case kF => exact rfl); (case kK => assumption); (case k1 => k_asm); (case k2 => k_asm); (case k3 => k_asm); (case k4 => k_asm); (case k5 => k_asm); (case k6 => k_is); (case k7 => k_is); (case k8 => k_room); (case k9 => first | exact BindsTo.of_eq rfl | exact binds_K (by k_in) rfl (by k_is) rfl rfl rfl); (case kB => exact rfl); (case kD => decide +kernel); (case c2 => exact rfl); (case c3 => exact rfl); (case c4 => exact rfl); k_whole; intro g' L' h' tk' cells' FG' F' N' Y' B' X' T' l1; (try k_lt l1); k_cells Y'; (try simp only [List.cons_append, List.nil_append] at N'); (try dsimp only); (try k_lift B'); (try k_fold)))
  repeat' (first | (k_unfold; (try dsimp only)) | (k_end; wrow_close) | ((fail_if_success (with_reducible show wpAny _ _ (eval (Expr.ListComp _ _ _ _) _) _ _ _)); walk1) | ((fail_if_success (with_reducible show wpAny _ _ (eval (Expr.ListComp _ _ _ _) _) _ _ _)); dsimp only; walk1) | (leave1; try dsimp only) | fail "no step")
  )
  all_goals (
    k_dflt (refine ListComp_S (_F := by k_asm) (by with_unfolding_all rfl) (by decide) (by rfl) (by decide) (by rfl) ?_)
    walk1
    refine ⟨_, _, _, rfl, by decide +kernel, by decide +kernel, by rfl, by k_asm, by k_asm, ?_⟩
    intro g
    refine kz_rest (fun (c : Nat) t => Value.str ⟨#[c]⟩ t) (fun c t => Value.int (62 + (if c = c0 then 0 else 1)) t) (fun c => c == c0 || c == c1) (by exact Array.length_toList) signs_at ?_ ?_)
  · intro c tc I oI C oC D m₂ ys h tk E' hc hC hx F' N' off ne
    have hc2 : c ∈ [35, 32] := by
      have h9 := (List.all_eq_true (p := fun c => c == 35 || c == 32)).mp (by decide +kernel) c hc
      simpa using h9
    have ho := occ_in c hc2 c0 hc0 c1 hc1
    have hf := find_in c hc2 c0 hc0 c1 hc1
    k_steps
    · have h9 := ‹(Builtin.Str.occurrences _ _ _ _ _).isEmpty = true›
      rw [ho] at h9
      exact not_t h9
    · exact absurd (Eq.trans (Eq.symm ‹(Builtin.Str.occurrences _ _ _ _ _).isEmpty = true›) ‹(Builtin.Str.occurrences _ _ _ _ _).isEmpty = false›) (by decide)
    · have h9 := ‹(Builtin.Str.occurrences _ _ _ _ _).isEmpty = false›
      rw [ho] at h9
      exact not_f h9
    · have h9 := ‹(Builtin.Str.occurrences _ _ _ _ _).isEmpty = false›
      rw [ho] at h9
      rw [hf (not_f h9)]
  · intro ys hys
    replace hys := hys.ints
    k_steps
    have hE := ‹decide (ns = []) = _›
    refine hret _ [_] _ _ ⟨_, ys, rfl, rfl, ?_⟩ (by k_asm) (newsSub (by k_asm) ?_)
    · rw [hE]
      exact hys
    · intro p hp
      rcases List.mem_cons.mp hp with rfl | hp
      · exact .head _
      · exact .tail _ (.tail _ (.tail _ (.tail _ hp)))
  · intro c tc I oI C oC D m₂ ys h tk E' hc hC hx F' N' off ne
    have hc2 : c ∈ [35, 32] := by
      have h9 := (List.all_eq_true (p := fun c => c == 35 || c == 32)).mp (by decide +kernel) c hc
      simpa using h9
    have ho := occ_in c hc2 c0 hc0 c1 hc1
    have hf := find_in c hc2 c0 hc0 c1 hc1
    k_steps
    · have h9 := ‹(Builtin.Str.occurrences _ _ _ _ _).isEmpty = true›
      rw [ho] at h9
      exact not_t h9
    · exact absurd (Eq.trans (Eq.symm ‹(Builtin.Str.occurrences _ _ _ _ _).isEmpty = true›) ‹(Builtin.Str.occurrences _ _ _ _ _).isEmpty = false›) (by decide)
    · have h9 := ‹(Builtin.Str.occurrences _ _ _ _ _).isEmpty = false›
      rw [ho] at h9
      exact not_f h9
    · have h9 := ‹(Builtin.Str.occurrences _ _ _ _ _).isEmpty = false›
      rw [ho] at h9
      rw [hf (not_f h9)]
  · intro ys hys
    replace hys := hys.ints
    k_steps
    have hE := ‹decide (ns = []) = _›
    refine hret _ [_] _ _ ⟨_, ys, rfl, rfl, ?_⟩ (by k_asm) (newsSub (by k_asm) ?_)
    · rw [hE]
      exact hys
    · intro p hp
      rcases List.mem_cons.mp hp with rfl | hp
      · exact .head _
      · exact .tail _ (.tail _ (.tail _ (.tail _ hp)))
  · intro c tc I oI C oC D m₂ ys h tk E' hc hC hx F' N' off ne
    have hc2 : c ∈ [35, 32] := by
      have h9 := (List.all_eq_true (p := fun c => c == 35 || c == 32)).mp (by decide +kernel) c hc
      simpa using h9
    have ho := occ_in c hc2 c0 hc0 c1 hc1
    have hf := find_in c hc2 c0 hc0 c1 hc1
    k_steps
    · have h9 := ‹(Builtin.Str.occurrences _ _ _ _ _).isEmpty = true›
      rw [ho] at h9
      exact not_t h9
    · exact absurd (Eq.trans (Eq.symm ‹(Builtin.Str.occurrences _ _ _ _ _).isEmpty = true›) ‹(Builtin.Str.occurrences _ _ _ _ _).isEmpty = false›) (by decide)
    · have h9 := ‹(Builtin.Str.occurrences _ _ _ _ _).isEmpty = false›
      rw [ho] at h9
      exact not_f h9
    · have h9 := ‹(Builtin.Str.occurrences _ _ _ _ _).isEmpty = false›
      rw [ho] at h9
      rw [hf (not_f h9)]
  · intro ys hys
    replace hys := hys.ints
    k_steps
    have hE := ‹decide (ns = []) = _›
    refine hret _ [_] _ _ ⟨_, ys, rfl, rfl, ?_⟩ (by k_asm) (newsSub (by k_asm) ?_)
    · rw [hE]
      exact hys
    · intro p hp
      rcases List.mem_cons.mp hp with rfl | hp
      · exact .head _
      · exact .tail _ (.tail _ (.tail _ (.tail _ hp)))
  · intro c tc I oI C oC D m₂ ys h tk E' hc hC hx F' N' off ne
    have hc2 : c ∈ [35, 32] := by
      have h9 := (List.all_eq_true (p := fun c => c == 35 || c == 32)).mp (by decide +kernel) c hc
      simpa using h9
    have ho := occ_in c hc2 c0 hc0 c1 hc1
    have hf := find_in c hc2 c0 hc0 c1 hc1
    k_steps
    · have h9 := ‹(Builtin.Str.occurrences _ _ _ _ _).isEmpty = true›
      rw [ho] at h9
      exact not_t h9
    · exact absurd (Eq.trans (Eq.symm ‹(Builtin.Str.occurrences _ _ _ _ _).isEmpty = true›) ‹(Builtin.Str.occurrences _ _ _ _ _).isEmpty = false›) (by decide)
    · have h9 := ‹(Builtin.Str.occurrences _ _ _ _ _).isEmpty = false›
      rw [ho] at h9
      exact not_f h9
    · have h9 := ‹(Builtin.Str.occurrences _ _ _ _ _).isEmpty = false›
      rw [ho] at h9
      rw [hf (not_f h9)]
  · intro ys hys
    replace hys := hys.ints
    k_steps
    have hE := ‹decide (ns = []) = _›
    refine hret _ [_] _ _ ⟨_, ys, rfl, rfl, ?_⟩ (by k_asm) (newsSub (by k_asm) ?_)
    · rw [hE]
      exact hys
    · intro p hp
      rcases List.mem_cons.mp hp with rfl | hp
      · exact .head _
      · exact .tail _ (.tail _ (.tail _ (.tail _ hp)))
end
section
open LCg LCt
section
variable {prog : Program} {w : World} {A : Around} {h₀ : Heap} {L : Addr} {m : Str → Option Value} {env : Env} {elt : Expr} {x : Str} {scope : Scope} {cl : List (Str × Addr)} {s : Shared} {S : List (Addr × Obj) → Prop} {P : Nat → Value → Prop} {Fin : List Value → List (Addr × Obj) → Prop} {news : List (Addr × Obj)}
theorem ku_rest {α : Type} {n : Nat} {as : List α} (val res : α → Tok → Value) (hn : as.length = n) (hP : ∀ i v, i < n → P i v → ∃ a t, as[i]? = some a ∧ v = val a t)
    (turn : ∀ a t I oI C oC D m₂ ys h tk (E' : Value → Shared → Prop), a ∈ as → NsObj oC m₂ → m₂ x = some (val a t) → Fr h₀ L h m → News h₀ L h ((I, oI) :: (C, oC) :: (D, lst ys) :: news) → Off3 I C D news → ((@Ne Nat I C) ∧ (@Ne Nat I D) ∧ (@Ne Nat C D)) →
      wpAny (model prog w) A (eval elt (compEnvC scope cl C env)) (CompEnd h₀ L m { s with heap := h, toks := tk } I oI C oC D (lst ys) S (fun y news' => news' = news ∧ ∃ t', y = res a t')) E' { s with heap := h, toks := tk })
    (fin : ∀ ys, Res res ys as → Fin ys news) : CompRest prog w A h₀ L m env elt x scope cl s S P Fin n 0 [] news := by
  have key : ∀ (j i : Nat) (ys : List Value), i + j = n → Res res ys (as.take i) → CompRest prog w A h₀ L m env elt x scope cl s S P Fin j i ys news := by
    intro j
    induction j with
    | zero =>
      intro i ys hi hy
      have e : as.take i = as := List.take_of_length_le (by omega)
      rw [e] at hy
      exact CompRest.zero (fin ys hy)
    | succ j ih =>
      intro i ys hi hy
      refine CompRest.succ ?_
      intro v I oI C oC D m₂ h tk E' hv hC hx F N off ne
      obtain ⟨a, t, ha, hv'⟩ := hP i v (by omega) hv
      rw [hv'] at hx
      have ht : as.take (i + 1) = as.take i ++ [a] := by rw [List.take_add_one, ha]; rfl
      refine wpAny_mono (turn a t I oI C oC D m₂ ys h tk E' (List.mem_of_getElem? ha) hC hx F N off ne) (fun y s₂ hq => ?_) fun _ _ e => e
      obtain ⟨h', tk', nw, e, F', N', off', hS, hn', t', hy'⟩ := hq
      rw [hn'] at N' off' hS
      refine ⟨h', tk', news, e, F', N', off', hS, ih (i + 1) _ (by omega) ?_⟩
      rw [ht, hy']
      exact hy.snoc
  exact key n 0 [] (by omega) (by rw [List.take_zero]; exact .nil)
end
theorem ints_at {vs : List Value} {ns : List Int} (hi : IntsAre vs ns) : ∀ i v, i < vs.toArray.size → vs.toArray[i]? = some v → ∃ a t, ns[i]? = some a ∧ v = (fun (k : Int) (t : Tok) => Value.int k t) a t := by
  intro i v _ hv
  obtain ⟨k, t, e, hk⟩ := IntsAre.at hi i v (by simpa using hv)
  exact ⟨k, t, hk, e⟩

theorem range_at {a : Int} {n : Nat} : ∀ i v, i < n → (∃ t, v = Value.int (a + (i : Int)) t) → ∃ k t, (rangeKs a n)[i]? = some k ∧ v = (fun (k : Int) (t : Tok) => Value.int k t) k t := by
  rintro i v hi ⟨t, rfl⟩
  exact ⟨a + (i : Int), t, by simp [rangeKs, hi], rfl⟩
noncomputable def blank (c : Nat) : Bool := c == 32 || c == 9 || c == 10
theorem take_kept {α : Type} (p : α → Bool) : ∀ (rs : List α) (M : Nat), (M = 0 ∨ ∃ k x, M = k + 1 ∧ rs.reverse[k]? = some x ∧ p x = false) → (∀ k x, rs.reverse[k]? = some x → p x = false → k + 1 ≤ M) →
    rs.reverse.take M = (rs.dropWhile p).reverse
  | [], M, _, _ => by simp
  | x :: rs, M, h1, h2 => by
    rw [List.reverse_cons] at h1 h2 ⊢
    cases hx : p x with
    | true =>
      rw [List.dropWhile_cons_of_pos hx]
      have hM : M ≤ rs.length := by
        rcases h1 with rfl | ⟨k, y, rfl, hk, hy⟩
        · exact Nat.zero_le _
        · by_cases hlt : k < rs.length
          · exact hlt
          · have hk2 : k < (rs.reverse ++ [x]).length := (List.getElem?_eq_some_iff.mp hk).1
            rw [List.length_append, List.length_reverse, List.length_singleton] at hk2
            have e : k = rs.reverse.length := by rw [List.length_reverse]; omega
            rw [e, List.getElem?_concat_length] at hk
            cases hk
            rw [hx] at hy
            cases hy
      have e1 : ∀ k, k < rs.length → (rs.reverse ++ [x])[k]? = rs.reverse[k]? := fun k hk => List.getElem?_append_left (by rw [List.length_reverse]; exact hk)
      rw [List.take_append_of_le_length (by rw [List.length_reverse]; exact hM)]
      refine take_kept p rs M ?_ ?_
      · rcases h1 with h | ⟨k, y, rfl, hk, hy⟩
        · exact .inl h
        · exact .inr ⟨k, y, rfl, by rw [← e1 k (by omega)]; exact hk, hy⟩
      · intro k y hk hy
        have hlt : k < rs.length := by have := (List.getElem?_eq_some_iff.mp hk).1; rwa [List.length_reverse] at this
        exact h2 k y (by rw [e1 k hlt]; exact hk) hy
    | false =>
      rw [List.dropWhile_cons_of_neg (by simp [hx]), List.reverse_cons]
      have hM : rs.length + 1 ≤ M := h2 rs.length x (by rw [← List.length_reverse (as := rs)]; exact List.getElem?_concat_length) hx
      exact List.take_of_length_le (by simp; omega)
theorem occ_blank : ∀ c ∈ [65, 32, 35, 9, 45, 10], (Builtin.Str.occurrences (Str.ofString " \t\n") ⟨#[c]⟩ 0 (Str.ofString " \t\n").length 1).isEmpty = !blank c := by decide +kernel
theorem ret1 {h₀ h' : Heap} {L : Addr} {m : Str → Option Value} {s : Shared} {news led : List (Addr × Obj)} {Out : Value → List (Addr × Obj) → Prop} {Q : Value → Shared → Prop} {d : Addr} {ys : List Value} {ks : List Int} {k tk' : Nat} (_hW : IntsAre ys ks)
    (hret : ∀ r tl h' tk', Out r tl → Fr h₀ L h' m → News h₀ L h' (tl ++ news) → Q r { s with heap := h', toks := tk' })
    (F : Fr h₀ L h' m) (N : News h₀ L h' led) (hd : (d, listOf ys.toArray k) ∈ led) (hs : ∀ p ∈ news, p ∈ led) (o : Out (.ref d) [(d, listOf ys.toArray k)]) : Q (.ref d) { s with heap := h', toks := tk' } :=
  hret _ [_] h' tk' o F fun p hp => by
    rcases List.mem_cons.mp hp with rfl | hp
    · exact N _ hd
    · exact N _ (hs p hp)
theorem up_two {news : List (Addr × Obj)} {L : Addr} (h : AllLt L news) : AllLt (L + 1) news ∧ AllLt (L + 1 + 1) news := below_up (kst_ltOf h)
theorem rng_lt {n : Nat} {k : Int} (h : k ∈ rangeKs 0 (((n : Int) - 0).toNat)) : 0 ≤ k ∧ k < (n : Int) ∧ k.toNat < n := by
  have hb := mem_rangeKs h
  rw [Int.sub_zero, Int.toNat_natCast, Int.zero_add] at hb
  exact ⟨hb.1, hb.2, (Int.toNat_lt hb.1).mpr hb.2⟩
noncomputable def showFig (c0 c1 : Nat) (k : Int) : Nat := if 61 < k then (if k = 62 then c0 else c1) else 65

theorem marks_item {c0 c1 : Nat} {k : Int} (h : 61 < k) (h' : k < 64) : Txt.item ⟨#[c0, c1]⟩ (k - 62) = ⟨#[showFig c0 c1 k]⟩ := by
  have : k = 62 ∨ k = 63 := by omega
  rcases this with rfl | rfl <;> rfl
theorem show_A {c0 c1 : Nat} {k : Int} (h : ¬ 61 < k) : showFig c0 c1 k = 65 := by unfold showFig; rw [if_neg h]

theorem show_in {c0 c1 : Nat} {k : Int} (h0 : c0 ∈ [32, 35, 9, 45, 10]) (h1 : c1 ∈ [32, 35, 9, 45, 10]) : showFig c0 c1 k ∈ [65, 32, 35, 9, 45, 10] := by
  unfold showFig
  split
  · split
    · exact List.mem_cons_of_mem _ h0
    · exact List.mem_cons_of_mem _ h1
  · exact List.mem_cons_self
noncomputable def keptL (c0 c1 : Nat) (ns : List Int) : List Int := if 0 < ns.length % 4 then ns else (ns.reverse.dropWhile fun k => blank (showFig c0 c1 k)).reverse
theorem kept_max {c0 c1 : Nat} {ns : List Int} {M : Int} (hm : M ∈ [0] ++ ((rangeKs 0 ns.length).filter fun k => !blank (showFig c0 c1 (ns.getD k.toNat 0))).map fun k => k + 1)
    (hx : ∀ a, a ∈ [0] ++ ((rangeKs 0 ns.length).filter fun k => !blank (showFig c0 c1 (ns.getD k.toNat 0))).map (fun k => k + 1) → a ≤ M) :
    0 ≤ M ∧ ns.take M.toNat = (ns.reverse.dropWhile fun k => blank (showFig c0 c1 k)).reverse := by
  have h0 : 0 ≤ M := hx 0 (by simp)
  refine ⟨h0, ?_⟩
  have h := take_kept (fun k => blank (showFig c0 c1 k)) ns.reverse M.toNat ?_ ?_
  · rwa [List.reverse_reverse] at h
  · rw [List.reverse_reverse]
    rcases List.mem_append.mp hm with q | q
    · exact .inl (by rw [List.mem_singleton.mp q]; rfl)
    · obtain ⟨k, hk, rfl⟩ := List.mem_map.mp q
      obtain ⟨hk1, hk2⟩ := List.mem_filter.mp hk
      have hb := mem_rangeKs hk1
      rw [Int.zero_add] at hb
      have hlt : k.toNat < ns.length := (Int.toNat_lt hb.1).mpr hb.2
      refine .inr ⟨k.toNat, ns.getD k.toNat 0, by omega, ?_, not_t hk2⟩
      simp [List.getD, hlt]
  · rw [List.reverse_reverse]
    intro k x hk hp
    have hlt := (List.getElem?_eq_some_iff.mp hk).1
    have hg : ns.getD ((k : Int)).toNat 0 = x := by simp [List.getD, hk]
    have hmem : (k : Int) + 1 ∈ ((rangeKs 0 ns.length).filter fun k => !blank (showFig c0 c1 (ns.getD k.toNat 0))).map fun k => k + 1 := by
      refine List.mem_map.mpr ⟨(k : Int), List.mem_filter.mpr ⟨?_, ?_⟩, rfl⟩
      · exact List.mem_map.mpr ⟨k, List.mem_range.mpr hlt, by omega⟩
      · rw [hg, hp]; rfl
    have := hx _ (List.mem_append_right _ hmem)
    omega

set_option maxRecDepth 100000 in
set_option maxHeartbeats 8000000 in
theorem c_kept (w : World) (news : List (Addr × Obj)) (l : Addr) (vs : List Value) (ns : List Int) (n : Nat) (c0 c1 : Nat) (t : Tok) (hc0 : c0 ∈ [32, 35, 9, 45, 10]) (hc1 : c1 ∈ [32, 35, 9, 45, 10]) (hl : (l, listOf vs.toArray n) ∈ news) (hi : IntsAre vs ns) (hn : ∀ k ∈ ns, 0 ≤ k ∧ k < 64) (hlen : ns.length ≤ 100) :
    Says w 131 news [.ref l, .str ⟨#[c0, c1]⟩ t] 10 100 (fun r tl => ∃ d ys k, r = .ref d ∧ tl = [(d, listOf ys.toArray k)] ∧ IntsAre ys (keptL c0 c1 ns)) := by
  w_top off
  unfold Says
  k_fill
  intro mean mg mb dp un gd cn cs a ccd cl outer A₀ base h₀ L m s Q E B F X N T hk hdp hun hret
  have kMk : KstMark := kstMark
  replace N := newsCons N hl
  k_with_none
  refine wpAny_call ?_
  k_dflt (first
    | (refine' code_def ?k1 ?k2 ?k3 ?k4 ?k5 ?kA ?kF ?kK ?k6 ?k7 ?k8 ?k9 ?kB ?_ ?c2 ?c3 ?c4 ?c5; (case kA => exact rfl); (case kF => exact rfl); (case kK => assumption); (case k1 => k_asm); (case k2 => k_asm); (case k3 => k_asm); (case k4 => k_asm); (case k5 => k_asm); (case k6 => k_is); (case k7 => k_is); (case k8 => k_room); (case k9 => first | exact BindsTo.of_eq rfl | exact binds_K (by k_in) rfl (by k_is) rfl rfl rfl); (case c5 => decide); (case kB => exact locs rfl); (case c2 => exact rfl); (case c3 => exact rfl); (case c4 => exact rfl); k_whole; intro g' L' h' FG' F' N' B' X' T'; (try dsimp only); (try k_lift B'); (try k_fold))
    | (refine' code_defC ?k1 ?k2 ?k3 ?k4 ?k5 ?kA ?kF ?kK ?k6 ?k7 ?k8 ?k9 ?kB ?kD ?_ ?c2 ?c3 ?c4; (case kA => exact rfl); (case kF => exact rfl); (case kK => assumption); (case k1 => k_asm); (case k2 => k_asm); (case k3 => k_asm); (case k4 => k_asm); (case k5 => k_asm); (case k6 => k_is); (case k7 => k_is); (case k8 => k_room); (case k9 => first | exact BindsTo.of_eq rfl | exact binds_K (by k_in) rfl (by k_is) rfl rfl rfl); (case kB => exact rfl); (case kD => decide +kernel); (case c2 => exact rfl); (case c3 => exact rfl); (case c4 => exact rfl); k_whole; intro g' L' h' tk' cells' FG' F' N' Y' B' X' T' l1; (try k_lt l1); k_cells Y'; (try simp only [List.cons_append, List.nil_append] at N'); (try dsimp only); (try k_lift B'); (try k_fold)))
  obtain ⟨hbl1, hbl2⟩ := up_two l1.2
  have hm4 : ((ns.length : Int).fmod 4) = ((ns.length % 4 : Nat) : Int) := by rw [Int.fmod_eq_emod_of_nonneg _ (by decide)]; omega
  repeat' (first | (k_unfold; (try dsimp only)) | (k_end; wrow_close) | ((fail_if_success (with_reducible show wpAny _ _ (eval (Expr.ListComp _ _ _ _) _) _ _ _)); walk1) | ((fail_if_success (with_reducible show wpAny _ _ (eval (Expr.ListComp _ _ _ _) _) _ _ _)); dsimp only; walk1) | (leave1; try dsimp only) | fail "no step")
  · refine hret _ [_] _ _ ⟨_, vs, n, rfl, rfl, ?_⟩ (by k_asm) (newsSub (by k_asm) ?_)
    · unfold keptL
      rw [if_pos (by omega)]
      exact hi
    · intro p hp
      rcases List.mem_cons.mp hp with rfl | hp
      · exact .tail _ (.tail _ (.head _))
      · exact .tail _ (.tail _ (.tail _ hp))
  · k_dflt (refine LCg.ListComp_U (F₀ := by k_asm) (by with_unfolding_all rfl) (by decide) (by rfl) (by decide) (by rfl) ?_)
    walk1
    k_dflt (refine LCg.CompSrc.ledger (by rfl) (by k_asm) (by k_asm) (by k_mem) (by rw [List.size_toArray, hi.length, sizeLine_eq]; omega) ?_)
    intro g
    refine ku_rest (as := ns) (fun k t => Value.int k t) (fun k t => Value.str ⟨#[showFig c0 c1 k]⟩ t) (by rw [List.size_toArray, hi.length]) (ints_at hi) ?_ ?_
    · intro k tc I oI C oC D m₂ ys h tk E' hc hC hx F' N' off ne
      have hkb := hn k hc
      repeat' (first | (k_unfold; (try dsimp only)) | (k_end; wrow_close) | ((fail_if_success (with_reducible show wpAny _ _ (subscriptTail _ _ (Value.str _ _) _) _ _ _)); walk1) | ((fail_if_success (with_reducible show wpAny _ _ (subscriptTail _ _ (Value.str _ _) _) _ _ _)); dsimp only; walk1) | (leave1; try dsimp only) | fail "no step")
      · refine item_str (by unfold fitsSsize; simp; omega) (by show -((2 : Nat) : Int) ≤ _; omega) (by show _ < ((2 : Nat) : Int); omega) ?_
        rw [marks_item (by assumption) hkb.2]
        intro _
        k_steps
      · rw [show_A (by assumption)]
        rfl
    · intro ys hys
      replace hys := hys.strs
      have hyl : ys.length = ns.length := by rw [hys.length, List.length_map]
      have eK : keptL c0 c1 ns = (ns.reverse.dropWhile fun k => blank (showFig c0 c1 k)).reverse := by
        unfold keptL
        rw [if_neg (by omega)]
      clear hm4
      with_reducible rename ¬ 0 < Int.fmod _ _ => hz9
      clear hz9
      repeat' (first | (k_unfold; (try dsimp only)) | (k_end; wrow_close) | ((fail_if_success (with_reducible show wpAny _ _ (eval (Expr.ListComp _ _ _ _) _) _ _ _)); walk1) | ((fail_if_success (with_reducible show wpAny _ _ (eval (Expr.ListComp _ _ _ _) _) _ _ _)); dsimp only; walk1) | (leave1; try dsimp only) | fail "no step")
      k_dflt (refine LCt.ListComp_T (F₀ := by k_asm) (by with_unfolding_all rfl) (by decide) (by rfl) (by decide) (by rfl) ?_)
      repeat' (first | (k_unfold; (try dsimp only)) | (k_end; wrow_close) | ((fail_if_success (with_reducible show wpAny _ _ (call (Value.builtin "len") _) _ _ _)); walk1) | ((fail_if_success (with_reducible show wpAny _ _ (call (Value.builtin "len") _) _ _ _)); dsimp only; walk1) | (leave1; try dsimp only) | fail "no step")
      refine kst_len (by k_asm) (by k_mem) hyl (by omega) ?_
      repeat' (first | (k_unfold; (try dsimp only)) | (k_end; wrow_close) | ((fail_if_success (with_reducible show wpAny _ _ (call (Value.type "range") _) _ _ _)); walk1) | ((fail_if_success (with_reducible show wpAny _ _ (call (Value.type "range") _) _ _ _)); dsimp only; walk1) | (leave1; try dsimp only) | fail "no step")
      walk1
      k_dflt (refine LCt.CompSrcT.range (by rfl) (by k_asm) (by k_asm) (by assumption) (small_one (by omega) (by omega) (by omega) (by omega)) (rangeSize_nat _ _) (by rw [sizeLine_eq]; omega) ?_)
      intro g2
      refine kz_rest (as := rangeKs 0 _) (fun k t => Value.int k t) (fun k t => Value.int (k + 1) t) (fun k => !blank (showFig c0 c1 (ns.getD k.toNat 0))) (rangeKs_length _ _) range_at ?_ ?_
      · intro k tc I oI C oC D m₂ ys h tk E' hc hC hx F' N' off ne
        obtain ⟨hkm, hkm2, hlt⟩ := rng_lt hc
        have hgd : (ns.map fun k => (⟨#[showFig c0 c1 k]⟩ : Str)).getD k.toNat Str.empty = ⟨#[showFig c0 c1 (ns.getD k.toNat 0)]⟩ := by simp [List.getD, hlt]
        have hoc := occ_blank _ (show_in (k := ns.getD k.toNat 0) hc0 hc1)
        rw [← hgd] at hoc
        k_steps
        · rw [← hoc]; assumption
        · rw [← hoc]; assumption
      · intro zs hzs
        replace hzs := hzs.ints
        have hnn : ((ns.length : Int) - 0).toNat = ns.length := by rw [Int.sub_zero, Int.toNat_natCast]
        rw [hnn] at hzs
        repeat' (first | (k_unfold; (try dsimp only)) | (k_end; wrow_close) | ((fail_if_success (with_reducible show wpAny _ _ (binaryOp _ _ _) _ _ _)); walk1) | ((fail_if_success (with_reducible show wpAny _ _ (binaryOp _ _ _) _ _ _)); dsimp only; walk1) | (leave1; try dsimp only) | fail "no step")
        refine kmk_add_ints (by k_asm) (by k_asm) (News.isList (by k_asm) (by k_mem)) (News.isList (by k_asm) (by k_mem)) (IntsAre.cons 0 _ IntsAre.nil) hzs ?_ ?_
        · intro D us h2 F' N' l1' hI'
          repeat' (first | (k_unfold; (try dsimp only)) | (k_end; wrow_close) | ((fail_if_success (with_reducible show wpAny _ _ (call (Value.builtin "max") _) _ _ _)); walk1) | ((fail_if_success (with_reducible show wpAny _ _ (call (Value.builtin "max") _) _ _ _)); dsimp only; walk1) | (leave1; try dsimp only) | fail "no step")
          refine kso_max (by k_asm) (by k_asm) (News.isList (by k_asm) (by k_mem)) hI' (by simp) (by rfl) ?_
          intro h3 M t3 tk3 F' N' hM hMx
          obtain ⟨hM0, hMt⟩ := kept_max hM hMx
          clear hM hMx
          k_steps
          rename IntsAre _ (List.take M.toNat ns) => hW
          rw [hMt] at hW
          have hW2 := hW
          rw [← eK] at hW2
          exact ret1 hW2 hret (by k_asm) (by k_asm) (List.Mem.head _) (by intro p9 h9; repeat (first | exact h9 | refine List.Mem.tail _ ?_)) ⟨_, _, _, rfl, rfl, hW2⟩
        · rw [sizeLine_eq, List.length_map]
          have := List.length_filter_le (fun k => !blank (showFig c0 c1 (ns.getD k.toNat 0))) (rangeKs 0 ns.length)
          rw [rangeKs_length] at this
          simp only [List.length_cons, List.length_nil]
          omega
end
end
section
theorem and_shift (a b k : Nat) (hb : b < 2 ^ k) : (a * 2 ^ k) &&& b = 0 := by
  refine Nat.eq_of_testBit_eq fun i => ?_
  rw [Nat.testBit_and, Nat.zero_testBit]
  by_cases h : i < k
  · have : (a * 2 ^ k).testBit i = false := by
      rw [Nat.mul_comm, Nat.testBit_two_pow_mul]
      simp [Nat.not_le.mpr h]
    rw [this, Bool.false_and]
  · have : b.testBit i = false := Nat.testBit_lt_two_pow (Nat.lt_of_lt_of_le hb (Nat.pow_le_pow_right (by decide) (Nat.not_lt.mp h)))
    rw [this, Bool.and_false]
theorem bitOr_plus (x y : Int) : Builtin.bitOr x y = x + y - Builtin.bitAnd x y := by
  have h := bitXor_and x y
  have h2 : Builtin.bitXor x y = Builtin.bitOr x y - Builtin.bitAnd x y := rfl
  omega
theorem bitAnd_nat (a b : Nat) : Builtin.bitAnd (a : Int) (b : Int) = ((a &&& b : Nat) : Int) := by
  unfold Builtin.bitAnd
  rw [decide_eq_true (Int.natCast_nonneg a), decide_eq_true (Int.natCast_nonneg b)]
  rfl
theorem bitOr_shift {a b : Int} (k : Nat) (ha : 0 ≤ a) (hb : 0 ≤ b) (hk : b < 2 ^ k) : Builtin.bitOr (a * 2 ^ k) b = a * 2 ^ k + b := by
  obtain ⟨n, rfl⟩ := Int.eq_ofNat_of_zero_le ha
  obtain ⟨m, rfl⟩ := Int.eq_ofNat_of_zero_le hb
  have e : ((n : Int) * 2 ^ k) = ((n * 2 ^ k : Nat) : Int) := by push_cast; rfl
  have hk' : m < 2 ^ k := by
    have : ((m : Nat) : Int) < ((2 ^ k : Nat) : Int) := by push_cast; exact hk
    exact Int.ofNat_lt.mp this
  rw [bitOr_plus, e, bitAnd_nat, and_shift n m k hk']
  simp
theorem or8 {a b : Int} (ha : 0 ≤ a) (hb : 0 ≤ b) (hk : b < 256) : Builtin.bitOr (a * 2 ^ Int.toNat 8) b = a * 256 + b := bitOr_shift 8 ha hb hk
theorem or2 {a b : Int} (ha : 0 ≤ a) (hb : 0 ≤ b) (hk : b < 4) : Builtin.bitOr (a * 2 ^ Int.toNat 2) b = a * 4 + b := bitOr_shift 2 ha hb hk
theorem or4 {a b : Int} (ha : 0 ≤ a) (hb : 0 ≤ b) (hk : b < 16) : Builtin.bitOr (a * 2 ^ Int.toNat 4) b = a * 16 + b := bitOr_shift 4 ha hb hk
theorem or6 {a b : Int} (ha : 0 ≤ a) (hb : 0 ≤ b) (hk : b < 64) : Builtin.bitOr (a * 2 ^ Int.toNat 6) b = a * 64 + b := bitOr_shift 6 ha hb hk

noncomputable def b64tab : List Int := [65, 66, 67, 68, 69, 70, 71, 72, 73, 74, 75, 76, 77, 78, 79, 80, 81, 82, 83, 84, 85, 86, 87, 88, 89, 90, 97, 98, 99, 100, 101, 102, 103, 104, 105, 106, 107, 108, 109, 110, 111, 112, 113, 114, 115, 116, 117, 118, 119, 120, 121, 122, 48, 49, 50, 51, 52, 53, 54, 55, 56, 57, 43, 47]
noncomputable def tabAt (f : Int) : Int := b64tab.getD f.toNat 0
theorem tabAt_byte {f : Int} : 0 ≤ tabAt f ∧ tabAt f < 256 := by
  unfold tabAt
  rw [List.getD_eq_getElem?_getD]
  cases h : b64tab[f.toNat]? with
  | none => decide
  | some k =>
    have hm := List.mem_of_getElem? h
    exact (show ∀ k ∈ b64tab, 0 ≤ k ∧ k < 256 by decide) k hm

/-- the figure that stands e bits from the end -/
noncomputable def figAt (V : Int) (e : Nat) : Int := V / 2 ^ e % 64
noncomputable def encFull (ks : List Int) : List Int := (List.range (ks.length * 8 / 6)).map fun i => figAt (valOf ks) (ks.length * 8 - 6 * (i + 1))
noncomputable def EncI (pre out : List Int) (lb lc : Int) : Prop := out = (encFull pre).map tabAt ∧ lb = ((pre.length * 8 % 6 : Nat) : Int) ∧ lc = valOf pre % 65536 ∧ 0 ≤ valOf pre
theorem encI_nil : EncI [] [] 0 0 := ⟨rfl, rfl, rfl, by decide⟩
theorem encI_lc {pre out : List Int} {lb lc : Int} (h : EncI pre out lb lc) : 0 ≤ lc ∧ lc < 65536 := by rw [h.2.2.1]; exact ⟨Int.emod_nonneg _ (by decide), Int.emod_lt_of_pos _ (by decide)⟩
theorem encI_in {pre out : List Int} {lb lc : Int} (h : EncI pre out lb lc) : KBa.In out := by
  rw [h.1]
  intro k hk
  obtain ⟨f, _, rfl⟩ := List.mem_map.mp hk
  exact tabAt_byte
theorem encI_len {pre out : List Int} {lb lc : Int} (h : EncI pre out lb lc) : out.length = pre.length * 8 / 6 := by rw [h.1]; simp [encFull]
theorem pow2_pos (e : Nat) : (0 : Int) < 2 ^ e := Int.pow_pos (by decide)
theorem figAt_shift (V b : Int) (e : Nat) (h0 : 0 ≤ b) (h1 : b < 256) : figAt (V * 256 + b) (8 + e) = figAt V e := by
  unfold figAt
  have e1 : (2 : Int) ^ (8 + e) = 256 * 2 ^ e := by rw [Int.pow_add]; rfl
  rw [e1, ← Int.ediv_ediv_of_nonneg (by decide : (0 : Int) ≤ 256)]
  have e2 : (V * 256 + b) / 256 = V := by rw [Int.add_comm, Int.add_mul_ediv_right _ _ (by decide), Int.ediv_eq_zero_of_lt h0 h1, Int.zero_add]
  rw [e2]
theorem encFull_old (ks : List Int) (b : Int) (h0 : 0 ≤ b) (h1 : b < 256) :
    ((List.range (ks.length * 8 / 6)).map fun i => figAt (valOf (ks ++ [b])) ((ks.length + 1) * 8 - 6 * (i + 1))) = encFull ks := by
  unfold encFull
  refine List.map_congr_left fun i hi => ?_
  have hi' := List.mem_range.mp hi
  have h6 : 6 * (i + 1) ≤ ks.length * 8 := by rw [Nat.mul_comm]; exact (Nat.le_div_iff_mul_le (by decide)).mp hi'
  have e : (ks.length + 1) * 8 - 6 * (i + 1) = 8 + (ks.length * 8 - 6 * (i + 1)) := by rw [Nat.add_mul, Nat.add_comm, Nat.add_sub_assoc h6]
  rw [e, valOf_snoc, figAt_shift _ _ _ h0 h1]
theorem encFull_snoc {ks : List Int} {b : Int} (h0 : 0 ≤ b) (h1 : b < 256) (j : Nat) (hj : (ks.length + 1) * 8 / 6 = ks.length * 8 / 6 + j) :
    encFull (ks ++ [b]) = encFull ks ++ (List.range j).map fun i => figAt (valOf (ks ++ [b])) ((ks.length + 1) * 8 - 6 * (ks.length * 8 / 6 + i + 1)) := by
  have h := encFull_old ks b h0 h1
  conv => lhs; unfold encFull
  rw [List.length_append, List.length_singleton, hj, List.range_add, List.map_append, h, List.map_map]
  rfl
theorem figAt_low {V : Int} {e : Nat} (he : e + 6 ≤ 16) : figAt (V % 65536) e = figAt V e := by
  unfold figAt
  have hp := pow2_pos e
  have he2 := (show ∀ e < 11, e + (16 - e) = 16 ∧ 16 - e = 6 + (10 - e) by decide) e (Nat.lt_succ_of_le (Nat.le_of_add_le_add_right he))
  have e1 : (65536 : Int) = 2 ^ e * 2 ^ (16 - e) := by
    rw [← Int.pow_add, he2.1]
    rfl
  have e2 : (2 : Int) ^ (16 - e) = 64 * 2 ^ (10 - e) := by
    rw [he2.2, Int.pow_add]
    rfl
  have h1 := Int.mul_ediv_add_emod V 65536
  have h2 : V / 2 ^ e = V % 65536 / 2 ^ e + 64 * (2 ^ (10 - e) * (V / 65536)) := by
    have h3 : V = V % 65536 + 2 ^ e * (64 * (2 ^ (10 - e) * (V / 65536))) := by
      have h4 : (65536 : Int) * (V / 65536) = 2 ^ e * (64 * (2 ^ (10 - e) * (V / 65536))) := by
        rw [← Int.mul_assoc 64, ← e2, ← Int.mul_assoc, ← e1]
      rw [← h4, Int.add_comm]; exact h1.symm
    conv => lhs; rw [h3]
    exact Int.add_mul_ediv_left _ _ (Int.ne_of_gt hp)
  rw [h2]
  exact (Int.add_mul_emod_self_left _ _ _).symm
theorem encI_lc' {pre out : List Int} {lb lc b : Int} (h : EncI pre out lb lc) (h0 : 0 ≤ b) (h1 : b < 256) : Builtin.bitAnd (Builtin.bitOr (lc * 2 ^ Int.toNat 8) b) 65535 = valOf (pre ++ [b]) % 65536 := by
  have hlc := encI_lc h
  rw [or8 hlc.1 h0 h1, bitAnd_m16, valOf_snoc, h.2.2.1, Int.add_emod (valOf pre % 65536 * 256), Int.mul_emod (valOf pre % 65536), Int.emod_emod, ← Int.mul_emod, ← Int.add_emod]
theorem encI_V {pre out : List Int} {lb lc b : Int} (h : EncI pre out lb lc) (h0 : 0 ≤ b) : 0 ≤ valOf (pre ++ [b]) := by
  rw [valOf_snoc]
  exact Int.add_nonneg (Int.mul_nonneg h.2.2.2 (by decide)) h0
theorem enc_fig {V : Int} {e : Nat} (he : e + 6 ≤ 16) : Builtin.bitAnd ((V % 65536).fdiv (2 ^ e)) 63 = figAt V e := by
  rw [bitAnd_m6, Int.fdiv_eq_ediv_of_nonneg _ (Int.le_of_lt (pow2_pos e))]
  exact figAt_low he
end
section
open Builtin
set_option maxRecDepth 100000
noncomputable def trTable (f g : Array UInt8) : Array UInt8 := (f.toList.zip g.toList).foldl (fun t (f, x) => t.setIfInBounds f.toNat x) ((Array.range 256).map (·.toUInt8))
theorem trFold_size (l : List (UInt8 × UInt8)) : ∀ t : Array UInt8, (l.foldl (fun t (f, x) => t.setIfInBounds f.toNat x) t).size = t.size := by
  induction l with
  | nil => intro t; rfl
  | cons p r ih => intro t; rw [List.foldl_cons, ih]; simp
theorem trTable_size (f g : Array UInt8) : (trTable f g).size = 256 := by
  unfold trTable
  rw [trFold_size]
  simp
theorem entry_mt : entryFor table "bytes.maketrans" = some Builtin.«bytes.maketrans» := by first | exact entryFor_of_fast (by kernel_rfl) | exact entryFor_of_tree (by kernel_rfl)
theorem plain_mt : plainId "bytes.maketrans" = true := by decide +kernel
theorem check_mt (a b : Value) : checkBuiltinCall "bytes.maketrans" ⟨[a, b], []⟩ = pure () := by kernel_rfl
theorem slot_translate : Slot "bytes" "translate" "bytes.translate" :=
  .of (owner := "bytes") (n := "translate") (by rw [typeLookup_type, builtinLookup_eq_fast]; kernel_rfl) (by decide +kernel) (by decide +kernel) (by decide +kernel)
    (by first | exact .inl (by decide +kernel) | exact .inr (by decide +kernel)) (by rw [isSubtype_type]; kernel_rfl)
theorem type_translate : typeOf (.builtin "bytes.translate") = pure (.type "method_descriptor") := by show builtinType _ = _; rw [builtinType_eq_fast]; kernel_rfl
theorem entry_translate : entryFor table "bytes.translate" = some Builtin.«bytes.translate» := entryFor_of_tree (by kernel_rfl)
theorem args_translate (a b : Value) : argsOk "bytes.translate" ⟨[a, b], []⟩ := by unfold argsOk; kernel_rfl
section
variable {prog : Program} {w : World} {M : Model} {A : Around} {E : Value → Shared → Prop} {s : Shared} {f g b tab : Array UInt8} {t u : Tok}
theorem run_mt {P : Fin → Shared → Prop} (hs : f.size = g.size) (h : P (.done (.ret (.bytes (trTable f g) s.toks))) { s with toks := s.toks + 1 }) :
    wpAny M A (Builtin.«bytes.maketrans» ⟨[.bytes f t, .bytes g u], []⟩) P E s := by
  unfold Builtin.«bytes.maketrans» Bytes.maketransM
  refine wpAny_bind (wpAny_of_eq (a := ()) rfl ?_)
  refine wpAny_bind (wpAny_of_eq (a := ()) rfl ?_)
  refine wpAny_bind (wpAny_of_eq (a := f) KBd.like_eq ?_)
  refine wpAny_bind (wpAny_of_eq (a := g) KBd.like_eq ?_)
  refine KFB.if_not (by simp [hs]) ?_
  refine wpAny_bind (wpAny_mkBytes (wpAny_pure h) ?_)
  exact Nat.le_trans (Nat.le_of_eq (trTable_size f g)) (by decide)
theorem call_mt {Q : Value → Shared → Prop} (hs : f.size = g.size) (h : ∀ t' k, Q (.bytes (trTable f g) t') { s with toks := k }) : wpAny (model prog w) A (call (.builtin "bytes.maketrans") [.bytes f t, .bytes g u]) Q E s := by
  refine wpAny_call (codeAny_of_tree ?_)
  show wpAny _ A.in1 (do checkBuiltinCall "bytes.maketrans" ⟨[.bytes f t, .bytes g u], []⟩; again (.builtin "bytes.maketrans" ⟨[.bytes f t, .bytes g u], []⟩)) _ _ s
  refine wpAny_bind (wpAny_of_eq (check_mt _ _) (wpAny_pure ⟨plainId_quiet plain_mt _, codeAny_builtin entry_mt ?_⟩))
  exact run_mt hs (h _ _)
theorem filter_none (b : Array UInt8) : (b.filter fun x => !(#[] : Array UInt8).contains x) = b := by
  apply Array.toList_inj.mp
  rw [Array.toList_filter]
  exact List.filter_eq_self.mpr fun a _ => by simp
noncomputable def trMap (tab b : Array UInt8) : Array UInt8 := b.map fun c => tab.getD c.toNat c
theorem same_eq : Bytes.Kind.bytes.same (.bytes b t) = pure (.bytes b t) := by first | rfl | kernel_rfl
theorem run_tr (hs : tab.size = 256) (hb : b.size ≤ sizeLine) :
    Meets (Builtin.«bytes.translate» ⟨[.bytes b t, .bytes tab u], []⟩) (fun _ R s => ∀ t' k, R (.ok (.ret (.bytes (trMap tab b) t'))) { s with toks := k }) := by
  refine .of_wp fun prog w A R s h => ?_
  unfold Builtin.«bytes.translate» Bytes.translateM
  dsimp only
  rw [if_neg (by simp)]
  rw [if_neg (by simp)]
  rw [if_neg (show ¬ ((Value.bytes tab u == Value.none) = true) from Bool.false_ne_true)]
  refine wpAny_bind (wpAny_of_eq (a := tab) KBd.like_eq ?_)
  refine KFB.if_not (by simp [hs]) ?_
  refine wpAny_bind (wpAny_pure ?_)
  refine wpAny_bind (wpAny_pure ?_)
  refine wpAny_bind (wpAny_of_eq (a := b) rfl ?_)
  dsimp only
  rw [filter_none]
  by_cases hc : ((Array.map (fun c => tab.getD c.toNat c) b) == b) = true
  · rw [if_pos hc]
    have e : trMap tab b = b := eq_of_beq hc
    rw [e] at h
    refine wpAny_bind (wpAny_rule ?_)
    refine wpAny_bind (wpAny_of_eq (a := .bytes b t) same_eq ?_)
    exact wpAny_pure ⟨_, rfl, h t s.toks⟩
  · rw [if_neg hc]
    refine wpAny_bind (wpAny_mkBytes (wpAny_pure ⟨_, rfl, h _ _⟩) ?_)
    show (b.map _).size ≤ sizeLine
    rw [Array.size_map]
    exact hb
theorem call_tr {Q : Value → Shared → Prop} (hs : tab.size = 256) (hb : b.size ≤ sizeLine) (h : ∀ t' k, Q (.bytes (trMap tab b) t') { s with toks := k }) : wpAny (model prog w) A (call (.builtin "bytes.translate") [.bytes b t, .bytes tab u]) Q E s :=
  call_meets slot_translate (typeIs_bytes _ _ _) entry_translate (args_translate _ _) (run_tr hs hb) h
theorem meth_tr {pl : Sem Bool} {Q : Value × List Value → Shared → Prop} (h : Q (.builtin "bytes.translate", [.bytes b t]) s) : wpAny M A (getMethod (.bytes b t) "translate" pl) Q E s := by
  with_reducible exact KBd.method_of (.bytes b t) (typeIs_bytes _ _ _) slot_translate type_translate KBd.noRef h
theorem meth_mt {K : Frag} {h₀ : Heap} {L : Addr} {m : Str → Option Value} {pl : Sem Bool} {Q : Value × List Value → Shared → Prop} (F : Fr h₀ L s.heap m) (X₀ : K.In h₀) (e : findCls K (.type "bytes") (.type "type") (Str.ofString "maketrans") = some (.val (.builtin "bytes.maketrans")))
    (h : Q (.builtin "bytes.maketrans", []) { s with toks := s.toks + 1 }) : wpAny (model prog w) A (getMethod (.type "bytes") (Str.ofString "maketrans") pl) Q E s :=
by
  refine method_type F X₀ (T := "bytes") ?_ (by decide +kernel) e ?_ h
  · exact PyProof.Rows.meta_bytes
  · k_handed
end
end
section
theorem ints_snoc {k : Int} {t : Tok} : ∀ {vs : List Value} {ns : List Int}, IntsAre vs ns → IntsAre (vs ++ [.int k t]) (ns ++ [k])
  | _, _, .nil => .cons k t .nil
  | _, _, .cons z u r => .cons z u (ints_snoc r)
noncomputable def padN (n : Nat) : Nat := (4 - n % 4) % 4
noncomputable def encAll (ks : List Int) : List Int := (figs ks).map tabAt ++ List.replicate (padN (figCount ks)) 61
theorem figs_range (ks : List Int) (hV : 0 ≤ valOf ks) : figs ks = (List.range (figCount ks)).map fun i => figVal ks / 64 ^ (figCount ks - 1 - i) % 64 := by
  unfold figs rangeKs
  rw [List.map_map]
  refine List.map_congr_left fun i hi => ?_
  have hi' := List.mem_range.mp hi
  have e : ((figCount ks : Int) - 1 - (0 + (i : Int))).toNat = figCount ks - 1 - i := by omega
  show ((figVal ks).fdiv (64 ^ ((figCount ks : Int) - 1 - (0 + (i : Int))).toNat)).fmod 64 = _
  rw [e, Int.fmod_eq_emod_of_nonneg _ (by decide), Int.fdiv_eq_ediv_of_nonneg _ (Int.le_of_lt (Int.pow_pos (by decide)))]
theorem pow64 (k : Nat) : (64 : Int) ^ k = 2 ^ (6 * k) := by rw [Int.pow_mul]; rfl
theorem fig_old {V : Int} {p a e : Nat} (h : 6 * a = p + e) : V * 2 ^ p / 64 ^ a % 64 = figAt V e := by
  unfold figAt
  rw [pow64, h, Int.pow_add, Int.mul_comm V, Int.mul_ediv_mul_of_pos _ _ (pow2_pos p)]
theorem enc_head (ks : List Int) (hz : ks.length ≤ 10) (hV : 0 ≤ valOf ks) (q : Nat) (hq : q = ks.length * 8 / 6) :
    figs ks = encFull ks ++ (if ks.length * 8 % 6 = 0 then [] else [figVal ks % 64]) := by
  rw [figs_range ks hV]
  have har := fig_ar ks.length (Nat.lt_succ_of_le hz)
  have hc : figCount ks = q + (if ks.length * 8 % 6 = 0 then 0 else 1) := by rw [hq]; exact har.2.2.2.2.1
  have hold : ∀ i, i < q → figVal ks / 64 ^ (figCount ks - 1 - i) % 64 = figAt (valOf ks) (ks.length * 8 - 6 * (i + 1)) := fun i hi => fig_old (har.2.2.2.1 i (hq ▸ hi))
  by_cases h0 : ks.length * 8 % 6 = 0
  · rw [if_pos h0] at hc ⊢
    rw [List.append_nil, hc, Nat.add_zero]
    unfold encFull
    rw [← hq]
    refine List.map_congr_left fun i hi => ?_
    have := hold i (List.mem_range.mp hi)
    rw [hc, Nat.add_zero] at this
    exact this
  · rw [if_neg h0] at hc ⊢
    have e1 : List.range (figCount ks) = List.range q ++ [q] := by rw [hc, List.range_succ]
    rw [e1, List.map_append]
    congr 1
    · unfold encFull
      rw [← hq]
      exact List.map_congr_left fun i hi => hold i (List.mem_range.mp hi)
    · have e : figCount ks - 1 - q = 0 := by rw [hc, Nat.add_sub_cancel, Nat.sub_self]
      simp only [List.map_cons, List.map_nil, e, Int.pow_zero, Int.ediv_one]
theorem enc_mod {ks out : List Int} {lb : Nat} {lc : Int} (h : EncI ks out lb lc) : ks.length * 8 % 6 = lb := (Int.ofNat.inj h.2.1).symm
theorem enc_end0 {ks out : List Int} {lc : Int} (hz : ks.length ≤ 10) (h : EncI ks out 0 lc) : out = encAll ks := by
  have h0 : ks.length * 8 % 6 = 0 := enc_mod (lb := 0) h
  obtain ⟨_, _, _, _, _, _, _, hp, _, _⟩ := fig_ar ks.length (Nat.lt_succ_of_le hz)
  unfold encAll
  rw [enc_head ks hz h.2.2.2 _ rfl, if_pos h0, List.append_nil, h.1]
  rw [show padN (figCount ks) = 0 from hp h0]
  simp
theorem enc_end2 {ks out : List Int} {lc : Int} (hz : ks.length ≤ 10) (h : EncI ks out 2 lc) : ((out ++ [tabAt (Builtin.bitAnd lc 3 * 2 ^ Int.toNat 4)]) ++ [61]) ++ [61] = encAll ks := by
  have h0 : ks.length * 8 % 6 = 2 := enc_mod (lb := 2) h
  obtain ⟨_, _, _, _, _, he, _, _, hp, _⟩ := fig_ar ks.length (Nat.lt_succ_of_le hz)
  unfold encAll
  rw [enc_head ks hz h.2.2.2 _ rfl, if_neg (by rw [h0]; decide), h.1]
  have hf : figVal ks % 64 = Builtin.bitAnd lc 3 * 2 ^ Int.toNat 4 := by
    rw [bitAnd_m2, h.2.2.1]
    unfold figVal
    rw [show figCount ks * 6 - ks.length * 8 = 4 from he h0, Int.emod_emod_of_dvd _ (by decide : (4 : Int) ∣ 65536), Int.mul_comm, Int.mul_comm (valOf ks % 4)]
    exact Int.mul_emod_mul_of_pos (a := 16) (valOf ks) 4 (by decide)
  rw [show padN (figCount ks) = 2 from hp h0, hf]
  simp [List.replicate]
theorem enc_end4 {ks out : List Int} {lc : Int} (hz : ks.length ≤ 10) (h : EncI ks out 4 lc) : (out ++ [tabAt (Builtin.bitAnd lc 15 * 2 ^ Int.toNat 2)]) ++ [61] = encAll ks := by
  have h0 : ks.length * 8 % 6 = 4 := enc_mod (lb := 4) h
  obtain ⟨_, _, _, _, _, _, he, _, _, hp⟩ := fig_ar ks.length (Nat.lt_succ_of_le hz)
  unfold encAll
  rw [enc_head ks hz h.2.2.2 _ rfl, if_neg (by rw [h0]; decide), h.1]
  have hf : figVal ks % 64 = Builtin.bitAnd lc 15 * 2 ^ Int.toNat 2 := by
    rw [bitAnd_m4, h.2.2.1]
    unfold figVal
    rw [show figCount ks * 6 - ks.length * 8 = 2 from he h0, Int.emod_emod_of_dvd _ (by decide : (16 : Int) ∣ 65536), Int.mul_comm, Int.mul_comm (valOf ks % 16)]
    exact Int.mul_emod_mul_of_pos (a := 4) (valOf ks) 16 (by decide)
  rw [show padN (figCount ks) = 1 from hp h0, hf]
  simp [List.replicate]
theorem encAll_in (ks : List Int) : KBa.In (encAll ks) := by
  intro k hk
  rcases List.mem_append.mp hk with hk | hk
  · obtain ⟨f, _, rfl⟩ := List.mem_map.mp hk
    exact tabAt_byte
  · rw [(List.mem_replicate.mp hk).2]
    decide
theorem encAll_len (ks : List Int) (h : ks.length ≤ 10) : (encAll ks).length ≤ 20 := by
  unfold encAll padN figs
  simp only [List.length_append, List.length_map, rangeKs_length, List.length_replicate]
  unfold figCount
  omega

/-- what the exchange of two signs by a table does -/
noncomputable def swap2 (f0 f1 g0 g1 k : Int) : Int := if k = f1 then g1 else if k = f0 then g0 else k
theorem tr_get {f0 f1 g0 g1 c : UInt8} : (trTable #[f0, f1] #[g0, g1]).getD c.toNat c = if c = f1 then g1 else if c = f0 then g0 else c := by
  have h0 := f0.toNat_lt
  have h1 := f1.toNat_lt
  have hc := c.toNat_lt
  have e : trTable #[f0, f1] #[g0, g1] = (((Array.range 256).map (·.toUInt8)).setIfInBounds f0.toNat g0).setIfInBounds f1.toNat g1 := rfl
  rw [e, Array.getD_eq_getD_getElem?, Array.getElem?_setIfInBounds, Array.getElem?_setIfInBounds]
  by_cases q1 : c = f1
  · subst q1
    simp [hc]
  · have n1 : ¬ f1.toNat = c.toNat := fun q => q1 (UInt8.toNat_inj.mp q.symm)
    rw [if_neg n1, if_neg q1]
    by_cases q0 : c = f0
    · subst q0
      simp [hc]
    · have n0 : ¬ f0.toNat = c.toNat := fun q => q0 (UInt8.toNat_inj.mp q.symm)
      rw [if_neg n0, if_neg q0]
      simp [hc]
theorem byte_back {x : Int} (h : 0 ≤ x ∧ x < 256) : x.toNat.toUInt8.toNat = x.toNat := Nat.mod_eq_of_lt ((Int.toNat_lt h.1).mpr h.2)
theorem tr_ints {f0 f1 g0 g1 : Int} {ks : List Int} (hf0 : 0 ≤ f0 ∧ f0 < 256) (hf1 : 0 ≤ f1 ∧ f1 < 256) (hk : KBa.In ks) :
    trMap (trTable (byteArr [f0, f1]) (byteArr [g0, g1])) (byteArr ks) = byteArr (ks.map (swap2 f0 f1 g0 g1)) := by
  unfold trMap
  have e1 : byteArr [f0, f1] = #[f0.toNat.toUInt8, f1.toNat.toUInt8] := rfl
  have e2 : byteArr [g0, g1] = #[g0.toNat.toUInt8, g1.toNat.toUInt8] := rfl
  rw [e1, e2]
  unfold byteArr
  apply Array.toList_inj.mp
  rw [Array.toList_map]
  simp only [List.map_map]
  refine List.map_congr_left fun k hm => ?_
  have hb := hk k hm
  have inj : ∀ x : Int, 0 ≤ x ∧ x < 256 → (k.toNat.toUInt8 = x.toNat.toUInt8 ↔ k = x) := by
    intro x hx
    constructor
    · intro q
      have q2 := congrArg UInt8.toNat q
      rw [byte_back hb, byte_back hx] at q2
      exact (Int.toNat_of_nonneg hb.1).symm.trans ((congrArg (fun n : Nat => (n : Int)) q2).trans (Int.toNat_of_nonneg hx.1))
    · intro q; rw [q]
  show (trTable _ _).getD _ _ = (swap2 f0 f1 g0 g1 k).toNat.toUInt8
  rw [tr_get]
  unfold swap2
  by_cases q1 : k = f1
  · rw [if_pos ((inj f1 hf1).mpr q1), if_pos q1]
  · rw [if_neg (fun q => q1 ((inj f1 hf1).mp q)), if_neg q1]
    by_cases q0 : k = f0
    · rw [if_pos ((inj f0 hf0).mpr q0), if_pos q0]
    · rw [if_neg (fun q => q0 ((inj f0 hf0).mp q)), if_neg q0]
end
section
local macro_rules | `(tactic| walk_at "call type:type") => `(tactic| ((with_reducible show wpAny _ _ (call _ [Value.bytes _ _]) _ _ _); refine call_type_of (Tx := "bytes") rfl (by decide +kernel) ?_))
local macro_rules | `(tactic| walk_at "getMethod bytes") => `(tactic| (with_reducible refine meth_tr ?_))
local macro_rules | `(tactic| walk_at "getMethod type:bytes") => `(tactic| (k_here; k_dflt (refine' meth_mt ?F ?X ?e ?_; (case F => k_asm); (case X => k_asm); (case e => k_is))))
local macro_rules | `(tactic| walk_at "call builtin:bytes.maketrans") => `(tactic| (refine call_mt (by rfl) ?_; intro _ _))
local macro_rules | `(tactic| walk_at "call builtin:bytes.translate") => `(tactic| (refine call_tr (trTable_size _ _) (by rw [byteArr_size, sizeLine_eq]; omega) ?_; intro _ _))
section
section
variable {prog : Program} {w : World} {A : Around} {E : Value → Shared → Prop} {s : Shared} {value slice : PySem.Expr} {t u : Tok} {i : Int} {Q : Value → Shared → Prop}
theorem b64_sub (h0 : 0 ≤ i) (h1 : i < 64) (h : ∀ t' k, Q (.int (tabAt i) t') { s with toks := k })
    (hs : subscripted slice false (.bytes #[65, 66, 67, 68, 69, 70, 71, 72, 73, 74, 75, 76, 77, 78, 79, 80, 81, 82, 83, 84, 85, 86, 87, 88, 89, 90, 97, 98, 99, 100, 101, 102, 103, 104, 105, 106, 107, 108, 109, 110, 111, 112, 113, 114, 115, 116, 117, 118, 119, 120, 121, 122, 48, 49, 50, 51, 52, 53, 54, 55, 56, 57, 43, 47] t) (.int i u) = operate [.bytes #[65, 66, 67, 68, 69, 70, 71, 72, 73, 74, 75, 76, 77, 78, 79, 80, 81, 82, 83, 84, 85, 86, 87, 88, 89, 90, 97, 98, 99, 100, 101, 102, 103, 104, 105, 106, 107, 108, 109, 110, 111, 112, 113, 114, 115, 116, 117, 118, 119, 120, 121, 122, 48, 49, 50, 51, 52, 53, 54, 55, 56, 57, 43, 47] t, .int i u] (getItem (.bytes #[65, 66, 67, 68, 69, 70, 71, 72, 73, 74, 75, 76, 77, 78, 79, 80, 81, 82, 83, 84, 85, 86, 87, 88, 89, 90, 97, 98, 99, 100, 101, 102, 103, 104, 105, 106, 107, 108, 109, 110, 111, 112, 113, 114, 115, 116, 117, 118, 119, 120, 121, 122, 48, 49, 50, 51, 52, 53, 54, 55, 56, 57, 43, 47] t) (.int i u)) := by with_unfolding_all rfl)
    (ht : ∀ r, letTemporaryGo value (.bytes #[65, 66, 67, 68, 69, 70, 71, 72, 73, 74, 75, 76, 77, 78, 79, 80, 81, 82, 83, 84, 85, 86, 87, 88, 89, 90, 97, 98, 99, 100, 101, 102, 103, 104, 105, 106, 107, 108, 109, 110, 111, 112, 113, 114, 115, 116, 117, 118, 119, 120, 121, 122, 48, 49, 50, 51, 52, 53, 54, 55, 56, 57, 43, 47] t) r = pure () := by intro _; with_unfolding_all rfl) :
    wpAny (model prog w) A (subscriptTail value slice (.bytes #[65, 66, 67, 68, 69, 70, 71, 72, 73, 74, 75, 76, 77, 78, 79, 80, 81, 82, 83, 84, 85, 86, 87, 88, 89, 90, 97, 98, 99, 100, 101, 102, 103, 104, 105, 106, 107, 108, 109, 110, 111, 112, 113, 114, 115, 116, 117, 118, 119, 120, 121, 122, 48, 49, 50, 51, 52, 53, 54, 55, 56, 57, 43, 47] t) (.int i u)) Q E s :=
  KBw.item_K (ks := b64tab) (by rfl) (by decide) h0 (by show i < ((64 : Nat) : Int); exact h1) (fun t' k _ _ => h t' k) hs ht
end
theorem and63 (x : Int) : 0 ≤ Builtin.bitAnd x 63 ∧ Builtin.bitAnd x 63 < 64 := by rw [bitAnd_m6]; omega
theorem and3s (x : Int) : 0 ≤ Builtin.bitAnd x 3 * 2 ^ Int.toNat 4 ∧ Builtin.bitAnd x 3 * 2 ^ Int.toNat 4 < 64 := by rw [bitAnd_m2]; show 0 ≤ x % 4 * 16 ∧ x % 4 * 16 < 64; omega
theorem and15s (x : Int) : 0 ≤ Builtin.bitAnd x 15 * 2 ^ Int.toNat 2 ∧ Builtin.bitAnd x 15 * 2 ^ Int.toNat 2 < 64 := by rw [bitAnd_m4]; show 0 ≤ x % 16 * 4 ∧ x % 16 * 4 < 64; omega
local macro_rules | `(tactic| walk_at "subscriptTail") => `(tactic| ((with_reducible show wpAny _ _ (subscriptTail _ _ (Value.bytes _ _) (Value.int _ _)) _ _ _); k_dflt (first | (refine b64_sub (And.left (and63 _)) (And.right (and63 _)) ?_) | (refine b64_sub (And.left (and3s _)) (And.right (and3s _)) ?_) | (refine b64_sub (And.left (and15s _)) (And.right (and15s _)) ?_)); intro _ _))

theorem enc_turn0 {pre out : List Int} {lc b : Int} (h : EncI pre out 0 lc) (h0 : 0 ≤ b) (h1 : b < 256) (hl : out.length ≤ 2 * pre.length) :
    ((2 : Int) = 0 ∨ (2 : Int) = 2 ∨ (2 : Int) = 4) ∧ (out ++ [tabAt (Builtin.bitAnd ((Builtin.bitAnd (Builtin.bitOr (lc * 2 ^ Int.toNat 8) b) 65535).fdiv (2 ^ (0 + 8 - 6 : Int).toNat)) 63)]).length ≤ 2 * (pre ++ [b]).length ∧
      EncI (pre ++ [b]) (out ++ [tabAt (Builtin.bitAnd ((Builtin.bitAnd (Builtin.bitOr (lc * 2 ^ Int.toNat 8) b) 65535).fdiv (2 ^ (0 + 8 - 6 : Int).toNat)) 63)]) 2 (Builtin.bitAnd (Builtin.bitOr (lc * 2 ^ Int.toNat 8) b) 65535) := by
  have hm : pre.length * 8 % 6 = 0 := by have := h.2.1; omega
  rw [encI_lc' h h0 h1]
  refine ⟨by decide, by simp; omega, ?_, by simp; omega, rfl, encI_V h h0⟩
  rw [encFull_snoc h0 h1 1 (by omega), List.map_append, h.1, show (0 + 8 - 6 : Int).toNat = 2 from rfl, enc_fig (by decide)]
  have e : (pre.length + 1) * 8 - 6 * (pre.length * 8 / 6 + 0 + 1) = 2 := by omega
  simp only [List.range_one, List.map_cons, List.map_nil, e]
theorem enc_turn2 {pre out : List Int} {lc b : Int} (h : EncI pre out 2 lc) (h0 : 0 ≤ b) (h1 : b < 256) (hl : out.length ≤ 2 * pre.length) :
    ((4 : Int) = 0 ∨ (4 : Int) = 2 ∨ (4 : Int) = 4) ∧ (out ++ [tabAt (Builtin.bitAnd ((Builtin.bitAnd (Builtin.bitOr (lc * 2 ^ Int.toNat 8) b) 65535).fdiv (2 ^ (2 + 8 - 6 : Int).toNat)) 63)]).length ≤ 2 * (pre ++ [b]).length ∧
      EncI (pre ++ [b]) (out ++ [tabAt (Builtin.bitAnd ((Builtin.bitAnd (Builtin.bitOr (lc * 2 ^ Int.toNat 8) b) 65535).fdiv (2 ^ (2 + 8 - 6 : Int).toNat)) 63)]) 4 (Builtin.bitAnd (Builtin.bitOr (lc * 2 ^ Int.toNat 8) b) 65535) := by
  have hm : pre.length * 8 % 6 = 2 := by have := h.2.1; omega
  rw [encI_lc' h h0 h1]
  refine ⟨by decide, by simp; omega, ?_, by simp; omega, rfl, encI_V h h0⟩
  rw [encFull_snoc h0 h1 1 (by omega), List.map_append, h.1, show (2 + 8 - 6 : Int).toNat = 4 from rfl, enc_fig (by decide)]
  have e : (pre.length + 1) * 8 - 6 * (pre.length * 8 / 6 + 0 + 1) = 4 := by omega
  simp only [List.range_one, List.map_cons, List.map_nil, e]
theorem enc_turn4 {pre out : List Int} {lc b : Int} (h : EncI pre out 4 lc) (h0 : 0 ≤ b) (h1 : b < 256) (hl : out.length ≤ 2 * pre.length) :
    ((0 : Int) = 0 ∨ (0 : Int) = 2 ∨ (0 : Int) = 4) ∧
      ((out ++ [tabAt (Builtin.bitAnd ((Builtin.bitAnd (Builtin.bitOr (lc * 2 ^ Int.toNat 8) b) 65535).fdiv (2 ^ (4 + 8 - 6 : Int).toNat)) 63)]) ++ [tabAt (Builtin.bitAnd ((Builtin.bitAnd (Builtin.bitOr (lc * 2 ^ Int.toNat 8) b) 65535).fdiv (2 ^ (4 + 8 - 6 - 6 : Int).toNat)) 63)]).length ≤ 2 * (pre ++ [b]).length ∧
      EncI (pre ++ [b]) ((out ++ [tabAt (Builtin.bitAnd ((Builtin.bitAnd (Builtin.bitOr (lc * 2 ^ Int.toNat 8) b) 65535).fdiv (2 ^ (4 + 8 - 6 : Int).toNat)) 63)]) ++ [tabAt (Builtin.bitAnd ((Builtin.bitAnd (Builtin.bitOr (lc * 2 ^ Int.toNat 8) b) 65535).fdiv (2 ^ (4 + 8 - 6 - 6 : Int).toNat)) 63)]) 0 (Builtin.bitAnd (Builtin.bitOr (lc * 2 ^ Int.toNat 8) b) 65535) := by
  have hm : pre.length * 8 % 6 = 4 := by have := h.2.1; omega
  rw [encI_lc' h h0 h1]
  refine ⟨by decide, by simp; omega, ?_, by simp; omega, rfl, encI_V h h0⟩
  rw [encFull_snoc h0 h1 2 (by omega), List.map_append, h.1, show (4 + 8 - 6 : Int).toNat = 6 from rfl, show (4 + 8 - 6 - 6 : Int).toNat = 0 from rfl, enc_fig (by decide), enc_fig (by decide)]
  have e : (pre.length + 1) * 8 - 6 * (pre.length * 8 / 6 + 0 + 1) = 6 := by omega
  have e' : (pre.length + 1) * 8 - 6 * (pre.length * 8 / 6 + 1 + 1) = 0 := by omega
  simp only [show List.range 2 = [0, 1] from rfl, List.map_cons, List.map_nil, e, e', List.append_assoc, List.singleton_append]

set_option maxRecDepth 100000 in
set_option maxHeartbeats 8000000 in
theorem c_enc (w : World) (news : List (Addr × Obj)) (b : Array UInt8) (t u : Tok) (ks : List Int) (hb : KBw.bInts b = ks) (hz : ks.length ≤ 10) (c0 c1 : Nat) (hc0 : c0 < 128) (hc1 : c1 < 128) :
    Says w 101 news [.bytes b t, .bytes (byteArr [(c0 : Int), (c1 : Int)]) u] 10 100 (fun r tl => tl = [] ∧ ∃ t', r = .bytes (byteArr ((encAll ks).map (swap2 43 47 c0 c1))) t') := by
  w_top off
  unfold Says
  k_fill
  intro mean mg mb dp un gd cn cs a ccd cl outer A₀ base h₀ L m s Q E B F X N T hk hdp hun hret
  have kMk : KstMark := kstMark
  k_with_none
  have hal : KBw.bInts (byteArr [(c0 : Int), (c1 : Int)]) = [(c0 : Int), (c1 : Int)] := KBa.ints_make (by intro k hk; simp at hk; omega)
  have hal2 := encAll_len ks hz
  refine wpAny_call ?_
  k_dflt (first
    | (refine' code_def ?k1 ?k2 ?k3 ?k4 ?k5 ?kA ?kF ?kK ?k6 ?k7 ?k8 ?k9 ?kB ?_ ?c2 ?c3 ?c4 ?c5; (case kA => exact rfl); (case kF => exact rfl); (case kK => assumption); (case k1 => k_asm); (case k2 => k_asm); (case k3 => k_asm); (case k4 => k_asm); (case k5 => k_asm); (case k6 => k_is); (case k7 => k_is); (case k8 => k_room); (case k9 => first | exact BindsTo.of_eq rfl | exact binds_K (by k_in) rfl (by k_is) rfl rfl rfl); (case c5 => decide); (case kB => exact locs rfl); (case c2 => exact rfl); (case c3 => exact rfl); (case c4 => exact rfl); k_whole; intro g' L' h' FG' F' N' B' X' T'; (try dsimp only); (try k_lift B'); (try k_fold))
    | (refine' code_defC ?k1 ?k2 ?k3 ?k4 ?k5 ?kA ?kF ?kK ?k6 ?k7 ?k8 ?k9 ?kB ?kD ?_ ?c2 ?c3 ?c4; (case kA => exact rfl); (case kF => exact rfl); (case kK => assumption); (case k1 => k_asm); (case k2 => k_asm); (case k3 => k_asm); (case k4 => k_asm); (case k5 => k_asm); (case k6 => k_is); (case k7 => k_is); (case k8 => k_room); (case k9 => first | exact BindsTo.of_eq rfl | exact binds_K (by k_in) rfl (by k_is) rfl rfl rfl); (case kB => exact rfl); (case kD => decide +kernel); (case c2 => exact rfl); (case c3 => exact rfl); (case c4 => exact rfl); k_whole; intro g' L' h' tk' cells' FG' F' N' Y' B' X' T' l1; (try k_lt l1); k_cells Y'; (try simp only [List.cons_append, List.nil_append] at N'); (try dsimp only); (try k_lift B'); (try k_fold)))
  refine gen_A 8 80 B' (by k_room) (by k_units) ?_
  clear B'
  clear hdp hun
  intro A₀ outer dp un gd B' hdp hun
  repeat' (first | (k_unfold; (try dsimp only)) | (k_end; wrow_close) | ((fail_if_success (with_reducible show wpAny _ _ (pyIter _) _ _ _)); walk1) | ((fail_if_success (with_reducible show wpAny _ _ (pyIter _) _ _ _)); dsimp only; walk1) | (leave1; try dsimp only) | fail "no step")
  refine gen_tk s ?_
  intro tk0
  rename_i l9 h9 l19 h92 h91 h90 FV NV
  obtain ⟨m0, hm0, FV2⟩ := fr_two (a := Str.ofString "out") (b := Str.ofString "newline") (u := Value.ref l9) (v := Value.bool false) FV rfl rfl
  obtain ⟨tb0, k1⟩ : ∃ t, m0 (Str.ofString "leftbits") = some (Value.int 0 t) := ⟨_, by rw [hm0]; rfl⟩
  obtain ⟨tc0, k2⟩ : ∃ t, m0 (Str.ofString "leftchar") = some (Value.int 0 t) := ⟨_, by rw [hm0]; rfl⟩
  clear hm0 FV
  with_unfolding_all refine' KStb.kst_bytes (σ := List Value × List Int × Nat × Int × Nat × Int × Nat) (fun c => (l9, listOf c.1.toArray c.2.2.1) :: news) (fun c => [(Str.ofString "leftbits", Value.int c.2.2.2.1 c.2.2.2.2.1), (Str.ofString "leftchar", Value.int c.2.2.2.2.2.1 c.2.2.2.2.2.2)]) (fun c => IntsAre c.1 c.2.1) [] (fun pre c => (c.2.2.2.1 = 0 ∨ c.2.2.2.1 = 2 ∨ c.2.2.2.1 = 4) ∧ c.2.1.length ≤ 2 * pre.length ∧ EncI pre c.2.1 c.2.2.2.1 c.2.2.2.2.2.1) ([], [], 0, 0, tb0, 0, tc0) hb rfl (by rfl) FV2 NV IntsAre.nil ?kk ⟨.inl rfl, Nat.le_refl _, encI_nil⟩ ?_ ?_
  (case kk => exact List.forall_mem_cons.mpr ⟨k1, List.forall_mem_cons.mpr ⟨k2, List.forall_mem_nil _⟩⟩)
  · clear FV2 NV k1 k2
    repeat (rename Fr _ _ _ _ => hz; clear hz)
    rintro ⟨vs9, out, n9, lb, tlb, lc, tlc⟩ pre post o to u h tk own e hlt h0 h1 hoff fac ⟨hlb, hol, hE⟩ F' N'
    dsimp only at fac hlb hol hE N' hoff
    dsimp only [kstB] at F'
    simp only [List.cons_append] at N'
    simp only [List.map_cons] at hoff
    have hlc := encI_lc hE
    have hfl := fac.length
    refine gen_turn ?_
    intro R s hR
    refine gen_A 6 60 (by assumption) (by k_room) (by k_units) ?_
    repeat (rename Below _ _ _ _ => hz; clear hz)
    intro A₀ outer dp un gd B1 hdp hun
    rcases hlb with rfl | rfl | rfl
    all_goals (
      k_steps
      rename News _ _ _ _ => nE'
      try simp only [List.push_toArray] at nE'
      refine hR _ _ _ (.inl rfl) (kst_end ⟨_, _, _, _, _, _, _⟩ (by assumption) nE' (by exact List.forall_mem_cons.mpr ⟨List.Mem.head _, fun p9 h9 => List.Mem.tail _ (List.mem_append_left _ h9)⟩) (by exact fun p9 h9 => List.Mem.tail _ (List.mem_append_right _ h9)) (by rfl) (by kst_facts) (by kst_all) (by kst_same) (by dsimp only; first | exact enc_turn0 (by assumption) (by assumption) (by assumption) (by assumption) | exact enc_turn2 (by assumption) (by assumption) (by assumption) (by assumption) | exact enc_turn4 (by assumption) (by assumption) (by assumption) (by assumption))))
  · clear FV2 NV k1 k2
    repeat (rename Fr _ _ _ _ => hz; clear hz)
    rintro ⟨vs9, out, n9, lb, tlb, lc, tlc⟩ u h tk hl fac ⟨hlb, hol, hE⟩ F' N'
    dsimp only
    refine gen_A 6 60 (by assumption) (by k_room) (by k_units) ?_
    repeat (rename Below _ _ _ _ => hz; clear hz)
    intro A₀ outer dp un gd B1 hdp hun
    dsimp only at fac hlb hol hE N'
    dsimp only [kstB] at F'
    have hlc := encI_lc hE
    have hfl := fac.length
    have hin := encI_in hE
    have b30 : 0 ≤ Builtin.bitAnd lc 3 := by rw [bitAnd_m2]; omega
    have b31 : Builtin.bitAnd lc 3 < 4 := by rw [bitAnd_m2]; omega
    have b150 : 0 ≤ Builtin.bitAnd lc 15 := by rw [bitAnd_m4]; omega
    have b151 : Builtin.bitAnd lc 15 < 16 := by rw [bitAnd_m4]; omega
    rcases hlb with rfl | rfl | rfl
    all_goals (
    repeat' (first | (k_unfold; (try dsimp only)) | (k_end; wrow_close) | ((fail_if_success (with_reducible show wpAny _ _ (call (Value.type "bytes") _) _ _ _)); walk1) | ((fail_if_success (with_reducible show wpAny _ _ (call (Value.type "bytes") _) _ _ _)); dsimp only; walk1) | (leave1; try dsimp only) | fail "no step")
    refine gen_tk s ?_
    intro tkB
    rename News _ _ _ (_ :: _) => NB
    try simp only [List.push_toArray] at NB
    )
    · have hE2 := enc_end0 hz hE
      refine KBa.make_K (ns := encAll ks) (by k_asm) NB (by rfl) (News.isList NB (List.Mem.head _)) (by rw [← hE2]; exact fac) (encAll_in ks) (by omega) ?_
      intro hB tB kB FB NB2 _
      k_steps
      · exact ret0 hret (by k_asm) (newsSub (by k_asm) (by intro p9 h9; repeat (first | exact h9 | refine List.Mem.tail _ ?_))) ⟨rfl, _, congrArg (Value.bytes · _) (tr_ints (f0 := 43) (f1 := 47) (by decide) (by decide) (encAll_in ks))⟩
      · exact absurd (rfl : (([(c0 : Int), (c1 : Int)].length : Nat) : Int) = 2) (by assumption)
    · have hE2 := enc_end2 hz hE
      refine KBa.make_K (ns := encAll ks) (by k_asm) NB (by rfl) (News.isList NB (List.Mem.head _)) (by rw [← hE2]; exact ints_snoc (ints_snoc (ints_snoc fac))) (encAll_in ks) (by omega) ?_
      intro hB tB kB FB NB2 _
      k_steps
      · exact ret0 hret (by k_asm) (newsSub (by k_asm) (by intro p9 h9; repeat (first | exact h9 | refine List.Mem.tail _ ?_))) ⟨rfl, _, congrArg (Value.bytes · _) (tr_ints (f0 := 43) (f1 := 47) (by decide) (by decide) (encAll_in ks))⟩
      · exact absurd (rfl : (([(c0 : Int), (c1 : Int)].length : Nat) : Int) = 2) (by assumption)
    · have hE2 := enc_end4 hz hE
      refine KBa.make_K (ns := encAll ks) (by k_asm) NB (by rfl) (News.isList NB (List.Mem.head _)) (by rw [← hE2]; exact ints_snoc (ints_snoc fac)) (encAll_in ks) (by omega) ?_
      intro hB tB kB FB NB2 _
      k_steps
      · exact ret0 hret (by k_asm) (newsSub (by k_asm) (by intro p9 h9; repeat (first | exact h9 | refine List.Mem.tail _ ?_))) ⟨rfl, _, congrArg (Value.bytes · _) (tr_ints (f0 := 43) (f1 := 47) (by decide) (by decide) (encAll_in ks))⟩
      · exact absurd (rfl : (([(c0 : Int), (c1 : Int)].length : Nat) : Int) = 2) (by assumption)
end
section
open Builtin Builtin._codecs
set_option maxRecDepth 100000
theorem forIn_stop {α σ : Type} {f : α → σ → Sem (ForInStep σ)} {b : σ} (h : ∀ a, f a b = pure (.done b)) : ∀ l : List α, forIn l b f = pure b
  | [] => rfl
  | a :: l => by rw [List.forIn_cons, h a]; rfl
theorem forIn_two {α σ : Type} {f : α → σ → Sem (ForInStep σ)} {b0 b1 : σ} (l : List α) (h0 : l = [] → b0 = b1) (h1 : l ≠ [] → ∀ a, f a b0 = pure (.yield b1)) (h2 : ∀ a, f a b1 = pure (.done b1)) : forIn l b0 f = pure b1 := by
  cases l with
  | nil => rw [h0 rfl]; rfl
  | cons a l =>
    rw [List.forIn_cons, h1 (by simp) a]
    exact forIn_stop h2 l
theorem fold_bytes : ∀ (l : List Nat) (acc : Array UInt8), l.foldl (fun acc y => acc ++ (asciiCodec.bytesOf y).toArray) acc = acc ++ (l.map fun c => c.toUInt8).toArray
  | [], acc => by simp
  | c :: l, acc => by
    rw [List.foldl_cons, fold_bytes l]
    apply Array.toList_inj.mp
    simp [asciiCodec]
theorem enc_ascii {id : String} {self : Value} {x : Str} (h : ∀ c ∈ x.cps.toList, c < 128) (hl : x.cps.size ≤ 1000) : encodeNarrow id asciiCodec none self x = pure (byteArr (x.cps.toList.map fun (c : Nat) => (c : Int))) := by
  unfold encodeNarrow
  simp only [Std.Legacy.Range.forIn_eq_forIn_range']
  have hb : byteArr (x.cps.toList.map fun (c : Nat) => (c : Int)) = (x.cps.toList.map fun c => c.toUInt8).toArray := by
    unfold byteArr
    rw [List.map_map]
    rfl
  have hsz : (byteArr (x.cps.toList.map fun (c : Nat) => (c : Int))).size = x.cps.size := by rw [byteArr_size]; simp
  have hnl : ¬ x.cps.size > sizeLine := by rw [sizeLine_eq]; omega
  rw [forIn_two (b1 := (x.cps.size, byteArr (x.cps.toList.map fun (c : Nat) => (c : Int)), ({} : Faults)))]
  · rfl
  · intro e
    have e2 : x.cps.size = 0 := by
      have := congrArg List.length e
      simpa [Std.Legacy.Range.size, Str.length] using this
    have e3 : x.cps.toList = [] := by
      have : x.cps.toList.length = 0 := by simpa using e2
      exact List.eq_nil_of_length_eq_zero this
    rw [e2, e3]
    rfl
  · intro e a
    have hpos : 0 < x.cps.size := by
      refine Nat.pos_of_ne_zero fun q => e ?_
      simp [Std.Legacy.Range.size, Str.length, q]
    have hg : x.cps[0]? = some (x.cps[0]'hpos) := by simp [hpos]
    have hc : x.cps[0]'hpos < 128 := h _ (by simp)
    have hbad : asciiCodec.bad (x.cps[0]'hpos) = false := by simp [asciiCodec]; omega
    have hfi : Array.findIdx? asciiCodec.bad x.cps = none := by
      rw [Array.findIdx?_eq_none_iff]
      intro c hcm
      have := h c (by simpa using hcm)
      simp [asciiCodec]
      omega
    dsimp only
    rw [if_neg (by simp), hg]
    dsimp only
    rw [hbad, Array.extract_size, hfi]
    simp only [Bool.not_false, if_true, Option.getD_none, Array.extract_size, Nat.zero_add]
    rw [← Array.foldl_toList, fold_bytes, hb]
    simp
  · intro a
    dsimp only
    rw [hsz, if_neg hnl]
    have hg : x.cps[x.cps.size]? = none := by simp
    rw [hg]
theorem forIn_walk {α σ : Type} {f : α → σ → Sem (ForInStep σ)} (g : Nat → σ) : ∀ (l : List α) (i : Nat), (∀ a j, i ≤ j → j < i + l.length → f a (g j) = pure (.yield (g (j + 1)))) → forIn l (g i) f = pure (g (i + l.length))
  | [], i, _ => rfl
  | a :: l, i, h => by
    rw [List.forIn_cons, h a i (Nat.le_refl _) (by simp)]
    have := forIn_walk g l (i + 1) (fun a j h1 h2 => h a j (by omega) (by rw [List.length_cons]; omega))
    rw [show i + (a :: l).length = i + 1 + l.length by rw [List.length_cons]; omega]
    exact this
noncomputable def decSt (b : Array UInt8) (j : Nat) : Nat × Array Nat × Faults := (j, ((b.toList.take j).map fun c => c.toNat).toArray, { held := [] })
theorem dec_ascii {id : String} {b : Array UInt8} (h : ∀ c ∈ b.toList, c.toNat < 128) (hl : b.size ≤ 1000) : runDecoder id asciiDecoder none true b 0 [] = pure ((b.toList.map fun c => c.toNat).toArray, b.size) := by
  unfold runDecoder
  simp only [Std.Legacy.Range.forIn_eq_forIn_range']
  have e0 : ((0, #[], { held := [] }) : Nat × Array Nat × Faults) = decSt b 0 := rfl
  rw [e0, forIn_walk (decSt b)]
  · have en : 0 + (List.range' 0 (Std.Legacy.Range.size [:b.size])).length = b.size := by simp [Std.Legacy.Range.size]
    rw [en]
    show (pure ((decSt b b.size).2.1, (decSt b b.size).1) : Sem (Array Nat × Nat)) = _
    unfold decSt
    have ht : b.toList.take b.size = b.toList := List.take_of_length_le (by simp)
    rw [ht]
  · intro a j _ hj
    have hjb : j < b.size := by simpa [Std.Legacy.Range.size] using hj
    have hg : b.getD j 0 = b[j] := by simp [hjb]
    have hc : (b[j]).toNat < 128 := h _ (by simp)
    have hf : asciiDecoder.find true b j = Found.text [(b[j]).toNat] (j + 1) := by
      show (if (b.getD j 0).toNat < 128 then _ else _) = _
      rw [hg, if_pos hc]
      rfl
    have hs : ¬ (decSt b j).2.1.size > sizeLine := by
      unfold decSt
      rw [sizeLine_eq]
      simp
      omega
    have h1 : (decSt b j).1 = j := rfl
    rw [if_neg hs, h1, if_neg (by omega), hf]
    dsimp only
    congr 2
    unfold decSt
    dsimp only
    have ht : b.toList.take (j + 1) = b.toList.take j ++ [b[j]] := by
      rw [List.take_add_one]
      simp [hjb]
    rw [ht]
    simp

section
variable {b : Array UInt8} {c : UInt8} {cs : List UInt8} {t u : Tok} {x : PySem.Str}
theorem road_ascii {id : String} : _codecs.decodeRoad id b (PySem.Str.ofString "ascii") none [] = (_codecs.runDecoder id _codecs.asciiDecoder none true b 0 [] >>= fun r => mkStr ⟨r.1⟩) := by kernel_rfl
theorem meets_text_a {t1 t2 : Tok} {d : PySem.Str} (h : ∀ c ∈ b.toList, c.toNat < 128) (hl : b.size ≤ 1000) :
    Meets («_codecs.decode.text» ⟨[.bytes b t, .str (PySem.Str.ofString "ascii") t1, .none, .str d t2], []⟩) (fun _ R s => R (.ok (.ret (.str ⟨(b.toList.map fun c => c.toNat).toArray⟩ s.toks))) { s with toks := s.toks + 1 }) := by
  refine .of_wp fun prog w A R s hS => ?_
  show wpAny _ _ (Bytes.bytesLike _ (.bytes b t) >>= fun r => _) _ _ s
  refine wpAny_bind (wpAny_of_eq KBd.like_eq ?_)
  refine wpAny_bind (wpAny_of_eq KBd.held_eq ?_)
  show wpAny _ _ (_codecs.decodeRoad _ b (PySem.Str.ofString "ascii") none [] >>= fun v => _) _ _ s
  rw [road_ascii, dec_ascii h hl]
  refine wpAny_bind (wpAny_bind (wpAny_pure ?_))
  refine wpAny_mkStr (wpAny_pure ⟨_, rfl, hS⟩) ?_
  show (b.toList.map fun c => c.toNat).toArray.size ≤ sizeLine
  rw [sizeLine_eq]
  simp
  omega
theorem entry_cons : «bytes.decode» ⟨[.bytes (c :: cs).toArray t, .str (PySem.Str.ofString "ascii") u], []⟩ = (mkStr (PySem.Str.ofString "utf-8") >>= fun _ => mkStr (PySem.Str.ofString "ascii") >>= fun e => mkStr (PySem.Str.ofString "bytes.decode") >>= fun d =>
    call (.builtin "_codecs.decode.text") [.bytes (c :: cs).toArray t, e, .none, d] >>= fun v => ret v) := by kernel_rfl
theorem entry_nil : «bytes.decode» ⟨[.bytes ([] : List UInt8).toArray t, .str (PySem.Str.ofString "ascii") u], []⟩ = (rule "bytes.decode.empty" >>= fun _ => retStr Str.empty) := by kernel_rfl
theorem meets_decode_a (h : ∀ c ∈ b.toList, c.toNat < 128) (hl : b.size ≤ 1000) :
    Meets («bytes.decode» ⟨[.bytes b t, .str (PySem.Str.ofString "ascii") u], []⟩) (fun _ R s => ∀ t' k, R (.ok (.ret (.str ⟨(b.toList.map fun c => c.toNat).toArray⟩ t'))) { s with toks := k }) := by
  refine .of_wp fun prog w A R s hS => ?_
  obtain ⟨l⟩ := b
  cases l with
  | nil =>
    show wpAny _ _ («bytes.decode» ⟨[.bytes ([] : List UInt8).toArray t, .str (PySem.Str.ofString "ascii") u], []⟩) _ _ _
    rw [entry_nil]
    refine wpAny_bind (wpAny_rule ?_)
    exact wpAny_bind (wpAny_mkStr (wpAny_pure ⟨_, rfl, hS _ _⟩) (by decide))
  | cons c cs =>
    show wpAny _ _ («bytes.decode» ⟨[.bytes (c :: cs).toArray t, .str (PySem.Str.ofString "ascii") u], []⟩) _ _ _
    rw [entry_cons]
    refine wpAny_bind (wpAny_mkStr ?_ (by decide))
    refine wpAny_bind (wpAny_mkStr ?_ (by decide))
    refine wpAny_bind (wpAny_mkStr ?_ (by decide))
    exact wpAny_bind (call_function_meets KBd.kind_text KBd.plain_text KBd.entry_text (KBd.args_text _ _ _ _) (meets_text_a h hl) (wpAny_pure ⟨_, rfl, hS _ _⟩))
theorem args_decode2 (a b : Value) : argsOk "bytes.decode" ⟨[a, b], []⟩ := by unfold argsOk; kernel_rfl
theorem call_decode_a {prog : Program} {w : World} {A : Around} {E : Value → Shared → Prop} {s : Shared} {Q : Value → Shared → Prop} (h : ∀ c ∈ b.toList, c.toNat < 128) (hl : b.size ≤ 1000) (hq : ∀ t' k, Q (.str ⟨(b.toList.map fun c => c.toNat).toArray⟩ t') { s with toks := k }) :
    wpAny (model prog w) A (call (.builtin "bytes.decode") [.bytes b t, .str (PySem.Str.ofString "ascii") u]) Q E s :=
  call_meets FB.slot_bytes_decode (typeIs_bytes _ _ _) FB.entry_bytes_decode (args_decode2 _ _) (meets_decode_a h hl) hq
/-- the encoder -/
theorem road_enc {id : String} {self : Value} : _codecs.encodeRoad id self x (PySem.Str.ofString "ascii") none = (_codecs.encodeNarrow id asciiCodec none self x >>= fun r => mkBytes r) := by kernel_rfl
theorem enc_entry : «str.encode» ⟨[.str x t, .str (PySem.Str.ofString "ascii") u], []⟩ = (_codecs.encodeRoad "str.encode" (.str x t) x (PySem.Str.ofString "ascii") none >>= fun v => ret v) := by kernel_rfl
theorem meets_encode_a (h : ∀ c ∈ x.cps.toList, c < 128) (hl : x.cps.size ≤ 1000) :
    Meets («str.encode» ⟨[.str x t, .str (PySem.Str.ofString "ascii") u], []⟩) (fun _ R s => ∀ t' k, R (.ok (.ret (.bytes (byteArr (x.cps.toList.map fun (c : Nat) => (c : Int))) t'))) { s with toks := k }) := by
  refine .of_wp fun prog w A R s hS => ?_
  rw [enc_entry, road_enc, enc_ascii h hl]
  refine wpAny_bind (wpAny_bind (wpAny_pure ?_))
  refine wpAny_mkBytes (wpAny_pure ⟨_, rfl, hS _ _⟩) ?_
  rw [byteArr_size, sizeLine_eq]
  simp
  omega
theorem call_encode_a {prog : Program} {w : World} {A : Around} {E : Value → Shared → Prop} {s : Shared} {Q : Value → Shared → Prop} (h : ∀ c ∈ x.cps.toList, c < 128) (hl : x.cps.size ≤ 1000) (hq : ∀ t' k, Q (.bytes (byteArr (x.cps.toList.map fun (c : Nat) => (c : Int))) t') { s with toks := k }) :
    wpAny (model prog w) A (call (.builtin "str.encode") [.str x t, .str (PySem.Str.ofString "ascii") u]) Q E s :=
  call_meets F.slot_str_encode (typeIs_str _ _ _) F.entry_str_encode (F.args_str_encode_2 _ _) (meets_encode_a h hl) hq
end
end
section
noncomputable def b64val (c : Int) : Int :=
  if 65 ≤ c ∧ c ≤ 90 then c - 65 else if 97 ≤ c ∧ c ≤ 122 then c - 71 else if 48 ≤ c ∧ c ≤ 57 then c + 4 else if c = 43 then 62 else if c = 47 then 63 else 64
theorem b64val_in (c : Int) : 0 ≤ b64val c ∧ b64val c ≤ 64 := by unfold b64val; (repeat' split) <;> first | decide | omega

theorem b64_a {c : Int} (h : 65 ≤ c) (h' : c ≤ 90) : b64val c = c - 65 := if_pos ⟨h, h'⟩
theorem b64_b {c : Int} (h0 : ¬ (65 ≤ c ∧ c ≤ 90)) (h : 97 ≤ c) (h' : c ≤ 122) : b64val c = c - 71 := (if_neg h0).trans (if_pos ⟨h, h'⟩)
theorem b64_c {c : Int} (h0 : ¬ (65 ≤ c ∧ c ≤ 90)) (h1 : ¬ (97 ≤ c ∧ c ≤ 122)) (h : 48 ≤ c) (h' : c ≤ 57) : b64val c = c + 4 := (if_neg h0).trans ((if_neg h1).trans (if_pos ⟨h, h'⟩))
theorem b64_d {c : Int} (h : c = 43) : b64val c = 62 := by subst h; rfl
theorem b64_e {c : Int} (h : c = 47) : b64val c = 63 := by subst h; rfl
theorem b64_f {c : Int} (h0 : ¬ (65 ≤ c ∧ c ≤ 90)) (h1 : ¬ (97 ≤ c ∧ c ≤ 122)) (h2 : ¬ (48 ≤ c ∧ c ≤ 57)) (h3 : ¬ c = 43) (h4 : ¬ c = 47) : b64val c = 64 := (if_neg h0).trans ((if_neg h1).trans ((if_neg h2).trans ((if_neg h3).trans (if_neg h4))))
theorem nr {c a b : Int} (h : ¬ a ≤ c ∨ ¬ c ≤ b) : ¬ (a ≤ c ∧ c ≤ b) := fun q => h.elim (fun k => k q.1) fun k => k q.2
set_option maxRecDepth 100000 in
set_option maxHeartbeats 8000000 in
theorem c_val (w : World) (news : List (Addr × Obj)) (c : Int) (t : Tok) :
    Says w 77 news [.int c t] 1 8 (fun r tl => tl = [] ∧ ∃ t', r = .int (b64val c) t') := by
  w_top off
  unfold Says
  k_fill
  intro mean mg mb dp un gd cn cs a ccd cl outer A₀ base h₀ L m s Q E B F X N T hk hdp hun hret
  have kMk : KstMark := kstMark
  k_with_none
  refine wpAny_call ?_
  k_dflt (first
    | (refine' code_def ?k1 ?k2 ?k3 ?k4 ?k5 ?kA ?kF ?kK ?k6 ?k7 ?k8 ?k9 ?kB ?_ ?c2 ?c3 ?c4 ?c5; (case kA => exact rfl); (case kF => exact rfl); (case kK => assumption); (case k1 => k_asm); (case k2 => k_asm); (case k3 => k_asm); (case k4 => k_asm); (case k5 => k_asm); (case k6 => k_is); (case k7 => k_is); (case k8 => k_room); (case k9 => first | exact BindsTo.of_eq rfl | exact binds_K (by k_in) rfl (by k_is) rfl rfl rfl); (case c5 => decide); (case kB => exact locs rfl); (case c2 => exact rfl); (case c3 => exact rfl); (case c4 => exact rfl); k_whole; intro g' L' h' FG' F' N' B' X' T'; (try dsimp only); (try k_lift B'); (try k_fold))
    | (refine' code_defC ?k1 ?k2 ?k3 ?k4 ?k5 ?kA ?kF ?kK ?k6 ?k7 ?k8 ?k9 ?kB ?kD ?_ ?c2 ?c3 ?c4; (case kA => exact rfl); (case kF => exact rfl); (case kK => assumption); (case k1 => k_asm); (case k2 => k_asm); (case k3 => k_asm); (case k4 => k_asm); (case k5 => k_asm); (case k6 => k_is); (case k7 => k_is); (case k8 => k_room); (case k9 => first | exact BindsTo.of_eq rfl | exact binds_K (by k_in) rfl (by k_is) rfl rfl rfl); (case kB => exact rfl); (case kD => decide +kernel); (case c2 => exact rfl); (case c3 => exact rfl); (case c4 => exact rfl); k_whole; intro g' L' h' tk' cells' FG' F' N' Y' B' X' T' l1; (try k_lt l1); k_cells Y'; (try simp only [List.cons_append, List.nil_append] at N'); (try dsimp only); (try k_lift B'); (try k_fold)))
  k_steps
  all_goals exact ret0 hret (by k_asm) (newsSub (by k_asm) (by intro p9 h9; repeat (first | exact h9 | refine List.Mem.tail _ ?_))) ⟨rfl, _, congrArg (Value.int · _) (Eq.symm (by
    first
    | exact b64_a (by assumption) (by assumption)
    | exact b64_b (nr (by first | exact .inl (by assumption) | exact .inr (by assumption))) (by assumption) (by assumption)
    | exact b64_c (nr (by first | exact .inl (by assumption) | exact .inr (by assumption))) (nr (by first | exact .inl (by assumption) | exact .inr (by assumption))) (by assumption) (by assumption)
    | exact b64_d (by assumption)
    | exact b64_e (by assumption)
    | exact b64_f (nr (by first | exact .inl (by assumption) | exact .inr (by assumption))) (nr (by first | exact .inl (by assumption) | exact .inr (by assumption))) (nr (by first | exact .inl (by assumption) | exact .inr (by assumption))) (by assumption) (by assumption)
    | (unfold b64val; (repeat' split) <;> omega)))⟩

/-- the figures that a reading takes, and the signs = behind the last of them -/
noncomputable def dataOf (ks : List Int) : List Int := (ks.filter fun k => k != 61 && decide (b64val k < 64)).map b64val
noncomputable def padStep (p k : Int) : Int := if k = 61 then p + 1 else if b64val k < 64 then 0 else p
noncomputable def padsOf (ks : List Int) : Int := ks.foldl padStep 0
noncomputable def roomOf (q : Int) : Int := if q = 0 then 1 else if q = 1 then 64 else if q = 2 then 16 else 4
noncomputable def DecI (pre out : List Int) (q l p : Int) : Prop := OctI (dataOf pre) out l (roomOf q) ∧ 0 ≤ l ∧ l < roomOf q ∧ q = (((dataOf pre).length % 4 : Nat) : Int) ∧ p = padsOf pre ∧ 0 ≤ p ∧ out.length ≤ pre.length ∧ out.length ≤ (dataOf pre).length
theorem decI_nil : DecI [] [] 0 0 0 := ⟨octI_nil, by decide, by decide, rfl, rfl, by decide, Nat.le_refl _, Nat.le_refl _⟩
theorem decI_q {pre out : List Int} {q l p : Int} (h : DecI pre out q l p) : 0 ≤ q ∧ q < 4 := by rw [h.2.2.2.1]; exact ⟨Int.natCast_nonneg _, Int.ofNat_lt.mpr (Nat.mod_lt _ (by decide))⟩
theorem decI_l {pre out : List Int} {q l p : Int} (h : DecI pre out q l p) : 0 ≤ l ∧ l < 64 := by
  refine ⟨h.2.1, Int.lt_of_lt_of_le h.2.2.1 ?_⟩
  unfold roomOf
  (repeat' split) <;> decide
theorem dataOf_skip {pre : List Int} {k : Int} (h : k = 61 ∨ 64 ≤ b64val k) : dataOf (pre ++ [k]) = dataOf pre := by
  unfold dataOf
  rw [List.filter_append]
  have : ([k].filter fun k => k != 61 && decide (b64val k < 64)) = [] := by
    rcases h with h | h
    · simp [h]
    · have : ¬ b64val k < 64 := by omega
      simp [this]
  rw [this, List.append_nil]
theorem dataOf_take {pre : List Int} {k : Int} (h : k ≠ 61) (h' : b64val k < 64) : dataOf (pre ++ [k]) = dataOf pre ++ [b64val k] := by
  unfold dataOf
  rw [List.filter_append]
  have : ([k].filter fun k => k != 61 && decide (b64val k < 64)) = [k] := by simp [h, h']
  rw [this, List.map_append]
  rfl
theorem padsOf_snoc (pre : List Int) (k : Int) : padsOf (pre ++ [k]) = padStep (padsOf pre) k := by unfold padsOf; rw [List.foldl_append]; rfl
theorem dec_pad {pre out : List Int} {q l p k : Int} (h : DecI pre out q l p) (hk : k = 61) : DecI (pre ++ [k]) out q l (p + 1) := by
  obtain ⟨h1, h2, h3, h4, h5, h6, h7, h8⟩ := h
  refine ⟨by rw [dataOf_skip (.inl hk)]; exact h1, h2, h3, by rw [dataOf_skip (.inl hk)]; exact h4, ?_, by omega, by simp; omega, by rw [dataOf_skip (.inl hk)]; exact h8⟩
  rw [padsOf_snoc, ← h5]
  unfold padStep
  rw [if_pos hk]
theorem dec_skip {pre out : List Int} {q l p k : Int} (h : DecI pre out q l p) (hk : k ≠ 61) (hv : 64 ≤ b64val k) : DecI (pre ++ [k]) out q l p := by
  obtain ⟨h1, h2, h3, h4, h5, h6, h7, h8⟩ := h
  refine ⟨by rw [dataOf_skip (.inr hv)]; exact h1, h2, h3, by rw [dataOf_skip (.inr hv)]; exact h4, ?_, h6, by simp; omega, by rw [dataOf_skip (.inr hv)]; exact h8⟩
  rw [padsOf_snoc, ← h5]
  unfold padStep
  rw [if_neg hk, if_neg (by omega)]
theorem dec_take {pre out out' : List Int} {q l p k q' l' : Int} (h : DecI pre out q l p) (hk : k ≠ 61) (hv : b64val k < 64) (hq : q' = ((q.toNat + 1) % 4 : Nat)) (he : octStep (out, l, roomOf q) (b64val k) = (out', l', roomOf q')) : DecI (pre ++ [k]) out' q' l' 0 := by
  obtain ⟨h1, h2, h3, h4, h5, h6, h7, h8⟩ := h
  have hr : roomOf q = 1 ∨ roomOf q = 4 ∨ roomOf q = 16 ∨ roomOf q = 64 := by unfold roomOf; (repeat' split) <;> decide
  have hb := b64val_in k
  obtain ⟨a, b, _, d, e⟩ := oct_turn h1 h2 h3 hr ⟨hb.1, hv⟩ h8 he
  have ht := dataOf_take (pre := pre) hk hv
  have hlen : out'.length ≤ out.length + 1 := by
    unfold octStep at he
    split at he <;> (injection he with e1 _; rw [← e1]; simp)
  refine ⟨by rw [ht]; exact e, a, b, ?_, ?_, by decide, by simp; omega, by rw [ht]; exact d⟩
  · rw [ht, List.length_append, List.length_singleton, hq]
    have : q.toNat = (dataOf pre).length % 4 := by rw [h4]; exact Int.toNat_natCast _
    rw [this, Nat.mod_add_mod]
  · rw [padsOf_snoc]
    unfold padStep
    rw [if_neg hk, if_pos hv]
theorem sh_lo {b n m : Int} (h0 : 0 ≤ b) (h1 : b < n * m) (hn : 0 < n) : 0 ≤ b / n ∧ b / n < m := ⟨Int.ediv_nonneg h0 (Int.le_of_lt hn), Int.ediv_lt_of_lt_mul hn (by rw [Int.mul_comm]; exact h1)⟩
theorem sh_div {l b n m : Int} (hn : n ≠ 0) : (l * (m * n) + b) / n = l * m + b / n := by rw [← Int.mul_assoc, Int.add_comm, Int.add_mul_ediv_right _ _ hn, Int.add_comm]
theorem sh_mod {l b n m : Int} : (l * (m * n) + b) % n = b % n := by rw [← Int.mul_assoc, Int.add_comm, Int.add_mul_emod_self_right]
theorem sh_nn {l b : Int} (h0 : 0 ≤ l) (h1 : 0 ≤ b) : 0 ≤ l * 64 + b := Int.add_nonneg (Int.mul_nonneg h0 (by decide)) h1
theorem dec_q0 {pre out : List Int} {q l p k : Int} (h : DecI pre out q l p) (hk : k ≠ 61) (hv : b64val k < 64) (hq : q = 0) : DecI (pre ++ [k]) out 1 (b64val k) 0 := by
  subst hq
  have hl : l = 0 := by have h2 := h.2.1; have h3 : l < 1 := h.2.2.1; omega
  subst hl
  refine dec_take h hk hv rfl ?_
  show octStep (out, 0, 1) _ = (out, _, 64)
  rw [octStep_lo rfl, Int.zero_mul, Int.zero_add]
theorem dec_q1 {pre out : List Int} {q l p k : Int} (h : DecI pre out q l p) (hk : k ≠ 61) (hv : b64val k < 64) (hq : q = 1) :
    DecI (pre ++ [k]) (out ++ [Builtin.bitOr (l * 2 ^ Int.toNat 2) ((b64val k).fdiv (2 ^ Int.toNat 4))]) 2 (Builtin.bitAnd (b64val k) 15) 0 := by
  subst hq
  have hb := b64val_in k
  have h2 := h.2.1
  have h3 : l < 64 := h.2.2.1
  refine dec_take h hk hv rfl ?_
  show octStep (out, l, 64) _ = (_, _, 16)
  have e1 : (b64val k).fdiv (2 ^ Int.toNat 4) = b64val k / 16 := Int.fdiv_eq_ediv_of_nonneg _ (by decide)
  have hs := sh_lo (n := 16) (m := 4) hb.1 hv (by decide)
  rw [e1, or2 h2 hs.1 hs.2, bitAnd_m4, octStep_hi (r := 16) (by decide) (by decide) (sh_nn h2 hb.1)]
  have a : (l * 64 + b64val k) / 16 = l * 4 + b64val k / 16 := sh_div (n := 16) (m := 4) (by decide)
  have b : (l * 64 + b64val k) % 16 = b64val k % 16 := sh_mod (n := 16) (m := 4)
  rw [a, b]
theorem dec_q2 {pre out : List Int} {q l p k : Int} (h : DecI pre out q l p) (hk : k ≠ 61) (hv : b64val k < 64) (hq : q = 2) :
    DecI (pre ++ [k]) (out ++ [Builtin.bitOr (l * 2 ^ Int.toNat 4) ((b64val k).fdiv (2 ^ Int.toNat 2))]) 3 (Builtin.bitAnd (b64val k) 3) 0 := by
  subst hq
  have hb := b64val_in k
  have h2 := h.2.1
  have h3 : l < 16 := h.2.2.1
  refine dec_take h hk hv rfl ?_
  show octStep (out, l, 16) _ = (_, _, 4)
  have e1 : (b64val k).fdiv (2 ^ Int.toNat 2) = b64val k / 4 := Int.fdiv_eq_ediv_of_nonneg _ (by decide)
  have hs := sh_lo (n := 4) (m := 16) hb.1 hv (by decide)
  rw [e1, or4 h2 hs.1 hs.2, bitAnd_m2, octStep_hi (r := 4) (by decide) (by decide) (sh_nn h2 hb.1)]
  have a : (l * 64 + b64val k) / 4 = l * 16 + b64val k / 4 := sh_div (n := 4) (m := 16) (by decide)
  have b : (l * 64 + b64val k) % 4 = b64val k % 4 := sh_mod (n := 4) (m := 16)
  rw [a, b]
theorem dec_q3 {pre out : List Int} {q l p k : Int} (h : DecI pre out q l p) (hk : k ≠ 61) (hv : b64val k < 64) (hq : q ≠ 0 ∧ q ≠ 1 ∧ q ≠ 2) :
    DecI (pre ++ [k]) (out ++ [Builtin.bitOr (l * 2 ^ Int.toNat 6) (b64val k)]) 0 0 0 := by
  have hq3 : q = 3 := by have := decI_q h; omega
  subst hq3
  have hb := b64val_in k
  have h2 := h.2.1
  have h3 : l < 4 := h.2.2.1
  refine dec_take h hk hv rfl ?_
  show octStep (out, l, 4) _ = (_, _, 1)
  rw [or6 h2 hb.1 hv, octStep_hi (r := 1) (by decide) (by decide) (sh_nn h2 hb.1), Int.ediv_one, Int.emod_one]
end
section
local macro_rules | `(tactic| walk_at "call builtin:str.encode") => `(tactic| (refine call_encode_a (by assumption) (by assumption) ?_; intro _ _))

section
variable {M : Model} {A : Around} {E : Value → Shared → Prop} {s : Shared} {x : Str} {t : Tok}
theorem meth_enc {pl : Sem Bool} {Q : Value × List Value → Shared → Prop} (h : Q (.builtin "str.encode", [.str x t]) s) : wpAny M A (getMethod (.str x t) "encode" pl) Q E s := by
  with_reducible exact GM.of (.str x t) (typeIs_str _ _ _) F.slot_str_encode F.type_str_encode GM.noRef h
end
local macro_rules | `(tactic| walk_at "getMethod str") => `(tactic| (with_reducible refine meth_enc ?_))

theorem dec_none1 {ks out : List Int} {q l p : Int} (h : DecI ks out q l p) (h1 : q = 1) : due (dataOf ks) (padsOf ks) = none := by
  have e := h.2.2.2.1
  unfold due
  rw [if_pos (.inl (Int.ofNat.inj (e.symm.trans h1)))]
theorem dec_none2 {ks out : List Int} {q l p : Int} (h : DecI ks out q l p) (h1 : q ≠ 1) (h0 : q ≠ 0) (h4 : q + p < 4) : due (dataOf ks) (padsOf ks) = none := by
  have e := h.2.2.2.1
  have e2 := h.2.2.2.2.1
  unfold due
  rw [e, e2] at h4
  have n1 : (dataOf ks).length % 4 ≠ 1 := fun z => h1 (by rw [e, z]; rfl)
  have n0 : (dataOf ks).length % 4 ≠ 0 := fun z => h0 (by rw [e, z]; rfl)
  rw [if_pos (.inr ⟨Nat.lt_of_le_of_ne (Nat.pos_of_ne_zero n0) (Ne.symm n1), h4⟩)]
theorem dec_some {ks out : List Int} {q l p : Int} (h : DecI ks out q l p) (h1 : q ≠ 1) (h0 : q = 0 ∨ ¬ q + p < 4) : due (dataOf ks) (padsOf ks) = some out := by
  have e := h.2.2.2.1
  have e2 := h.2.2.2.2.1
  have e3 : octets (dataOf ks) = out := congrArg Prod.fst h.1.1
  unfold due
  rw [if_neg, e3]
  rintro (z | ⟨z1, z2⟩)
  · exact h1 (by rw [e, z]; rfl)
  · rcases h0 with z0 | z0
    · exact absurd (Int.ofNat.inj (e.symm.trans z0)) (Nat.ne_of_gt (Nat.lt_trans Nat.zero_lt_one z1))
    · exact z0 (by rw [e, e2]; exact z2)
/-- the same, for the law's own frame and a def that catches -/
noncomputable def SaysL (w : World) (f : Addr) (news : List (Addr × Obj)) (vs : List Value) (deep room : Nat) (Out : Value → List (Addr × Obj) → Prop) : Prop :=
  ∀ (mean : ExcName → Option Value) (mg mb : Str → Option Value) (dp un : Nat) (gd : Option (List Code)) (cn : Str) (cs : Scope) (a : Addr) (ccd : Value) (A₀ : Around) (base h₀ : Heap) (L : Addr) (m : Str → Option Value) (s : Shared) (Q E : Value → Shared → Prop),
    Below A₀ base [] h₀ → Fr h₀ L s.heap m → (hd.heap_39 w.params).In h₀ → (hd.heap_39 w.params).In base → News h₀ L s.heap news →
    Top hd.view_39 (looseW hd.view_39 [Str.ofString "bytes_types", Str.ofString "a2b_base64", Str.ofString "b2a_base64", Str.ofString "b64encode", Str.ofString "b64decode"]) mean mg mb h₀ →
    Top hd.view_39 (looseW hd.view_39 [Str.ofString "bytes_types", Str.ofString "a2b_base64", Str.ofString "b2a_base64", Str.ofString "b64encode", Str.ofString "b64decode"]) mean mg mb base →
    cs.kind = .function → dp + deep < recursionLimit → un + room < cLine →
    (∀ r tl h' tk', Out r tl → Fr h₀ L h' m → News h₀ L h' (tl ++ news) → Q r { s with heap := h', toks := tk' }) →
    wpAny (model Challenge.rw_pa0004_01.row.prog w) (ktrTop dp un gd cn cs L a ccd [] []) (call (.ref f) vs) Q E s

set_option maxRecDepth 100000 in
set_option maxHeartbeats 8000000 in
theorem c_reading (w : World) (news : List (Addr × Obj)) (x : Str) (t u : Tok) (c0 c1 : Nat) (hc0 : c0 < 128) (hc1 : c1 < 128) (hx : ∀ c ∈ x.cps.toList, c < 128) (hxl : x.cps.size ≤ 1000) :
    SaysL w 150 news [.str x t, .bytes (byteArr [(c0 : Int), (c1 : Int)]) u] 12 120 (fun r tl => tl = [] ∧ ∃ t', r = oval (due (dataOf ((x.cps.toList.map fun (c : Nat) => (c : Int)).map (swap2 c0 c1 43 47))) (padsOf ((x.cps.toList.map fun (c : Nat) => (c : Int)).map (swap2 c0 c1 43 47)))) t') := by
  w_top off
  unfold SaysL
  k_fill
  intro mean mg mb dp un gd cn cs a ccd A₀ base h₀ L m s Q E B F X XB N T TB hk hdp hun hret
  have kMk : KstMark := kstMark
  k_with_none
  have hal : KBw.bInts (byteArr [(c0 : Int), (c1 : Int)]) = [(c0 : Int), (c1 : Int)] := KBa.ints_make (by intro k hk; simp at hk; omega)
  have hll : (x.cps.toList.map fun (c : Nat) => (c : Int)).length ≤ 1000 := by simpa using hxl
  refine wpAny_call ?_
  k_dflt (refine' code_defS0 ?k1 ?k2 ?k3 ?k4 ?k5 ?kA ?k6 ?k7 ?k8 ?k9 ?kB ?_ ?cK ?c2 ?c3 ?c4 ?c5; (case kA => exact rfl); (case k2 => k_asm); (case k1 => k_asm); (case k3 => k_asm); (case k4 => k_asm); (case k5 => k_asm); (case k6 => k_is); (case k7 => k_is); (case k8 => k_room); (case k9 => first | exact BindsTo.of_eq rfl | exact binds_K (by k_in) rfl (by k_is) rfl rfl rfl); (case kB => exact locs rfl); (case cK => assumption); (case c2 => exact rfl); (case c3 => exact rfl); (case c4 => exact rfl); (case c5 => decide); k_whole; intro g' L' h' FG' F' N' B' X' T' D'; (try dsimp only); (try k_lift B'); (try k_fold))
  have hcin : KBa.In (x.cps.toList.map fun (c : Nat) => (c : Int)) := by
    intro k hk
    obtain ⟨c, hc, rfl⟩ := List.mem_map.mp hk
    have := hx c hc
    omega
  have hT : trMap (trTable (byteArr [(c0 : Int), (c1 : Int)]) #[43, 47]) (byteArr (x.cps.toList.map fun (c : Nat) => (c : Int))) = byteArr ((x.cps.toList.map fun (c : Nat) => (c : Int)).map (swap2 c0 c1 43 47)) :=
    tr_ints (g0 := 43) (g1 := 47) (by omega) (by omega) hcin
  have hRin : KBa.In ((x.cps.toList.map fun (c : Nat) => (c : Int)).map (swap2 c0 c1 43 47)) := by
    intro k hk
    obtain ⟨c, hc, rfl⟩ := List.mem_map.mp hk
    have := hcin c hc
    unfold swap2
    (repeat' split) <;> omega
  have hbR : KBw.bInts (trMap (trTable (byteArr [(c0 : Int), (c1 : Int)]) #[43, 47]) (byteArr (x.cps.toList.map fun (c : Nat) => (c : Int)))) = (x.cps.toList.map fun (c : Nat) => (c : Int)).map (swap2 c0 c1 43 47) := by
    rw [hT]
    exact KBa.ints_make hRin
  have hRl : ((x.cps.toList.map fun (c : Nat) => (c : Int)).map (swap2 c0 c1 43 47)).length ≤ 1000 := by rw [List.length_map]; exact hll
  generalize hR : (x.cps.toList.map fun (c : Nat) => (c : Int)).map (swap2 c0 c1 43 47) = rd at *
  repeat' (first | (k_unfold; (try dsimp only)) | (k_end; wrow_close) | ((fail_if_success (with_reducible show wpAny _ _ (pyIter _) _ _ _)); walk1) | ((fail_if_success (with_reducible show wpAny _ _ (pyIter _) _ _ _)); dsimp only; walk1) | (leave1; try dsimp only) | fail "no step")
  · refine gen_tk s ?_
    intro tk0
    rename_i l9 h9 l19 h94 h93 h92 h91 h90 FV NV
    k_with "state" =>
      first
      | ((with_reducible show DecI _ _ 1 _ 0); exact dec_q0 (by assumption) (by omega) (by omega) (by omega))
      | ((with_reducible show DecI _ _ 2 _ 0); exact dec_q1 (by assumption) (by omega) (by omega) (by omega))
      | ((with_reducible show DecI _ _ 3 _ 0); exact dec_q2 (by assumption) (by omega) (by omega) (by omega))
      | ((with_reducible show DecI _ _ 0 0 0); exact dec_q3 (by assumption) (by omega) (by omega) (by omega))
      | exact dec_pad (by assumption) (by omega)
      | exact dec_skip (by assumption) (by omega) (by omega)
    obtain ⟨m0, hm0, FV2⟩ := fr_two (a := Str.ofString "out") (b := Str.ofString "strict_mode") (u := Value.ref l9) (v := Value.bool false) FV rfl rfl
    obtain ⟨tq0, k1⟩ : ∃ t, m0 (Str.ofString "quad_pos") = some (Value.int 0 t) := ⟨_, by rw [hm0]; rfl⟩
    obtain ⟨tl0, k2⟩ : ∃ t, m0 (Str.ofString "leftchar") = some (Value.int 0 t) := ⟨_, by rw [hm0]; rfl⟩
    obtain ⟨tp0, k3⟩ : ∃ t, m0 (Str.ofString "pads") = some (Value.int 0 t) := ⟨_, by rw [hm0]; rfl⟩
    obtain ⟨ti0, k4⟩ : ∃ t, m0 (Str.ofString "i") = some (Value.int 0 t) := ⟨_, by rw [hm0]; rfl⟩
    clear hm0 FV
    with_unfolding_all refine' KStb.kst_bytes (σ := List Value × List Int × Nat × Int × Nat × Int × Nat × Int × Nat × Int × Nat) (fun c => (l9, listOf c.1.toArray c.2.2.1) :: news) (fun c => [(Str.ofString "quad_pos", Value.int c.2.2.2.1 c.2.2.2.2.1), (Str.ofString "leftchar", Value.int c.2.2.2.2.2.1 c.2.2.2.2.2.2.1), (Str.ofString "pads", Value.int c.2.2.2.2.2.2.2.1 c.2.2.2.2.2.2.2.2.1), (Str.ofString "i", Value.int c.2.2.2.2.2.2.2.2.2.1 c.2.2.2.2.2.2.2.2.2.2)]) (fun c => IntsAre c.1 c.2.1) [] (fun pre c => DecI pre c.2.1 c.2.2.2.1 c.2.2.2.2.2.1 c.2.2.2.2.2.2.2.1) ([], [], 0, 0, tq0, 0, tl0, 0, tp0, 0, ti0) hbR rfl (by rfl) FV2 NV IntsAre.nil ?kk decI_nil ?_ ?_
    (case kk => exact List.forall_mem_cons.mpr ⟨k1, List.forall_mem_cons.mpr ⟨k2, List.forall_mem_cons.mpr ⟨k3, List.forall_mem_cons.mpr ⟨k4, List.forall_mem_nil _⟩⟩⟩⟩)
    · clear FV2 NV
      repeat (rename Fr _ _ _ _ => hz; clear hz)
      rintro ⟨vs9, out, n9, q, tq, l, tl, p, tp, i, ti⟩ pre post o to uu h tk own e hlt h0 h1 hoff fac hE F' N'
      dsimp only at fac hE N' hoff
      dsimp only [kstB] at F'
      simp only [List.cons_append] at N'
      simp only [List.map_cons] at hoff
      have hq := decI_q hE
      have hl := decI_l hE
      have hv := b64val_in o
      have hfl := fac.length
      have hol : out.length ≤ pre.length := hE.2.2.2.2.2.2.1
      have hpp : 0 ≤ p := hE.2.2.2.2.2.1
      refine gen_turn ?_
      intro R s hR
      refine gen_A 8 60 (by assumption) (by k_room) (by k_units) ?_
      repeat (rename Below _ _ _ _ => hz; clear hz)
      intro A₀ outer dp un gd B1 hdp hun
      repeat' (first | (k_unfold; (try dsimp only)) | (k_end; wrow_close) | ((fail_if_success (with_reducible show wpAny _ _ (call (Value.ref 77) _) _ _ _)); walk1) | ((fail_if_success (with_reducible show wpAny _ _ (call (Value.ref 77) _) _ _ _)); dsimp only; walk1) | (leave1; try dsimp only) | fail "no step")
      all_goals first
      | ((with_reducible show R _ _); k_dflt ((rename News _ _ _ _ => nE'); (try simp only [List.push_toArray] at nE'); (refine hR _ _ _ ?hf (kst_end ⟨_, _, _, _, _, _, _, _, _, _, _⟩ (by assumption) nE' (by exact List.forall_mem_cons.mpr ⟨List.Mem.head _, fun p9 h9 => List.Mem.tail _ (List.mem_append_left _ h9)⟩) (by exact fun p9 h9 => List.Mem.tail _ (List.mem_append_right _ h9)) (by rfl) (by kst_facts) (by kst_all) (by kst_same) (by kst_p))); (case hf => first | exact Or.inl rfl | exact Or.inr rfl)))
      | (rename News _ _ _ _ => NL
         refine says_use (c_val _ _ _ _) (by k_asm) (by k_asm) (by k_asm) NL (by k_asm) rfl (by k_room) (by k_units) ?_
         rintro r9 tl9 h9 tk9 ⟨e9, t9, e9'⟩ F9 N9
         subst e9
         subst e9'
         dsimp only
         simp only [List.nil_append] at N9
         k_steps
         all_goals k_dflt ((rename News _ _ _ _ => nE'); (try simp only [List.push_toArray] at nE'); (refine hR _ _ _ ?hf (kst_end ⟨_, _, _, _, _, _, _, _, _, _, _⟩ (by assumption) nE' (by exact List.forall_mem_cons.mpr ⟨List.Mem.head _, fun p9 h9 => List.Mem.tail _ (List.mem_append_left _ h9)⟩) (by exact fun p9 h9 => List.Mem.tail _ (List.mem_append_right _ h9)) (by rfl) (by kst_facts) (by kst_all) (by kst_same) (by kst_p))); (case hf => first | exact Or.inl rfl | exact Or.inr rfl)))
    · clear FV2 NV
      rintro ⟨vs9, out, n9, q, tq, l, tl, p, tp, i, ti⟩ uu h tk _ fac hE F' N'
      dsimp only at fac hE N'
      dsimp only [kstB] at F'
      have hq := decI_q hE
      have hfl := fac.length
      have hol : out.length ≤ rd.length := hE.2.2.2.2.2.2.1
      have hpp : 0 ≤ p := hE.2.2.2.2.2.1
      repeat' (first | (k_unfold; (try dsimp only)) | (k_end; wrow_close) | ((fail_if_success (with_reducible show wpAny _ _ (call (Value.type "bytes") _) _ _ _)); walk1) | ((fail_if_success (with_reducible show wpAny _ _ (call (Value.type "bytes") _) _ _ _)); dsimp only; walk1) | (leave1; try dsimp only) | fail "no step")
      · exact ret0 hret (by k_asm) (newsSub (by k_asm) (by intro p9 h9; repeat (first | exact h9 | refine List.Mem.tail _ ?_))) ⟨rfl, 0, by rw [dec_none1 hE (by assumption)]; rfl⟩
      · exact ret0 hret (by k_asm) (newsSub (by k_asm) (by intro p9 h9; repeat (first | exact h9 | refine List.Mem.tail _ ?_))) ⟨rfl, 0, by rw [dec_none2 hE (by assumption) (by assumption) (by assumption)]; rfl⟩
      all_goals (
        rename News _ _ _ (_ :: _) => NB
        refine KBa.make_K (ns := out) (by k_asm) NB (by rfl) (News.isList NB (List.Mem.head _)) fac hE.1.2 (by omega) ?_
        intro hB tB kB FB NB2 _
        k_steps
        exact ret0 hret (by k_asm) (newsSub (by k_asm) (by intro p9 h9; repeat (first | exact h9 | refine List.Mem.tail _ ?_))) ⟨rfl, _, by rw [dec_some hE (by assumption) (by omega)]; rfl⟩)
  · exact absurd (rfl : (([(c0 : Int), (c1 : Int)].length : Nat) : Int) = 2) (by assumption)
end
end
section
noncomputable def TwoPost (h₀ : Heap) (L : Addr) (s₁ : Shared) (led : List (Addr × Obj)) (P : (Str → Option Value) → Prop) (Q : Flow → Shared → Prop) (f : Flow) (s₂ : Shared) : Prop :=
  match f with
  | .ret v => Q (.ret v) s₂
  | .brk => Q .next s₂
  | _ => ∃ h' tk m', s₂ = { s₁ with heap := h', toks := tk } ∧ Fr h₀ L h' m' ∧ News h₀ L h' led ∧ P m'
theorem TwoPost.next {h₀ : Heap} {L : Addr} {s₁ : Shared} {led : List (Addr × Obj)} {P : (Str → Option Value) → Prop} {Q : Flow → Shared → Prop} {h' : Heap} {tk : Nat} {m' : Str → Option Value}
    (F : Fr h₀ L h' m') (N : News h₀ L h' led) (p : P m') : TwoPost h₀ L s₁ led P Q .next { s₁ with heap := h', toks := tk } := ⟨h', tk, m', rfl, F, N, p⟩
theorem subL_of {kl : List (Addr × Obj)} : ∀ {l : List (Addr × Obj)}, (∀ p ∈ l, p ∈ kl) → SubL l kl
  | [], _ => trivial
  | p :: r, h => ⟨h p (.head _), subL_of fun q hq => h q (.tail _ hq)⟩
theorem tup_turns {prog : Program} {w : World} {A : Around} {E : Value → Shared → Prop} {s : Shared} {env : Env} {h₀ : Heap} {target : Expr} {body : List Stmt} {Q : Flow → Shared → Prop}
    {ax : Addr} {lo : Obj} {n : Nat} {m₀ : Str → Option Value} (vs : List Value) (kl : List (Addr × Obj)) (P : Nat → (Str → Option Value) → Prop) (Item : Nat → Value → Prop)
    (hh : A.handled = none) (F : Fr h₀ env.locals s.heap m₀) (N : News h₀ env.locals s.heap kl) (hm : (ax, lo) ∈ kl) (hc : lo.cls = .type "tuple") (hd : lo.data = .seq vs.toArray n)
    (hP : P 0 m₀) (hI : ∀ j v, vs[j]? = some v → Item j v)
    (turn : ∀ j v I o h tk m₁, Item j v → P j m₁ → (∀ p ∈ kl, p.1 < I) → Fr h₀ env.locals h m₁ → News h₀ env.locals h ((I, o) :: kl) →
      wpAny (model prog w) A (assign target env v) (fun _ s₂ => wpAny (model prog w) A (execs body env) (TwoPost h₀ env.locals { s with heap := h, toks := tk } ((I, o) :: kl) (P (j + 1)) Q) E s₂) E { s with heap := h, toks := tk })
    (fin : ∀ h tk m₂, P vs.length m₂ → Fr h₀ env.locals h m₂ → News h₀ env.locals h kl → Q .next { s with heap := h, toks := tk }) :
    wpAny (model prog w) A (pyIter (.ref ax)) (fun it s₂ => TurnsAt prog w A h₀ env target body Q E it s₂) E s := by
  refine iter_tupTurns (lo := lo) (vs := vs) hh F N hm hc hd ?_
  intro I hlt
  have key : ∀ (r : List Value) (j : Nat) (m : Str → Option Value), j ≤ vs.length → vs.drop j = r → P j m →
      ItemsRest prog w A E h₀ env target body Q s [(I, "tuple_iterator")] [(ax, lo)] (r.map .val) m kl := by
    intro r
    induction r with
    | nil =>
      intro j m hle hj p
      have hl : vs.length ≤ j := List.drop_eq_nil_iff.mp hj
      have e : j = vs.length := Nat.le_antisymm hle hl
      rw [e] at p
      exact ItemsRest.zero fun h tk F N => fin h tk m p F N
    | cons v r ih =>
      intro j m _ hj p
      have hv : vs[j]? = some v := by
        have := congrArg (fun l => l[0]?) hj
        simpa using this
      have hj' : vs.drop (j + 1) = r := by
        have := congrArg (fun l => l.drop 1) hj
        simpa using this
      refine ItemsRest.val fun h tk F => AllObj.cons fun o hc => AllObj.nil fun N => ?_
      refine wpAny_mono (turn j v I o h tk m (hI j v hv) p hlt F N) (fun _ s₂ hq => ?_) fun _ _ e => e
      refine wpAny_mono hq (fun f s₃ hq => ?_) fun _ _ e => e
      have up : (∃ h' tk' m', s₃ = { ({ s with heap := h, toks := tk } : Shared) with heap := h', toks := tk' } ∧ Fr h₀ env.locals h' m' ∧ News h₀ env.locals h' ((I, o) :: kl) ∧ P (j + 1) m') →
          UnrEndW h₀ env.locals { s with heap := h, toks := tk } [(I, o)] (fun m' n' => SubL [(ax, lo)] n' ∧ ItemsRest prog w A E h₀ env target body Q s [(I, "tuple_iterator")] [(ax, lo)] (r.map .val) m' n') s₃ := by
        rintro ⟨h', tk', m', e, F', N', p'⟩
        refine ⟨h', tk', m', kl, e, F', N', fun p hp q hq => ?_, ⟨⟨hm, trivial⟩, ih (j + 1) m' (List.getElem?_eq_some_iff.mp hv).1 hj' p'⟩⟩
        rw [List.mem_singleton.mp hq]
        exact Nat.ne_of_lt (hlt p hp)
      cases f with
      | ret v => exact hq
      | brk => exact hq
      | next => exact up hq
      | cont => exact up hq
  exact key vs 0 m₀ (Nat.zero_le _) rfl hP
theorem tup_turnsR {prog : Program} {w : World} {A : Around} {E : Value → Shared → Prop} {s : Shared} {env : Env} {h₀ : Heap} {target : Expr} {body : List Stmt} {Q : Flow → Shared → Prop}
    {ax : Addr} {lo : Obj} {n : Nat} {m₀ : Str → Option Value} (vs : List Value) (kl : List (Addr × Obj)) (P : Nat → (Str → Option Value) → Prop) (Item : Nat → Value → Prop)
    (hh : A.handled = none) (F : Fr h₀ env.locals s.heap m₀) (N : News h₀ env.locals s.heap kl) (hm : (ax, lo) ∈ kl) (hc : lo.cls = .type "tuple") (hd : lo.data = .seq vs.toArray n)
    (hP : P 0 m₀) (hI : ∀ j v, vs[j]? = some v → Item j v)
    (turn : ∀ (R : Flow → Shared → Prop) j v I o h tk m₁, (∀ h' tk' m', Fr h₀ env.locals h' m' → News h₀ env.locals h' ((I, o) :: kl) → P (j + 1) m' → R .next { s with heap := h', toks := tk' }) →
      Item j v → P j m₁ → (∀ p ∈ kl, p.1 < I) → Fr h₀ env.locals h m₁ → News h₀ env.locals h ((I, o) :: kl) →
      wpAny (model prog w) A (assign target env v) (fun _ s₂ => wpAny (model prog w) A (execs body env) R E s₂) E { s with heap := h, toks := tk })
    (fin : ∀ h tk m₂, P vs.length m₂ → Fr h₀ env.locals h m₂ → News h₀ env.locals h kl → Q .next { s with heap := h, toks := tk }) :
    wpAny (model prog w) A (pyIter (.ref ax)) (fun it s₂ => TurnsAt prog w A h₀ env target body Q E it s₂) E s :=
  tup_turns vs kl P Item hh F N hm hc hd hP hI (fun j v I o h tk m₁ i p l F N => turn _ j v I o h tk m₁ (fun h' tk' m' F' N' p' => ⟨h', tk', m', rfl, F', N', p'⟩) i p l F N) fin
theorem tup_turnsE {prog : Program} {w : World} {A : Around} {E : Value → Shared → Prop} {s : Shared} {env : Env} {h₀ : Heap} {target : Expr} {body : List Stmt} {Q : Flow → Shared → Prop}
    {ax : Addr} {lo : Obj} {n : Nat} {m₀ : Str → Option Value} (vs : List Value) (kl : List (Addr × Obj)) (P : Nat → (Str → Option Value) → Prop) (Item : Nat → Value → Prop)
    (hh : A.handled = none) (F : Fr h₀ env.locals s.heap m₀) (N : News h₀ env.locals s.heap kl) (hm : (ax, lo) ∈ kl) (hc : lo.cls = .type "tuple") (hd : lo.data = .seq vs.toArray n)
    (hP : P 0 m₀) (hI : ∀ j v, vs[j]? = some v → Item j v)
    (turn : ∀ (E' : Value → Shared → Prop) (R : Flow → Shared → Prop) j v I o h tk m₁, (∀ h' tk' m', Fr h₀ env.locals h' m' → News h₀ env.locals h' ((I, o) :: kl) → P (j + 1) m' → R .next { s with heap := h', toks := tk' }) →
      Item j v → P j m₁ → (∀ p ∈ kl, p.1 < I) → Fr h₀ env.locals h m₁ → News h₀ env.locals h ((I, o) :: kl) →
      wpAny (model prog w) A (assign target env v) (fun _ s₂ => wpAny (model prog w) A (execs body env) R E' s₂) E' { s with heap := h, toks := tk })
    (fin : ∀ h tk m₂, P vs.length m₂ → Fr h₀ env.locals h m₂ → News h₀ env.locals h kl → Q .next { s with heap := h, toks := tk }) :
    wpAny (model prog w) A (pyIter (.ref ax)) (fun it s₂ => TurnsAt prog w A h₀ env target body Q E it s₂) E s :=
  tup_turnsR vs kl P Item hh F N hm hc hd hP hI (turn E) fin
theorem fr_op {h₀ h : Heap} {L : Addr} {m : Str → Option Value} (F : Fr h₀ L h m) : ∃ m', m' = m ∧ Fr h₀ L h m' := ⟨m, rfl, F⟩
theorem fr_keep {h₀ h : Heap} {L : Addr} {m : Str → Option Value} (l : List (Str × Value)) (F : Fr h₀ L h m) (hl : ∀ p ∈ l, m p.1 = some p.2) : Fr h₀ L h (kstB m l) := by
  have e : kstB m l = m := funext fun z => kstB_eq hl fun _ => rfl
  rw [e]
  exact F
/-- a frame that keeps these names, and all else but the stored names -/
noncomputable def KeepB (l : List (Str × Value)) (st : List Str) (mB m' : Str → Option Value) : Prop := (∀ p ∈ l, m' p.1 = some p.2) ∧ ∀ z, st.contains z = false → m' z = mB z
end
section
theorem fmod_b (k : Int) : 0 ≤ k.fmod (10 ^ Int.toNat 6) ∧ k.fmod (10 ^ Int.toNat 6) < 1000000 := by
  show 0 ≤ k.fmod 1000000 ∧ k.fmod 1000000 < 1000000
  rw [Int.fmod_eq_emod_of_nonneg _ (by decide)]; omega
theorem nums_ex {ys : List Value} {ns : List Int} (h : IntsAre ys (List.map (fun k' : Int => k'.fmod (10 ^ Int.toNat 6)) (List.take 6 ns))) :
    ∃ nums, List.map (fun k' : Int => k'.fmod (10 ^ Int.toNat 6)) (List.take 6 ns) = nums ∧ IntsAre ys nums ∧ (∀ k ∈ nums, 0 ≤ k ∧ k < 1000000) ∧ nums.length ≤ 6 := by
  refine ⟨_, rfl, h, ?_, by rw [List.length_map, List.length_take]; omega⟩
  intro k hk
  obtain ⟨j, _, rfl⟩ := List.mem_map.mp hk
  exact fmod_b j
theorem sum_b : ∀ {l : List Int}, (∀ k ∈ l, 0 ≤ k ∧ k < 1000000) → 0 ≤ l.sum ∧ l.sum ≤ 1000000 * (l.length : Int)
  | [], _ => by simp
  | k :: l, h => by
    have h1 := h k (.head _)
    have h2 := sum_b fun j hj => h j (.tail _ hj)
    rw [List.sum_cons, List.length_cons]
    omega
theorem figs_b {nums : List Int} : ∀ k ∈ [62, 62, 62, 62, 63, 9, 63, 62] ++ List.map (fun k' : Int => if k'.fmod 4 < 2 then 62 + k'.fmod 4 else (k'.fdiv 4).fmod 64) nums, 0 ≤ k ∧ k < 64 := by
  intro k hk
  rcases List.mem_append.mp hk with hk | hk
  · exact (show ∀ k ∈ [62, 62, 62, 62, 63, 9, 63, 62], (0 : Int) ≤ k ∧ k < 64 by decide) k hk
  · obtain ⟨j, _, rfl⟩ := List.mem_map.mp hk
    rw [Int.fmod_eq_emod_of_nonneg _ (by decide), Int.fmod_eq_emod_of_nonneg _ (by decide)]
    split <;> omega
theorem oct_len : ∀ (suf pre : List Int) (row : List Int) (kept room : Int), (∀ k ∈ suf, 0 ≤ k ∧ k < 64) → OctI pre row kept room → 0 ≤ kept → kept < room →
    ((room = 1 ∧ row.length * 8 = pre.length * 6) ∨ (room = 64 ∧ row.length * 8 + 6 = pre.length * 6) ∨ (room = 16 ∧ row.length * 8 + 4 = pre.length * 6) ∨ (room = 4 ∧ row.length * 8 + 2 = pre.length * 6)) →
    row.length ≤ pre.length → KBa.In (octets (pre ++ suf)) ∧ (octets (pre ++ suf)).length * 8 ≤ (pre ++ suf).length * 6
  | [], pre, row, kept, room, _, h, h0, h1, hr, hl => by
    rw [List.append_nil]
    have e : octets pre = row := congrArg Prod.fst h.1
    rw [e]
    refine ⟨h.2, ?_⟩
    rcases hr with ⟨_, hq⟩ | ⟨_, hq⟩ | ⟨_, hq⟩ | ⟨_, hq⟩
    · exact Nat.le_of_eq hq
    all_goals exact Nat.le_trans (Nat.le_add_right _ _) (Nat.le_of_eq hq)
  | f :: suf, pre, row, kept, room, hb, h, h0, h1, hr, hl => by
    have hf := hb f (.head _)
    obtain ⟨row', kept', room', e⟩ : ∃ row' kept' room', octStep (row, kept, room) f = (row', kept', room') := ⟨_, _, _, rfl⟩
    obtain ⟨a, b, _, d, g⟩ := oct_turn h h0 h1 (hr.elim (fun q => .inl q.1) fun hr => hr.elim (fun q => .inr (.inr (.inr q.1))) fun hr => hr.elim (fun q => .inr (.inr (.inl q.1))) fun q => .inr (.inl q.1)) hf hl e
    have e2 : pre ++ f :: suf = (pre ++ [f]) ++ suf := by simp
    rw [e2]
    refine oct_len suf (pre ++ [f]) row' kept' room' (fun k hk => hb k (.tail _ hk)) g a b ?_ d
    have hL : (pre ++ [f]).length * 6 = pre.length * 6 + 6 := by rw [List.length_append, List.length_singleton, Nat.add_mul]
    have hR : ∀ x : Int, (row ++ [x]).length * 8 = row.length * 8 + 8 := fun x => by rw [List.length_append, List.length_singleton, Nat.add_mul]
    have hnn : 0 ≤ kept * 64 + f := Int.add_nonneg (Int.mul_nonneg h0 (by decide)) hf.1
    rw [hL]
    rcases hr with ⟨hr, hq⟩ | ⟨hr, hq⟩ | ⟨hr, hq⟩ | ⟨hr, hq⟩
    · rw [octStep_lo hr] at e
      injection e with e1 e3
      injection e3 with e3 e4
      subst e1 e4
      exact .inr (.inl ⟨rfl, by rw [hq]⟩)
    all_goals subst hr
    · rw [octStep_hi (r := 16) (by decide) (by decide) hnn] at e
      injection e with e1 e3
      injection e3 with e3 e4
      subst e1 e4
      exact .inr (.inr (.inl ⟨rfl, by rw [hR, ← hq]⟩))
    · rw [octStep_hi (r := 4) (by decide) (by decide) hnn] at e
      injection e with e1 e3
      injection e3 with e3 e4
      subst e1 e4
      exact .inr (.inr (.inr ⟨rfl, by rw [hR, ← hq]⟩))
    · rw [octStep_hi (r := 1) (by decide) (by decide) hnn] at e
      injection e with e1 e3
      injection e3 with e3 e4
      subst e1 e4
      exact .inl ⟨rfl, by rw [hR, ← hq]⟩
theorem oct_facts {ns : List Int} (h : ∀ k ∈ ns, 0 ≤ k ∧ k < 64) : ∃ row, octets ns = row ∧ KBa.In row ∧ row.length * 8 ≤ ns.length * 6 := by
  have := oct_len ns [] [] 0 1 h octI_nil (by decide) (by decide) (.inl ⟨rfl, rfl⟩) (Nat.le_refl _)
  rw [List.nil_append] at this
  exact ⟨_, rfl, this.1, this.2⟩
theorem menu_lt : ∀ c ∈ [32, 35, 9, 45, 10], c < 128 := by decide
theorem fr_three {h₀ h : Heap} {L : Addr} {m : Str → Option Value} {a b c : Str} {u v z : Value} (F : Fr h₀ L h m) (ha : m a = some u) (hb : m b = some v) (hc : m c = some z) : ∃ m', m' = m ∧ Fr h₀ L h (fun y => if y = a then some u else if y = b then some v else if y = c then some z else m' y) := by
  refine ⟨m, rfl, ?_⟩
  have e : (fun y => if y = a then some u else if y = b then some v else if y = c then some z else m y) = m := by
    funext y
    split
    · rename_i q; rw [q, ha]
    · split
      · rename_i q; rw [q, hb]
      · split
        · rename_i q; rw [q, hc]
        · rfl
  rw [e]
  exact F
theorem byteArr_nats {L : List Int} (h : KBa.In L) : (byteArr L).toList.map (fun c => c.toNat) = L.map Int.toNat := by
  unfold byteArr
  rw [List.map_map]
  refine List.map_congr_left fun k hk => ?_
  have hb := h k hk
  exact byte_back hb
theorem tabAt_lt {f : Int} : tabAt f < 128 := by
  unfold tabAt
  rw [List.getD_eq_getElem?_getD]
  cases h : b64tab[f.toNat]? with
  | none => decide
  | some k =>
    have hm := List.mem_of_getElem? h
    exact (show ∀ k ∈ b64tab, k < 128 by decide) k hm
noncomputable def encSigns (ks : List Int) (c0 c1 : Nat) : List Int := (encAll ks).map (swap2 43 47 c0 c1)
theorem encSigns_b {ks : List Int} {c0 c1 : Nat} (h0 : c0 < 128) (h1 : c1 < 128) : ∀ k ∈ encSigns ks c0 c1, 0 ≤ k ∧ k < 128 := by
  intro k hk
  obtain ⟨j, hj, rfl⟩ := List.mem_map.mp hk
  have hb : 0 ≤ j ∧ j < 128 := by
    rcases List.mem_append.mp hj with hj | hj
    · obtain ⟨f, _, rfl⟩ := List.mem_map.mp hj
      exact ⟨tabAt_byte.1, tabAt_lt⟩
    · rw [(List.mem_replicate.mp hj).2]; decide
  unfold swap2
  (repeat' split) <;> omega
theorem encSigns_in {ks : List Int} {c0 c1 : Nat} (h0 : c0 < 128) (h1 : c1 < 128) : KBa.In (encSigns ks c0 c1) := by
  intro k hk
  have := encSigns_b h0 h1 k hk
  omega
theorem encSigns_bytes {ks : List Int} {c0 c1 : Nat} (h0 : c0 < 128) (h1 : c1 < 128) : ∀ c ∈ (byteArr (encSigns ks c0 c1)).toList, c.toNat < 128 := by
  intro c hc
  have hm : c.toNat ∈ (byteArr (encSigns ks c0 c1)).toList.map (fun c => c.toNat) := List.mem_map.mpr ⟨c, hc, rfl⟩
  rw [byteArr_nats (encSigns_in h0 h1)] at hm
  obtain ⟨k, hk, e⟩ := List.mem_map.mp hm
  have := encSigns_b h0 h1 k hk
  omega
theorem encSigns_size {ks : List Int} {c0 c1 : Nat} (h : ks.length ≤ 10) : (byteArr (encSigns ks c0 c1)).size ≤ 20 := by
  rw [byteArr_size]
  unfold encSigns
  rw [List.length_map]
  exact encAll_len ks h
noncomputable def encTxt (ks : List Int) (c0 c1 : Nat) : Str := ⟨((byteArr (encSigns ks c0 c1)).toList.map fun c => c.toNat).toArray⟩
theorem take_in {row : List Int} (h : KBa.In row) (n : Nat) : KBa.In (row.take n) := fun k hk => h k (List.mem_of_mem_take hk)
theorem figs_len (ks : List Int) : (figs ks).length = figCount ks := by unfold figs; rw [List.length_map, rangeKs_length]
theorem figs_in {ks : List Int} : ∀ k ∈ figs ks, 0 ≤ k ∧ k < 64 := by
  intro k hk
  obtain ⟨j, _, rfl⟩ := List.mem_map.mp hk
  rw [Int.fmod_eq_emod_of_nonneg _ (by decide)]
  omega
noncomputable def cmt (x : Str) : Str := if (Txt.rstrip x).length = 0 then Str.ofString "#" else Str.ofString "# " ++ Txt.rstrip x
noncomputable def lineAt (ks : List Int) (c0 c1 : Nat) : Nat → Str
  | 0 => encTxt ks c0 c1
  | j + 1 => cmt (lineAt ks c0 c1 j)
noncomputable def keptOf (ks : List Int) (c0 c1 : Nat) : List Int := keptL c0 c1 (figs ks)
noncomputable def aheadOf (ks : List Int) (c0 c1 : Nat) (tm : Int) : List Int := ahead tm (decide (keptOf ks c0 c1 = [])) c0 c1
noncomputable def stN : List Str := [Str.ofString "size", Str.ofString "line", Str.ofString "figures", Str.ofString "kept", Str.ofString "filled", Str.ofString "times", Str.ofString "due", Str.ofString "ahead", Str.ofString "read"]
noncomputable def lineL (x : Str) (t : Tok) (dK : Addr) (fl : Int) (tf : Tok) (c0 c1 : Nat) (tA tM : Tok) : List (Str × Value) := [(Str.ofString "line", Value.str x t), (Str.ofString "kept", Value.ref dK), (Str.ofString "filled", Value.int fl tf), (Str.ofString "altchars", Value.bytes (byteArr [(c0 : Int), (c1 : Int)]) tA), (Str.ofString "marks", Value.str ⟨#[c0, c1]⟩ tM)]
theorem all5 {α : Type} {p : α → Prop} {a b c d e : α} (ha : p a) (hb : p b) (hc : p c) (hd : p d) (he : p e) : ∀ x ∈ [a, b, c, d, e], p x :=
  List.forall_mem_cons.mpr ⟨ha, List.forall_mem_cons.mpr ⟨hb, List.forall_mem_cons.mpr ⟨hc, List.forall_mem_cons.mpr ⟨hd, List.forall_mem_cons.mpr ⟨he, List.forall_mem_nil _⟩⟩⟩⟩⟩
theorem kept_len {ks : List Int} {c0 c1 : Nat} (h : (figs ks).length ≤ 14) : (keptOf ks c0 c1).length ≤ 14 := by
  unfold keptOf keptL
  split
  · exact h
  · rw [List.length_reverse]
    refine Nat.le_trans ((List.dropWhile_sublist _).length_le) ?_
    rw [List.length_reverse]
    exact h
noncomputable def dueOf (ks : List Int) (c0 c1 : Nat) (tm : Int) : List Int := aheadOf ks c0 c1 tm ++ keptOf ks c0 c1
theorem ahead_len {tm : Int} {e : Bool} {c0 c1 : Nat} : (ahead tm e c0 c1).length ≤ 4 := by
  unfold ahead
  rw [List.length_map]
  refine Nat.le_trans (List.length_filter_le _ _) ?_
  unfold aheadSigns
  (repeat' split) <;> decide
theorem ahead_in {tm : Int} {e : Bool} {c0 c1 : Nat} : ∀ k ∈ ahead tm e c0 c1, 0 ≤ k ∧ k < 64 := by
  intro k hk
  obtain ⟨c, _, rfl⟩ := List.mem_map.mp hk
  split <;> decide
theorem kept_in {ks : List Int} {c0 c1 : Nat} : ∀ k ∈ keptOf ks c0 c1, 0 ≤ k ∧ k < 64 := by
  intro k hk
  unfold keptOf keptL at hk
  split at hk
  · exact figs_in k hk
  · exact figs_in k (List.mem_reverse.mp ((List.dropWhile_sublist _).subset (List.mem_reverse.mp hk)))
theorem due_len {ks : List Int} {c0 c1 : Nat} {tm : Int} (h : (figs ks).length ≤ 14) : (dueOf ks c0 c1 tm).length ≤ 18 := by
  unfold dueOf aheadOf
  rw [List.length_append]
  have h1 := ahead_len (tm := tm) (e := decide (keptOf ks c0 c1 = [])) (c0 := c0) (c1 := c1)
  have h2 := kept_len (ks := ks) (c0 := c0) (c1 := c1) h
  omega
theorem due_in {ks : List Int} {c0 c1 : Nat} {tm : Int} : ∀ k ∈ dueOf ks c0 c1 tm, 0 ≤ k ∧ k < 64 := by
  intro k hk
  rcases List.mem_append.mp hk with hk | hk
  · exact ahead_in k hk
  · exact kept_in k hk
theorem keep_tail {m₁ mB : Str → Option Value} {a b z : Str} {va vb : Value} (ha : m₁ a = some va) (hb : m₁ b = some vb) (hs : m₁ z = mB z) : (if z = a then some va else if z = b then some vb else m₁ z) = mB z := by
  rw [← hs]
  split
  · rename_i e; rw [e, ha]
  · split
    · rename_i e; rw [e, hb]
    · rfl
theorem fmod4 (x : Int) : 0 ≤ x.fmod 4 ∧ x.fmod 4 < 4 := by rw [Int.fmod_eq_emod_of_nonneg _ (by decide)]; omega
theorem saysL_use {w : World} {f : Addr} {news : List (Addr × Obj)} {vs : List Value} {deep room : Nat} {Out : Value → List (Addr × Obj) → Prop} (C : SaysL w f news vs deep room Out)
    {mean : ExcName → Option Value} {mg mb : Str → Option Value} {dp un : Nat} {gd : Option (List Code)} {cn : Str} {cs : Scope} {a : Addr} {ccd : Value} {A₀ : Around} {base h₀ : Heap} {L : Addr} {m : Str → Option Value} {s : Shared} {Q E : Value → Shared → Prop}
    (B : Below A₀ base [] h₀) (F : Fr h₀ L s.heap m) (X : (hd.heap_39 w.params).In h₀) (XB : (hd.heap_39 w.params).In base) (N : News h₀ L s.heap news)
    (T : Top hd.view_39 (looseW hd.view_39 [Str.ofString "bytes_types", Str.ofString "a2b_base64", Str.ofString "b2a_base64", Str.ofString "b64encode", Str.ofString "b64decode"]) mean mg mb h₀)
    (TB : Top hd.view_39 (looseW hd.view_39 [Str.ofString "bytes_types", Str.ofString "a2b_base64", Str.ofString "b2a_base64", Str.ofString "b64encode", Str.ofString "b64decode"]) mean mg mb base)
    (hk : cs.kind = .function) (hdp : dp + deep < recursionLimit) (hun : un + room < cLine)
    (ret : ∀ r tl h' tk', Out r tl → Fr h₀ L h' m → News h₀ L h' (tl ++ news) → Q r { s with heap := h', toks := tk' }) :
    wpAny (model Challenge.rw_pa0004_01.row.prog w) (ktrTop dp un gd cn cs L a ccd [] []) (call (.ref f) vs) Q E s :=
  C mean mg mb dp un gd cn cs a ccd A₀ base h₀ L m s Q E B F X XB N T TB hk hdp hun ret
noncomputable def txtAt (ks : List Int) (c0 c1 j : Nat) (a : Int) : Str := Txt.mul (Str.ofString "A") a ++ lineAt ks c0 c1 (j + 1)
noncomputable def codesAt (ks : List Int) (c0 c1 j : Nat) (a : Int) : List Int := ((txtAt ks c0 c1 j a).cps.toList.map fun (c : Nat) => (c : Int)).map (swap2 c0 c1 43 47)
theorem int4 {a : Int} (h0 : 0 ≤ a) (h4 : a < 4) : a = 0 ∨ a = 1 ∨ a = 2 ∨ a = 3 := by
  obtain ⟨n, rfl⟩ := Int.eq_ofNat_of_zero_le h0
  exact (show ∀ n < 4, ((n : Nat) : Int) = 0 ∨ ((n : Nat) : Int) = 1 ∨ ((n : Nat) : Int) = 2 ∨ ((n : Nat) : Int) = 3 by decide) n (Int.ofNat_lt.mp h4)
theorem mulA_len {a : Int} (h0 : 0 ≤ a) (h4 : a < 4) : (Txt.mul (Str.ofString "A") a).length ≤ 3 := by
  rcases int4 h0 h4 with rfl | rfl | rfl | rfl <;> decide +kernel
theorem flat_rep (x : Int) : ∀ k : Nat, (List.replicate k [x]).flatten = List.replicate k x
  | 0 => rfl
  | k + 1 => by rw [List.replicate_succ, List.flatten_cons, flat_rep x k, List.replicate_succ]; rfl
theorem zeros_in {k : Nat} {l : List Int} (h : ∀ x ∈ l, 0 ≤ x ∧ x < 64) : ∀ x ∈ List.replicate k (0 : Int) ++ l, 0 ≤ x ∧ x < 64 := by
  intro x hx
  rcases List.mem_append.mp hx with hx | hx
  · rw [(List.mem_replicate.mp hx).2]; decide
  · exact h x hx
end
section
noncomputable def rs (l : List Nat) : List Nat := (l.reverse.dropWhile Unicode.isSpace).reverse
theorem take_rs {α : Type} (p : α → Bool) (l : List α) : l.take (l.length - (l.reverse.takeWhile p).length) = (l.reverse.dropWhile p).reverse := by
  have h : l.reverse.takeWhile p ++ l.reverse.dropWhile p = l.reverse := List.takeWhile_append_dropWhile
  have h2 : l = (l.reverse.dropWhile p).reverse ++ (l.reverse.takeWhile p).reverse := by
    rw [← List.reverse_append, h, List.reverse_reverse]
  have hl : l.length = (l.reverse.dropWhile p).length + (l.reverse.takeWhile p).length := by
    have := congrArg List.length h2
    simpa using this
  conv => lhs; rw [h2]
  rw [← h2]
  have e : l.length - (l.reverse.takeWhile p).length = ((l.reverse.dropWhile p).reverse).length := by rw [List.length_reverse, hl, Nat.add_sub_cancel]
  rw [e]
  conv => lhs; rw [h2]
  exact List.take_left' (by rw [← h2])
theorem rstrip_list (x : Str) : (Txt.rstrip x).cps.toList = rs x.cps.toList := by
  show (Txt.stripBy Unicode.isSpace false true x).cps.toList = _
  rw [PySem.W.stripBy_eq]
  unfold PySem.W.stripped rs
  rw [← take_rs]
  show (x.cps.extract 0 (x.cps.size - ((x.cps.toList.drop 0).reverse.takeWhile Unicode.isSpace).length)).toList = _
  rw [List.drop_zero]
  simp
theorem rs_end {a K : List Nat} (h : ∃ l, rs l = K) (hK : K ≠ []) : rs (a ++ K) = a ++ K := by
  obtain ⟨l, rfl⟩ := h
  unfold rs at *
  rw [List.reverse_append, List.reverse_reverse]
  cases hd : l.reverse.dropWhile Unicode.isSpace with
  | nil => rw [hd] at hK; exact absurd rfl hK
  | cons c t =>
    have hc : Unicode.isSpace c = false := by
      have := List.head_dropWhile_not Unicode.isSpace (l := l.reverse) (by rw [hd]; simp)
      simpa [hd] using this
    rw [List.cons_append, List.dropWhile_cons_of_neg (by simp [hc]), ← List.cons_append, List.reverse_append, List.reverse_reverse]
noncomputable def sgn (c0 c1 : Nat) (f : Int) : Nat := (swap2 43 47 c0 c1 (tabAt f)).toNat
set_option maxRecDepth 100000 in
theorem sgn_all : ∀ n ∈ List.range 64, ∀ c0 ∈ [32, 35, 9, 45, 10], ∀ c1 ∈ [32, 35, 9, 45, 10],
    Unicode.isSpace (sgn c0 c1 (n : Int)) = blank (showFig c0 c1 (n : Int)) ∧ sgn c0 c1 (n : Int) < 128 ∧ (c0 ≠ c1 → b64val (swap2 c0 c1 43 47 (sgn c0 c1 (n : Int) : Nat)) = (n : Int) ∧ swap2 c0 c1 43 47 (sgn c0 c1 (n : Int) : Nat) ≠ 61) := by
  unfold b64val
  decide +kernel
theorem ahd_all : ∀ c ∈ ([35, 32] : List Nat), ∀ c0 ∈ ([32, 35, 9, 45, 10] : List Nat), ∀ c1 ∈ ([32, 35, 9, 45, 10] : List Nat), c0 ≠ c1 →
    swap2 (c0 : Int) (c1 : Int) 43 47 (c : Int) ≠ 61 ∧ b64val (swap2 (c0 : Int) (c1 : Int) 43 47 (c : Int)) = if (c == c0 || c == c1) = true then 62 + (if c = c0 then 0 else 1) else 64 := by
  unfold b64val
  decide +kernel
theorem A_all : ∀ c0 ∈ [32, 35, 9, 45, 10], ∀ c1 ∈ [32, 35, 9, 45, 10], swap2 (c0 : Nat) (c1 : Nat) 43 47 65 = 65 ∧ swap2 (c0 : Nat) (c1 : Nat) 43 47 61 = 61 ∧ swap2 43 47 (c0 : Nat) (c1 : Nat) 61 = 61 := by decide +kernel
theorem sgn_at {c0 c1 : Nat} {f : Int} (h0 : c0 ∈ [32, 35, 9, 45, 10]) (h1 : c1 ∈ [32, 35, 9, 45, 10]) (hf : 0 ≤ f ∧ f < 64) :
    Unicode.isSpace (sgn c0 c1 f) = blank (showFig c0 c1 f) ∧ sgn c0 c1 f < 128 ∧ (c0 ≠ c1 → b64val (swap2 c0 c1 43 47 (sgn c0 c1 f : Nat)) = f ∧ swap2 c0 c1 43 47 (sgn c0 c1 f : Nat) ≠ 61) := by
  obtain ⟨n, rfl⟩ := Int.eq_ofNat_of_zero_le hf.1
  exact sgn_all n (List.mem_range.mpr (by omega)) c0 h0 c1 h1
noncomputable def padOf (ks : List Int) : Nat := padN (figCount ks)
noncomputable def bodyOf (ks : List Int) (c0 c1 : Nat) : List Nat := (keptOf ks c0 c1).map (sgn c0 c1) ++ List.replicate (padOf ks) 61
theorem enc_list {ks : List Int} {c0 c1 : Nat} (h0 : c0 ∈ [32, 35, 9, 45, 10]) (h1 : c1 ∈ [32, 35, 9, 45, 10]) : (encTxt ks c0 c1).cps.toList = (figs ks).map (sgn c0 c1) ++ List.replicate (padOf ks) 61 := by
  show (byteArr (encSigns ks c0 c1)).toList.map (fun c => c.toNat) = _
  rw [byteArr_nats (encSigns_in (menu_lt c0 h0) (menu_lt c1 h1))]
  unfold encSigns encAll
  rw [List.map_append, List.map_append, List.map_map, List.map_map, List.map_replicate, List.map_replicate, (A_all c0 h0 c1 h1).2.2]
  rfl
theorem dropWhile_congr {α : Type} {p q : α → Bool} : ∀ {l : List α}, (∀ x ∈ l, p x = q x) → l.dropWhile p = l.dropWhile q
  | [], _ => rfl
  | x :: l, h => by
    rw [List.dropWhile_cons, List.dropWhile_cons, h x (.head _), dropWhile_congr fun y hy => h y (.tail _ hy)]
theorem dropWhile_map' {α β : Type} (f : α → β) (p : β → Bool) : ∀ l : List α, (l.map f).dropWhile p = (l.dropWhile (fun x => p (f x))).map f
  | [] => rfl
  | x :: l => by
    rw [List.map_cons, List.dropWhile_cons, List.dropWhile_cons, dropWhile_map' f p l]
    split <;> rfl
theorem rs_enc {ks : List Int} {c0 c1 : Nat} (h0 : c0 ∈ [32, 35, 9, 45, 10]) (h1 : c1 ∈ [32, 35, 9, 45, 10]) : rs ((figs ks).map (sgn c0 c1) ++ List.replicate (padOf ks) 61) = bodyOf ks c0 c1 := by
  unfold bodyOf keptOf keptL
  by_cases hp : 0 < (figs ks).length % 4
  · rw [if_pos hp]
    have hpad : padOf ks ≠ 0 := by rw [figs_len] at hp; exact (show ∀ r < 4, 0 < r → (4 - r) % 4 ≠ 0 by decide) _ (Nat.mod_lt _ (by decide)) hp
    obtain ⟨n, hn⟩ : ∃ n, padOf ks = n + 1 := Nat.exists_eq_succ_of_ne_zero hpad
    refine rs_end ⟨List.replicate (padOf ks) 61, ?_⟩ (by rw [hn]; simp)
    unfold rs
    rw [List.reverse_replicate, hn, List.replicate_succ, List.dropWhile_cons_of_neg (by decide +kernel), ← List.replicate_succ, List.reverse_replicate]
  · rw [if_neg hp]
    have hpad : padOf ks = 0 := by rw [figs_len] at hp; exact (show ∀ r < 4, ¬ 0 < r → (4 - r) % 4 = 0 by decide) _ (Nat.mod_lt _ (by decide)) hp
    rw [hpad, List.replicate_zero, List.append_nil, List.append_nil]
    unfold rs
    rw [← List.map_reverse, dropWhile_map', List.map_reverse]
    congr 2
    exact dropWhile_congr fun f hf => (sgn_at h0 h1 (figs_in f (List.mem_reverse.mp hf))).1
theorem body_nil {ks : List Int} {c0 c1 : Nat} : bodyOf ks c0 c1 = [] ↔ keptOf ks c0 c1 = [] := by
  unfold bodyOf
  constructor
  · intro h
    have := (List.append_eq_nil_iff.mp h).1
    exact List.map_eq_nil_iff.mp this
  · intro h
    have hk := h
    unfold keptOf keptL at hk
    rw [h]
    have hpad : padOf ks = 0 := by
      split at hk
      · rename_i hp
        rw [hk] at hp
        simp at hp
      · rename_i hp
        rw [figs_len] at hp
        exact (show ∀ r < 4, ¬ 0 < r → (4 - r) % 4 = 0 by decide) _ (Nat.mod_lt _ (by decide)) hp
    rw [hpad]
    rfl
theorem cmt_list (x : Str) : (cmt x).cps.toList = if rs x.cps.toList = [] then [35] else [35, 32] ++ rs x.cps.toList := by
  unfold cmt
  have hr := rstrip_list x
  by_cases h : (Txt.rstrip x).length = 0
  · rw [if_pos h]
    have e : rs x.cps.toList = [] := by
      rw [← hr]
      exact List.eq_nil_of_length_eq_zero (by rw [Array.length_toList]; exact h)
    rw [if_pos e]
    decide +kernel
  · rw [if_neg h]
    have e : rs x.cps.toList ≠ [] := by
      rw [← hr]
      intro q
      exact h (by have := congrArg List.length q; rw [Array.length_toList] at this; exact this)
    rw [if_neg e]
    show ((Str.ofString "# ").cps ++ (Txt.rstrip x).cps).toList = _
    rw [Array.toList_append, hr]
    have e2 : (Str.ofString "# ").cps.toList = [35, 32] := by decide +kernel
    rw [e2]
theorem line_list {ks : List Int} {c0 c1 : Nat} (h0 : c0 ∈ [32, 35, 9, 45, 10]) (h1 : c1 ∈ [32, 35, 9, 45, 10]) {j : Nat} (hj : j < 2) :
    (lineAt ks c0 c1 (j + 1)).cps.toList = aheadSigns ((j : Int) + 1) (decide (keptOf ks c0 c1 = [])) ++ bodyOf ks c0 c1 := by
  have hl1 : (lineAt ks c0 c1 1).cps.toList = aheadSigns 1 (decide (keptOf ks c0 c1 = [])) ++ bodyOf ks c0 c1 := by
    show (cmt (encTxt ks c0 c1)).cps.toList = _
    rw [cmt_list, enc_list h0 h1, rs_enc h0 h1]
    by_cases hk : keptOf ks c0 c1 = []
    · rw [if_pos (body_nil.mpr hk), body_nil.mpr hk, decide_eq_true hk]; rfl
    · rw [if_neg (fun q => hk (body_nil.mp q)), decide_eq_false hk]; rfl
  have : j = 0 ∨ j = 1 := (show ∀ j < 2, j = 0 ∨ j = 1 by decide) j hj
  rcases this with rfl | rfl
  · rw [show ((0 : Nat) : Int) + 1 = 1 from rfl, show (0 + 1 : Nat) = 1 from rfl]
    exact hl1
  · rw [show ((1 : Nat) : Int) + 1 = 2 from rfl, show lineAt ks c0 c1 (1 + 1) = cmt (lineAt ks c0 c1 1) from rfl]
    rw [cmt_list, hl1]
    by_cases hk : keptOf ks c0 c1 = []
    · rw [body_nil.mpr hk, decide_eq_true hk]
      decide +kernel
    · have hb : bodyOf ks c0 c1 ≠ [] := fun q => hk (body_nil.mp q)
      rw [rs_end ⟨_, rs_enc h0 h1⟩ hb, if_neg (by simp [hb]), decide_eq_false hk]
      rfl
theorem pad_le {ks : List Int} : padOf ks ≤ 3 := Nat.le_of_lt_succ (Nat.mod_lt _ (by decide))
theorem signs_len {tm : Int} {e : Bool} : (aheadSigns tm e).length ≤ 4 := by unfold aheadSigns; (repeat' split) <;> decide
theorem figs_le {ks : List Int} (hl : ks.length ≤ 10) : (figs ks).length ≤ 14 := by rw [figs_len]; exact (fig_ar ks.length (Nat.lt_succ_of_le hl)).1
theorem body_len {ks : List Int} {c0 c1 : Nat} (hl : ks.length ≤ 10) : (bodyOf ks c0 c1).length ≤ 17 := by
  unfold bodyOf
  have h1 := kept_len (ks := ks) (c0 := c0) (c1 := c1) (figs_le hl)
  have h2 := pad_le (ks := ks)
  rw [List.length_append, List.length_map, List.length_replicate]
  omega
theorem line_len {ks : List Int} {c0 c1 j : Nat} (_hk : KBa.In ks) (hl : ks.length ≤ 10) (h0 : c0 ∈ [32, 35, 9, 45, 10]) (h1 : c1 ∈ [32, 35, 9, 45, 10]) (hj : j < 3) : (lineAt ks c0 c1 j).length ≤ 100 := by
  show (lineAt ks c0 c1 j).cps.size ≤ 100
  rw [← Array.length_toList]
  cases j with
  | zero =>
    show (encTxt ks c0 c1).cps.toList.length ≤ 100
    rw [enc_list h0 h1, List.length_append, List.length_map, List.length_replicate]
    have h1 := figs_le hl
    have h2 := pad_le (ks := ks)
    omega
  | succ j =>
    rw [line_list h0 h1 (by omega), List.length_append]
    have h1 := signs_len (tm := (j : Int) + 1) (e := decide (keptOf ks c0 c1 = []))
    have h2 := body_len (ks := ks) (c0 := c0) (c1 := c1) hl
    omega
theorem mulA_list {a : Int} (h0 : 0 ≤ a) (h4 : a < 4) : (Txt.mul (Str.ofString "A") a).cps.toList = List.replicate a.toNat 65 := by
  rcases int4 h0 h4 with rfl | rfl | rfl | rfl <;> decide +kernel
theorem dataOf_append (l r : List Int) : dataOf (l ++ r) = dataOf l ++ dataOf r := by unfold dataOf; rw [List.filter_append, List.map_append]
theorem pads_zero : ∀ {l : List Int}, (∀ k ∈ l, k ≠ 61) → l.foldl padStep 0 = 0
  | [], _ => rfl
  | k :: l, h => by
    rw [List.foldl_cons]
    have e : padStep 0 k = 0 := by unfold padStep; rw [if_neg (h k (.head _))]; split <;> rfl
    rw [e]
    exact pads_zero fun j hj => h j (.tail _ hj)
theorem pads_rep : ∀ (n : Nat) (p : Int), (List.replicate n (61 : Int)).foldl padStep p = p + n
  | 0, p => by simp
  | n + 1, p => by
    rw [List.replicate_succ, List.foldl_cons, pads_rep n]
    unfold padStep
    rw [if_pos rfl]
    omega
theorem data_figs {f : Nat → Int} {g : Int → Nat} : ∀ {l : List Int}, (∀ k ∈ l, (k < 64) ∧ b64val (f (g k)) = k ∧ f (g k) ≠ 61) → dataOf ((l.map g).map f) = l
  | [], _ => rfl
  | k :: l, h => by
    have hk := h k (.head _)
    rw [List.map_cons, List.map_cons, ← List.singleton_append, dataOf_append, data_figs fun j hj => h j (.tail _ hj)]
    have e : dataOf [f (g k)] = [k] := by
      unfold dataOf
      have : ([f (g k)].filter fun k => k != 61 && decide (b64val k < 64)) = [f (g k)] := by simp [hk.2.2, hk.2.1, hk.1]
      rw [this, List.map_cons, hk.2.1]
      rfl
    rw [e]
    rfl
theorem data_signs {c0 c1 : Nat} (h0 : c0 ∈ [32, 35, 9, 45, 10]) (h1 : c1 ∈ [32, 35, 9, 45, 10]) (hcc : c0 ≠ c1) : ∀ {l : List Nat}, (∀ c ∈ l, c ∈ [35, 32]) →
    dataOf (l.map fun (c : Nat) => swap2 c0 c1 43 47 (c : Int)) = (l.filter fun c => c == c0 || c == c1).map fun c => 62 + if c = c0 then 0 else 1
  | [], _ => rfl
  | c :: l, h => by
    have hc := ahd_all c (h c (.head _)) c0 h0 c1 h1 hcc
    rw [List.map_cons, ← List.singleton_append, dataOf_append, data_signs h0 h1 hcc fun j hj => h j (.tail _ hj), List.filter_cons]
    by_cases hb : (c == c0 || c == c1) = true
    · rw [if_pos hb] at hc ⊢
      have e : dataOf [swap2 c0 c1 43 47 (c : Int)] = [62 + if c = c0 then 0 else 1] := by
        unfold dataOf
        have hlt : b64val (swap2 c0 c1 43 47 (c : Int)) < 64 := by rw [hc.2]; split <;> decide
        have : ([swap2 c0 c1 43 47 (c : Int)].filter fun k => k != 61 && decide (b64val k < 64)) = [swap2 c0 c1 43 47 (c : Int)] := by simp [hc.1, hlt]
        rw [this, List.map_cons, hc.2]
        rfl
      rw [e]
      rfl
    · rw [if_neg hb] at hc ⊢
      have e : dataOf [swap2 c0 c1 43 47 (c : Int)] = [] := by
        unfold dataOf
        have : ([swap2 c0 c1 43 47 (c : Int)].filter fun k => k != 61 && decide (b64val k < 64)) = [] := by simp [hc.2]
        rw [this]
        rfl
      rw [e]
      rfl
theorem signs_in {tm : Int} {e : Bool} : ∀ c ∈ aheadSigns tm e, c ∈ [35, 32] := by unfold aheadSigns; (repeat' split) <;> decide
theorem data_none {n : Nat} : dataOf (List.replicate n 61) = [] := by
  unfold dataOf
  have : ((List.replicate n (61 : Int)).filter fun k => k != 61 && decide (b64val k < 64)) = [] := by
    refine List.filter_eq_nil_iff.mpr fun k hk => ?_
    rw [(List.mem_replicate.mp hk).2]
    decide
  rw [this]
  rfl
theorem data_zeros : ∀ n : Nat, dataOf (List.replicate n 65) = List.replicate n 0
  | 0 => rfl
  | n + 1 => by
    rw [List.replicate_succ, ← List.singleton_append, dataOf_append, data_zeros n, List.replicate_succ]
    rfl
theorem codes_list {ks : List Int} {c0 c1 j : Nat} {a : Int} (h0 : c0 ∈ [32, 35, 9, 45, 10]) (h1 : c1 ∈ [32, 35, 9, 45, 10]) (hj : j < 2) (ha0 : 0 ≤ a) (ha4 : a < 4) :
    (txtAt ks c0 c1 j a).cps.toList = List.replicate a.toNat 65 ++ (aheadSigns ((j : Int) + 1) (decide (keptOf ks c0 c1 = [])) ++ ((keptOf ks c0 c1).map (sgn c0 c1) ++ List.replicate (padOf ks) 61)) := by
  show ((Txt.mul (Str.ofString "A") a).cps ++ (lineAt ks c0 c1 (j + 1)).cps).toList = _
  rw [Array.toList_append, mulA_list ha0 ha4, line_list h0 h1 hj]
  rfl
theorem plain {ks : List Int} {c0 c1 j : Nat} {a : Int} (_hk : KBa.In ks) (hl : ks.length ≤ 10) (h0 : c0 ∈ [32, 35, 9, 45, 10]) (h1 : c1 ∈ [32, 35, 9, 45, 10]) (hcc : c0 ≠ c1) (hj : j < 2) (ha0 : 0 ≤ a) (ha4 : a < 4) :
    (∀ c ∈ (txtAt ks c0 c1 j a).cps.toList, c < 128) ∧ (txtAt ks c0 c1 j a).cps.size ≤ 1000 ∧
      due (dataOf (codesAt ks c0 c1 j a)) (padsOf (codesAt ks c0 c1 j a)) = due (List.replicate a.toNat 0 ++ dueOf ks c0 c1 ((j : Int) + 1)) ((-((figs ks).length : Int)).fmod 4) := by
  have hL := codes_list (ks := ks) h0 h1 hj ha0 ha4
  have hA := A_all c0 h0 c1 h1
  refine ⟨?_, ?_, ?_⟩
  · intro c hc
    rw [hL] at hc
    rcases List.mem_append.mp hc with hc | hc
    · rw [(List.mem_replicate.mp hc).2]; decide
    rcases List.mem_append.mp hc with hc | hc
    · exact (show ∀ c ∈ [35, 32], c < 128 by decide) c (signs_in c hc)
    rcases List.mem_append.mp hc with hc | hc
    · obtain ⟨f, hf, rfl⟩ := List.mem_map.mp hc
      exact (sgn_at h0 h1 (kept_in f hf)).2.1
    · rw [(List.mem_replicate.mp hc).2]; decide
  · rw [← Array.length_toList, hL, List.length_append, List.length_append, List.length_append, List.length_replicate, List.length_map, List.length_replicate]
    have q1 := signs_len (tm := (j : Int) + 1) (e := decide (keptOf ks c0 c1 = []))
    have q2 := kept_len (ks := ks) (c0 := c0) (c1 := c1) (figs_le hl)
    have q3 := pad_le (ks := ks)
    omega
  · have hC : codesAt ks c0 c1 j a = List.replicate a.toNat 65 ++ ((aheadSigns ((j : Int) + 1) (decide (keptOf ks c0 c1 = []))).map (fun (c : Nat) => swap2 c0 c1 43 47 (c : Int)) ++ (((keptOf ks c0 c1).map (sgn c0 c1)).map (fun (c : Nat) => swap2 c0 c1 43 47 (c : Int)) ++ List.replicate (padOf ks) 61)) := by
      unfold codesAt
      rw [hL, List.map_map, List.map_append, List.map_append, List.map_append, List.map_replicate, List.map_replicate]
      have e1 : (swap2 (c0 : Int) (c1 : Int) 43 47 ∘ fun (c : Nat) => (c : Int)) 65 = 65 := hA.1
      have e2 : (swap2 (c0 : Int) (c1 : Int) 43 47 ∘ fun (c : Nat) => (c : Int)) 61 = 61 := hA.2.1
      rw [e1, e2]
      rfl
    have hD : dataOf (codesAt ks c0 c1 j a) = List.replicate a.toNat 0 ++ dueOf ks c0 c1 ((j : Int) + 1) := by
      rw [hC, dataOf_append, dataOf_append, dataOf_append, data_zeros, data_signs h0 h1 hcc signs_in, data_none, List.append_nil,
        data_figs (f := fun (c : Nat) => swap2 c0 c1 43 47 (c : Int)) fun k hk => ⟨(kept_in k hk).2, (sgn_at h0 h1 (kept_in k hk)).2.2 hcc⟩]
      rfl
    have hP : padsOf (codesAt ks c0 c1 j a) = ((padOf ks : Nat) : Int) := by
      rw [hC]
      unfold padsOf
      rw [← List.append_assoc, ← List.append_assoc, List.foldl_append, pads_zero, pads_rep, Int.zero_add]
      intro k hk
      rcases List.mem_append.mp hk with hk | hk
      · rcases List.mem_append.mp hk with hk | hk
        · rw [(List.mem_replicate.mp hk).2]; decide
        · obtain ⟨c, hc, rfl⟩ := List.mem_map.mp hk
          exact (ahd_all c (signs_in c hc) c0 h0 c1 h1 hcc).1
      · obtain ⟨c, hc, rfl⟩ := List.mem_map.mp hk
        obtain ⟨f, hf, rfl⟩ := List.mem_map.mp hc
        exact ((sgn_at h0 h1 (kept_in f hf)).2.2 hcc).2
    have hF : ((padOf ks : Nat) : Int) = (-((figs ks).length : Int)).fmod 4 := by
      rw [Int.fmod_eq_emod_of_nonneg _ (by decide), figs_len]
      exact (show ∀ n < 15, (((4 - n % 4) % 4 : Nat) : Int) = -((n : Nat) : Int) % 4 by decide) (figCount ks) (Nat.lt_succ_of_le (fig_ar ks.length (Nat.lt_succ_of_le hl)).1)
    rw [hD, hP, hF]
end
section
local macro_rules | `(tactic| walk_at "getMethod str") => `(tactic| (with_reducible refine meth_enc ?_))
local macro_rules | `(tactic| walk_at "call builtin:bytes.decode") => `(tactic| (refine call_decode_a (by assumption) (by assumption) ?_; intro _ _))
local macro_rules | `(tactic| walk_at "call builtin:str.encode") => `(tactic| (refine call_encode_a (by assumption) (by assumption) ?_; intro _ _))
theorem inv_gen {prog : Program} {w : World} {A : Around} {E : Value → Shared → Prop} {s s₁ : Shared} {env : Env} {h₀ : Heap} {L : Addr} {body : List Stmt} {J : (Str → Option Value) → List (Addr × Obj) → Prop} {own : List (Addr × Obj)} {adr : List Addr} {Q : Flow → Shared → Prop} (J' : (Str → Option Value) → Prop)
    (h : ∀ R : Flow → Shared → Prop, (∀ h' tk' m', Fr h₀ L h' m' → News h₀ L h' own → J' m' → R .next { s₁ with heap := h', toks := tk' }) → wpAny (model prog w) A (execs body env) R E s)
    (hJ : ∀ h' tk' m', Fr h₀ L h' m' → News h₀ L h' own → J' m' → InvEndN h₀ L J own adr s₁ { s₁ with heap := h', toks := tk' }) :
    wpAny (model prog w) A (execs body env) (InvPostN h₀ L J own adr s₁ Q) E s := h _ hJ
theorem stN_not {z : Str} (h1 : z ≠ Str.ofString "size") (h3 : [Str.ofString "line", Str.ofString "figures", Str.ofString "kept", Str.ofString "filled", Str.ofString "times", Str.ofString "due", Str.ofString "ahead", Str.ofString "read"].contains z = false) : stN.contains z = false := by
  unfold stN
  rw [List.contains_cons, h3, Bool.or_false]
  exact beq_eq_false_iff_ne.mpr h1
set_option maxRecDepth 100000 in
set_option maxHeartbeats 8000000 in
theorem tlaw : Challenge.rw_pa0004_01.Holds := hd (by
  k_with_none
  k_go0
  all_goals (try k_fold)
  refine wpAny_noRaise ?_
  repeat' (first | (k_unfold; (try dsimp only)) | (k_end; wrow_close) | ((fail_if_success (with_reducible show wpAny _ _ (call (Value.ref _) _) _ _ _)); walk1) | ((fail_if_success (with_reducible show wpAny _ _ (call (Value.ref _) _) _ _ _)); dsimp only; walk1) | (leave1; try dsimp only) | fail "no step")
  rename IntsAre _ (List.map _ (List.take 6 _)) => hI8
  obtain ⟨nums, hnums, hIn, hnb, hnl⟩ := nums_ex hI8
  rw [hnums]
  have hsb := sum_b hnb
  refine says_use (c_marks _ _ _ _ hsb.1 (by omega)) (by k_asm) (by k_asm) (by k_asm) (by k_asm) (by k_asm) rfl (by k_room) (by k_units) ?_
  rintro r tl hM tkM ⟨rfl, c0, c1, tM, rfl, hc0, hc1, hcc⟩ FM NM
  dsimp only
  clear hI8
  have hl0 := menu_lt c0 hc0
  have hl1 := menu_lt c1 hc1
  have hx : ∀ c ∈ (⟨#[c0, c1]⟩ : Str).cps.toList, c < 128 := by intro c hc; simp at hc; omega
  have hxl : (⟨#[c0, c1]⟩ : Str).cps.size ≤ 1000 := by show 2 ≤ 1000; decide
  repeat' (first | (k_unfold; (try dsimp only)) | (k_end; wrow_close) | ((fail_if_success (with_reducible show wpAny _ _ (call (Value.ref _) _) _ _ _)); walk1) | ((fail_if_success (with_reducible show wpAny _ _ (call (Value.ref _) _) _ _ _)); dsimp only; walk1) | (leave1; try dsimp only) | fail "no step")
  rename IntsAre _ ([62, 62, 62, 62, 63, 9, 63, 62] ++ _) => hIf
  rename News _ _ _ _ => NL
  refine says_use (c_octets _ _ _ _ _ _ (List.Mem.head _) hIf figs_b (by simp; omega)) (by k_asm) (by k_asm) (by k_asm) NL (by k_asm) rfl (by k_room) (by k_units) ?_
  rintro r tl hR tkR ⟨rfl, tR, rfl⟩ FR NR
  dsimp only
  obtain ⟨row, hrow, hrowIn, hrowl⟩ := oct_facts (figs_b (nums := nums))
  rw [hrow]
  have hrow10 : row.length ≤ 10 := by simp only [List.length_append, List.length_map, List.length_cons, List.length_nil] at hrowl; omega
  clear hIf hrowl hrow
  have hbRow : KBw.bInts (byteArr row) = row := KBa.ints_make hrowIn
  repeat' (first | (k_unfold; (try dsimp only)) | (k_end; wrow_close) | ((fail_if_success (with_reducible show wpAny _ _ (pyIter _) _ _ _)); walk1) | ((fail_if_success (with_reducible show wpAny _ _ (pyIter _) _ _ _)); dsimp only; walk1) | (leave1; try dsimp only) | fail "no step")
  rename IsRange _ _ _ _ _ _ _ _ => rgX
  rename Fr _ _ _ _ => FV
  obtain ⟨mY, hmY, FY⟩ := fr_op FV
  obtain ⟨tA, hA⟩ : ∃ t, mY (Str.ofString "altchars") = some (Value.bytes (byteArr [(c0 : Int), (c1 : Int)]) t) := ⟨_, by rw [hmY]; rfl⟩
  have hRw : mY (Str.ofString "row") = some (Value.bytes (byteArr row) tR) := by rw [hmY]; rfl
  have hMk : mY (Str.ofString "marks") = some (Value.str ⟨#[c0, c1]⟩ tM) := by rw [hmY]; rfl
  obtain ⟨m0, hm0, FV2⟩ := fr_three (a := Str.ofString "row") (b := Str.ofString "altchars") (c := Str.ofString "marks") (u := Value.bytes (byteArr row) tR) (v := Value.bytes (byteArr [(c0 : Int), (c1 : Int)]) tA) (z := Value.str ⟨#[c0, c1]⟩ tM) FY hRw hA hMk
  clear FV hmY FY hRw hA hMk
  clear hm0
  with_unfolding_all refine' kst_range (σ := Unit) (fun _ => []) (fun _ => []) (fun _ => True) [Str.ofString "line", Str.ofString "figures", Str.ofString "kept", Str.ofString "filled", Str.ofString "times", Str.ofString "due", Str.ofString "ahead", Str.ofString "read"] (fun _ _ => True) () (by rfl) rgX (small_one (by omega) (by omega) (by omega) (by omega)) (rangeSize_nat _ _) FV2 (fun _ h => nomatch h) trivial (fun _ h => nomatch h) trivial ?_ ?_
  · clear FV2
    repeat (rename Fr _ _ _ _ => hz; clear hz)
    repeat (rename News _ _ _ _ => hz; clear hz)
    rintro ⟨⟩ pre k tk0 u h tk own hk hlt hoff _ _ F' N'
    dsimp only [kstB] at F'
    simp only [List.nil_append] at N'
    refine inv_gen (fun m' => ∀ z, stN.contains z = false → m' z = (fun y => if y = Str.ofString "row" then some (Value.bytes (byteArr row) tR) else if y = Str.ofString "altchars" then some (Value.bytes (byteArr [(c0 : Int), (c1 : Int)]) tA) else if y = Str.ofString "marks" then some (Value.str ⟨#[c0, c1]⟩ tM) else m0 y) z) (fun R0 hRet0 => ?_) (fun h' tk' m' F N j => kst_end () F N (fun _ h => nomatch h) (fun _ h => h) rfl trivial (fun _ h => nomatch h) (fun z h1 _ h3 => j z (stN_not h1 h3)) trivial)
    have hk0 : 0 ≤ k := by omega
    have hk1 : k ≤ row.length := by omega
    repeat' (first | (k_unfold; (try dsimp only)) | (k_end; wrow_close) | ((fail_if_success (with_reducible show wpAny _ _ (call (Value.ref _) _) _ _ _)); walk1) | ((fail_if_success (with_reducible show wpAny _ _ (call (Value.ref _) _) _ _ _)); dsimp only; walk1) | (leave1; try dsimp only) | fail "no step")
    rename News _ _ _ _ => NL
    rename KBw.bInts (KBy.picked _ _ _) = _ => hbk
    obtain ⟨ks, hks, hksIn, hksl⟩ : ∃ ks, List.take (clipAt row.length k) row = ks ∧ KBa.In ks ∧ ks.length ≤ 10 := ⟨_, rfl, take_in hrowIn _, by rw [List.length_take]; omega⟩
    rw [hks] at hbk
    refine says_use (c_enc _ _ _ _ _ ks hbk hksl c0 c1 hl0 hl1) (by k_asm) (by k_asm) (by k_asm) NL (by k_asm) rfl (by k_room) (by k_units) ?_
    rintro r tl hE tkE ⟨rfl, tE, rfl⟩ FE NE
    dsimp only
    rw [show (encAll ks).map (swap2 43 47 c0 c1) = encSigns ks c0 c1 from rfl]
    have hcd := encSigns_bytes (ks := ks) hl0 hl1
    have hcl : (byteArr (encSigns ks c0 c1)).size ≤ 1000 := Nat.le_trans (encSigns_size hksl) (by decide)
    repeat' (first | (k_unfold; (try dsimp only)) | (k_end; wrow_close) | ((fail_if_success (with_reducible show wpAny _ _ (call (Value.ref _) _) _ _ _)); walk1) | ((fail_if_success (with_reducible show wpAny _ _ (call (Value.ref _) _) _ _ _)); dsimp only; walk1) | (leave1; try dsimp only) | fail "no step")
    rename News _ _ _ _ => NL
    refine says_use (c_figures _ _ _ ks _ (by assumption) hksl) (by k_asm) (by k_asm) (by k_asm) NL (by k_asm) rfl (by k_room) (by k_units) ?_
    rintro r tl hF tkF ⟨dF, ysF, rfl, rfl, hIF⟩ FF NF
    dsimp only
    simp only [List.nil_append, List.cons_append] at NF
    have hfl : (figs ks).length ≤ 14 := by rw [figs_len]; unfold figCount; omega
    repeat' (first | (k_unfold; (try dsimp only)) | (k_end; wrow_close) | ((fail_if_success (with_reducible show wpAny _ _ (call (Value.ref _) _) _ _ _)); walk1) | ((fail_if_success (with_reducible show wpAny _ _ (call (Value.ref _) _) _ _ _)); dsimp only; walk1) | (leave1; try dsimp only) | fail "no step")
    rename News _ _ _ _ => NL
    refine says_use (c_kept _ _ _ _ (figs ks) _ c0 c1 _ hc0 hc1 (List.Mem.head _) hIF figs_in (by omega)) (by k_asm) (by k_asm) (by k_asm) NL (by k_asm) rfl (by k_room) (by k_units) ?_
    rintro r tl hK tkK ⟨dK, ysK, nK, rfl, rfl, hIK⟩ FK NK
    dsimp only
    simp only [List.nil_append, List.cons_append] at NK
    repeat' (first | (k_unfold; (try dsimp only)) | (k_end; wrow_close) | ((fail_if_success (with_reducible show wpAny _ _ (call (Value.ref _) _) _ _ _)); walk1) | ((fail_if_success (with_reducible show wpAny _ _ (call (Value.ref _) _) _ _ _)); dsimp only; walk1) | (leave1; try dsimp only) | fail "no step")
    rename News _ _ _ _ => NZ
    rename Fr _ _ _ _ => FZ
    obtain ⟨mZ, hmZ, FZ2⟩ := fr_op FZ
    obtain ⟨tf, hfil⟩ : ∃ t, mZ (Str.ofString "filled") = some (Value.int ((-((figs ks).length : Int)).fmod 4) t) := ⟨_, by rw [hmZ]; rfl⟩
    obtain ⟨tl0, hlin⟩ : ∃ t, mZ (Str.ofString "line") = some (Value.str (lineAt ks c0 c1 0) t) := ⟨_, by rw [hmZ]; rfl⟩
    have halt : mZ (Str.ofString "altchars") = some (Value.bytes (byteArr [(c0 : Int), (c1 : Int)]) tA) := by rw [hmZ]; rfl
    have hkep : mZ (Str.ofString "kept") = some (Value.ref dK) := by rw [hmZ]; rfl
    have hmar : mZ (Str.ofString "marks") = some (Value.str ⟨#[c0, c1]⟩ tM) := by rw [hmZ]; rfl
    obtain ⟨mB, hmB⟩ : ∃ mB, (fun y => if y = Str.ofString "row" then some (Value.bytes (byteArr row) tR) else if y = Str.ofString "altchars" then some (Value.bytes (byteArr [(c0 : Int), (c1 : Int)]) tA) else if y = Str.ofString "marks" then some (Value.str ⟨#[c0, c1]⟩ tM) else m0 y) = mB := ⟨_, rfl⟩
    have hsame : ∀ z, stN.contains z = false → mZ z = mB z := by
      intro z h3
      rw [hmZ, ← hmB]
      simp only [stN, List.contains_cons, List.contains_nil, Bool.or_false, Bool.or_eq_false_iff, beq_eq_false_iff_ne, ne_eq] at h3
      simp [h3]
    clear hmZ FZ
    rename_i dT hT l1T
    obtain ⟨tk0', htk0⟩ : ∃ t, t = tk := ⟨_, rfl⟩
    rw [← htk0] at NZ
    with_unfolding_all refine' tup_turnsR (lo := { cls := Value.type "tuple", data := Data.seq #[Value.int 1 tk0', Value.int 2 (tk0' + 1)] }) [Value.int 1 tk0', Value.int 2 (tk0' + 1)] ((dT, { cls := Value.type "tuple", data := Data.seq #[Value.int 1 tk0', Value.int 2 (tk0' + 1)] }) :: (dK, listOf ysK.toArray nK) :: own) (fun j m' => ∃ t, KeepB (lineL (lineAt ks c0 c1 j) t dK ((-((figs ks).length : Int)).fmod 4) tf c0 c1 tA tM) stN mB m') (fun j v => ∃ t, j < 2 ∧ v = Value.int ((j : Int) + 1) t) (by rfl) FZ2 ?kN (List.Mem.head _) (by rfl) (by rfl) ⟨tl0, all5 hlin hkep hfil halt hmar, hsame⟩ ?kI ?_ ?_
    (case kN => exact newsSub NZ (by intro p9 h9; rcases List.mem_cons.mp h9 with rfl | h9; exact .head _; rcases List.mem_cons.mp h9 with rfl | h9; exact .tail _ (.tail _ (.head _)); exact .tail _ (.tail _ (.tail _ (.tail _ h9)))))
    (case kI => intro j v hv; match j, hv with | 0, hv => exact ⟨tk0', by decide, (Option.some.inj hv).symm⟩ | 1, hv => exact ⟨tk0' + 1, by decide, (Option.some.inj hv).symm⟩ | j + 2, hv => exact absurd hv (by simp))
    · clear FZ2 NZ hfil hlin halt hkep hmar hsame
      repeat (rename Fr _ _ _ _ => hz; clear hz)
      repeat (rename News _ _ _ _ => hz; clear hz)
      rintro R1 j v I oI hU tkU m₁ hRet1 ⟨tj, hj, rfl⟩ ⟨tl, hKl, hKs⟩ hlt2 FT NT
      have FT2 := fr_keep _ FT hKl
      clear FT
      dsimp only [kstB, lineL] at FT2
      repeat' (first | (k_unfold; (try dsimp only)) | (k_end; wrow_close) | ((fail_if_success (with_reducible show wpAny _ _ (call (Value.ref _) _) _ _ _)); walk1) | ((fail_if_success (with_reducible show wpAny _ _ (call (Value.ref _) _) _ _ _)); dsimp only; walk1) | (leave1; try dsimp only) | fail "no step")
      rename News _ _ _ _ => NL
      refine says_use (c_comment _ _ (lineAt ks c0 c1 j) _ (Nat.le_trans (line_len hksIn hksl hc0 hc1 (Nat.lt_succ_of_lt hj)) (by decide))) (by k_asm) (by k_asm) (by k_asm) NL (by k_asm) rfl (by k_room) (by k_units) ?_
      rintro r tl' hC tkC ⟨rfl, tC, hr⟩ FC NC
      replace hr : r = Value.str (lineAt ks c0 c1 (j + 1)) tC := hr
      subst hr
      dsimp only
      simp only [List.nil_append] at NC
      repeat' (first | (k_unfold; (try dsimp only)) | (k_end; wrow_close) | ((fail_if_success (with_reducible show wpAny _ _ (call (Value.ref _) _) _ _ _)); walk1) | ((fail_if_success (with_reducible show wpAny _ _ (call (Value.ref _) _) _ _ _)); dsimp only; walk1) | (leave1; try dsimp only) | fail "no step")
      rename News _ _ _ _ => NL
      refine says_use (c_ahead _ _ _ _ (keptOf ks c0 c1) _ ((j : Int) + 1) (by omega) c0 c1 _ _ hc0 hc1 (by k_memK) hIK (Nat.le_trans (kept_len hfl) (by decide))) (by k_asm) (by k_asm) (by k_asm) NL (by k_asm) rfl (by k_room) (by k_units) ?_
      rintro r tl' hD tkD ⟨dA, ysA, rfl, rfl, hIA⟩ FD ND
      dsimp only
      simp only [List.nil_append, List.cons_append] at ND
      repeat' (first | (k_unfold; (try dsimp only)) | (k_end; wrow_close) | ((fail_if_success (with_reducible show wpAny _ _ (binaryOp _ _ _) _ _ _)); walk1) | ((fail_if_success (with_reducible show wpAny _ _ (binaryOp _ _ _) _ _ _)); dsimp only; walk1) | (leave1; try dsimp only) | fail "no step")
      refine kmk_add_ints (by k_asm) (by k_asm) (News.isList ND (by k_memK)) (News.isList ND (by k_memK)) hIA hIK ?_ (by have h1 := ahead_len (tm := (j : Int) + 1) (e := decide (keptOf ks c0 c1 = [])) (c0 := c0) (c1 := c1); have h2 : (keptL c0 c1 (figs ks)).length ≤ 14 := kept_len (ks := ks) hfl; rw [sizeLine_eq]; omega)
      intro dD usD hD2 FD2 ND2 l1D hID
      replace hID : IntsAre usD (dueOf ks c0 c1 ((j : Int) + 1)) := hID
      clear FD ND hIA
      have hdl : (dueOf ks c0 c1 ((j : Int) + 1)).length ≤ 18 := due_len hfl
      have hdn : usD.length = (dueOf ks c0 c1 ((j : Int) + 1)).length := hID.length
      repeat' (first | (k_unfold; (try dsimp only)) | (k_end; wrow_close) | ((fail_if_success (with_reducible show wpAny _ _ (call (Value.ref _) _) _ _ _)); walk1) | ((fail_if_success (with_reducible show wpAny _ _ (call (Value.ref _) _) _ _ _)); dsimp only; walk1) | (leave1; try dsimp only) | fail "no step")
      rename News _ _ _ _ => NZ2
      rename Fr _ _ _ _ => FZ3
      obtain ⟨mD, hmD, FD3⟩ := fr_op FZ3
      have q1 : mD (Str.ofString "line") = some (Value.str (lineAt ks c0 c1 (j + 1)) tC) := by rw [hmD]; rfl
      have q2 : mD (Str.ofString "kept") = some (Value.ref dK) := by rw [hmD]; rfl
      have q3 : mD (Str.ofString "filled") = some (Value.int ((-((figs ks).length : Int)).fmod 4) tf) := by rw [hmD]; rfl
      have q4 : mD (Str.ofString "altchars") = some (Value.bytes (byteArr [(c0 : Int), (c1 : Int)]) tA) := by rw [hmD]; rfl
      have q5 : mD (Str.ofString "marks") = some (Value.str ⟨#[c0, c1]⟩ tM) := by rw [hmD]; rfl
      have q6 : mD (Str.ofString "due") = some (Value.ref dD) := by rw [hmD]; rfl
      have q7 : ∀ z, stN.contains z = false → mD z = mB z := by
        intro z h3
        have h4 := hKs z h3
        have p4 : m₁ (Str.ofString "altchars") = some (Value.bytes (byteArr [(c0 : Int), (c1 : Int)]) tA) := hKl (Str.ofString "altchars", _) (by simp [lineL])
        have p5 : m₁ (Str.ofString "marks") = some (Value.str ⟨#[c0, c1]⟩ tM) := hKl (Str.ofString "marks", _) (by simp [lineL])
        rw [hmD]
        simp only [stN, List.contains_cons, List.contains_nil, Bool.or_false, Bool.or_eq_false_iff, beq_eq_false_iff_ne, ne_eq] at h3
        simp only [h3, if_false]
        exact keep_tail p4 p5 h4
      clear hmD FZ3
      rename_i dU hU2 l1U
      with_unfolding_all refine' tup_turnsE (lo := { cls := Value.type "tuple", data := Data.seq #[Value.int 0 tk, Value.int ((-((dueOf ks c0 c1 ((j : Int) + 1)).length : Int)).fmod 4) (tk + 1 + 1 + 1 + 1 + 1)] }) [Value.int 0 tk, Value.int ((-((dueOf ks c0 c1 ((j : Int) + 1)).length : Int)).fmod 4) (tk + 1 + 1 + 1 + 1 + 1)] ((dU, { cls := Value.type "tuple", data := Data.seq #[Value.int 0 tk, Value.int ((-((dueOf ks c0 c1 ((j : Int) + 1)).length : Int)).fmod 4) (tk + 1 + 1 + 1 + 1 + 1)] }) :: (dD, listOf usD.toArray 0) :: (I, oI) :: (dT, { cls := Value.type "tuple", data := Data.seq #[Value.int 1 tk0', Value.int 2 (tk0' + 1)] }) :: (dK, listOf ysK.toArray nK) :: own) (fun _ m' => KeepB ((Str.ofString "due", Value.ref dD) :: lineL (lineAt ks c0 c1 (j + 1)) tC dK ((-((figs ks).length : Int)).fmod 4) tf c0 c1 tA tM) stN mB m') (fun _ v => ∃ (a : Int) (t : Tok), 0 ≤ a ∧ a < 4 ∧ v = Value.int a t) (by rfl) FD3 ?kN (List.Mem.head _) (by rfl) (by rfl) ⟨List.forall_mem_cons.mpr ⟨q6, all5 q1 q2 q3 q4 q5⟩, q7⟩ ?kI ?_ ?_
      (case kN => exact newsSub NZ2 (by intro p9 h9; rcases List.mem_cons.mp h9 with rfl | h9; exact .head _; rcases List.mem_cons.mp h9 with rfl | h9; exact .tail _ (.head _); exact .tail _ (.tail _ (.tail _ h9))))
      (case kI => intro j2 v hv; match j2, hv with | 0, hv => exact ⟨0, tk, by decide, by decide, (Option.some.inj hv).symm⟩ | 1, hv => exact ⟨_, _, (fmod4 _).1, (fmod4 _).2, (Option.some.inj hv).symm⟩ | j2 + 2, hv => exact absurd hv (by simp))
      · clear FD3 NZ2 q1 q2 q3 q4 q5 q6 q7
        repeat (rename Fr _ _ _ _ => hz; clear hz)
        repeat (rename News _ _ _ _ => hz; clear hz)
        rintro E2 R2 j2 v I2 o2 hV tkV m₂ hRet2 ⟨a, t2, ha0, ha4, rfl⟩ ⟨hKl2, hKs2⟩ hlt3 FW NW
        have FW2 := fr_keep _ FW hKl2
        clear FW
        dsimp only [kstB, lineL] at FW2
        have hmo : MulOk (Str.ofString "A") a := mulOk_of 16 1048576 (by decide) (by omega) (by omega) (by decide) (by decide)
        obtain ⟨hxa, hxs, hdue⟩ := plain (j := j) hksIn hksl hc0 hc1 hcc hj ha0 ha4
        repeat' (first | (k_unfold; (try dsimp only)) | (k_end; wrow_close) | ((fail_if_success (with_reducible show wpAny _ _ (binaryOp Operator.Add _ _) _ _ _)); walk1) | ((fail_if_success (with_reducible show wpAny _ _ (binaryOp Operator.Add _ _) _ _ _)); dsimp only; walk1) | (leave1; try dsimp only) | fail "no step")
        refine SBL.add (hsz := ?hsz) ?_
        (case hsz => have h1 := mulA_len ha0 ha4; have h2 := line_len (j := j + 1) hksIn hksl hc0 hc1 (by omega); rw [sizeLine_eq]; omega)
        intro tX kX _
        rw [show Txt.mul (Str.ofString "A") a ++ lineAt ks c0 c1 (j + 1) = txtAt ks c0 c1 j a from rfl]
        repeat' (first | (k_unfold; (try dsimp only)) | (k_end; wrow_close) | ((fail_if_success (with_reducible show wpAny _ _ (call (Value.ref _) _) _ _ _)); walk1) | ((fail_if_success (with_reducible show wpAny _ _ (call (Value.ref _) _) _ _ _)); dsimp only; walk1) | (leave1; try dsimp only) | fail "no step")
        rename News _ _ _ _ => NL
        refine saysL_use (c_reading _ _ _ _ _ c0 c1 hl0 hl1 hxa hxs) (by k_asm) (by k_asm) (by k_asm) (by k_asm) NL (by k_asm) (by k_asm) rfl (by k_room) (by k_units) ?_
        rintro r tl' hRd tkRd ⟨rfl, tRd, hr⟩ FRd NRd
        replace hr : r = oval (due (List.replicate a.toNat 0 ++ dueOf ks c0 c1 ((j : Int) + 1)) ((-((figs ks).length : Int)).fmod 4)) tRd := by rw [hr, ← hdue]; rfl
        dsimp only
        simp only [List.nil_append] at NRd
        repeat' (first | (k_unfold; (try dsimp only)) | (k_end; wrow_close) | ((fail_if_success (with_reducible show wpAny _ _ (binaryOp Operator.Mult _ _) _ _ _)); walk1) | ((fail_if_success (with_reducible show wpAny _ _ (binaryOp Operator.Mult _ _) _ _ _)); dsimp only; walk1) | (leave1; try dsimp only) | fail "no step")
        rename News _ _ _ _ => NL2
        refine KM.mul (vs := [Value.int 0 tk]) (ns := [0]) (by k_asm) NL2 (News.isList NL2 (List.Mem.head _)) (IntsAre.cons 0 _ IntsAre.nil) (by omega) (by omega) (by simp only [List.length_cons, List.length_nil]; omega) ?_
        intro dR hR2 FR2 NR2 l1R hIR _ _ _ _ _
        rw [flat_rep] at hIR
        clear NL2
        repeat' (first | (k_unfold; (try dsimp only)) | (k_end; wrow_close) | ((fail_if_success (with_reducible show wpAny _ _ (binaryOp Operator.Add _ _) _ _ _)); walk1) | ((fail_if_success (with_reducible show wpAny _ _ (binaryOp Operator.Add _ _) _ _ _)); dsimp only; walk1) | (leave1; try dsimp only) | fail "no step")
        refine kmk_add_ints (by k_asm) (by k_asm) (News.isList NR2 (by k_memK)) (News.isList NR2 (by k_memK)) hIR hID ?_ (by rw [List.length_replicate, sizeLine_eq]; omega)
        intro dS usS hS FS NS l1S hIS
        clear NR2 FR2
        repeat' (first | (k_unfold; (try dsimp only)) | (k_end; wrow_close) | ((fail_if_success (with_reducible show wpAny _ _ (call (Value.ref _) _) _ _ _)); walk1) | ((fail_if_success (with_reducible show wpAny _ _ (call (Value.ref _) _) _ _ _)); dsimp only; walk1) | (leave1; try dsimp only) | fail "no step")
        rename News _ _ _ _ => NL3
        refine says_use (c_due _ _ _ _ _ _ ((-((figs ks).length : Int)).fmod 4) _ (fmod4 _).1 (fmod4 _).2 (List.Mem.head _) hIS (zeros_in due_in) (by rw [List.length_append, List.length_replicate]; omega)) (by k_asm) (by k_asm) (by k_asm) NL3 (by k_asm) rfl (by k_room) (by k_units) ?_
        rintro rr tl' hQ tkQ ⟨rfl, tQ, hrr⟩ FQ NQ
        dsimp only
        simp only [List.nil_append] at NQ
        generalize hod : due (List.replicate a.toNat 0 ++ dueOf ks c0 c1 ((j : Int) + 1)) ((-((figs ks).length : Int)).fmod 4) = od at *
        cases od
        · dsimp only [oval] at hr hrr
          subst hr hrr
          k_steps
          refine hRet2 _ _ _ (by assumption) (newsSub (by assumption) (fun p9 h9 => List.Mem.tail _ (List.Mem.tail _ (List.Mem.tail _ h9)))) ⟨List.forall_mem_cons.mpr ⟨by rfl, all5 (by rfl) (by rfl) (by rfl) (by rfl) (by rfl)⟩, ?_⟩
          intro z h3
          have h4 := hKs2 z h3
          have p4 : m₂ (Str.ofString "altchars") = some (Value.bytes (byteArr [(c0 : Int), (c1 : Int)]) tA) := hKl2 (Str.ofString "altchars", _) (by simp [lineL])
          have p5 : m₂ (Str.ofString "marks") = some (Value.str ⟨#[c0, c1]⟩ tM) := hKl2 (Str.ofString "marks", _) (by simp [lineL])
          simp only [stN, List.contains_cons, List.contains_nil, Bool.or_false, Bool.or_eq_false_iff, beq_eq_false_iff_ne, ne_eq] at h3
          simp only [h3, if_false]
          exact keep_tail p4 p5 h4
        · dsimp only [oval] at hr hrr
          subst hr hrr
          k_steps
          · with_reducible rename (_ != _) = true => hne
            exact absurd hne (by simp)
          · refine hRet2 _ _ _ (by assumption) (newsSub (by assumption) (fun p9 h9 => List.Mem.tail _ (List.Mem.tail _ (List.Mem.tail _ h9)))) ⟨List.forall_mem_cons.mpr ⟨by rfl, all5 (by rfl) (by rfl) (by rfl) (by rfl) (by rfl)⟩, ?_⟩
            intro z h3
            have h4 := hKs2 z h3
            have p4 : m₂ (Str.ofString "altchars") = some (Value.bytes (byteArr [(c0 : Int), (c1 : Int)]) tA) := hKl2 (Str.ofString "altchars", _) (by simp [lineL])
            have p5 : m₂ (Str.ofString "marks") = some (Value.str ⟨#[c0, c1]⟩ tM) := hKl2 (Str.ofString "marks", _) (by simp [lineL])
            simp only [stN, List.contains_cons, List.contains_nil, Bool.or_false, Bool.or_eq_false_iff, beq_eq_false_iff_ne, ne_eq] at h3
            simp only [h3, if_false]
            exact keep_tail p4 p5 h4
      · clear FD3 NZ2 q1 q2 q3 q4 q5 q6 q7
        repeat (rename Fr _ _ _ _ => hz; clear hz)
        repeat (rename News _ _ _ _ => hz; clear hz)
        rintro h9 tk9 m₂ ⟨hK2, hS2⟩ F9 N9
        k_steps
        exact hRet1 _ _ _ (by assumption) (newsSub (by assumption) (fun p9 h9 => List.Mem.tail _ (List.Mem.tail _ h9))) ⟨tC, fun p hp => hK2 p (.tail _ hp), hS2⟩
    · clear FZ2 NZ hfil hlin halt hkep hmar hsame
      repeat (rename Fr _ _ _ _ => hz; clear hz)
      repeat (rename News _ _ _ _ => hz; clear hz)
      rintro h9 tk9 m₂ ⟨t9, hK2, hS2⟩ F9 N9
      k_steps
      exact hRet0 _ _ _ (by assumption) (newsSub (by assumption) (fun p9 h9 => List.Mem.tail _ (List.Mem.tail _ h9))) (fun z hz => (hS2 z hz).trans (congrFun hmB z).symm)
  · clear FV2
    repeat (rename Fr _ _ _ _ => hz; clear hz)
    repeat (rename News _ _ _ _ => hz; clear hz)
    rintro ⟨⟩ u h tk _ _ F' N'
    dsimp only [kstB] at F'
    k_steps)
end
end
end Mine
theorem PySem.Challenge.cw_pa0004_01_holds : PySem.Challenge.rw_pa0004_01.Holds :=
  Mine.tlaw
