import PyProof.Rows.All
import Wide.All
import OpenK.AllK
import Wide.FinOn
import Lean
import PySem.Challenge.RW_wc0025_01
open PySem PySem.W PySem.Calls PyProof.Rows
set_option Elab.async false
set_option maxRecDepth 100000
set_option maxHeartbeats 0
namespace Mine
local macro_rules | `(tactic| omega) => `(tactic| first | lia | omega +splitNatSub)
section
open PySem PySem.W PySem.Calls PyProof.Rows
set_option Elab.async false
set_option maxRecDepth 100000
set_option maxHeartbeats 0
section
local macro_rules | `(tactic| o_head $_) => `(tactic| contradiction)
/-- lays the heap out as a constant, without the head -/
theorem kk (no : False) : PySem.Challenge.rw_wc0025_01.row.Holds := by k_head
end
noncomputable def V0 : Program := view PySem.Challenge.pw_wc0025_01 ((List.range 73).filter fun i => !([2, 54, 57, 61, 63].contains i))
noncomputable abbrev looseL : List Str := [Str.ofString "EXACT_TOKEN_TYPES", Str.ofString "_Accumulator", Str.ofString "tspecials", Str.ofString "_name_disallowed_re", Str.ofString "_value_disallowed_re", Str.ofString "_formatparam"]
noncomputable def as0 : List Nat := [2, 3, 32, 34, 35, 37, 38, 39, 42, 44, 45, 47, 48, 49, 52, 57, 58, 59, 61, 62, 64, 65, 66, 68, 69, 71, 72, 73, 74, 76, 77, 79, 80, 81, 82, 84, 85, 87, 88, 89, 91, 92, 94, 95, 96, 98, 99, 101, 102, 103, 104, 106, 107, 109, 110, 111, 113, 114, 116, 117, 118, 119, 121, 122, 124, 125, 126, 127, 128, 129, 130, 136, 137, 141, 142, 146, 147, 148, 149, 151, 152, 154, 155, 163, 164, 166, 167, 169, 170, 171, 173, 174, 176, 177, 178, 180, 181, 183, 184, 185, 187, 188, 190, 191, 192, 195, 196, 197, 199, 200, 202, 203, 204, 206, 207, 209, 210, 211, 213, 214, 216, 217, 218, 219, 221, 222, 224, 225, 226, 229, 230, 231, 234, 235, 236, 238, 239, 241, 242, 243, 245, 246, 248, 249, 250, 253, 254, 255, 257, 258, 260, 261, 262, 264, 265, 267, 268, 269, 271, 272, 274, 275, 276, 277, 278, 279, 280, 283, 285, 286, 288, 289, 290, 292, 293, 295, 296, 297, 299, 300, 302, 303, 304, 306, 307, 309, 310, 311, 314, 315, 316, 318, 319, 321, 322, 323, 326, 327, 328, 330, 331, 333, 334, 335, 338, 339]
theorem as0_eq : ∀ P, as0 = (kk.heap_1 P).map (·.1) := fun _ => by kernel_rfl
end
section
open PySem PySem.W PySem.Spec PySem.Calls PyProof.Rows
set_option Elab.async false
set_option maxRecDepth 100000
set_option maxHeartbeats 0
noncomputable abbrev loose0 : List Str := looseW V0 looseL
/-- the end of a def's body: what is wanted of the value it gives back -/
noncomputable def Fini (P : Value → Shared → Prop) (v : Value) (s : Shared) : Prop := P v s

theorem code_mine0 {prog : Program} {w : World} {A₀ A : Around} {s : Shared} {K : Frag} {h₀ base : Heap} {L : Addr} {m mg mb : Str → Option Value} {hid : List (Addr × Obj)} {p : Program} {loose : List Str} {mean : ExcName → Option Value}
    {env : Env} {outer : List Env} {R : Result → Shared → Prop} {name qual : Str} {params : Arguments} {body : List Stmt} {scope : Scope} {cl : List (Str × Addr)} {dV kV doc pm cdv ct oc : Value} {an od : Option Addr} {osl : Array (Option Value)} {f : Addr} {args : Args} {binds : List (Str × Value)}
    (B : Below A₀ base outer h₀) (F : Fr h₀ L s.heap m) (X₀ : K.In h₀) (N : News h₀ L s.heap hid) (T : Top p loose mean mg mb h₀) (hA : A.frames = some (env :: outer)) (hf : env.frame = some L) (hke : env.scope.kind = .function)
    (ho : K.lookup f = some ⟨oc, od, .func (fnX name qual params body scope cl dV kV doc pm an cdv ct), osl⟩) (hcd : codeIn K cdv qual = true) (hroom : A.depth < recursionLimit)
    (hbind : BindsTo s (fnX name qual params body scope cl dV kV doc pm an cdv ct) args binds) (hloc : ∀ y ∈ binds, scope.names.lookup y.1 = some .local)
    (h : ∀ g L' h₁, L' = s.heap.objs.size → (∀ b o, s.heap.get? b = some o → b ∉ hid.map (·.1) → g.get? b = some o) → Fr g L' h₁ (fun y => binds.reverse.lookup y) → News g L' h₁ hid → (∀ q ∈ hid, q.1 < L') → Below A base (env :: outer) g → K.In g → Top p loose mean mg mb g →
      wpAny (model prog w) (A.deeper (envX qual scope L' f cdv cl)) (execs body (envX qual scope L' f cdv cl))
        (fun fl s' => Fini (fun v s'' => R (.ok (.ret v)) s'') (match fl with | .ret v => v | _ => .none) s')
        (fun e s' => wpAny (model prog w) (A.deeper (envX qual scope L' f cdv cl)) (leaving (envX qual scope L' f cdv cl) e) (fun _ s'' => R (.error e) s'') (fun e' s'' => R (.error e') s'') s')
        { s with heap := h₁, toks := s.toks + binds.length })
    (hcell : ∀ x ∈ scope.names, x.2 ≠ .cell) (hco : scope.isCoroutine = false) (hgen : scope.isGenerator = false) (hk : scope.kind = .function) : codeAny (model prog w) A (.call (.ref f) args) R s := by
  obtain ⟨FG, BG, st, lv⟩ := groundX (R := R) B F N hA hf hke
  have XS := X₀.keeps F.keep
  refine codeAny_call_def (fd := fnX name qual params body scope cl dV kV doc pm an cdv ct) (body := body) (binds := binds) hroom (XS _ _ ho) rfl (T.nolimit.keeps F.keep) (codeRec_of XS hcd) rfl hbind hcell hloc (fun h₁ hns hk₁ => ?_) hco hgen hk
  exact h _ s.heap.objs.size h₁ rfl (fun b o e q => hideAll_get _ e q) ⟨hns, fun b o e => hk₁ b o (of_hideAll _ e), Nat.le_of_eq (hideAll_size _ _)⟩
    (fun p hp => ⟨hk₁ _ _ (N p hp).1, Nat.ne_of_lt (Heap.lt_size (N p hp).1), hideAll_none _ (List.mem_map_of_mem hp)⟩) (fun p hp => Heap.lt_size (N p hp).1) BG (X₀.keeps st) (T.keeps st)

theorem code_mine {prog : Program} {w : World} {A₀ A : Around} {s : Shared} {K : Frag} {h₀ base : Heap} {L : Addr} {m mg mb : Str → Option Value} {hid : List (Addr × Obj)} {p : Program} {loose : List Str} {mean : ExcName → Option Value}
    {env : Env} {outer : List Env} {R : Result → Shared → Prop} {name qual : Str} {params : Arguments} {body : List Stmt} {scope : Scope} {cl : List (Str × Addr)} {dV kV doc pm cdv ct oc : Value} {an od : Option Addr} {osl : Array (Option Value)} {f : Addr} {args : Args} {binds : List (Str × Value)}
    (B : Below A₀ base outer h₀) (F : Fr h₀ L s.heap m) (X₀ : K.In h₀) (N : News h₀ L s.heap hid) (T : Top p loose mean mg mb h₀) (hA : A.frames = some (env :: outer)) (hf : env.frame = some L) (hke : env.scope.kind = .function)
    (ho : K.lookup f = some ⟨oc, od, .func (fnX name qual params body scope cl dV kV doc pm an cdv ct), osl⟩) (hcd : codeIn K cdv qual = true) (hroom : A.depth < recursionLimit)
    (hbind : BindsTo s (fnX name qual params body scope cl dV kV doc pm an cdv ct) args binds) (hloc : ∀ y ∈ binds, scope.names.lookup y.1 = some .local)
    (h : ∀ P : Value → Shared → Prop, (∀ v s', R (.ok (.ret v)) s' → P v s') → ∀ g L' h₁, L' = s.heap.objs.size → (∀ b o, s.heap.get? b = some o → b ∉ hid.map (·.1) → g.get? b = some o) → Fr g L' h₁ (fun y => binds.reverse.lookup y) → News g L' h₁ hid → (∀ q ∈ hid, q.1 < L') → Below A base (env :: outer) g → K.In g → Top p loose mean mg mb g →
      wpAny (model prog w) (A.deeper (envX qual scope L' f cdv cl)) (execs body (envX qual scope L' f cdv cl))
        (fun fl s' => Fini P (match fl with | .ret v => v | _ => .none) s')
        (fun _ _ => False)
        { s with heap := h₁, toks := s.toks + binds.length })
    (hcell : ∀ x ∈ scope.names, x.2 ≠ .cell) (hco : scope.isCoroutine = false) (hgen : scope.isGenerator = false) (hk : scope.kind = .function) : codeAny (model prog w) A (.call (.ref f) args) R s :=
  code_mine0 B F X₀ N T hA hf hke ho hcd hroom hbind hloc (fun x0 x1 x2 x3 x4 x5 x6 x7 x8 x9 x10 => wpAny_mono (h (fun v s'' => R (.ok (.ret v)) s'') (fun _ _ r => r) x0 x1 x2 x3 x4 x5 x6 x7 x8 x9 x10) (fun _ _ q => q) fun _ _ z => z.elim) hcell hco hgen hk
/-- a contract of one def: hid are the objects that it may change, as they stand -/
noncomputable def Calls (w : World) (f : Addr) (args : List Value) (kw : List (Str × Value)) (dN uN : Nat) (hid : List (Addr × Obj)) (Pre : Heap → Prop) (Post : Heap → Value → Heap → Prop) : Prop :=
  ∀ (mean : ExcName → Option Value) (mg mb : Str → Option Value) (dp un : Nat) (gd : Option (List Code)) (cn : Str) (cs : Scope) (a : Addr) (ccd : Value) (cl : List (Str × Addr)) (outer : List Env)
    (A₀ : Around) (base h₀ : Heap) (L : Addr) (m : Str → Option Value) (s : Shared) (Q E : Value → Shared → Prop),
    Below A₀ base outer h₀ → Fr h₀ L s.heap m → (kk.heap_1 w.params).In h₀ → Top V0 loose0 mean mg mb h₀ → cs.kind = .function → dp + dN < recursionLimit → un + uN < cLine →
    News h₀ L s.heap hid → Pre s.heap →
    (∀ r h' tk', Post s.heap r h' → Q r { s with heap := h', toks := tk' }) →
    wpAny (model PySem.Challenge.rw_wc0025_01.prog w) (ktrTop dp un gd cn cs L a ccd cl outer) (call (.ref f) args kw) Q E s

noncomputable def Kp (h h' : Heap) : Prop := ∀ b o, h.get? b = some o → h'.get? b = some o
noncomputable def KpBut (as : List Addr) (h h' : Heap) : Prop := ∀ b o, h.get? b = some o → b ∉ as → h'.get? b = some o

theorem Kp.trans {a b c : Heap} (x : Kp a b) (y : Kp b c) : Kp a c := fun q o e => y q o (x q o e)
theorem Kp.fr {h₀ h h' : Heap} {L : Addr} {m : Str → Option Value} (k : Kp h h') (F : Fr h₀ L h m) : Fr h₀ L h' m := ⟨F.ns.keeps k, fun b o e => k b o (F.keep b o e), F.above⟩
theorem Kp.news {h₀ h h' : Heap} {L : Addr} {news : List (Addr × Obj)} (k : Kp h h') (N : News h₀ L h news) : News h₀ L h' news := fun p hp => ⟨k _ _ (N p hp).1, (N p hp).2⟩

theorem kp_of {s : Heap} {g h' : Heap} {L' : Addr} {m' : Str → Option Value} (hg : ∀ b o, s.get? b = some o → b ∉ (([] : List (Addr × Obj)).map (·.1)) → g.get? b = some o) (F' : Fr g L' h' m') : Kp s h' :=
  fun b o e => F'.keep b o (hg b o e (fun h => nomatch h))
theorem kpBut_of {s : Heap} {g h' : Heap} {L' : Addr} {m' : Str → Option Value} {hid : List (Addr × Obj)} (hg : ∀ b o, s.get? b = some o → b ∉ (hid.map (·.1)) → g.get? b = some o) (F' : Fr g L' h' m') : KpBut (hid.map (·.1)) s h' :=
  fun b o e n => F'.keep b o (hg b o e n)
noncomputable def Hold (p : Prop) : Prop := p
theorem unhold {p : Prop} (h : Hold p) : p := h
theorem room0 {d N lim : Nat} (h : d + N < lim) : d < lim := Nat.lt_of_le_of_lt (Nat.le_add_right _ _) h
theorem roomL {d a b N lim : Nat} (h : d + N < lim) (hle : a + b ≤ N) : d + a + b < lim := by omega
theorem roomM {d a b N M lim : Nat} (h : d + (N + M) < lim) (hle : a + b ≤ N) : d + a + b < lim := by omega
theorem roomI {d b M lim : Nat} (h : d + (b + (M + 1)) < lim) : d + 1 + (b + M) < lim := by omega
theorem unitI {d a b c M lim : Nat} (h : d + (b + c * (M + 1)) < lim) (hle : a ≤ c) : d + a + (b + c * M) < lim := by
  rw [Nat.mul_succ] at h
  omega
end
local macro_rules | `(tactic| walk_at "mine_cj") => `(tactic| ((rename _ ∧ _ => h9); first | exact Nat.ne_of_lt h9.1 | exact Nat.ne_of_gt h9.1 | exact Nat.ne_of_lt h9.2 | exact Nat.ne_of_gt h9.2 | exact h9.1 | exact h9.2 | exact h9.1.1 | exact h9.1.2.1 | exact h9.1.2.2 | (replace h9 := h9.2; walk_at "mine_cj")))
local macro_rules | `(tactic| k_ne) => `(tactic| (refine neN ?_; (try dsimp only); first | with_reducible assumption | (refine Ne.symm ?_; with_reducible assumption) | (refine Nat.ne_of_lt ?_; with_reducible assumption) | (refine Nat.ne_of_gt ?_; with_reducible assumption) | walk_at "mine_cj" | (refine Ne.symm ?_; walk_at "mine_cj") | omega))
local macro_rules | `(tactic| walk_at "mine_le") => `(tactic| first | exact room0 (by with_reducible assumption) | exact roomL (by with_reducible assumption) (by decide) | exact roomM (by with_reducible assumption) (by decide) | exact roomI (by with_reducible assumption) | exact unitI (by with_reducible assumption) (by decide) | fail)
local macro_rules | `(tactic| ktr_room) => `(tactic| ((try simp only [depth_under_make, depth_under_kw, depth_in1, depth_deeper, depth_caller]); (try dsimp only [ktrTop]); walk_at "mine_le"))
local macro_rules | `(tactic| ktr_units) => `(tactic| ((try simp only [units_in1, units_deeper, Around.mark_units, units_caller]); (try dsimp only [ktrTop]); walk_at "mine_le"))
local macro_rules | `(tactic| walk_at "mine_kp") => `(tactic| ((rename Fr _ _ _ _ => lF9); exact kp_of (by assumption) lF9))
section
open PySem PySem.W PySem.Spec PySem.Calls PyProof.Rows
set_option Elab.async false
set_option maxRecDepth 100000
set_option maxHeartbeats 0
theorem kp_hid {h₀ s : Heap} {L : Addr} {hid : List (Addr × Obj)} {g h' : Heap} {L' : Addr} {m' : Str → Option Value} (N : News h₀ L s hid) (hg : ∀ b o, s.get? b = some o → b ∉ (hid.map (·.1)) → g.get? b = some o) (F' : Fr g L' h' m')
    (hN : ∀ p ∈ hid, h'.get? p.1 = some p.2) : Kp s h' := fun b o e => by
  by_cases hb : b ∈ hid.map (·.1)
  · obtain ⟨p, hp, rfl⟩ := List.mem_map.mp hb
    rw [(N p hp).1] at e; cases e
    exact hN p hp
  · exact F'.keep b o (hg b o e hb)
/-- all stands as it stood but what lies at a, which is now o' -/
noncomputable def Chg (a : Addr) (o' : Obj) (h h' : Heap) : Prop := KpBut [a] h h' ∧ h'.get? a = some o'
theorem chg_hid {h₀ s : Heap} {L a : Addr} {o' : Obj} {hid : List (Addr × Obj)} {g h' : Heap} {L' : Addr} {m' : Str → Option Value} (N : News h₀ L s hid) (hg : ∀ b o, s.get? b = some o → b ∉ (hid.map (·.1)) → g.get? b = some o) (F' : Fr g L' h' m')
    (ha : h'.get? a = some o') (hN : ∀ p ∈ hid, p.1 = a ∨ h'.get? p.1 = some p.2) : Chg a o' s h' := ⟨fun b o e n => by
  by_cases hb : b ∈ hid.map (·.1)
  · obtain ⟨p, hp, rfl⟩ := List.mem_map.mp hb
    rw [(N p hp).1] at e; cases e
    exact (hN p hp).resolve_left fun q => n (by rw [q]; exact .head _)
  · exact F'.keep b o (hg b o e hb), ha⟩
theorem Chg.fr {h₀ h h' : Heap} {L a : Addr} {o' : Obj} {m : Str → Option Value} (k : Chg a o' h h') (F : Fr h₀ L h m) (h1 : a ≠ L) (h2 : h₀.get? a = none) : Fr h₀ L h' m := by
  obtain ⟨oL, es, ep, hL, r⟩ := F.ns
  exact ⟨⟨oL, es, ep, k.1 _ _ hL (fun q => h1 (List.mem_singleton.mp q).symm), r⟩, fun b o e => k.1 b o (F.keep b o e) (fun q => by rw [List.mem_singleton.mp q, h2] at e; cases e), F.above⟩
theorem Chg.news {h₀ h h' : Heap} {L a : Addr} {o o' : Obj} {news news' : List (Addr × Obj)} (k : Chg a o' h h') (N : News h₀ L h news) (U : Upd a o o' news news') : News h₀ L h' news' := by
  obtain ⟨pre, post, rfl, rfl, x, y⟩ := U.split
  have ha := N (a, o) (by simp)
  intro p hp
  rcases List.mem_append.mp hp with q | q
  · have P := N p (List.mem_append_left _ q)
    exact ⟨k.1 _ _ P.1 (fun z => x p q (List.mem_singleton.mp z)), P.2⟩
  · rcases List.mem_cons.mp q with rfl | q
    · exact ⟨k.2, ha.2⟩
    · have P := N p (List.mem_append_right _ (.tail _ q))
      exact ⟨k.1 _ _ P.1 (fun z => y p q (List.mem_singleton.mp z)), P.2⟩
theorem allm {α : Type} {p : α → Prop} {a : α} {l : List α} (h : p a) (k : ∀ x ∈ l, p x) : ∀ x ∈ a :: l, p x := List.forall_mem_cons.mpr ⟨h, k⟩
end
local macro_rules | `(tactic| walk_at "mine_hid") => `(tactic| (first | exact List.forall_mem_nil _ | (refine allm ?_ ?_; ((rename News _ _ _ _ => lN9); first | exact Or.inl rfl | exact Or.inr (News.get lN9 (by k_mem)) | exact News.get lN9 (by k_mem)); walk_at "mine_hid")))
local macro_rules | `(tactic| walk_at "mine_kph") => `(tactic| ((rename Fr _ _ _ _ => lF9); refine kp_hid (by assumption) (by assumption) lF9 ?_; walk_at "mine_hid"))
local macro_rules | `(tactic| walk_at "mine_chg") => `(tactic| ((rename Fr _ _ _ _ => lF9); (rename News _ _ _ _ => lN8); refine chg_hid (by assumption) (by assumption) lF9 (News.get lN8 (by k_mem)) ?_; walk_at "mine_hid"))
local macro_rules | `(tactic| walk_at "k_one") => `(tactic| (first | (k_unfold; (try dsimp only)) | (k_end; wrow_close) | walk1 | (dsimp only; walk1) | (leave1; walk_say "STEP leave1"; try dsimp only) | fail "no step"))
local macro_rules | `(tactic| walk_at "mine_start") => `(tactic| (intro g L' h₁ eL hg F' N' lN B' X' T'; (try dsimp only); (try k_fold)))
section
open PySem PySem.W PySem.Spec PySem.Calls PyProof.Rows
set_option Elab.async false
set_option maxRecDepth 100000
set_option maxHeartbeats 0
open Builtin.Re

theorem slot_search : Slot "re.Pattern" "search" "re.Pattern.search" :=
  .of (owner := "re.Pattern") (n := "search") (by rw [typeLookup_type, builtinLookup_eq_fast]; kernel_rfl) (by decide +kernel) (by decide +kernel) (by decide +kernel)
    (by first | exact .inl (by decide +kernel) | exact .inr (by decide +kernel)) (by rw [isSubtype_type]; kernel_rfl)
theorem entry_search : entryFor table "re.Pattern.search" = some Builtin.«re.Pattern.search» := entryFor_of_tree (by kernel_rfl)
theorem args_search (a b : Value) : argsOk "re.Pattern.search" ⟨[a, b], []⟩ := by unfold argsOk; kernel_rfl
theorem plain_pat : PlainAttrs "re.Pattern" where
  ga := ⟨"object.__getattribute__", by rw [typeLookup_type, builtinLookup_eq_fast]; kernel_rfl, by decide +kernel⟩
  noGetattr := by rw [typeLookup_type, builtinLookup_eq_fast]; kernel_rfl
theorem ty_search : typeOf (.builtin "re.Pattern.search") = pure (.type "method_descriptor") := by show builtinType _ = _; rw [builtinType_eq_fast]; kernel_rfl

/-- a text of plain signs alone -/
noncomputable def Safe (x : Str) : Prop := ∀ c ∈ x.cps.toList, 32 ≤ c ∧ c ≤ 126

noncomputable abbrev codeN : Array Nat := #[14, 10, 4, 1, 1, 22, 0, 31, 16, 127, 0, 13, 7, 22, 0, 31, 16, 127, 0, 1]
noncomputable abbrev codeV : Array Nat := #[14, 14, 4, 1, 1, 9, 4294966783, 0, 0, 2147483648, 0, 0, 0, 0, 0, 13, 11, 9, 4294966783, 0, 0, 2147483648, 0, 0, 0, 0, 0, 1]

theorem inSetN {c : Nat} (h : 32 ≤ c ∧ c ≤ 126) (seen : Sre.Seen) : ∃ s', Sre.inSet codeN c 20 5 true seen = .ok (false, s') := by
  have e1 : ¬ c ≤ 31 := by omega
  have e2 : (c == 127) = false := by simp; omega
  simp [Sre.inSet, Sre.ops, e1, e2]
theorem bit_big (c : Nat) (h : 32 ≤ c ∧ c ≤ 126) : (codeV.getD (5 + (1 + c / 32)) 0).testBit (c % 32) = false := by
  have : ∀ c : Fin 127, 32 ≤ c.val → (codeV.getD (5 + (1 + c.val / 32)) 0).testBit (c.val % 32) = false := by decide +kernel
  exact this ⟨c, by omega⟩ h.1
theorem inSetV {c : Nat} (h : 32 ≤ c ∧ c ≤ 126) (seen : Sre.Seen) : ∃ s', Sre.inSet codeV c 28 5 true seen = .ok (false, s') := by
  have e := bit_big c h
  have e2 : ∃ s', Sre.inSet codeV c 27 (5 + 9) true (seen.add 9) = .ok (false, s') := ⟨(seen.add 9).add 0, rfl⟩
  obtain ⟨s', e2⟩ := e2
  refine ⟨s', ?_⟩
  have e3 : Sre.inSet codeV c 28 5 true seen = if (decide (c < 256) && (codeV.getD (5 + (1 + c / 32)) 0).testBit (c % 32)) = true then .ok (true, seen.add 9) else Sre.inSet codeV c 27 (5 + 9) true (seen.add 9) := rfl
  rw [e3, e, Bool.and_false, if_neg Bool.false_ne_true]
  exact e2

theorem admitted_none {m : Sre.M} (h : ∀ c, 32 ≤ c ∧ c ≤ 126 → ∀ seen, ∃ s', Sre.inSet m.code c m.code.size 5 true seen = .ok (false, s')) (hx : ∀ c ∈ m.text.toList, 32 ≤ c ∧ c ≤ 126) (hl : m.lim = m.text.size) :
    ∀ (fuel s : Nat) (seen : Sre.Seen), ∃ s', Sre.M.admitted m fuel s seen = .ok (none, s')
  | 0, _, seen => ⟨seen, rfl⟩
  | fuel + 1, s, seen => by
    unfold Sre.M.admitted
    by_cases hs : s ≥ m.lim
    · rw [if_pos hs]; exact ⟨seen, rfl⟩
    · rw [if_neg hs]
      have hlt : s < m.text.size := by omega
      have hc : m.text.getD s 0 ∈ m.text.toList := by
        rw [Array.getD_eq_getD_getElem?, Array.getElem?_eq_getElem hlt]; simp
      obtain ⟨s1, e1⟩ := h _ (hx _ hc) seen
      rw [e1]
      exact admitted_none h hx hl fuel (s + 1) s1

theorem from_none {m : Sre.M} {code : Array Nat} (hm : m.code = code) (hf : m.answer = none ∧ m.outcome = none ∧ m.frames = []) (hc : code = codeN ∨ code = codeV) (hx : ∀ c ∈ m.text.toList, 32 ≤ c ∧ c ≤ 126) (hl : m.lim = m.text.size) (s : Nat) (first : Bool) :
    (m.attemptFrom s first).outcome = none ∧ (m.attemptFrom s first).answer = some false ∧ (m.attemptFrom s first).frames = [] := by
  have hfs : m.hasFirstSet = true := by
    unfold Sre.M.hasFirstSet; rw [hm]
    rcases hc with rfl | rfl <;> rfl
  have hall : ∀ c, 32 ≤ c ∧ c ≤ 126 → ∀ seen, ∃ s', Sre.inSet m.code c m.code.size 5 true seen = .ok (false, s') := by
    intro c h seen; rw [hm]
    rcases hc with rfl | rfl
    · exact inSetN h seen
    · exact inSetV h seen
  obtain ⟨s', e⟩ := admitted_none hall hx hl (m.lim + 1 - s) s m.seen
  unfold Sre.M.attemptFrom
  rw [hfs, if_neg (by decide), e]
  exact ⟨hf.2.1, rfl, hf.2.2⟩

theorem search_none {code : Array Nat} {x : Array Nat} (hc : code = codeN ∨ code = codeV) (hx : ∀ c ∈ x.toList, 32 ≤ c ∧ c ≤ 126) :
    (Sre.forSearch code x 0 0 x.size false).outcome = none ∧ (Sre.forSearch code x 0 0 x.size false).answer = some false ∧ (Sre.forSearch code x 0 0 x.size false).frames = [] := by
  unfold Sre.forSearch
  dsimp only
  split
  · exact ⟨rfl, rfl, rfl⟩
  · exact from_none rfl ⟨rfl, rfl, rfl⟩ hc hx rfl 0 true

theorem runFor_fails {m : Sre.M} (h1 : m.outcome = none) (h2 : m.answer = some false) (h3 : m.frames = []) : (m.runFor 4).outcome = some .failed := by
  have e : m.step = { m with outcome := some .failed } := by
    unfold Sre.M.step
    rw [h1, if_neg (by decide), h2, h3]; rfl
  have f : ∀ n (q : Sre.M), q.outcome = some .failed → (q.runFor n).outcome = some .failed := by
    intro n q hq
    cases n with
    | zero => exact hq
    | succ n => unfold Sre.M.runFor; rw [if_pos (by rw [hq]; rfl)]; exact hq
  unfold Sre.M.runFor
  rw [h1, if_neg (by decide), e]
  exact f _ _ rfl

section
variable {M : Model} {A : Around} {E : Value → Shared → Prop} {s : Shared}
theorem wp_ruleLoop {α : Type} {c : α → Bool} {tag : α → String} : ∀ (l : List α) {Q : PUnit → Shared → Prop} (_h : Q ⟨⟩ s),
    wpAny M A (forIn l PUnit.unit fun i _ => (if c i = true then (rule (tag i) >>= fun _ => pure (ForInStep.yield PUnit.unit)) else pure (ForInStep.yield PUnit.unit) : Sem (ForInStep PUnit))) Q E s
  | [], Q, h => wpAny_pure h
  | a :: l, Q, h => by
    rw [List.forIn_cons]
    refine wpAny_bind ?_
    cases hc : c a with
    | true => 
      simp only [if_true]
      exact wpAny_bind (wpAny_rule (wpAny_pure (wp_ruleLoop l h)))
    | false =>
      simp only [Bool.false_eq_true, if_false]
      exact wpAny_pure (wp_ruleLoop l h)

theorem wp_runToEnd {m : Sre.M} {Q : Option Sre.M → Shared → Prop} (h1 : m.outcome = none) (h2 : m.answer = some false) (h3 : m.frames = []) (h : Q none s) : wpAny M A (reRunToEnd m) Q E s := by
  have hf := runFor_fails h1 h2 h3
  unfold reRunToEnd
  have hd : reDrive (2 ^ 64) m = pure (m.runFor 4) := by
    rw [show (2 : Nat) ^ 64 = 18446744073709551615 + 1 from by decide]
    unfold reDrive
    rw [show reTurnSteps = 4 from rfl]
    dsimp only
    rw [if_pos (by rw [hf]; rfl)]
  rw [hd]
  refine wpAny_bind (wpAny_pure ?_)
  refine wpAny_bind (wp_ruleLoop _ ?_)
  rw [hf]
  exact wpAny_pure h

theorem reNamed1 (v : Value) : reNamed "re.Pattern.search" "search" ["string", "pos", "endpos"] 1 [v] [] = pure [some v, none, none] := by
  rfl

theorem search_run {prog : Program} {w : World} {K : Frag} {p tc : Addr} {a b p3 p4 : Value} {u n : Tok} {sl tsl : Array (Option Value)} {tcls : Value} {td : Option Addr} {code : Array Value} {nn : Nat} {x : Str} {t : Tok} {Q : Value → Shared → Prop} (X : K.In s.heap)
    (h1 : K.lookup p = some ⟨.type "re.Pattern", none, .fields #[a, b, .int 0 u, p3, p4, .ref tc, .int 0 n], sl⟩) (h2 : K.lookup tc = some ⟨tcls, td, .seq code nn, tsl⟩)
    (h3 : (code.map reRawOf).map (·.toNat) = codeN ∨ (code.map reRawOf).map (·.toNat) = codeV) (hx : Safe x) (hs : x.cps.size ≤ 1000000) (h : Q .none s) :
    wpAny (model prog w) A (call (.builtin "re.Pattern.search") [.ref p, .str x t]) Q E s := by
  have g1 := X _ _ h1
  have g2 := X _ _ h2
  refine wpAny_call (codeAny_call_builtin slot_search.plain entry_search (slot_search.check _ _ _ _ _ _ _ _ ⟨_, g1, rfl⟩ (args_search _ _) ?_))
  unfold Builtin.«re.Pattern.search»
  refine wpAny_bind ?_
  unfold reTarget
  dsimp only
  rw [reNamed1]
  refine wpAny_bind (wpAny_pure ?_)
  refine wpAny_bind (wpAny_pure ?_)
  refine wpAny_bind (wpAny_pure ?_)
  refine wpAny_bind (wpAny_bind (wpAny_load g1 (wpAny_pure ?_)))
  refine wpAny_bind (wpAny_bind (wpAny_pure (wpAny_pure ?_)))
  dsimp only
  have f6 : (#[a, b, .int 0 u, p3, p4, .ref tc, .int 0 n] : Array Value).getD 6 .none = .int 0 n := rfl
  have f5 : (#[a, b, .int 0 u, p3, p4, .ref tc, .int 0 n] : Array Value).getD 5 .none = .ref tc := rfl
  have f2 : (#[a, b, .int 0 u, p3, p4, .ref tc, .int 0 n] : Array Value).getD 2 .none = .int 0 u := rfl
  rw [f6, f5, f2, show reRawNat (.int 0 n) = 0 from rfl, if_neg (show ¬ ((0 == 0 && 0 == 1) = true) from by decide), if_neg (show ¬ ((0 == 1 && 0 == 0) = true) from by decide)]
  refine wpAny_bind (wpAny_pure ?_)
  refine wpAny_bind (wpAny_bind (wpAny_bind (wpAny_load g2 (wpAny_pure (wpAny_pure ?_)))))
  refine wpAny_pure ?_
  dsimp only
  have el : min ((2 : Int) ^ 63 - 1).toNat x.cps.size = x.cps.size := by
    have : ((2 : Int) ^ 63 - 1).toNat = 9223372036854775807 := by decide
    rw [this]; omega
  rw [el, show min (Int.toNat 0) x.cps.size = 0 from Nat.zero_min _]
  have q := search_none h3 hx
  unfold reAnswer
  exact wpAny_bind (wp_runToEnd q.1 q.2.1 q.2.2 (wpAny_pure h))
theorem method_search {prog : Program} {w : World} {K : Frag} {p : Addr} {d : Data} {sl : Array (Option Value)} {pl : Sem Bool} {Q : Value × List Value → Shared → Prop} (X : K.In s.heap)
    (h1 : K.lookup p = some ⟨.type "re.Pattern", none, d, sl⟩) (h : Q (.builtin "re.Pattern.search", [.ref p]) s) :
    wpAny (model prog w) A (getMethod (.ref p) "search" pl) Q E s :=
  getMethod_builtin (T := "re.Pattern") ⟨_, X _ _ h1, rfl⟩ plain_pat slot_search ty_search (fun a e => by cases e; exact ⟨_, X _ _ h1, rfl⟩) h
end
end
section
open PySem PySem.W PySem.Spec PySem.Calls PyProof.Rows
set_option Elab.async false
set_option maxRecDepth 100000
set_option maxHeartbeats 0
open Builtin.Re
theorem search_142 {w : World} {A : Around} {E : Value → Shared → Prop} {s : Shared} {x : Str} {t : Tok} {Q : Value → Shared → Prop} {prog : Program} (X : (kk.heap_1 w.params).In s.heap)
    (hx : Safe x) (hs : x.cps.size ≤ 1000000) (h : Q .none s) : wpAny (model prog w) A (call (.builtin "re.Pattern.search") [.ref 142, .str x t]) Q E s :=
  search_run (p := 142) (tc := 141) X rfl rfl (.inl (by decide +kernel)) hx hs h
theorem search_147 {w : World} {A : Around} {E : Value → Shared → Prop} {s : Shared} {x : Str} {t : Tok} {Q : Value → Shared → Prop} {prog : Program} (X : (kk.heap_1 w.params).In s.heap)
    (hx : Safe x) (hs : x.cps.size ≤ 1000000) (h : Q .none s) : wpAny (model prog w) A (call (.builtin "re.Pattern.search") [.ref 147, .str x t]) Q E s :=
  search_run (p := 147) (tc := 146) X rfl rfl (.inr (by decide +kernel)) hx hs h
end
section
open PySem PySem.W PySem.Spec PySem.Calls PyProof.Rows
set_option Elab.async false
set_option maxRecDepth 100000
set_option maxHeartbeats 0
open Builtin Builtin.List

noncomputable abbrev accObj (d : Addr) (vs : List Value) (n : Nat) : Obj := ⟨.ref 128, some d, .seq vs.toArray n, #[]⟩
theorem accInst {h₀ h : Heap} {L x dx : Addr} {news : List (Addr × Obj)} {od : Obj} {vs : List Value} {n : Nat} (N : News h₀ L h news) (h1 : (x, accObj dx vs n) ∈ news) (h2 : (dx, od) ∈ news) :
    InstAt h x (accObj dx vs n) 128 (some od) := ⟨(N _ h1).1, rfl, rfl, (N _ h2).1⟩

section
variable {prog : Program} {w : World} {A : Around} {E : Value → Shared → Prop} {s : Shared} {K : Frag} {x C L : Addr} {h₀ : Heap} {m : Str → Option Value} {ox : Obj} {od : Option Obj} {name : Str}

theorem canon_list_ga : (Manifest.canonical "list.__getattribute__" != "object.__getattribute__") = false := by decide +kernel
/-- a method, of the class itself or of its built-in base -/
theorem method_list {M : Model} {f : Value} {pl : Sem Bool} {Q : Value × List Value → Shared → Prop} (X : K.In s.heap) (I : InstAt s.heap x ox C od) (hga : findIn K (.ref C) "__getattribute__" = some (some (.builtin "list.__getattribute__"))) (hk : findIn K (.ref C) "__getattr__" = some none)
    (hf : findIn K (.ref C) name = some (some f)) (ht : typeIn K f = some (.type "method_descriptor") ∨ typeIn K f = some (.type "function")) (hs : shadowIn od name = some false) (h : Q (f, [.ref x]) s) :
    wpAny M A (getMethod (.ref x) name pl) Q E s := by
  unfold getMethod specialOf
  refine wpAny_bind (wpAny_bind (I.type.here ((looks_findIn X hga).here ?_)))
  dsimp only
  rw [canon_list_ga, if_neg (by decide)]
  refine wpAny_bind (wpAny_bind (I.type.here ((looks_findIn X hk).here ?_)))
  refine wpAny_bind (wpAny_bind (I.type.here ((looks_findIn X hf).here ?_)))
  have tl : wpAny M A (do
      if let some d := (← loadPart x (some headPart)).dict then
        if (← nsGet d name).isSome then return (← getAttr (.ref x) name, ([] : List Value))
      rule "call.method-form"
      return (f, [.ref x])) Q E s := by
    refine wpAny_bind (wpAny_loadPart I.at_ ?_)
    have hd := I.dict
    cases e : ox.dict with
    | none => exact wpAny_bind (wpAny_rule (wpAny_pure h))
    | some dx =>
      cases od with
      | none => rw [e] at hd; exact hd.elim
      | some o =>
        rw [e] at hd
        obtain ⟨r, a, b⟩ := Option.map_eq_some_iff.mp hs
        refine wpAny_bind (wpAny_bind (wpAny_loadPart hd ?_))
        rw [nsLook_of a]
        refine wpAny_pure ?_
        rw [b]
        exact wpAny_bind (wpAny_rule (wpAny_pure h))
  rcases ht with ht | ht
  all_goals
    refine wpAny_bind ((looks_typeIn X ht).here ?_)
    rw [if_neg (by decide +kernel)]
    exact tl

/-- the check of a built-in method's or slot's self -/
theorem check_any {M : Model} {i owner n : String} {self : Value} {rest : List Value} {kw : List (Str × Value)} {Q : Unit → Shared → Prop}
    (hk : builtinKind i = some .slot ∨ builtinKind i = some .method) (hs : splitId i = some (owner, n)) (hi : Looks M s.heap (isInstance self (.type owner)) true) (ha : argsOk i ⟨self :: rest, kw⟩) (q : Q () s) :
    wpAny M A (checkBuiltinCall i ⟨self :: rest, kw⟩) Q E s := by
  rcases hk with hk | hk
  all_goals
    simp only [checkBuiltinCall, hk, hs]
    refine wpAny_bind (hi.here ?_)
    simp only [Bool.not_true, Bool.false_eq_true, if_false]
    cases hsig : Manifest.signature? i with
    | none => exact wpAny_pure q
    | some sig =>
      simp only [argsOk, hsig] at ha
      have h2 : Bind.checkArgs i sig ⟨self :: rest, kw⟩ = pure () := ha
      show wpAny M A (Bind.checkArgs i sig ⟨self :: rest, kw⟩) Q E s
      rw [h2]; exact wpAny_pure q
end

section
variable {w : World}
theorem ka_list : mroIn (kk.heap_1 w.params) 128 (.type "list") = some true := by kernel_rfl
theorem ka_module : mroIn (kk.heap_1 w.params) 128 (.type "module") = some false := by kernel_rfl
theorem ka_append : findIn (kk.heap_1 w.params) (.ref 128) "append" = some (some (.builtin "list.append")) := by kernel_rfl
theorem ka_ga : findIn (kk.heap_1 w.params) (.ref 128) "__getattribute__" = some (some (.builtin "list.__getattribute__")) := by kernel_rfl
theorem ka_sa : findIn (kk.heap_1 w.params) (.ref 128) "__setattr__" = some (some (.builtin "object.__setattr__")) := by kernel_rfl
theorem ka_gat : findIn (kk.heap_1 w.params) (.ref 128) "__getattr__" = some none := by kernel_rfl
theorem ka_sup_pop : ks_superIn (kk.heap_1 w.params) 128 128 "pop" = some (some (.builtin "list.pop")) := by kernel_rfl
theorem ka_sup_len : ks_superIn (kk.heap_1 w.params) 128 128 "__len__" = some (some (.builtin "list.__len__")) := by kernel_rfl
theorem ka_sup_init : ks_superIn (kk.heap_1 w.params) 128 128 "__init__" = some (some (.builtin "list.__init__")) := by kernel_rfl
theorem ka_cls : ∃ cd, clsIn (kk.heap_1 w.params) 128 = some cd ∧ cd.mro = [.ref 128, .type "list", .type "object"] ∧ cd.hasDict = true ∧ cd.qualname = Str.ofString "_Accumulator" ∧ cd.hasDel = false ∧ cd.abstract = false := by
  cases e : clsIn (kk.heap_1 w.params) 128 with
  | none => exact absurd (show (clsIn (kk.heap_1 w.params) 128).isSome = true by kernel_rfl) (by rw [e]; decide)
  | some cd =>
    have f1 : (clsIn (kk.heap_1 w.params) 128).map (·.mro) = some [.ref 128, .type "list", .type "object"] := by kernel_rfl
    have f2 : (clsIn (kk.heap_1 w.params) 128).map (·.hasDict) = some true := by kernel_rfl
    have f3 : (clsIn (kk.heap_1 w.params) 128).map (·.qualname) = some (Str.ofString "_Accumulator") := by kernel_rfl
    have f4 : (clsIn (kk.heap_1 w.params) 128).map (·.hasDel) = some false := by kernel_rfl
    have f5 : (clsIn (kk.heap_1 w.params) 128).map (·.abstract) = some false := by kernel_rfl
    rw [e] at f1 f2 f3 f4 f5
    exact ⟨cd, rfl, Option.some.inj f1, Option.some.inj f2, Option.some.inj f3, Option.some.inj f4, Option.some.inj f5⟩
theorem ka_typ : typeIn (kk.heap_1 w.params) (.ref 128) = some (.type "type") := by kernel_rfl
theorem ka_third : nsIn (kk.heap_1 w.params) cStatics "thirdparty.any" = some none := by kernel_rfl
theorem ty_append : typeIn (kk.heap_1 w.params) (.builtin "list.append") = some (.type "method_descriptor") := by kernel_rfl
end

section
variable {w : World} {prog : Program} {A : Around} {E : Value → Shared → Prop} {s : Shared} {x L pa pd : Addr} {h₀ : Heap} {m : Str → Option Value} {vs : List Value} {n : Nat} {news news' : List (Addr × Obj)}

theorem acc_isList {M : Model} {h : Heap} {ox : Obj} {od : Option Obj} (X : (kk.heap_1 w.params).In h) (I : InstAt h pa ox 128 od) : Looks M h (isInstance (.ref pa) (.type "list")) true :=
  I.type.andThen (looks_mroIn X ka_list)

theorem acc_append {v : Value} {Q : Value → Shared → Prop} {od : Option Obj} (X : (kk.heap_1 w.params).In s.heap) (F : Fr h₀ L s.heap m) (N : News h₀ L s.heap news) (I : InstAt s.heap pa (accObj pd vs n) 128 od)
    (U : Upd pa (accObj pd vs n) (accObj pd (vs ++ [v]) (n + 1)) news news') (hsz : vs.length ≤ 1000)
    (h : ∀ h', Fr h₀ L h' m → News h₀ L h' news' → Q .none { s with heap := h' }) :
    wpAny (model prog w) A (call (.builtin "list.append") [.ref pa, v]) Q E s := by
  obtain ⟨pre, post, rfl, rfl, a, b⟩ := U.split
  have hsl : vs.toArray.size ≤ sizeLine := by rw [sizeLine_eq, List.size_toArray]; omega
  have hz' : (vs.toArray.push v).size ≤ sizeLine + 1 := by rw [Array.size_push]; omega
  obtain ⟨F', N'⟩ := news_upd (f := Obj.mapSeq (·.push v)) F N a b (o' := accObj pd (vs ++ [v]) (n + 1)) (by simp [Obj.mapSeq, accObj]) rfl
  refine wpAny_call (codeAny_call_builtin (by decide +kernel) PySem.F.entry_list_append (check_any (owner := "list") (n := "append") (.inr (by decide +kernel)) (by decide +kernel) (acc_isList X I) (PySem.F.args_list_append_2 _ _) ?_))
  unfold Builtin.«list.append»
  refine wpAny_bind (wpAny_pure ?_)
  refine wpAny_bind (wpAny_updateSeq I.at_ rfl ?_ hsl hz')
  exact wpAny_pure (h _ F' N')
end
end
section
open PySem PySem.W PySem.Spec PySem.Calls PyProof.Rows
set_option Elab.async false
set_option maxRecDepth 100000
set_option maxHeartbeats 0
open Builtin Builtin.List
theorem slot_md_get : Slot "method_descriptor" "__get__" "method_descriptor.__get__" :=
  .of (owner := "method_descriptor") (n := "__get__") (by rw [typeLookup_type, builtinLookup_eq_fast]; kernel_rfl) (by decide +kernel) (by decide +kernel) (by decide +kernel)
    (by first | exact .inl (by decide +kernel) | exact .inr (by decide +kernel)) (by rw [isSubtype_type]; kernel_rfl)
theorem slot_wd_get : Slot "wrapper_descriptor" "__get__" "wrapper_descriptor.__get__" :=
  .of (owner := "wrapper_descriptor") (n := "__get__") (by rw [typeLookup_type, builtinLookup_eq_fast]; kernel_rfl) (by decide +kernel) (by decide +kernel) (by decide +kernel)
    (by first | exact .inl (by decide +kernel) | exact .inr (by decide +kernel)) (by rw [isSubtype_type]; kernel_rfl)
theorem entry_md_get : entryFor table "method_descriptor.__get__" = some Builtin.«method_descriptor.__get__» := entryFor_of_tree (by kernel_rfl)
theorem entry_wd_get : entryFor table "wrapper_descriptor.__get__" = some Builtin.«wrapper_descriptor.__get__» := entryFor_of_tree (by kernel_rfl)
theorem args_md_get (a b c : Value) : argsOk "method_descriptor.__get__" ⟨[a, b, c], []⟩ := by unfold argsOk; kernel_rfl
theorem args_wd_get (a b c : Value) : argsOk "wrapper_descriptor.__get__" ⟨[a, b, c], []⟩ := by unfold argsOk; kernel_rfl
theorem ty_pop : typeOf (.builtin "list.pop") = pure (.type "method_descriptor") := by show builtinType _ = _; rw [builtinType_eq_fast]; kernel_rfl
theorem ty_len : typeOf (.builtin "list.__len__") = pure (.type "wrapper_descriptor") := by show builtinType _ = _; rw [builtinType_eq_fast]; kernel_rfl
theorem ty_init : typeOf (.builtin "list.__init__") = pure (.type "wrapper_descriptor") := by show builtinType _ = _; rw [builtinType_eq_fast]; kernel_rfl

theorem own_pop : ".".intercalate ("list.pop".cutAt '.').dropLast = "list" := by decide +kernel
theorem own_len : ".".intercalate ("list.__len__".cutAt '.').dropLast = "list" := by decide +kernel
theorem own_init : ".".intercalate ("list.__init__".cutAt '.').dropLast = "list" := by decide +kernel
section
variable {prog : Program} {w : World} {A : Around} {E : Value → Shared → Prop} {h : Heap} {g : Array GenState} {d : Drawn} {t : Nat} {os : OsState} {pa pd : Addr} {vs : List Value} {n : Nat} {Q : Value → Shared → Prop}
theorem get_pop (X : (kk.heap_1 w.params).In h) (hx : h.get? pa = some (accObj pd vs n))
    (hq : Q (.ref h.objs.size) ⟨h.push { cls := .type "builtin_function_or_method", data := .fields #[.builtin "list.pop", .ref pa] }, g, d, t, os⟩) :
    wpAny (model prog w) A (call (.builtin "method_descriptor.__get__") [.builtin "list.pop", .ref pa, .ref 128]) Q E ⟨h, g, d, t, os⟩ := by
  refine wpAny_call (codeAny_call_builtin slot_md_get.plain entry_md_get (slot_md_get.check _ _ _ _ _ _ _ _ ty_pop (args_md_get _ _ _) ?_))
  have hs : Looks (model prog w) h (isSubtype (.ref 128) (.type (".".intercalate ("list.pop".cutAt '.').dropLast))) true := by rw [own_pop]; exact looks_mroIn X ka_list
  unfold Builtin.«method_descriptor.__get__»
  repeat (first | (with_reducible refine Looks.at hs ?_) | lk)
  exact hq
theorem get_wd {id : String} (X : (kk.heap_1 w.params).In h) (hx : h.get? pa = some (accObj pd vs n)) (ty : typeOf (.builtin id) = pure (.type "wrapper_descriptor")) (own : ".".intercalate (id.cutAt '.').dropLast = "list")
    (hq : Q (.ref h.objs.size) ⟨h.push { cls := .type "method-wrapper", data := .fields #[.builtin id, .ref pa] }, g, d, t, os⟩) :
    wpAny (model prog w) A (call (.builtin "wrapper_descriptor.__get__") [.builtin id, .ref pa, .ref 128]) Q E ⟨h, g, d, t, os⟩ := by
  refine wpAny_call (codeAny_call_builtin slot_wd_get.plain entry_wd_get (slot_wd_get.check _ _ _ _ _ _ _ _ ty (args_wd_get _ _ _) ?_))
  have hs : Looks (model prog w) h (isSubtype (.ref 128) (.type (".".intercalate (id.cutAt '.').dropLast))) true := by rw [own]; exact looks_mroIn X ka_list
  unfold Builtin.«wrapper_descriptor.__get__»
  repeat (first | (with_reducible refine Looks.at hs ?_) | lk)
  exact hq

theorem look_get_md : typeLookup (.type "method_descriptor") "__get__" = pure (some (.builtin "method_descriptor.__get__")) := slot_md_get.lookup
theorem look_get_wd : typeLookup (.type "wrapper_descriptor") "__get__" = pure (some (.builtin "wrapper_descriptor.__get__")) := slot_wd_get.lookup

/-- super().name of an accumulator: the base's own, bound -/
theorem super_ga {so : Addr} {name : Str} {tk : Tok} {id dt bt gid : String} {Q : Fin → Shared → Prop} (X : (kk.heap_1 w.params).In h) (hx : h.get? pa = some (accObj pd vs n)) (hso : h.get? so = some (ks_superObj 128 pa 128))
    (hn : (name == ("__class__" : Str)) = false) (hf : ks_superIn (kk.heap_1 w.params) 128 128 name = some (some (.builtin id))) (ht : typeOf (.builtin id) = pure (.type dt)) (hl : typeLookup (.type dt) "__get__" = pure (some (.builtin gid)))
    (hne : pa ≠ 128)
    (hg : ∀ Q : Value → Shared → Prop, Q (.ref h.objs.size) ⟨h.push { cls := .type bt, data := .fields #[.builtin id, .ref pa] }, g, d, t, os⟩ → wpAny (model prog w) A (call (.builtin gid) [.builtin id, .ref pa, .ref 128]) Q E ⟨h, g, d, t, os⟩)
    (hq : Q (.done (.ret (.ref h.objs.size))) ⟨h.push { cls := .type bt, data := .fields #[.builtin id, .ref pa] }, g, d, t, os⟩) :
    wpAny (model prog w) A (Builtin.«super.__getattribute__» ⟨[.ref so, .str name tk], []⟩) Q E ⟨h, g, d, t, os⟩ := by
  obtain ⟨cd, hc, hm, -⟩ := ka_cls (w := w)
  have hC : Looks (model prog w) h (mroOf (.ref 128)) cd.mro := (looks_clsIn X hc).andThen .now
  have hno := looks_opaque (M := model prog w) (C := 128) X ka_third
  have ha : alongIn (kk.heap_1 w.params) name [.type "list", .type "object"] = some (some (.builtin id)) := by
    unfold ks_superIn at hf
    rw [hc, Option.bind_some, hm] at hf
    exact hf
  have hne2 : (Value.ref pa == Value.ref 128) = false := by simp [hne]
  have hdt : (ks_superObj 128 pa 128).data = .fields #[.ref 128, .ref pa, .ref 128] := rfl
  have f0 : (#[.ref 128, .ref pa, .ref 128] : Array Value)[0]? = some (.ref 128) := rfl
  have f1 : (#[.ref 128, .ref pa, .ref 128] : Array Value)[1]? = some (.ref pa) := rfl
  have f2 : (#[.ref 128, .ref pa, .ref 128] : Array Value)[2]? = some (.ref 128) := rfl
  unfold Builtin.«super.__getattribute__»
  repeat (first
    | (with_reducible refine wpAny_field hso hdt f0 ?_) | (with_reducible refine wpAny_field hso hdt f1 ?_) | (with_reducible refine wpAny_field hso hdt f2 ?_)
    | (with_reducible refine ks_wpAny_notOpaque hno ?_)
    | (with_reducible refine Looks.at hC ?_; rw [hm])
    | (refine ks_forIn_along X (fun _ _ => rfl) rfl ?_ ha)
    | (simp only [hn, hne2, Bool.or_false, Bool.false_eq_true, if_false])
    | (with_reducible refine hg _ ?_)
    | wp_step
    | dsimp only)
  exact hq

theorem super_getMethod {so : Addr} {name : Str} {id dt bt gid : String} {pl : Sem Bool} {Q : Value × List Value → Shared → Prop} (X : (kk.heap_1 w.params).In h) (hx : h.get? pa = some (accObj pd vs n)) (hso : h.get? so = some (ks_superObj 128 pa 128))
    (hn : (name == ("__class__" : Str)) = false) (hf : ks_superIn (kk.heap_1 w.params) 128 128 name = some (some (.builtin id))) (ht : typeOf (.builtin id) = pure (.type dt)) (hl : typeLookup (.type dt) "__get__" = pure (some (.builtin gid)))
    (hg : ∀ (A : Around) (E : Value → Shared → Prop) (Q : Value → Shared → Prop), Q (.ref h.objs.size) ⟨h.push { cls := .type bt, data := .fields #[.builtin id, .ref pa] }, g, d, t + 1, os⟩ → wpAny (model prog w) A (call (.builtin gid) [.builtin id, .ref pa, .ref 128]) Q E ⟨h, g, d, t + 1, os⟩)
    (hq : Q (.ref h.objs.size, []) ⟨h.push { cls := .type bt, data := .fields #[.builtin id, .ref pa] }, g, d, t + 1, os⟩) :
    wpAny (model prog w) A (getMethod (.ref so) name pl) Q E ⟨h, g, d, t, os⟩ := by
  have hne : pa ≠ 128 := by
    rintro rfl
    have e : (kk.heap_1 w.params).lookup 128 = some _ := rfl
    have := X _ _ e
    rw [hx] at this; cases this
  have hlk := F.ks_slot_super_ga.lookup
  have hT : ∀ t', (⟨h, g, d, t', os⟩ : Shared).TypeIs (.ref so) "super" := fun _ => ⟨_, hso, rfl⟩
  unfold getMethod
  refine wpAny_bind (wpAny_specialOf (hT _) hlk ?_)
  show wpAny _ _ (if (Manifest.canonical "super.__getattribute__" != "object.__getattribute__") = true then _ else _) _ _ _
  rw [if_pos F.ks_canon_super_ga]
  unfold getAttr getAttrBy
  refine wpAny_bind (wpAny_bind (wpAny_mkText (wpAny_holding (wpAny_bind (wpAny_typeOf (hT _) (wpAny_bind (wpAny_of_eq hlk ?_)))))))
  show wpAny _ _ (getAttrByItsOwn (.ref so) (.str name t) (.type "super") (.builtin "super.__getattribute__") true false) _ _ _
  unfold getAttrByItsOwn hookBefore callGetattribute boundAndCalled
  refine wpAny_bind (wpAny_of_eq (show (if onTheHeap (.type "super") then typeLookup (.type "super") "__getattr__" else pure none) = pure none from rfl) ?_)
  refine wpAny_bind (wpAny_attempt (wpAny_holding ?_))
  show wpAny _ _ (bindSpecial (.builtin "super.__getattribute__") (.ref so) >>= _) _ _ _
  refine wpAny_bind (wpAny_of_eq (F.ks_slot_super_ga.bind _) ?_)
  refine wpAny_mono (Q := fun v s' => v = .ref h.objs.size ∧ s' = ⟨h.push { cls := .type bt, data := .fields #[.builtin id, .ref pa] }, g, d, t + 1, os⟩) (E := fun _ _ => False)
    (wpAny_call_entry F.ks_slot_super_ga (hT _) F.ks_entry_super_ga (super_ga X hx hso hn hf ht hl hne (fun Q h => hg _ _ Q h) ⟨_, rfl, rfl, rfl⟩) (F.ks_gaArgs_super _ _)) (fun v s' hv => ?_) fun _ _ z => z.elim
  obtain ⟨rfl, rfl⟩ := hv
  exact wpAny_pure (wpAny_pure hq)

theorem acc_notModule (X : (kk.heap_1 w.params).In h) (hx : h.get? pa = some (accObj pd vs n)) : Looks (model prog w) h (isInstance (.ref pa) (.type "module")) false :=
  ((Looks.ld (part := some headPart) hx).andThen .now).andThen (looks_mroIn X ka_module)
theorem chk_pop : (match Manifest.signature? "list.pop" with | some sig => some (Bind.checkArgs "list.pop" { sig with full := s!"{(Str.ofString "_Accumulator").toString}.{Bind.lastOf "list.pop"}" } ⟨[.ref pa], []⟩) | none => none) = some (pure ()) := by kernel_rfl

theorem bound_pop_check {Q : Unit → Shared → Prop} (X : (kk.heap_1 w.params).In h) (hx : h.get? pa = some (accObj pd vs n)) (hq : Q () ⟨h, g, d, t, os⟩) :
    wpAny (model prog w) A (checkBoundCall "list.pop" ⟨[.ref pa], []⟩) Q E ⟨h, g, d, t, os⟩ := by
  obtain ⟨cd, hc, hm, -, hqn, -⟩ := ka_cls (w := w)
  have L1 := acc_notModule (prog := prog) X hx
  have L2 : Looks (model prog w) h (isType (.ref pa)) false := fun A Q E s k q => wpAny_bind (wpAny_loadPart (k _ _ hx) (wpAny_pure q))
  have L3 : Looks (model prog w) h (typeOf (.ref pa)) (.ref 128) := (Looks.ld (part := some headPart) hx).andThen .now
  have L4 : Looks (model prog w) h (classData 128) cd := looks_clsIn X hc
  have L5 : Looks (model prog w) h (typeOf (.ref 128)) (.type "type") := looks_typeIn X ka_typ
  unfold checkBoundCall
  have ck := chk_pop (pa := pa)
  cases hsig : Manifest.signature? "list.pop" with
  | none => exact wpAny_pure hq
  | some sig =>
    rw [hsig] at ck
    have ck' := Option.some.inj ck
    dsimp only
    rw [show builtinKind "list.pop" = some .method from by decide +kernel]
    dsimp only
    rw [if_neg (by decide)]
    refine wpAny_bind (Looks.at L1 ?_)
    rw [if_neg (by decide +kernel)]
    refine wpAny_bind (Looks.at L2 ?_)
    rw [if_neg (by decide)]
    refine wpAny_bind (Looks.at L3 ?_)
    dsimp only
    refine wpAny_bind (Looks.at L4 ?_)
    refine wpAny_bind (Looks.at L5 ?_)
    rw [if_pos (by decide), hqn, ck']
    exact wpAny_pure hq
end
end
section
open PySem PySem.W PySem.Spec PySem.Calls PyProof.Rows
set_option Elab.async false
set_option maxRecDepth 100000
set_option maxHeartbeats 0
open Builtin Builtin.List
noncomputable abbrev boundObj (bt id : String) (pa : Addr) : Obj := { cls := .type bt, data := .fields #[.builtin id, .ref pa] }
section
variable {prog : Program} {w : World} {A : Around} {E : Value → Shared → Prop} {s : Shared} {q pa pd : Addr} {vs : List Value} {n : Nat} {bt id : String} {env : Env} {pos : Pos} {first : List Value} {Q : Value → Shared → Prop}
theorem callWith_bound {M : Model} (ho : s.heap.get? q = some (boundObj bt id pa)) (hb : bt = "builtin_function_or_method" ∨ bt = "method-wrapper") (h : wpAny M A (call (.ref q) (first ++ [])) Q E s) :
    wpAny M A (callWith pos (.ref q) first (backTo pos (starEach [] env)) []) Q E s := by
  refine callWith_of (P := fun h => h.get? q = some (boundObj bt id pa)) rfl (fun h' e => ⟨.machine, .inr (.inl rfl), ?_⟩) (evalArgs_nil3 ⟨ho, h⟩)
  refine (Looks.ld (part := none) e).andThen ?_
  dsimp only
  rcases hb with rfl | rfl
  · rw [if_pos (by decide), if_pos (by decide)]; exact .now
  · rw [if_pos (by decide), if_pos (by decide)]; exact .now
theorem call_bound {B : Builtin} (ho : s.heap.get? q = some (boundObj bt id pa)) (hb : bt = "builtin_function_or_method" ∨ bt = "method-wrapper") (entry : entryFor table id = some B) (hp : plainId id = true)
    (chk : ∀ (A : Around) (E : Value → Shared → Prop) (Q : Unit → Shared → Prop), Q () s → wpAny (model prog w) A (checkBoundCall id ⟨[.ref pa], []⟩) Q E s)
    (run : ∀ A : Around, wpAny (model prog w) A (B ⟨[.ref pa], []⟩) (fun fin s' => ∃ v, fin = .done (.ret v) ∧ Q v s') E s) :
    wpAny (model prog w) A (call (.ref q) []) Q E s := by
  refine wpAny_call (codeAny_of_tree ?_)
  show wpAny _ _ (callAny (.ref q) _) _ _ _
  unfold callAny
  refine wpAny_bind (wpAny_load ho ?_)
  dsimp only
  have hc : ((Value.type bt == .type "method" || Value.type bt == .type "builtin_function_or_method" || Value.type bt == .type "method-wrapper") : Bool) = true := by
    rcases hb with rfl | rfl <;> decide
  have hc2 : ((Value.type bt != .type "method") : Bool) = true := by
    rcases hb with rfl | rfl <;> decide
  rw [if_pos hc]
  simp only [List.getElem?_toArray, List.getElem?_cons_zero, List.getElem?_cons_succ]
  rw [if_pos hc2]
  refine wpAny_bind (chk _ _ _ ?_)
  refine wpAny_pure ⟨plainId_quiet hp _, codeAny_builtin entry ?_⟩
  refine wpAny_mono (run _) (fun fin s' hv => ?_) fun _ _ x => x
  obtain ⟨v, rfl, hv⟩ := hv
  exact hv

theorem run_len {A : Around} (hx : s.heap.get? pa = some (accObj pd vs n)) (h : Q (.int (vs.length : Nat) s.toks) { s with toks := s.toks + 1 }) :
    wpAny (model prog w) A (Builtin.«list.__len__» ⟨[.ref pa], []⟩) (fun fin s' => ∃ v, fin = .done (.ret v) ∧ Q v s') E s := by
  obtain ⟨hh, g, d, t, os⟩ := s
  unfold Builtin.«list.__len__»
  repeat lk
  exact ⟨_, rfl, by simpa using h⟩
theorem run_init {A : Around} (hx : s.heap.get? pa = some (accObj pd [] n)) (h : ∀ h', h'.get? pa = some (accObj pd [] n) → Heap.SameBut pa s.heap h' → Q .none { s with heap := h' }) :
    wpAny (model prog w) A (Builtin.«list.__init__» ⟨[.ref pa], []⟩) (fun fin s' => ∃ v, fin = .done (.ret v) ∧ Q v s') E s := by
  unfold Builtin.«list.__init__»
  dsimp only
  rw [if_neg (by decide), if_neg (by decide)]
  refine wpAny_bind (wpAny_bind (wpAny_bind (wpAny_load hx (wpAny_pure (wpAny_pure ?_)))))
  refine wpAny_bind (wpAny_updateSeq hx rfl ?_ (by decide) (by decide))
  refine wpAny_bind (wpAny_letGo ?_)
  exact wpAny_pure ⟨_, rfl, h _ (Heap.get?_update_self _ hx rfl) (Heap.SameBut.update ..)⟩
theorem run_pop {A : Around} {v : Value} (hx : s.heap.get? pa = some (accObj pd (vs ++ [v]) n)) (hsz : vs.length ≤ 1000) (h : ∀ h', h'.get? pa = some (accObj pd vs (n + 1)) → Heap.SameBut pa s.heap h' → Q v { s with heap := h' }) :
    wpAny (model prog w) A (Builtin.«list.pop» ⟨[.ref pa], []⟩) (fun fin s' => ∃ v, fin = .done (.ret v) ∧ Q v s') E s := by
  have hsl : (vs ++ [v]).toArray.size ≤ sizeLine := by rw [sizeLine_eq, List.size_toArray, List.length_append]; simp; omega
  have e : (vs ++ [v]).toArray.eraseIdxIfInBounds vs.length = vs.toArray := by
    rw [Array.eraseIdxIfInBounds, dif_pos (by simp)]
    apply Array.ext'
    rw [Array.toList_eraseIdx]
    show (vs ++ [v]).eraseIdx vs.length = vs
    rw [List.eraseIdx_append_of_length_le (Nat.le_refl _)]; simp
  have hz : ((vs ++ [v]).toArray.eraseIdxIfInBounds vs.length).size ≤ sizeLine + 1 := by
    rw [e, sizeLine_eq, List.size_toArray]; omega
  have hm : Obj.mapSeq (·.eraseIdxIfInBounds vs.length) (accObj pd (vs ++ [v]) n) = accObj pd vs (n + 1) := by
    simp only [Obj.mapSeq, accObj, e]
    simp
  unfold Builtin.«list.pop»
  refine wpAny_bind (wpAny_pure ?_)
  refine wpAny_bind (wpAny_pure ?_)
  dsimp only
  rw [if_neg (by decide)]
  refine wpAny_bind (wpAny_bind (wpAny_bind (wpAny_load hx (wpAny_pure (wpAny_pure ?_)))))
  rw [if_neg (by simp)]
  have hi : (seqIndex? (-1) (vs ++ [v]).toArray.size).bind (fun k => (vs ++ [v]).toArray[k]?.map (k, ·)) = some (vs.length, v) := by
    rw [seqIndex_neg (by decide) (by simp; omega)]
    have : ((-1 : Int) + ((vs ++ [v]).toArray.size : Nat)).toNat = vs.length := by simp; omega
    rw [this]; simp
  rw [hi]
  refine wpAny_bind (wpAny_updateSeq hx rfl ?_ hsl hz)
  exact wpAny_pure ⟨_, rfl, h _ (hm ▸ Heap.get?_update_self _ hx (by rw [hm]; rfl)) (Heap.SameBut.update ..)⟩
end
end
section
open PySem PySem.W PySem.Spec PySem.Calls PyProof.Rows
set_option Elab.async false
set_option maxRecDepth 100000
set_option maxHeartbeats 0
theorem code_mineAt {prog : Program} {w : World} {A₀ A : Around} {s : Shared} {K : Frag} {h₀ base : Heap} {L : Addr} {m mg mb : Str → Option Value} {hid : List (Addr × Obj)} {p : Program} {loose : List Str} {mean : ExcName → Option Value}
    {env : Env} {outer : List Env} {R : Result → Shared → Prop} {name qual : Str} {params : Arguments} {body : List Stmt} {scope : Scope} {cc : Addr} {dV kV doc pm cdv ct oc : Value} {an od : Option Addr} {osl : Array (Option Value)} {f : Addr} {args : Args} {binds : List (Str × Value)}
    (B : Below A₀ base outer h₀) (F : Fr h₀ L s.heap m) (X₀ : K.In h₀) (N : News h₀ L s.heap hid) (T : Top p loose mean mg mb h₀) (hA : A.frames = some (env :: outer)) (hf : env.frame = some L) (hke : env.scope.kind = .function)
    (ho : K.lookup f = some ⟨oc, od, .func (ksFn name qual params body scope dV kV doc pm an cdv ct cc), osl⟩) (hcd : codeIn K cdv qual = true) (hroom : A.depth < recursionLimit)
    (hbind : BindsTo s (ksFn name qual params body scope dV kV doc pm an cdv ct cc) args binds) (hloc : ∀ y ∈ binds, scope.names.lookup y.1 = some .local)
    (h : ∀ g L' h₁, L' = s.heap.objs.size → (∀ b o, s.heap.get? b = some o → b ∉ hid.map (·.1) → g.get? b = some o) → Fr g L' h₁ (fun y => binds.reverse.lookup y) → News g L' h₁ hid → (∀ q ∈ hid, q.1 < L') → Below A base (env :: outer) g → K.In g → Top p loose mean mg mb g →
      _root_.PySem.wpAt (model prog w) (A.deeper (ksEnv qual scope L' f cdv cc)) (.func body (ksEnv qual scope L' f cdv cc)) (execs body (ksEnv qual scope L' f cdv cc))
        (fun fl s' => Fini (fun v s'' => R (.ok (.ret v)) s'') (match fl with | .ret v => v | _ => .none) s')
        (fun e s' => wpAny (model prog w) (A.deeper (ksEnv qual scope L' f cdv cc)) (leaving (ksEnv qual scope L' f cdv cc) e) (fun _ s'' => R (.error e) s'') (fun e' s'' => R (.error e') s'') s')
        { s with heap := h₁, toks := s.toks + binds.length })
    (hcell : ∀ x ∈ scope.names, x.2 ≠ .cell) (hco : scope.isCoroutine = false) (hgen : scope.isGenerator = false) (hk : scope.kind = .function) : codeAny (model prog w) A (.call (.ref f) args) R s := by
  obtain ⟨FG, BG, st, lv⟩ := groundX (R := R) B F N hA hf hke
  have XS := X₀.keeps F.keep
  refine ks_codeAny_call_defAt (fd := ksFn name qual params body scope dV kV doc pm an cdv ct cc) (body := body) (binds := binds) hroom (XS _ _ ho) rfl (T.nolimit.keeps F.keep) (codeRec_of XS hcd) rfl hbind hcell hloc (fun h₁ hns hk₁ => ?_) hco hgen hk
  exact h _ s.heap.objs.size h₁ rfl (fun b o e q => hideAll_get _ e q) ⟨hns, fun b o e => hk₁ b o (of_hideAll _ e), Nat.le_of_eq (hideAll_size _ _)⟩
    (fun p hp => ⟨hk₁ _ _ (N p hp).1, Nat.ne_of_lt (Heap.lt_size (N p hp).1), hideAll_none _ (List.mem_map_of_mem hp)⟩) (fun p hp => Heap.lt_size (N p hp).1) BG (X₀.keeps st) (T.keeps st)

section
variable {w : World} {prog : Program} {A : Around} {E : Value → Shared → Prop} {s : Shared} {so L pa pd : Addr} {h₀ : Heap} {m : Str → Option Value} {vs : List Value} {n : Nat} {news : List (Addr × Obj)}
/-- super().name of an accumulator: what the ledger says of it -/
theorem super_gm {name : Str} {id dt bt gid : String} {pl : Sem Bool} {Q : Value × List Value → Shared → Prop} (F : Fr h₀ L s.heap m) (X₀ : (kk.heap_1 w.params).In h₀) (N : News h₀ L s.heap news) (hpa : (pa, accObj pd vs n) ∈ news) (hso : (so, ks_superObj 128 pa 128) ∈ news)
    (hn : (name == ("__class__" : Str)) = false) (hf : ks_superIn (kk.heap_1 w.params) 128 128 name = some (some (.builtin id))) (ht : typeOf (.builtin id) = pure (.type dt)) (hl : typeLookup (.type dt) "__get__" = pure (some (.builtin gid)))
    (hg : ∀ (h : Heap) g d t os (A : Around) (E : Value → Shared → Prop) (Q : Value → Shared → Prop), (kk.heap_1 w.params).In h → h.get? pa = some (accObj pd vs n) → Q (.ref h.objs.size) ⟨h.push { cls := .type bt, data := .fields #[.builtin id, .ref pa] }, g, d, t, os⟩ → wpAny (model prog w) A (call (.builtin gid) [.builtin id, .ref pa, .ref 128]) Q E ⟨h, g, d, t, os⟩)
    (h : ∀ q h', Fr h₀ L h' m → News h₀ L h' ((q, boundObj bt id pa) :: news) → (∀ p ∈ news, p.1 < q) → Q (.ref q, []) { s with heap := h', toks := s.toks + 1 }) :
    wpAny (model prog w) A (getMethod (.ref so) name pl) Q E s := by
  have X := X₀.keeps F.keep
  have hx := (N _ hpa).1
  have hs := (N _ hso).1
  obtain ⟨hh, g, d, t, os⟩ := s
  refine super_getMethod X hx hs hn hf ht hl (fun A E Q q => hg _ _ _ _ _ A E Q X hx q) (h hh.objs.size _ (F.push _) (N.push F _) fun p hp => Heap.lt_size (N p hp).1)
theorem super_pop {pl : Sem Bool} {Q : Value × List Value → Shared → Prop} (F : Fr h₀ L s.heap m) (X₀ : (kk.heap_1 w.params).In h₀) (N : News h₀ L s.heap news) (hpa : (pa, accObj pd vs n) ∈ news) (hso : (so, ks_superObj 128 pa 128) ∈ news)
    (h : ∀ q h', Fr h₀ L h' m → News h₀ L h' ((q, boundObj "builtin_function_or_method" "list.pop" pa) :: news) → (∀ p ∈ news, p.1 < q) → Q (.ref q, []) { s with heap := h', toks := s.toks + 1 }) :
    wpAny (model prog w) A (getMethod (.ref so) "pop" pl) Q E s :=
  super_gm F X₀ N hpa hso (by decide +kernel) ka_sup_pop ty_pop look_get_md (fun _ _ _ _ _ _ _ _ X hx q => get_pop X hx q) h
theorem super_len {pl : Sem Bool} {Q : Value × List Value → Shared → Prop} (F : Fr h₀ L s.heap m) (X₀ : (kk.heap_1 w.params).In h₀) (N : News h₀ L s.heap news) (hpa : (pa, accObj pd vs n) ∈ news) (hso : (so, ks_superObj 128 pa 128) ∈ news)
    (h : ∀ q h', Fr h₀ L h' m → News h₀ L h' ((q, boundObj "method-wrapper" "list.__len__" pa) :: news) → (∀ p ∈ news, p.1 < q) → Q (.ref q, []) { s with heap := h', toks := s.toks + 1 }) :
    wpAny (model prog w) A (getMethod (.ref so) "__len__" pl) Q E s :=
  super_gm F X₀ N hpa hso (by decide +kernel) ka_sup_len ty_len look_get_wd (fun _ _ _ _ _ _ _ _ X hx q => get_wd X hx ty_len own_len q) h
theorem super_init {pl : Sem Bool} {Q : Value × List Value → Shared → Prop} (F : Fr h₀ L s.heap m) (X₀ : (kk.heap_1 w.params).In h₀) (N : News h₀ L s.heap news) (hpa : (pa, accObj pd vs n) ∈ news) (hso : (so, ks_superObj 128 pa 128) ∈ news)
    (h : ∀ q h', Fr h₀ L h' m → News h₀ L h' ((q, boundObj "method-wrapper" "list.__init__" pa) :: news) → (∀ p ∈ news, p.1 < q) → Q (.ref q, []) { s with heap := h', toks := s.toks + 1 }) :
    wpAny (model prog w) A (getMethod (.ref so) "__init__" pl) Q E s :=
  super_gm F X₀ N hpa hso (by decide +kernel) ka_sup_init ty_init look_get_wd (fun _ _ _ _ _ _ _ _ X hx q => get_wd X hx ty_init own_init q) h

theorem wrap_check {id : String} {self : Value} (hk : builtinKind id = some .slot) (ha : argsOk id ⟨[self], []⟩) (A : Around) (E : Value → Shared → Prop) (Q : Unit → Shared → Prop) (q : Q () s) : wpAny (model prog w) A (checkBoundCall id ⟨[self], []⟩) Q E s := by
  unfold checkBoundCall
  cases hsig : Manifest.signature? id with
  | none => exact wpAny_pure q
  | some sig =>
    simp only [argsOk, hsig] at ha
    have h2 : Bind.checkArgs id sig ⟨[self], []⟩ = pure () := ha
    dsimp only
    rw [hk]
    dsimp only
    rw [if_pos (by decide), h2]
    exact wpAny_pure q
theorem args_init_1 (a : Value) : argsOk "list.__init__" ⟨[a], []⟩ := PySem.F.args_list_init_1 a

theorem call_len {q : Addr} {Q : Value → Shared → Prop} (N : News h₀ L s.heap news) (hpa : (pa, accObj pd vs n) ∈ news) (hq : (q, boundObj "method-wrapper" "list.__len__" pa) ∈ news) (h : Q (.int (vs.length : Nat) s.toks) { s with toks := s.toks + 1 }) :
    wpAny (model prog w) A (call (.ref q) []) Q E s :=
  call_bound (N _ hq).1 (.inr rfl) PySem.F.entry_list_len (by decide +kernel) (fun A E Q h => wrap_check (by decide +kernel) (PySem.F.args_list_len_1 _) A E Q h) (fun A => run_len (N _ hpa).1 h)
theorem call_pop {q : Addr} {v : Value} {Q : Value → Shared → Prop} {news' : List (Addr × Obj)} (F : Fr h₀ L s.heap m) (X₀ : (kk.heap_1 w.params).In h₀) (N : News h₀ L s.heap news) (hq : (q, boundObj "builtin_function_or_method" "list.pop" pa) ∈ news)
    (U : Upd pa (accObj pd (vs ++ [v]) n) (accObj pd vs (n + 1)) news news') (hsz : vs.length ≤ 1000)
    (h : ∀ h', Fr h₀ L h' m → News h₀ L h' news' → Q v { s with heap := h' }) :
    wpAny (model prog w) A (call (.ref q) []) Q E s := by
  obtain ⟨pre, post, rfl, rfl, a, b⟩ := U.split
  have hx := N (pa, accObj pd (vs ++ [v]) n) (by simp)
  have hq' := (N _ hq).1
  have X := X₀.keeps F.keep
  refine call_bound hq' (.inl rfl) PySem.F.entry_list_pop (by decide +kernel) (fun A E Q h => ?_) (fun A => run_pop hx.1 hsz fun h' e sb => ?_)
  · obtain ⟨hh, g, d, t, os⟩ := s
    exact bound_pop_check X hx.1 h
  · exact h h' (F.change sb hx.2.1 hx.2.2) (news_set N a b sb e)
theorem call_init {q : Addr} {Q : Value → Shared → Prop} (F : Fr h₀ L s.heap m) (N : News h₀ L s.heap news) (hpa : (pa, accObj pd [] n) ∈ news) (hq : (q, boundObj "method-wrapper" "list.__init__" pa) ∈ news)
    (h : ∀ h', Fr h₀ L h' m → News h₀ L h' news → Q .none { s with heap := h' }) :
    wpAny (model prog w) A (call (.ref q) []) Q E s := by
  have hx := N _ hpa
  refine call_bound (N _ hq).1 (.inr rfl) PySem.F.entry_list_init (by decide +kernel) (fun A E Q h => wrap_check (by decide +kernel) (PySem.F.args_list_init_1 _) A E Q h) (fun A => run_init hx.1 fun h' e sb => ?_)
  refine h h' (F.change sb hx.2.1 hx.2.2) fun p hp => ?_
  by_cases he : p.1 = pa
  · refine ⟨?_, (N p hp).2⟩
    have := (N p hp).1
    rw [he, hx.1] at this
    rw [he, e, ← Option.some.inj this]
  · exact ⟨(sb.2 _ he).trans (N p hp).1, (N p hp).2⟩
end
end
section
open PySem PySem.W PySem.Spec PySem.Calls PyProof.Rows
set_option Elab.async false
set_option maxRecDepth 100000
set_option maxHeartbeats 0
theorem fresh_of {s : Heap} {L' T : Addr} {hid news : List (Addr × Obj)} {g h' : Heap} {o : Obj} (hg : ∀ b o, s.get? b = some o → b ∉ (hid.map (·.1)) → g.get? b = some o) (N' : News g L' h' news) (hT : (T, o) ∈ news) (hne : T ∉ hid.map (·.1)) : s.get? T = none := by
  cases e : s.get? T with
  | none => rfl
  | some x => have := hg T x e hne; rw [(N' _ hT).2.2] at this; cases this
theorem not_mem_cons_of {a b : Addr} {l : List Addr} (h : (show Nat from a) ≠ b) (h' : a ∉ l) : a ∉ b :: l := fun q => (List.mem_cons.mp q).elim h h'
end
local macro_rules | `(tactic| walk_at "mine_off") => `(tactic| first | exact List.not_mem_nil | (refine not_mem_cons_of ?_ ?_; (refine neN ?_; (try dsimp only); omega); walk_at "mine_off"))
local macro_rules | `(tactic| walk_at "mine_fresh") => `(tactic| ((rename News _ _ _ _ => lN9); refine fresh_of (by assumption) lN9 (by k_mem) (by walk_at "mine_off")))
local macro_rules | `(tactic| walk_at "mine_sub") => `(tactic| first | exact List.forall_mem_nil _ | (refine allm (by k_mem) ?_; walk_at "mine_sub"))
section
open PySem PySem.W PySem.Spec PySem.Calls PyProof.Rows
set_option Elab.async false
set_option maxRecDepth 100000
set_option maxHeartbeats 0
theorem News.sub {h₀ h : Heap} {L : Addr} {news hid : List (Addr × Obj)} (N : News h₀ L h news) (hs : ∀ p ∈ hid, p ∈ news) : News h₀ L h hid := fun p hp => N p (hs p hp)
theorem call_it {w : World} {f : Addr} {args : List Value} {kw : List (Str × Value)} {dN uN : Nat} {hid : List (Addr × Obj)} {Pre : Heap → Prop} {Post : Heap → Value → Heap → Prop} (C : Calls w f args kw dN uN hid Pre Post)
    {mean : ExcName → Option Value} {mg mb : Str → Option Value} {dp un : Nat} {gd : Option (List Code)} {cn : Str} {cs : Scope} {a : Addr} {ccd : Value} {cl : List (Str × Addr)} {outer : List Env} {A₀ : Around} {base h₀ : Heap} {L : Addr} {m : Str → Option Value} {s : Shared} {Q E : Value → Shared → Prop}
    (k9 : Pre s.heap)
    (k : ∀ r h' tk', Post s.heap r h' → Q r { s with heap := h', toks := tk' })
    (k1 : Below A₀ base outer h₀ := by k_asm) (k2 : Fr h₀ L s.heap m := by k_asm) (k3 : (kk.heap_1 w.params).In h₀ := by k_asm) (k4 : Top V0 loose0 mean mg mb h₀ := by k_asm) (k5 : cs.kind = .function := by first | exact rfl | assumption) (k6 : dp + dN < recursionLimit := by ktr_room) (k7 : un + uN < cLine := by ktr_units) (k8 : News h₀ L s.heap hid := by exact News.sub (by k_asm) (by walk_at "mine_sub")) : wpAny (model PySem.Challenge.rw_wc0025_01.prog w) (ktrTop dp un gd cn cs L a ccd cl outer) (call (.ref f) args kw) Q E s :=
  C mean mg mb dp un gd cn cs a ccd cl outer A₀ base h₀ L m s Q E k1 k2 k3 k4 k5 k6 k7 k8 k9 k
end
local macro_rules | `(tactic| walk_at "mine_kpE") => `(tactic| ((rename Kp _ _ => hk9); (rename Fr _ _ _ _ => lF9); (rename News _ _ _ _ => lN9); have F' := Kp.fr hk9 lF9; have N' := Kp.news hk9 lN9; clear hk9))
local macro_rules | `(tactic| walk_at "mine_ml") => `(tactic| (k_here; k_dflt (refine' method_list ?k1 ?k2 ka_ga ka_gat ?k5 ?k6 ?k7 ?_; (case k1 => k_in); (case k2 => k_inst); (case k5 => k_is); (case k6 => first | exact Or.inr (by k_is) | exact Or.inl (by k_is)); (case k7 => first | assumption | exact rfl); k_whole)))
local macro_rules | `(tactic| walk_at "mine_cb") => `(tactic| (k_here; k_dflt (refine' callWith_bound ?k1 ?k2 ?_; (case k1 => exact News.get (by k_asm) (by k_mem)); (case k2 => first | exact Or.inl rfl | exact Or.inr rfl); k_whole; try dsimp only [List.nil_append, List.cons_append])))
local macro_rules | `(tactic| walk_at "mine_wa") => `(tactic| (k_dflt (ks_step "eval Call"; refine ks_wpAt_MethodCall ?_)))
local macro_rules | `(tactic| walk_at "mine_wb") => `(tactic| (dsimp only; ks_step "execs cons"; refine ks_wpAt_execs_cons ?_))
local macro_rules | `(tactic| k_inst) => `(tactic| (refine' accInst ?N ?h1 ?h2; (case N => k_asm); (case h1 | h2 => k_mem)))
section
open PySem PySem.W PySem.Spec PySem.Calls PyProof.Rows
set_option Elab.async false
set_option maxRecDepth 100000
set_option maxHeartbeats 0
local macro_rules | `(tactic| walk_at "getMethod ref") => `(tactic| (k_here; k_dflt (first
  | (refine' super_pop ?k1 ?k2 ?k3 ?k4 ?k5 ?_; (case k1 | k2 | k3 => k_asm); (case k4 | k5 => k_mem); k_whole; intro q' h' F' N' l1; (try k_lt l1))
  | (refine' super_len ?k1 ?k2 ?k3 ?k4 ?k5 ?_; (case k1 | k2 | k3 => k_asm); (case k4 | k5 => k_mem); k_whole; intro q' h' F' N' l1; (try k_lt l1)))))
local macro_rules | `(tactic| walk_at "getMethod ref") => `(tactic| walk_at "mine_ml")
local macro_rules | `(tactic| walk_at "callWith ref") => `(tactic| walk_at "mine_cb")
local macro_rules | `(tactic| walk_at "call ref") => `(tactic| (k_here; k_dflt (first
  | (refine' call_len ?k1 ?k2 ?k3 ?_; (case k1 => k_asm); (case k2 | k3 => k_mem); k_whole)
  | (refine' call_pop ?k1 ?k2 ?k3 ?k4 ?k5 ?k6 ?_; (case k1 | k2 | k3 => k_asm); (case k4 => k_mem); (case k5 => k_upd); (case k6 => omega); k_whole; intro h' F' N'))))

local macro_rules | `(tactic| walk_at "call builtin:list.append") => `(tactic| (k_here; k_dflt (refine' acc_append ?k1 ?k2 ?k3 ?k4 ?k5 ?k6 ?_; (case k1 => k_in); (case k2 | k3 => k_asm); (case k4 => k_inst); (case k5 => k_upd); (case k6 => omega); k_whole; intro h' F' N')))
noncomputable abbrev accDict (hsh : Int) (t t2 : Tok) : Obj := dictOf [⟨hsh, .str (Str.ofString "_initial_size") t, .int 0 t2⟩] 1

theorem acc_pc {w : World} {pa pd : Addr} {vs : List Value} {n : Nat} {od : Obj} : Calls w 125 [.ref pa] [] 10 100 [(pa, accObj pd vs n), (pd, od)] (fun _ => True) (fun h r h' => (∃ tk, r = .int vs.length tk) ∧ Kp h h') := by
  intro mean mg mb dp un gd cn cs a ccd cl outer A₀ base h₀ L m s Q E B F X T hk hd hu N pre ret
  revert X; k_fill; intro X
  refine wpAny_call ?_
  k_dflt (refine' code_mineAt (binds := [(Str.ofString "self", .ref pa)]) ?k1 ?k2 ?k3 ?k4 ?k5 ?kA ?kF ?kK ?k6 ?k7 ?k8 ?k9 ?kB ?_ ?c5 ?c2 ?c3 ?c4; (case kA | kF => exact rfl); (case kK => assumption); (case k1 | k2 | k3 | k4 | k5 => k_asm); (case k6 | k7 => k_is); (case k8 => ktr_room); (case k9 => first | exact BindsTo.of_eq rfl | exact binds_K (by k_in) rfl (by k_is) rfl rfl rfl); (case c5 => decide); (case kB => exact locs rfl); (case c2 | c3 | c4 => exact rfl))
  walk_at "mine_start"
  k_steps
  all_goals exact ret _ _ _ ⟨⟨_, rfl⟩, by walk_at "mine_kph"⟩
theorem acc_push {w : World} {pa pd : Addr} {vs : List Value} {n : Nat} {hsh : Int} {t t2 : Tok} {u v : Value} (hpd : @LT.lt Nat _ pd pa) (hsz : vs.length ≤ 1000) : Calls w 72 [.ref pa, u, v] [] 10 100 [(pa, accObj pd vs n), (pd, accDict hsh t t2)] (fun _ => True) (fun h r h' => r = .none ∧ ∃ T, h.get? T = none ∧ IsTup h' T #[u, v] ∧ Chg pa (accObj pd (vs ++ [.ref T]) (n + 1)) h h') := by
  intro mean mg mb dp un gd cn cs a ccd cl outer A₀ base h₀ L m s Q E B F X T hk hd hu N pre ret
  revert X; k_fill; intro X
  refine wpAny_call ?_
  k_dflt (refine' code_mine (binds := [(Str.ofString "self", .ref pa), (Str.ofString "fws", u), (Str.ofString "string", v)]) ?k1 ?k2 ?k3 ?k4 ?k5 ?kA ?kF ?kK ?k6 ?k7 ?k8 ?k9 ?kB ?_ ?c5 ?c2 ?c3 ?c4; (case kA | kF => exact rfl); (case kK => assumption); (case k1 | k2 | k3 | k4 | k5 => k_asm); (case k6 | k7 => k_is); (case k8 => ktr_room); (case k9 => first | exact BindsTo.of_eq rfl | exact binds_K (by k_in) rfl (by k_is) rfl rfl rfl); (case c5 => decide); (case kB => exact locs rfl); (case c2 | c3 | c4 => exact rfl))
  intro P9 hP9
  walk_at "mine_start"
  replace ret := fun r h' tk' p => hP9 r _ (ret r h' tk' p)
  k_steps
  refine' ret _ _ _ (And.intro rfl (Exists.intro ?T (And.intro ?a (And.intro ?b ?c))))
  case c => walk_at "mine_chg"
  case b => exact News.isTup (by k_asm) (by k_mem)
  case a => walk_at "mine_fresh"
theorem len_snoc {α : Type} {l : List α} {a : α} : (l ++ [a]).length = l.length + 1 := by simp
theorem acc_pc' {w : World} {pa pd : Addr} {vs : List Value} {n k : Nat} {od : Obj} (hk : vs.length = k) : Calls w 125 [.ref pa] [] 10 100 [(pa, accObj pd vs n), (pd, od)] (fun _ => True) (fun h r h' => (∃ tk, r = .int (k : Nat) tk) ∧ Kp h h') := hk ▸ acc_pc
local macro_rules | `(tactic| walk_at "wpAt") => `(tactic| walk_at "mine_wa")
local macro_rules | `(tactic| walk_at "wpAt") => `(tactic| walk_at "mine_wb")
local macro_rules | `(tactic| walk_at "call ref") => `(tactic| (k_here; (with_reducible show wpAny _ _ (call (Value.ref 125) _) _ _ _); (first | (k_dflt refine' call_it (acc_pc' len_snoc) ?k9 ?_) | (k_dflt refine' call_it (acc_pc' rfl) ?k9 ?_)); (case k9 => exact trivial); intro r' h' tk' hp'; obtain ⟨⟨tk9, e9⟩, hk9⟩ := hp'; subst e9; walk_at "mine_kpE"))
theorem acc_pop {w : World} {pa pd : Addr} {vs : List Value} {n : Nat} {hsh : Int} {t t2 : Tok} {v : Value} (hpd : @LT.lt Nat _ pd pa) (hsz : vs.length ≤ 1000) : Calls w 88 [.ref pa] [] 20 200 [(pa, accObj pd (vs ++ [v]) n), (pd, accDict hsh t t2)] (fun _ => True) (fun h r h' => r = v ∧ Chg pa (accObj pd vs (n + 1)) h h') := by
  intro mean mg mb dp un gd cn cs a ccd cl outer A₀ base h₀ L m s Q E B F X T hk hd hu N pre ret
  revert X; k_fill; intro X
  refine wpAny_call ?_
  k_dflt (refine' code_mineAt (binds := [(Str.ofString "self", .ref pa)]) ?k1 ?k2 ?k3 ?k4 ?k5 ?kA ?kF ?kK ?k6 ?k7 ?k8 ?k9 ?kB ?_ ?c5 ?c2 ?c3 ?c4; (case kA | kF => exact rfl); (case kK => assumption); (case k1 | k2 | k3 | k4 | k5 => k_asm); (case k6 | k7 => k_is); (case k8 => ktr_room); (case k9 => first | exact BindsTo.of_eq rfl | exact binds_K (by k_in) rfl (by k_is) rfl rfl rfl); (case c5 => decide); (case kB => exact locs rfl); (case c2 | c3 | c4 => exact rfl))
  walk_at "mine_start"
  k_steps
  all_goals first | exact ret _ _ _ ⟨rfl, by walk_at "mine_chg"⟩ | (exfalso; omega)
end
section
open PySem PySem.W PySem.Spec PySem.Calls PyProof.Rows
set_option Elab.async false
set_option maxRecDepth 100000
set_option maxHeartbeats 0
open Builtin Builtin.List Builtin.ObjectAttr
section
variable {w : World}
theorem ka_call : specialIn (kk.heap_1 w.params) (.ref 128) "__call__" = some (some (.builtin "type.__call__")) := by kernel_rfl
theorem ka_isType : instIn (kk.heap_1 w.params) (.ref 128) (.type "type") = some true := by kernel_rfl
theorem ka_self : mroIn (kk.heap_1 w.params) 128 (.ref 128) = some true := by kernel_rfl
theorem ka_init : findIn (kk.heap_1 w.params) (.ref 128) "__init__" = some (some (.ref 65)) := by kernel_rfl
theorem ka_init_fn : typeIn (kk.heap_1 w.params) (.ref 65) = some (.type "function") := by kernel_rfl
theorem ka_taker : takerIn (kk.heap_1 w.params) 128 "_initial_size" = some none := by kernel_rfl
theorem ka_obj : mroIn (kk.heap_1 w.params) 128 (.type "object") = some true := by kernel_rfl
theorem ka_slot : ((kk.heap_1 w.params).lookup 128).map (fun o => o.slots.toList[4]?) = some (some (some (.builtin "list.__new__"))) := by kernel_rfl
end
theorem row_list_new : Manifest.signature? "list.__new__" = none ∨ ∃ sig, Manifest.signature? "list.__new__" = some sig ∧ Bind.checkArgs "list.__new__" sig ⟨[.ref 128], []⟩ = pure () := by
  cases h : Manifest.signature? "list.__new__" with
  | none => exact .inl rfl
  | some sig =>
    refine .inr ⟨sig, rfl, ?_⟩
    have : (match Manifest.signature? "list.__new__" with | some sig => Bind.checkArgs "list.__new__" sig ⟨[.ref 128], []⟩ | none => pure ()) = pure () := by kernel_rfl
    rw [h] at this; exact this
theorem kind_list_new : builtinKind "list.__new__" = some .builtinFn := by decide +kernel
theorem split_list_new : splitId "list.__new__" = some ("list", "__new__") := by decide +kernel

section
variable {prog : Program} {w : World} {A : Around} {E : Value → Shared → Prop} {h : Heap} {g : Array GenState} {d : Drawn} {t : Nat} {os : OsState} {R : Result → Shared → Prop}

theorem acc_made {M : Model} (X : (kk.heap_1 w.params).In h) : Looks M h (Bind.madeBy (.ref 128)) (some "list.__new__") := by
  obtain ⟨cd, hc, hm, -⟩ := ka_cls (w := w)
  have hmro : Looks M h (mroOf (.ref 128)) cd.mro := (looks_clsIn X hc).andThen .now
  obtain ⟨o, ho, hs⟩ := Option.map_eq_some_iff.mp (ka_slot (w := w))
  intro A Q E s k q
  unfold Bind.madeBy
  refine wpAny_bind (hmro A _ E s k ?_)
  rw [hm, List.forIn_cons]
  refine wpAny_bind (wpAny_bind (wpAny_bind (wpAny_bind (wpAny_loadPart (k _ _ (X _ _ ho)) (wpAny_pure ?_)))))
  rw [← Array.getElem?_toList, hs]
  exact wpAny_pure (wpAny_pure (wpAny_pure q))
theorem acc_base {M : Model} (X : (kk.heap_1 w.params).In h) : Looks M h (Bind.staticBase (.ref 128)) (.ref 128) := by
  obtain ⟨cd, hc, hm, -⟩ := ka_cls (w := w)
  have hmro : Looks M h (mroOf (.ref 128)) cd.mro := (looks_clsIn X hc).andThen .now
  intro A Q E s k q
  unfold Bind.staticBase
  refine wpAny_bind (hmro A _ E s k ?_)
  rw [hm, List.forIn_cons]
  exact wpAny_bind (wpAny_bind (wpAny_bind (acc_made X A _ E s k (wpAny_pure (wpAny_pure (wpAny_pure q))))))

theorem acc_new (X : (kk.heap_1 w.params).In h) (hq : R (.ok (.ret (.ref (h.objs.size + 1)))) ⟨(h.push emptyDict).push (accObj h.objs.size [] 0), g, d, t, os⟩) :
    codeAny (model prog w) A (.call (.builtin "list.__new__") ⟨[.ref 128], []⟩) R ⟨h, g, d, t, os⟩ := by
  obtain ⟨cd, hc, hm, -, -, hdel, -⟩ := ka_cls (w := w)
  have made := acc_made (M := model prog w) X
  have base := acc_base (M := model prog w) X
  have L2 : Looks (model prog w) h (isSubtype (.ref 128) (.type "list")) true := looks_mroIn X ka_list
  obtain ⟨oC, hC, hCd⟩ : ∃ oC, h.get? 128 = some oC ∧ oC.data = .cls cd := by
    unfold clsIn at hc
    split at hc
    · rename_i c dd cd' sl ho
      cases hc
      exact ⟨_, X _ _ ho, rfl⟩
    · cases hc
  have L1 : Looks (model prog w) h (isType (.ref 128)) true := fun A Q E s k q => wpAny_bind (wpAny_loadPart (k _ _ hC) (by rw [hCd]; exact wpAny_pure q))
  refine codeAny_call_builtin_code (Code.quiet_builtin _ (by decide +kernel)) ?_
  simp only [checkBuiltinCall, kind_list_new, split_list_new]
  rw [if_pos (by decide)]
  refine wpAny_bind (Looks.at L1 ?_)
  rw [if_neg (by decide)]
  refine wpAny_bind (Looks.at L2 ?_)
  rw [if_neg (by decide)]
  refine wpAny_bind (Looks.at base ?_)
  refine wpAny_bind (Looks.at made ?_)
  dsimp only
  rw [if_neg (by simp)]
  have rest : codeAny (model prog w) A (.builtin "list.__new__" ⟨[.ref 128], []⟩) R ⟨h, g, d, t, os⟩ := by
    refine codeAny_builtin_stack F.entry_list_new rfl fun p st => ?_
    rw [Around.under_plainId F.plain_list_new _]
    have hown := owner_list_new
    simp only [hown]
    refine wpAny_bind (Looks.at L1 ?_)
    rw [if_neg (by decide)]
    refine wpAny_bind (Looks.at L2 ?_)
    rw [if_neg (by decide)]
    refine wpAny_bind (wpAny_pure ?_)
    rw [if_neg (by decide)]
    show wpAny _ _ (newDict >>= _) _ _ _
    unfold newDict newObj
    refine wpAny_bind (wpAny_bind (wpAny_alloc (wpAny_pure ?_)))
    dsimp only
    refine wpAny_bind (wpAny_bind ?_)
    have hC' := Heap.get?_push_of_some emptyDict hC
    unfold classHasDel
    refine wpAny_alloc (wpAny_bind (wpAny_bind (wpAny_load (Heap.get?_push_of_some _ hC') ?_)))
    rw [hCd]
    refine wpAny_pure ?_
    rw [hdel]
    refine wpAny_pure (wpAny_pure ?_)
    show R _ _
    rw [Heap.size_push]
    exact hq
  rcases row_list_new with hs | ⟨sig, hs, hck⟩
  · rw [hs]; exact wpAny_pure rest
  · rw [hs]
    show wpAny _ _ (Bind.checkArgs "list.__new__" sig ⟨[.ref 128], []⟩) _ _ _
    rw [hck]; exact wpAny_pure rest
end
end
section
open PySem PySem.W PySem.Spec PySem.Calls PyProof.Rows
set_option Elab.async false
set_option maxRecDepth 100000
set_option maxHeartbeats 0
open Builtin Builtin.List Builtin.ObjectAttr
theorem refuse_list (self : Value) : refuseLoop self "__setattr__" [.type "list", .type "object"] = pure () := by kernel_rfl
theorem ka_attr {w : World} : findIn (kk.heap_1 w.params) (.ref 128) "_initial_size" = some none := by kernel_rfl
section
variable {prog : Program} {w : World} {A : Around} {E : Value → Shared → Prop} {s : Shared} {L pa pd : Addr} {h₀ : Heap} {m : Str → Option Value} {vs : List Value} {n : Nat} {news news' : List (Addr × Obj)}

theorem acc_set {v : Value} {Q : Unit → Shared → Prop} (F : Fr h₀ L s.heap m) (X₀ : (kk.heap_1 w.params).In h₀) (N : News h₀ L s.heap news) (hpa : (pa, accObj pd vs n) ∈ news) (hpd : (pd, dictOf [] 0) ∈ news)
    (U : Upd pd (dictOf [] 0) (dictOf [⟨PyData.keyHash w.params (Str.ofString "_initial_size"), .str (Str.ofString "_initial_size") (s.toks + 1), v⟩] 1) news news')
    (h : ∀ h', Fr h₀ L h' m → News h₀ L h' news' → Q () { s with heap := h', toks := s.toks + 2 }) :
    wpAny (model prog w) A (setAttr (.ref pa) (Str.ofString "_initial_size") v) Q E s := by
  have X := X₀.keeps F.keep
  have I := accInst N hpa hpd
  obtain ⟨pre, post, rfl, rfl, a, b⟩ := U.split
  obtain ⟨cd, hc, hm, hd', -⟩ := ka_cls (w := w)
  obtain ⟨U1, U2⟩ := news_upd (f := Obj.putName (Str.ofString "_initial_size") (PyData.keyHash w.params (Str.ofString "_initial_size")) (.str (Str.ofString "_initial_size") (s.toks + 1)) v) (o' := dictOf [⟨PyData.keyHash w.params (Str.ofString "_initial_size"), .str (Str.ofString "_initial_size") (s.toks + 1), v⟩] 1) F N a b (by rw [putName_dict]; rfl) rfl
  have D := (N (pd, dictOf [] 0) (by simp)).1
  have D' := (U2 (pd, dictOf [⟨PyData.keyHash w.params (Str.ofString "_initial_size"), .str (Str.ofString "_initial_size") (s.toks + 1), v⟩] 1) (by simp)).1
  have hx := I.at_
  have L0 := I.type (M := model prog w)
  refine set_plain X I ka_sa ?_
  have sub : Looks (model prog w) s.heap (isInstance (.ref pa) (.type "object")) true := I.type.andThen (looks_mroIn X ka_obj)
  have hmro : Looks (model prog w) s.heap (mroOf (.ref 128)) cd.mro := (looks_clsIn X hc).andThen .now
  have L1 := looks_findIn (M := model prog w) X ka_attr
  have L2 := looks_clsIn (M := model prog w) X hc
  obtain ⟨hh, g, d, t, os⟩ := s
  have SF := PySem.F.store_object
  refine codeAny_call_builtin SF.slot.plain SF.entry (@check_slot (model prog w) _ _ ⟨hh, g, d, t + 1, os⟩ "object.__setattr__" "object" "__setattr__" (.ref pa) [.str (Str.ofString "_initial_size") t, v] [] _ SF.kind SF.split sub (SF.args (.ref pa) (.str (Str.ofString "_initial_size") t) v) ?_)
  rw [osa_eq, refuse_eq]
  refine wpAny_bind (wpAny_bind (Looks.at L0 (wpAny_bind (Looks.at hmro ?_))))
  rw [hm, refuseLoop_ref, refuse_list]
  refine wpAny_pure (wpAny_bind (Looks.at L0 (wpAny_bind (Looks.at L1 (wpAny_bind (wpAny_pure ?_))))))
  dsimp only
  refine wpAny_bind (wpAny_pure (wpAny_bind (wpAny_bind (wpAny_loadPart hx (wpAny_bind (Looks.at L2 ?_))))))
  rw [hd']
  refine wpAny_pure (a := some pd) (wpAny_bind (wpAny_pure (wpAny_bind ?_)))
  unfold nsSet
  refine wpAny_bind (wpAny_bind (wpAny_askSetting (wpAny_pure (wpAny_bind (wpAny_mkText (wpAny_bind (wpAny_loadPart D ?_)))))))
  dsimp only
  rw [aRefKeyMayBeTheName_at, if_neg (by simp)]
  refine wpAny_updatePart D ?_
  refine wpAny_bind (wpAny_lookBehind D' (pastItsLine_dict (by rw [sizeLine_eq]; exact Nat.le_of_ble_eq_true rfl)) ?_)
  exact wpAny_pure (h _ U1 U2)
end

section
variable {prog : Program} {w : World} {A : Around} {h : Heap} {g : Array GenState} {d : Drawn} {t : Nat} {os : OsState} {R : Result → Shared → Prop}
theorem acc_core (X : (kk.heap_1 w.params).In h)
    (hq : codeAny (model prog w) (A.under (.builtin "type.__call__" ⟨[.ref 128], []⟩)) (.call (.ref 65) ⟨[.ref (h.objs.size + 1)], []⟩) (InitBack (h.objs.size + 1) R) ⟨(h.push emptyDict).push (accObj h.objs.size [] 0), g, d, t, os⟩) :
    codeAny (model prog w) A (.call (.ref 128) ⟨[], []⟩) R ⟨h, g, d, t, os⟩ := by
  obtain ⟨cd, hc, hm, -, -, hdel, -⟩ := ka_cls (w := w)
  have made := acc_made (M := model prog w) X
  have call : Looks (model prog w) h (specialOf (.ref 128) "__call__") (some (.builtin "type.__call__")) := looks_specialIn X ka_call
  have typ : Looks (model prog w) h (isInstance (.ref 128) (.type "type")) true := looks_instIn X ka_isType
  have self : Looks (model prog w) h (isSubtype (.ref 128) (.ref 128)) true := looks_mroIn X ka_self
  have hi : Looks (model prog w) h (typeLookup (.ref 128) "__init__") (some (.ref 65)) := looks_findIn X ka_init
  obtain ⟨oc, od, sl, hC⟩ : ∃ oc od sl, h.get? 128 = some ⟨oc, od, .cls cd, sl⟩ := by
    unfold clsIn at hc
    split at hc
    · rename_i c dd cd' sl ho
      cases hc
      exact ⟨_, _, _, X _ _ ho⟩
    · cases hc
  refine codeAny_of_tree ?_
  show wpAny _ _ (callAny (.ref 128) _) _ _ _
  refine nd_load hC ?_
  show wpAny _ _ (callAny.viaDunder (.ref 128) _) _ _ _
  unfold callAny.viaDunder
  refine wpAny_bind (call.at ?_)
  dsimp only
  rw [tc_bind]
  refine wpAny_bind (wpAny_pure (wpAny_bind (wpAny_pure ?_)))
  refine wpAny_pure (a := Fin.again (.call (.builtin "type.__call__") ⟨[.ref 128], []⟩)) (And.intro rfl ?_)
  refine codeAny_call_builtin_at (Code.quiet_builtin _ (by decide +kernel)) entry_typeCall (check_slot tc_kind tc_split typ (tc_args _ _ _) ?_)
  unfold Builtin.«type.__call__»
  have hmr : Looks (model prog w) h (mroOf (.ref 128)) cd.mro := ((Looks.ld (part := none) hC).andThen .now).andThen .now
  have e4 : cd.mro.isEmpty = false := by rw [hm]; rfl
  repeat (first | simp only [e4, Bool.false_eq_true, if_false] | with_reducible refine wpAny_call ?_ | lk)
  refine acc_new X ?_
  have k : ∀ b o, h.get? b = some o → ((h.push emptyDict).push (accObj h.objs.size [] 0)).get? b = some o := fun b o e => Heap.get?_push_of_some _ (Heap.get?_push_of_some _ e)
  have hx : ((h.push emptyDict).push (accObj h.objs.size [] 0)).get? (h.objs.size + 1) = some (accObj h.objs.size [] 0) := by
    have := Heap.get?_push_size (h.push emptyDict) (o := accObj h.objs.size [] 0) rfl
    rwa [Heap.size_push] at this
  have t1 : Looks (model prog w) ((h.push emptyDict).push (accObj h.objs.size [] 0)) (typeOf (.ref (h.objs.size + 1))) (.ref 128) := (Looks.ld hx).andThen .now
  have s1 := self.keeps k
  have i1 := hi.keeps k
  have b1 := (bind_fn (M := model prog w) X (.ref (h.objs.size + 1)) ka_init_fn).keeps k
  unfold isInstance callSpecial? specialOf
  repeat (first | with_reducible refine wpAny_call ?_ | lk)
  refine codeAny_mono hq fun r s' z => ?_
  rcases r with e | (v | _ | _ | _) <;> first | exact z | exact z.elim | skip
  obtain ⟨rfl, z⟩ := z
  exact wpAny_pure (wpAny_pure z)
end
end
section
open PySem PySem.W PySem.Spec PySem.Calls PyProof.Rows
set_option Elab.async false
set_option maxRecDepth 100000
set_option maxHeartbeats 0
local macro_rules | `(tactic| walk_at "getMethod ref") => `(tactic| (k_here; k_dflt (
  (refine' super_init ?k1 ?k2 ?k3 ?k4 ?k5 ?_; (case k1 | k2 | k3 => k_asm); (case k4 | k5 => k_mem); k_whole; intro q' h' F' N' l1; (try k_lt l1)))))
local macro_rules | `(tactic| walk_at "callWith ref") => `(tactic| walk_at "mine_cb")
local macro_rules | `(tactic| walk_at "call ref") => `(tactic| (k_here; k_dflt (
  (refine' call_init ?k1 ?k2 ?k3 ?k4 ?_; (case k1 | k2 => k_asm); (case k3 | k4 => k_mem); k_whole; intro h' F' N'))))
local macro_rules | `(tactic| walk_at "wpAt") => `(tactic| walk_at "mine_wa")
local macro_rules | `(tactic| walk_at "wpAt") => `(tactic| walk_at "mine_wb")
local macro_rules | `(tactic| walk_at "wpAt") => `(tactic| (k_dflt (ks_step "exec Expr"; refine ks_wpAt_Expr_any ?_)))
local macro_rules | `(tactic| walk_at "setAttr ref") => `(tactic| (k_here; k_dflt (refine' acc_set ?k1 ?k2 ?k3 ?k4 ?k5 ?k6 ?_; (case k1 | k2 | k3 => k_asm); (case k4 | k5 => k_mem); (case k6 => k_upd); k_whole; intro h' F' N')))
theorem acc_make {w : World} : Calls w 128 [] [] 20 200 [] (fun _ => True) (fun h r h' => ∃ (x d : Addr) (hsh : Int) (t t2 : Tok), r = .ref x ∧ h'.get? x = some (accObj d [] 0) ∧ h'.get? d = some (accDict hsh t t2) ∧ @LT.lt Nat _ d x ∧ @LE.le Nat _ h.objs.size d ∧ h.get? x = none ∧ h.get? d = none ∧ Kp h h') := by
  intro mean mg mb dp un gd cn cs a ccd cl outer A₀ base h₀ L m s Q E B F X T hk hd hu N pre ret
  revert X; k_fill; intro X
  obtain ⟨hh, g, d, t, os⟩ := s
  dsimp only at F N pre ret
  refine wpAny_call (acc_core (X.keeps F.keep) ?_)
  have N1 : News h₀ L ((hh.push emptyDict).push (accObj hh.objs.size [] 0)) [((show Addr from hh.objs.size + 1), accObj hh.objs.size [] 0), (hh.objs.size, dictOf [] 0)] := by
    have N' := ((News.nil (h₀ := h₀) (h := hh) (L := L)).push F emptyDict).push (F.push _) (accObj hh.objs.size [] 0)
    rw [Heap.size_push] at N'
    exact N'
  have F1 := (F.push emptyDict).push (accObj hh.objs.size [] 0)
  have K1 : Kp hh ((hh.push emptyDict).push (accObj hh.objs.size [] 0)) := fun b o e => Heap.get?_push_of_some _ (Heap.get?_push_of_some _ e)
  have n1 : hh.get? hh.objs.size = none := by
    cases e : hh.get? hh.objs.size with
    | none => rfl
    | some o => exact absurd (Heap.lt_size e) (Nat.lt_irrefl _)
  have n2 : hh.get? (hh.objs.size + 1) = none := by
    cases e : hh.get? (hh.objs.size + 1) with
    | none => rfl
    | some o => exact absurd (Nat.lt_of_succ_lt (Heap.lt_size e)) (Nat.lt_irrefl _)
  have hlt : @LT.lt Nat _ hh.objs.size (hh.objs.size + 1) := Nat.lt_succ_self _
  clear F N
  generalize (hh.push emptyDict).push (accObj hh.objs.size [] 0) = h1 at *
  generalize hh.objs.size + 1 = x at *
  generalize hh.objs.size = d0 at *
  k_dflt (refine' code_mineAt (binds := [(Str.ofString "self", .ref x), (Str.ofString "initial_size", .int 0 509)]) ?k1 ?k2 ?k3 ?k4 ?k5 ?kA ?kF ?kK ?k6 ?k7 ?k8 ?k9 ?kB ?_ ?c5 ?c2 ?c3 ?c4; (case kA | kF => exact rfl); (case kK => assumption); (case k1 | k2 | k3 | k4 | k5 => k_asm); (case k6 | k7 => k_is); (case k8 => ktr_room); (case k9 => first | exact BindsTo.of_eq rfl | exact binds_K (by k_in) rfl (by k_is) rfl rfl rfl); (case c5 => decide); (case kB => exact locs rfl); (case c2 | c3 | c4 => exact rfl))
  walk_at "mine_start"
  k_steps
  refine ⟨rfl, ret _ _ _ ?_⟩
  refine' Exists.intro x (Exists.intro d0 (Exists.intro ?a (Exists.intro ?b (Exists.intro ?c (And.intro rfl (And.intro ?d (And.intro ?e (And.intro hlt (And.intro (Nat.le_refl _) (And.intro n2 (And.intro n1 ?f)))))))))))
  case e => exact News.get (by k_asm) (by k_mem)
  case d => exact News.get (by k_asm) (by k_mem)
  case f =>
    (rename Fr _ _ _ _ => lF9)
    have kb := kpBut_of (by assumption) lF9
    intro b o e
    refine kb b o (K1 b o e) fun q => ?_
    rcases List.mem_cons.mp q with q | q
    · have q' : b = x := q
      rw [q', n2] at e; cases e
    · have q' : b = d0 := List.mem_singleton.mp q
      rw [q', n1] at e; cases e
end
section
open PySem PySem.W PySem.Spec PySem.Calls PyProof.Rows
set_option Elab.async false
set_option maxRecDepth 100000
set_option maxHeartbeats 0
theorem get_none_of_le {h : Heap} {a : Addr} (hle : h.objs.size ≤ a) : h.get? a = none := by
  cases e : h.get? a with
  | none => rfl
  | some o => exact absurd (Nat.lt_of_lt_of_le (Heap.lt_size e) hle) (Nat.lt_irrefl _)
theorem push2 {h₀ hh : Heap} {L : Addr} {m : Str → Option Value} (F : Fr h₀ L hh m) (o : Obj) (hf : o.isFreed = false) :
    Fr h₀ L ((hh.push emptyDict).push o) m ∧ News h₀ L ((hh.push emptyDict).push o) [(hh.objs.size + 1, o), (hh.objs.size, dictOf [] 0)] ∧ Kp hh ((hh.push emptyDict).push o) ∧
      hh.get? (hh.objs.size + 1) = none ∧ hh.get? hh.objs.size = none ∧ @LT.lt Nat _ hh.objs.size (hh.objs.size + 1) := by
  refine ⟨(F.push emptyDict).push o, ?_, fun b x e => Heap.get?_push_of_some _ (Heap.get?_push_of_some _ e), get_none_of_le (Nat.le_succ _), get_none_of_le (Nat.le_refl _), Nat.lt_succ_self _⟩
  have N' := ((News.nil (h₀ := h₀) (h := hh) (L := L)).push F emptyDict).push (F.push _) o hf
  rw [Heap.size_push] at N'
  exact N'
theorem Kp.none {h h' : Heap} (k : Kp h h') {a : Addr} (e : h'.get? a = Option.none) : h.get? a = Option.none := by
  cases q : h.get? a with
  | none => rfl
  | some o => rw [k _ _ q] at e; cases e
/-- what stands behind the making of two, but for these two -/
theorem kp_two {hh h1 h' : Heap} {x d : Addr} (K1 : Kp hh h1) (n2 : hh.get? x = Option.none) (n1 : hh.get? d = Option.none) (kb : KpBut [x, d] h1 h') : Kp hh h' := by
  intro b o e
  refine kb b o (K1 b o e) fun q => ?_
  rcases List.mem_cons.mp q with q | q
  · have q' : b = x := q
    rw [q', n2] at e; cases e
  · have q' : b = d := List.mem_singleton.mp q
    rw [q', n1] at e; cases e
theorem hold_call {M : Model} {A : Around} {Q : Value → Shared → Prop} {E : Value → Shared → Prop} {s : Shared} {f : Addr} {as : List Value} {kw : List (Str × Value)} (h : Hold (wpAny M A (call (.ref f) as kw) Q E s)) : wpAny M A (call (.ref f) as kw) Q E s := h
end
local macro_rules | `(tactic| walk_at "mine_hc") => `(tactic| (with_reducible refine hold_call ?_))
section
open PySem PySem.W PySem.Spec PySem.Calls PyProof.Rows
set_option Elab.async false
set_option maxRecDepth 100000
set_option maxHeartbeats 8000000
theorem fmt2 {t u1 u2 : Tok} {b : Addr} {x y : Int} (hx0 : 0 ≤ x) (hx1 : x < 10 ^ 10) (hy0 : 0 ≤ y) (hy1 : y < 10 ^ 10) : Meets (Builtin.«str.__mod__» ⟨[.str ⟨#[37, 100, 32, 37, 100]⟩ t, .ref b], []⟩) (fun _ R s => IsTup s.heap b #[.int x u1, .int y u2] ∧ ∀ t' k, R (.ok (.ret (.str (Str.ofString (toString x) ++ Str.ofString " " ++ Str.ofString (toString y)) t'))) { s with toks := k }) := by
  kpt_run
theorem fmtU {t u : Tok} (i : Int) (h0 : 0 ≤ i) (h1 : i < 10 ^ 10) (h2 : i.natAbs.log2 < 1920) (h3 : ((i.natAbs : Nat) : Int).natAbs.log2 < 1920) : Meets (Builtin.«str.__mod__» ⟨[.str ⟨#[67, 65, 76, 76, 37, 100]⟩ t, .int i u], []⟩) (fun _ R s => ∀ t' k, R (.ok (.ret (.str (Str.ofString "CALL" ++ Str.ofString (toString i)) t'))) { s with toks := k }) := by
  revert h3 h2 h1 h0 i
  kpc_run
theorem fmtN {t u : Tok} (i : Int) (h0 : 0 ≤ i) (h1 : i < 10 ^ 10) (h2 : i.natAbs.log2 < 1920) (h3 : ((i.natAbs : Nat) : Int).natAbs.log2 < 1920) : Meets (Builtin.«str.__mod__» ⟨[.str ⟨#[37, 100]⟩ t, .int i u], []⟩) (fun _ R s => ∀ t' k, R (.ok (.ret (.str (Str.ofString (toString i)) t'))) { s with toks := k }) := by
  revert h3 h2 h1 h0 i
  kpc_run
theorem i10 {n : Nat} (h : n < 1000000) : ((n : Nat) : Int) < 10 ^ 10 := by omega
noncomputable abbrev Ten (x : Int) : Prop := 0 ≤ x ∧ x < 10 ^ 10
theorem Ten.nat {n : Nat} (h : n < 1000000) : Ten ((n : Nat) : Int) := ⟨Int.natCast_nonneg _, i10 h⟩
section
variable {prog : Program} {w : World} {A : Around} {E : Value → Shared → Prop} {s : Shared} {h₀ : Heap} {L : Addr} {X : Str} {t u : Tok} {Q : Value → Shared → Prop}
theorem mod_two {b : Addr} {u1 u2 : Tok} {x y : Int} {n : Nat} {news : List (Addr × Obj)} (N : News h₀ L s.heap news) (hb : (b, ({ cls := .type "tuple", data := .seq #[.int x u1, .int y u2] n } : Obj)) ∈ news) (hX : X = ⟨#[37, 100, 32, 37, 100]⟩) (hx : Ten x) (hy : Ten y)
    (h : ∀ t' k, Q (.str (Str.ofString (toString x) ++ Str.ofString " " ++ Str.ofString (toString y)) t') { s with toks := k }) : wpAny (model prog w) A (binaryOp .Mod (.str X t) (.ref b)) Q E s :=
  KPt.mod_tuple N hb hX (fmt2 hx.1 hx.2 hy.1 hy.2) h
theorem mod_call {n : Nat} (hX : X = ⟨#[67, 65, 76, 76, 37, 100]⟩) (hn : n < 1000000) (h : ∀ t' k, Q (.str (Str.ofString "CALL" ++ Str.ofString (toString ((n : Nat) : Int))) t') { s with toks := k }) : wpAny (model prog w) A (binaryOp .Mod (.str X t) (.int ((n : Nat) : Int) u)) Q E s :=
  KPc.mod_int (T := fun i => Str.ofString "CALL" ++ Str.ofString (toString i)) hX (Int.natCast_nonneg _) (i10 hn) fmtU h
theorem mod_num {n : Nat} (hX : X = ⟨#[37, 100]⟩) (hn : n < 1000000) (h : ∀ t' k, Q (.str (Str.ofString (toString ((n : Nat) : Int))) t') { s with toks := k }) : wpAny (model prog w) A (binaryOp .Mod (.str X t) (.int ((n : Nat) : Int) u)) Q E s :=
  KPc.mod_int (T := fun i => Str.ofString (toString i)) hX (Int.natCast_nonneg _) (i10 hn) fmtN h
end
end
section
open PySem PySem.W PySem.Spec PySem.Calls PyProof.Rows
set_option Elab.async false
set_option maxRecDepth 100000
set_option maxHeartbeats 0
/-- v is a pair of texts -/
noncomputable def PairIs (h : Heap) (v : Value) (r : Str × Str) : Prop := ∃ a t1 t2, v = .ref a ∧ IsTup h a #[.str r.1 t1, .str r.2 t2]
inductive RowsAt (h : Heap) : List Value → List (Str × Str) → Prop
  | nil : RowsAt h [] []
  | cons {v r vs rs} : PairIs h v r → RowsAt h vs rs → RowsAt h (v :: vs) (r :: rs)
theorem PairIs.kp {h h' : Heap} {v : Value} {r : Str × Str} (k : Kp h h') (p : PairIs h v r) : PairIs h' v r := let ⟨a, t1, t2, e, i⟩ := p; ⟨a, t1, t2, e, i.keeps k⟩
theorem RowsAt.kp {h h' : Heap} (k : Kp h h') {vs rs} (x : RowsAt h vs rs) : RowsAt h' vs rs := by
  induction x with
  | nil => exact .nil
  | cons p _ ih => exact .cons (p.kp k) ih
theorem RowsAt.length {h : Heap} {vs rs} (x : RowsAt h vs rs) : vs.length = rs.length := by
  induction x with
  | nil => rfl
  | cons _ _ ih => simp [ih]
/-- what stands but for objects that are no tuples keeps the rows -/
theorem isTup_but {h h' : Heap} {as : List Addr} (k : KpBut as h h') (hn : ∀ a ∈ as, ∀ o, h.get? a = some o → o.cls ≠ .type "tuple") {a : Addr} {its : Array Value} (x : IsTup h a its) : IsTup h' a its := by
  obtain ⟨o, ho, hc, r⟩ := x
  exact ⟨o, k a o ho (fun q => hn a q o ho hc), hc, r⟩
theorem RowsAt.but {h h' : Heap} {as : List Addr} (k : KpBut as h h') (hn : ∀ a ∈ as, ∀ o, h.get? a = some o → o.cls ≠ .type "tuple") {vs rs} (x : RowsAt h vs rs) : RowsAt h' vs rs := by
  induction x with
  | nil => exact .nil
  | cons p _ ih =>
    obtain ⟨a, t1, t2, e, i⟩ := p
    exact .cons ⟨a, t1, t2, e, isTup_but k hn i⟩ ih
theorem RowsAt.append {h : Heap} {vs rs vs' rs'} (x : RowsAt h vs rs) (y : RowsAt h vs' rs') : RowsAt h (vs ++ vs') (rs ++ rs') := by
  induction x with
  | nil => exact y
  | cons p _ ih => exact .cons p ih
theorem no_tuple {h₀ h : Heap} {L : Addr} {hid : List (Addr × Obj)} (N : News h₀ L h hid) (hc : hid.all (fun p => p.2.cls != .type "tuple") = true) : ∀ a ∈ hid.map (·.1), ∀ o, h.get? a = some o → o.cls ≠ .type "tuple" := by
  intro a ha o ho
  obtain ⟨p, hp, rfl⟩ := List.mem_map.mp ha
  rw [(N p hp).1] at ho; cases ho
  have := List.all_eq_true.mp hc p hp
  simpa using this

noncomputable abbrev hdrDict (hsh : Int) (t : Tok) (hl : Addr) : Obj := dictOf [⟨hsh, .str (Str.ofString "_headers") t, .ref hl⟩] 1
noncomputable abbrev tabLed (tb td hl : Addr) (hsh : Int) (t : Tok) (its : List Value) (n : Nat) : List (Addr × Obj) := [(tb, instObj 278 td), (td, hdrDict hsh t hl), (hl, listOf its.toArray n)]
end
section
open PySem PySem.W PySem.Spec PySem.Calls PyProof.Rows
set_option Elab.async false
set_option maxRecDepth 100000
set_option maxHeartbeats 0
local macro_rules | `(tactic| walk_at "pad") => `(tactic| skip)
theorem hdr_make {w : World} : Calls w 278 [] [] 20 200 [] (fun _ => True) (fun h r h' => ∃ (tb td hl : Addr) (hsh : Int) (t : Tok) (n : Nat), r = .ref tb ∧ h'.get? tb = some (instObj 278 td) ∧ h'.get? td = some (hdrDict hsh t hl) ∧ h'.get? hl = some (listOf #[] n) ∧ @LT.lt Nat _ td tb ∧ @LT.lt Nat _ tb hl ∧ h.get? tb = none ∧ h.get? td = none ∧ h.get? hl = none ∧ Kp h h') := by
  intro mean mg mb dp un gd cn cs a ccd cl outer A₀ base h₀ L m s Q E B F X T hk hd hu N pre ret
  revert X; k_fill; intro X
  obtain ⟨hh, g, d, t, os⟩ := s
  dsimp only at F N pre ret
  have X1 := X.keeps F.keep
  refine wpAny_call (make_core (makes_of X1 (by k_is)) (looks_findIn X1 (r := some (.ref 170)) (by k_is)) (fun self => bind_fn X1 self (by k_is)) (.inl rfl) ?_)
  obtain ⟨F1, N1, K1, n2, n1, hlt⟩ := push2 F (instObj 278 hh.objs.size) rfl
  clear F N X1
  generalize (hh.push emptyDict).push (instObj 278 hh.objs.size) = h1 at *
  generalize hh.objs.size + 1 = x at *
  generalize hh.objs.size = d0 at *
  k_dflt (refine' code_mine (binds := [(Str.ofString "self", .ref x), (Str.ofString "headers", .none)]) ?k1 ?k2 ?k3 ?k4 ?k5 ?kA ?kF ?kK ?k6 ?k7 ?k8 ?k9 ?kB ?_ ?c5 ?c2 ?c3 ?c4; (case kA | kF => exact rfl); (case kK => assumption); (case k1 | k2 | k3 | k4 | k5 => k_asm); (case k6 | k7 => k_is); (case k8 => ktr_room); (case k9 => first | exact BindsTo.of_eq rfl | exact binds_K (by k_in) rfl (by k_is) rfl rfl rfl); (case c5 => decide); (case kB => exact locs rfl); (case c2 | c3 | c4 => exact rfl))
  intro P9 hP9
  walk_at "mine_start"
  k_steps
  refine hP9 _ _ ⟨rfl, ret _ _ _ ?_⟩
  refine' Exists.intro x (Exists.intro d0 (Exists.intro ?l (Exists.intro ?a (Exists.intro ?b (Exists.intro ?c (And.intro rfl (And.intro ?d (And.intro ?e (And.intro ?f (And.intro hlt (And.intro ?i (And.intro n2 (And.intro n1 (And.intro ?g ?h))))))))))))))
  case e => exact News.get (by k_asm) (by k_mem)
  case d => exact News.get (by k_asm) (by k_mem)
  case f => exact News.get (by k_asm) (by k_mem)
  case i => omega
  case g => exact Kp.none K1 (by walk_at "mine_fresh")
  case h =>
    (rename Fr _ _ _ _ => lF9)
    have kb := kpBut_of (by assumption) lF9
    exact kp_two K1 n2 n1 kb
end
section
open PySem PySem.W PySem.Spec PySem.Calls PyProof.Rows
set_option Elab.async false
set_option maxRecDepth 100000
set_option maxHeartbeats 0
local macro_rules | `(tactic| walk_at "getMethod ref") => `(tactic| (k_here; (with_reducible show wpAny _ _ (getMethod (Value.ref _) (PySem.Str.ofString "search") _) _ _ _); k_dflt (refine' method_search ?k1 ?k2 ?_; (case k1 => k_in); (case k2 => k_is); k_whole)))
local macro_rules | `(tactic| walk_at "call builtin:re.Pattern.search") => `(tactic| (k_here; k_dflt (first | (refine' search_142 ?k1 ?k2 ?k3 ?_; (case k1 => k_in); (case k2 => assumption); (case k3 => omega); k_whole) | (refine' search_147 ?k1 ?k2 ?k3 ?_; (case k1 => k_in); (case k2 => assumption); (case k3 => omega); k_whole))))
theorem conv_spec {w : World} {x : Str} {t : Tok} {tb : Addr} {b : Bool} (hx : Safe x) (hs0 : x.length ≤ 1000) : Calls w 177 [.ref tb, .str x t] [(Str.ofString "name", .bool b)] 10 100 [] (fun _ => True) (fun h r h' => r = .str x t ∧ Kp h h') := by
  intro mean mg mb dp un gd cn cs a ccd cl outer A₀ base h₀ L m s Q E B F X T hk hd hu N pre ret
  revert X; k_fill; intro X
  have hs : x.cps.size ≤ 1000 := hs0
  clear hs0
  refine wpAny_call ?_
  k_dflt (refine' code_mine (binds := [(Str.ofString "self", .ref tb), (Str.ofString "value", .str x t), (Str.ofString "name", .bool b)]) ?k1 ?k2 ?k3 ?k4 ?k5 ?kA ?kF ?kK ?k6 ?k7 ?k8 ?k9 ?kB ?_ ?c5 ?c2 ?c3 ?c4; (case kA | kF => exact rfl); (case kK => assumption); (case k1 | k2 | k3 | k4 | k5 => k_asm); (case k6 | k7 => k_is); (case k8 => ktr_room); (case k9 => first | exact BindsTo.of_eq rfl | exact binds_K (by k_in) rfl (by k_is) rfl rfl rfl); (case c5 => decide); (case kB => exact locs rfl); (case c2 | c3 | c4 => exact rfl))
  intro P9 hP9
  walk_at "mine_start"
  replace ret := fun r h' tk' p => hP9 r _ (ret r h' tk' p)
  cases b
  all_goals k_steps
  all_goals exact ret _ _ _ ⟨rfl, by walk_at "mine_kp"⟩
end
section
open PySem PySem.W PySem.Spec PySem.Calls PyProof.Rows
set_option Elab.async false
set_option maxRecDepth 100000
set_option maxHeartbeats 0
/-- a loop over given values, by what holds of the values that are left, the frame and the ledger -/
theorem items_inv {prog : Program} {w : World} {A : Around} {E : Value → Shared → Prop} {h₀ : Heap} {env : Env} {target : Expr} {body : List Stmt} {Q : Flow → Shared → Prop} {s : Shared} {ws : List (Addr × String)} {keep : List (Addr × Obj)}
    (J : List Value → (Str → Option Value) → List (Addr × Obj) → Prop)
    (step : ∀ v r m news, J (v :: r) m news → ∀ h tk, Fr h₀ env.locals h m → AllObj ws (fun its => News h₀ env.locals h (its ++ news) →
      wpAny (model prog w) A (assign target env v) (fun _ s₂ => wpAny (model prog w) A (execs body env) (UnrPostW h₀ env.locals { s with heap := h, toks := tk } its (fun m' n' => SubL keep n' ∧ J r m' n') Q) E s₂) E { s with heap := h, toks := tk }))
    (done : ∀ m news, J [] m news → ∀ h tk, Fr h₀ env.locals h m → News h₀ env.locals h news → Q .next { s with heap := h, toks := tk }) :
    ∀ vs m news, J vs m news → ItemsRest prog w A E h₀ env target body Q s ws keep (vs.map .val) m news := by
  intro vs
  induction vs with
  | nil => exact fun m news hJ => ItemsRest.zero (done m news hJ)
  | cons v r ih =>
    intro m news hJ
    refine ItemsRest.val fun h tk F => ?_
    have st := step v r m news hJ h tk F
    refine allObj_mono ?_ st
    intro its hs N
    refine wpAny_mono (hs N) (fun _ s₂ h₂ => wpAny_mono h₂ (fun f s₃ p => ?_) fun _ _ e => e) fun _ _ e => e
    cases f with
    | ret v => exact p
    | brk => exact p
    | next =>
      obtain ⟨h', tk', m', n', e, F', N', off, sub, hj⟩ := p
      exact ⟨h', tk', m', n', e, F', N', off, sub, ih m' n' hj⟩
    | cont =>
      obtain ⟨h', tk', m', n', e, F', N', off, sub, hj⟩ := p
      exact ⟨h', tk', m', n', e, F', N', off, sub, ih m' n' hj⟩
where
  allObj_mono : ∀ {ws : List (Addr × String)} {k k' : List (Addr × Obj) → Prop}, (∀ its, k its → k' its) → AllObj ws k → AllObj ws k'
    | [], _, _, hk, h => hk _ h
    | _ :: _, _, _, hk, h => fun o ho => allObj_mono (fun its => hk _) (h o ho)
theorem frame1 {a : Str} {m m₀ : Str → Option Value} (h : ∀ y, y ≠ a → m y = m₀ y) : m = fun y => if y = a then m y else m₀ y := by
  funext y
  by_cases h1 : y = a
  · simp [h1]
  · simp [h1, h y h1]
theorem frame2 {a b : Str} {m m₀ : Str → Option Value} (h : ∀ y, y ≠ a → y ≠ b → m y = m₀ y) : m = fun y => if y = a then m y else if y = b then m y else m₀ y := by
  funext y
  by_cases h1 : y = a
  · simp [h1]
  · by_cases h2 : y = b
    · simp [h2]
    · simp [h1, h2, h y h1 h2]
end
section
open PySem PySem.W PySem.Spec PySem.Calls PyProof.Rows
set_option Elab.async false
set_option maxRecDepth 100000
set_option maxHeartbeats 0
local macro_rules | `(tactic| walk_at "pad") => `(tactic| skip)
local macro_rules | `(tactic| walk_at "call ref") => `(tactic| walk_at "mine_hc")
local macro_rules | `(tactic| walk_at "call builtin:str.lower") => `(tactic| (k_here; k_dflt (refine SCL.lower (by first | assumption | omega) ?_; intro _)))

noncomputable abbrev getM (tb : Addr) (x : Str) (tx tk : Tok) (u : Str → Option Value) : Str → Option Value := fun y => if y = Str.ofString "k" then u y else if y = Str.ofString "v" then u y else if y = Str.ofString "name" then some (.str (Txt.lower x) tk) else List.lookup y [(Str.ofString "self", Value.ref tb), (Str.ofString "name", Value.str x tx), (Str.ofString "default", Value.none)].reverse
noncomputable def GetJ (g : Heap) (x v : Str) (tb : Addr) (tx : Tok) (led : List (Addr × Obj)) (vs : List Value) (m' : Str → Option Value) (n' : List (Addr × Obj)) : Prop :=
  (∃ rs, RowsAt g vs rs ∧ (∀ p ∈ rs, p.1.length ≤ 1000) ∧ (rs.find? fun p => Txt.lower p.1 == Txt.lower x).map (·.2) = some v) ∧ (∃ tk u, m' = getM tb x tx tk u) ∧ n' = led
theorem get_spec {w : World} {tb td hl : Addr} {hsh : Int} {t tx : Tok} {its : List Value} {n : Nat} {x : Str} {rows : List (Str × Str)} (h1 : @LT.lt Nat _ td tb) (h2 : @LT.lt Nat _ tb hl) (hx : Safe (Txt.lower x)) (hxl : (Txt.lower x).length ≤ 1000) (hxs : x.length ≤ 1000) (hrl : ∀ p ∈ rows, p.1.length ≤ 1000) {v : Str}
    (hv : (rows.find? fun p => Txt.lower p.1 == Txt.lower x).map (·.2) = some v) :
    Calls w 225 [.ref tb, .str x tx] [] 20 200 (tabLed tb td hl hsh t its n) (fun h => RowsAt h its rows) (fun h r h' => (∃ tk, r = .str v tk) ∧ Kp h h') := by
  intro mean mg mb dp un gd cn cs a ccd cl outer A₀ base h₀ L m s Q E B F X T hk hd hu N pre ret
  revert X; k_fill; intro X
  have hno := no_tuple N rfl
  have hxs5 : x.length ≤ 5592405 := by omega
  refine wpAny_call ?_
  k_dflt (refine' code_mine (binds := [(Str.ofString "self", .ref tb), (Str.ofString "name", .str x tx), (Str.ofString "default", .none)]) ?k1 ?k2 ?k3 ?k4 ?k5 ?kA ?kF ?kK ?k6 ?k7 ?k8 ?k9 ?kB ?_ ?c5 ?c2 ?c3 ?c4; (case kA | kF => exact rfl); (case kK => assumption); (case k1 | k2 | k3 | k4 | k5 => k_asm); (case k6 | k7 => k_is); (case k8 => ktr_room); (case k9 => first | exact BindsTo.of_eq rfl | exact binds_K (by k_in) rfl (by k_is) rfl rfl rfl); (case c5 => decide); (case kB => exact locs rfl); (case c2 | c3 | c4 => exact rfl))
  intro P9 hP9
  intro g L' h₁ eL hg F' N' lN B' X' T'
  replace ret := fun r h' tk' p => hP9 r _ (ret r h' tk' p)
  (try dsimp only); (try k_fold)
  have hrg : RowsAt g its rows := RowsAt.but (fun b o e n => hg b o e n) hno pre
  iterate 22 (first | walk_at "k_one" | (unfold Hold; (with_reducible show wpAny _ _ (call (Value.ref 177) _ _) _ _ _); (k_dflt refine' call_it (conv_spec (by assumption) (by assumption)) ?k9 ?_); (case k9 => exact trivial); intro r' h' tk' hp'; obtain ⟨e9, hk9⟩ := hp'; subst e9; walk_at "mine_kpE"))
  (rename Fr _ _ _ _ => lF)
  refine For_turns lF ?_
  iterate 3 walk_at "k_one"
  (rename Fr _ _ _ _ => lF); (rename News _ _ _ _ => lN)
  refine iter_listTurns (lo := listOf its.toArray n) (vs := its) (by rfl) lF lN (by k_mem) rfl rfl ?_
  intro I lI
  k_lt lI
  refine items_inv (J := GetJ g x v tb tx (tabLed tb td hl hsh t its n)) ?_ ?_ its _ _ ⟨⟨rows, hrg, hrl, hv⟩, ⟨_, _, frame2 fun _ _ _ => rfl⟩, rfl⟩
  · rintro v' r m' n' ⟨⟨rs, hr9, hl9, hf9⟩, ⟨tk8, u, rfl⟩, rfl⟩ h9 tk9 F9
    cases hr9 with
    | @cons _ row _ rs' hp9 hr9 =>
    obtain ⟨a9, t1, t2, rfl, ht9⟩ := hp9
    have ht8 : IsTup h9 a9 _ := ht9.keeps F9.keep
    have hl8 : row.1.length ≤ 5592405 := by have := hl9 row (.head _); omega
    have hf8 : ((Txt.lower row.1 == Txt.lower x) = true ∧ row.2 = v) ∨ ((Txt.lower row.1 == Txt.lower x) = false ∧ (rs'.find? fun p => Txt.lower p.1 == Txt.lower x).map (·.2) = some v) := by
      rw [List.find?_cons] at hf9
      cases q : (Txt.lower row.1 == Txt.lower x) with
      | true => rw [q] at hf9; exact .inl ⟨rfl, Option.some.inj hf9⟩
      | false => rw [q] at hf9; exact .inr ⟨rfl, hf9⟩
    have hl7 := fun p hp => hl9 p (List.mem_cons_of_mem _ hp)
    clear hf9 hl9 ht9 lF lN
    ktu_objs
    repeat' (first | walk_at "k_one" | (unfold Hold; (with_reducible show wpAny _ _ (call (Value.ref 177) _ _) _ _ _); (k_dflt refine' call_it (conv_spec (by assumption) (by assumption)) ?k9 ?_); (case k9 => exact trivial); intro r' h' tk' hp'; obtain ⟨e9, hk9⟩ := hp'; subst e9; walk_at "mine_kpE"))
    · rcases hf8 with ⟨_, q⟩ | ⟨q, _⟩
      · rw [q]; exact ret _ _ _ ⟨⟨_, rfl⟩, by walk_at "mine_kph"⟩
      · have h8 : (Txt.lower row.1 == Txt.lower x) = true := by assumption
        rw [q] at h8; cases h8
    · rcases hf8 with ⟨q, _⟩ | ⟨_, q⟩
      · have h8 : (Txt.lower row.1 == Txt.lower x) = false := by assumption
        rw [q] at h8; cases h8
      · exact ⟨⟨rs', hr9, hl7, q⟩, ⟨tk8, _, frame2 fun y h1 h2 => by simp [getM, h1, h2]⟩, rfl⟩
  · rintro m' n' ⟨⟨rs, hr9, hl9, hf9⟩, ⟨tk8, u, rfl⟩, rfl⟩
    cases hr9
    cases hf9
end
section
open PySem PySem.W PySem.Spec PySem.Calls PyProof.Rows
set_option Elab.async false
set_option maxRecDepth 100000
set_option maxHeartbeats 0
noncomputable abbrev num (n : Nat) : Str := Str.ofString (toString (n : Int))
noncomputable abbrev val (c t : Nat) : Str := num c ++ Str.ofString " " ++ num t
noncomputable abbrev key (n : Nat) : Str := Str.ofString "call" ++ num n
noncomputable abbrev keyU (n : Nat) : Str := Str.ofString "CALL" ++ num n

theorem num_digits (n : Nat) : ∀ c ∈ (num n).cps.toList, 48 ≤ c ∧ c ≤ 57 := by
  intro c hc
  rw [KIN.signs_num] at hc
  obtain ⟨ch, hch, e⟩ := List.mem_map.mp hc
  have r := digit_range (Nat.isDigit_of_mem_toDigits (by decide) (by decide) hch)
  rw [← e]
  exact r
theorem num_ne (n : Nat) : (num n).length ≠ 0 := by
  intro e
  have e' : (num n).cps = #[] := Array.eq_empty_of_size_eq_zero e
  have h := KIN.signs_num n
  rw [e'] at h
  have h3 : (Nat.toDigits 10 n).length = 0 := by
    have := congrArg List.length h
    simpa using this.symm
  have h2 := toDigits_len_ge 10 n
  omega
theorem num_len {n : Nat} (h : n < 10 ^ 10) : (num n).length ≤ 10 := KT.len_num (Int.natCast_nonneg n) (by omega)
theorem num_inj {a b : Nat} (ha : a < 10 ^ 10) (hb : b < 10 ^ 10) (e : num a = num b) : a = b := by
  have h1 := KIN.num_reads (n := (a : Int)) (by omega) (by omega)
  have h2 := KIN.num_reads (n := (b : Int)) (by omega) (by omega)
  have e' : Str.ofString (toString (a : Int)) = Str.ofString (toString (b : Int)) := e
  rw [e'] at h1
  have := Option.some.inj (h1.symm.trans h2)
  omega
theorem app_list (a b : Str) : (a ++ b).cps.toList = a.cps.toList ++ b.cps.toList := by rw [Str.cps_append, Array.toList_append]
theorem app_inj {a b c : Str} (e : a ++ b = a ++ c) : b = c := by
  have h := congrArg (fun x : Str => x.cps.toList) e
  simp only [app_list] at h
  exact Str.ext' (Array.toList_inj.mp (List.append_cancel_left h))
theorem key_inj {a b : Nat} (ha : a < 10 ^ 10) (hb : b < 10 ^ 10) (e : key a = key b) : a = b := num_inj ha hb (app_inj e)
theorem num_still (n : Nat) : KXs.Still (num n) := fun c hc => by have := num_digits n c hc; omega
theorem key_still (n : Nat) : KXs.Still (key n) := KXs.still_app (KXs.still_of (by decide +kernel)) (num_still n)
theorem lower_key (n : Nat) : Txt.lower (key n) = key n := KXs.lower_still (key_still n)
theorem lower_keyU (n : Nat) : Txt.lower (keyU n) = key n := by
  have hd := num_digits n
  rw [lower_ascii (fun c hc => by
    rw [app_list] at hc
    rcases List.mem_append.mp hc with h | h
    · have : ∀ c ∈ (Str.ofString "CALL").cps.toList, c < 128 := by decide +kernel
      exact this c h
    · have := hd c h; omega)]
  refine Str.ext' (Array.toList_inj.mp ?_)
  rw [Array.toList_map, app_list, app_list, List.map_append]
  have e1 : (Str.ofString "CALL").cps.toList.map lo1 = (Str.ofString "call").cps.toList := by decide +kernel
  have e2 : (num n).cps.toList.map lo1 = (num n).cps.toList.map _root_.id := List.map_congr_left fun c hc => by
    have := hd c hc
    show lo1 c = c
    unfold lo1
    rw [if_neg (by omega)]
  rw [e1, e2, List.map_id]
noncomputable abbrev SafeT (x : Str) : Prop := ∀ c ∈ x.cps.toList, 32 ≤ c ∧ c ≤ 126
theorem safe_app {a b : Str} (ha : SafeT a) (hb : SafeT b) : SafeT (a ++ b) := fun c hc => by
  rw [app_list] at hc
  rcases List.mem_append.mp hc with h | h
  · exact ha c h
  · exact hb c h
theorem safe_num (n : Nat) : SafeT (num n) := fun c hc => by have := num_digits n c hc; omega
theorem safe_key (n : Nat) : SafeT (key n) := safe_app (by show ∀ c ∈ (Str.ofString "call").cps.toList, _; decide +kernel) (safe_num n)
theorem safe_keyU (n : Nat) : SafeT (keyU n) := safe_app (by show ∀ c ∈ (Str.ofString "CALL").cps.toList, _; decide +kernel) (safe_num n)
theorem safe_val (a b : Nat) : SafeT (val a b) := safe_app (safe_app (safe_num a) (by show ∀ c ∈ (Str.ofString " ").cps.toList, _; decide +kernel)) (safe_num b)
theorem len_key {n : Nat} (h : n < 10 ^ 10) : (key n).length ≤ 14 := by
  have := num_len h
  rw [Str.length_append]
  have e : (Str.ofString "call").length = 4 := by decide +kernel
  omega
theorem len_keyU {n : Nat} (h : n < 10 ^ 10) : (keyU n).length ≤ 14 := by
  have := num_len h
  rw [Str.length_append]
  have e : (Str.ofString "CALL").length = 4 := by decide +kernel
  omega
theorem len_val {a b : Nat} (h : a < 10 ^ 10) (h' : b < 10 ^ 10) : (val a b).length ≤ 21 := by
  have := num_len h
  have := num_len h'
  rw [Str.length_append, Str.length_append]
  have e : (Str.ofString " ").length = 1 := by decide +kernel
  omega

theorem scan_digits : ∀ (l : List Nat) (ws : List Str) (r : Str), (∀ c ∈ l, 48 ≤ c ∧ c ≤ 57) → l.foldl KWd.step (ws, r) = (ws, r ++ ⟨l.toArray⟩)
  | [], ws, r, _ => by
    have e : r ++ (⟨#[]⟩ : Str) = r := Str.ext' (by rw [Str.cps_append]; exact Array.append_empty)
    show (ws, r) = (ws, r ++ ⟨#[]⟩)
    rw [e]
  | c :: l, ws, r, h => by
    have hc := h c (.head _)
    have hs : Unicode.isSpace c = false := KXs.no_space c (by omega) (by omega)
    rw [List.foldl_cons]
    have e : KWd.step (ws, r) c = (ws, r ++ ⟨#[c]⟩) := by
      unfold KWd.step
      rw [if_neg (by rw [hs]; exact Bool.false_ne_true)]
    rw [e, scan_digits l ws _ fun c hc => h c (.tail _ hc)]
    refine congrArg (Prod.mk ws) (Str.ext' ?_)
    apply Array.toList_inj.mp
    simp [Str.cps_append]
theorem ofList_num (n : Nat) : (⟨(num n).cps.toList.toArray⟩ : Str) = num n := Str.ext' (by simp)
theorem empty_app' (x : Str) : Str.empty ++ x = x := KT.empty_app x

theorem words_val (a b : Nat) : Txt.words (val a b) = [num a, num b] := by
  have h : KWd.scan (val a b) = ([num a], num b) := by
    unfold KWd.scan
    rw [app_list, app_list, List.foldl_append, List.foldl_append, scan_digits _ _ _ (num_digits a), ofList_num, empty_app']
    have e : (Str.ofString " ").cps.toList = [32] := by decide +kernel
    rw [e]
    have e2 : KWd.step ([], num a) 32 = ([num a], Str.empty) := by
      unfold KWd.step
      rw [if_pos (by decide +kernel), if_neg (num_ne a)]
      rfl
    show List.foldl KWd.step (KWd.step ([], num a) 32) _ = _
    rw [e2, scan_digits _ _ _ (num_digits b), ofList_num, empty_app']
  rw [KWd.words_of h, if_neg (num_ne b)]
  rfl
end
section
open PySem PySem.W PySem.Spec PySem.Calls PyProof.Rows
set_option Elab.async false
set_option maxRecDepth 100000
set_option maxHeartbeats 0
noncomputable abbrev Ent := Nat × Nat × Nat
/-- entry e = (number, caller, thing) stands in v -/
noncomputable def EntAt (h : Heap) (v : Value) (e : Ent) : Prop :=
  (∃ k, PairIs h v (k, val e.2.1 e.2.2) ∧ Txt.lower k = key e.1 ∧ k.length ≤ 1000) ∧ e.1 < 1000000 ∧ e.2.1 < 1000000 ∧ e.2.2 < 1000000
inductive TabAt (h : Heap) : List Value → List Ent → Prop
  | nil : TabAt h [] []
  | cons {v e vs es} : EntAt h v e → TabAt h vs es → TabAt h (v :: vs) (e :: es)
theorem EntAt.kp {h h' : Heap} {v e} (k : Kp h h') (x : EntAt h v e) : EntAt h' v e := let ⟨⟨q, p, r⟩, b⟩ := x; ⟨⟨q, p.kp k, r⟩, b⟩
theorem TabAt.kp {h h' : Heap} (k : Kp h h') {vs es} (x : TabAt h vs es) : TabAt h' vs es := by
  induction x with
  | nil => exact .nil
  | cons p _ ih => exact .cons (p.kp k) ih
theorem TabAt.length {h : Heap} {vs es} (x : TabAt h vs es) : vs.length = es.length := by
  induction x with
  | nil => rfl
  | cons _ _ ih => simp [ih]
theorem PairIs.but {h h' : Heap} {as : List Addr} (k : KpBut as h h') (hn : ∀ a ∈ as, ∀ o, h.get? a = some o → o.cls ≠ .type "tuple") {v r} (x : PairIs h v r) : PairIs h' v r :=
  let ⟨a, t1, t2, e, i⟩ := x; ⟨a, t1, t2, e, isTup_but k hn i⟩
theorem EntAt.but {h h' : Heap} {as : List Addr} (k : KpBut as h h') (hn : ∀ a ∈ as, ∀ o, h.get? a = some o → o.cls ≠ .type "tuple") {v e} (x : EntAt h v e) : EntAt h' v e :=
  let ⟨⟨q, p, r⟩, b⟩ := x; ⟨⟨q, p.but k hn, r⟩, b⟩
theorem TabAt.but {h h' : Heap} {as : List Addr} (k : KpBut as h h') (hn : ∀ a ∈ as, ∀ o, h.get? a = some o → o.cls ≠ .type "tuple") {vs es} (x : TabAt h vs es) : TabAt h' vs es := by
  induction x with
  | nil => exact .nil
  | cons p _ ih => exact .cons (p.but k hn) ih
theorem TabAt.append {h : Heap} {vs es vs' es'} (x : TabAt h vs es) (y : TabAt h vs' es') : TabAt h (vs ++ vs') (es ++ es') := by
  induction x with
  | nil => exact y
  | cons p _ ih => exact .cons p ih
theorem key_beq {a b : Nat} (ha : a < 1000000) (hb : b < 1000000) : (key a == key b) = (a == b) := by
  by_cases h : a = b
  · subst h; simp
  · have : key a ≠ key b := fun e => h (key_inj (by omega) (by omega) e)
    rw [beq_eq_false_iff_ne.mpr h, beq_eq_false_iff_ne.mpr this]
theorem TabAt.rows {h : Heap} {vs es} (x : TabAt h vs es) : ∃ rows, RowsAt h vs rows ∧ (∀ p ∈ rows, p.1.length ≤ 1000) ∧
    ∀ n, n < 1000000 → (rows.find? fun p => Txt.lower p.1 == Txt.lower (keyU n)).map (·.2) = (es.find? fun e => e.1 == n).map fun e => val e.2.1 e.2.2 := by
  induction x with
  | nil => exact ⟨[], .nil, by simp, fun _ _ => rfl⟩
  | @cons v e vs es p q ih =>
    obtain ⟨rows, r, l, f⟩ := ih
    obtain ⟨⟨k, p, lk, ll⟩, b1, b2, b3⟩ := p
    refine ⟨(k, _) :: rows, .cons p r, ?_, fun n hn => ?_⟩
    · intro x hx
      rcases List.mem_cons.mp hx with rfl | hx
      · exact ll
      · exact l _ hx
    · rw [List.find?_cons, List.find?_cons]
      have e1 : (Txt.lower k == Txt.lower (keyU n)) = (e.1 == n) := by rw [lk, lower_keyU]; exact key_beq b1 hn
      have e1' : (Txt.lower (k, val e.2.1 e.2.2).1 == Txt.lower (keyU n)) = (e.1 == n) := e1
      rw [e1']
      cases (e.1 == n) with
      | true => rfl
      | false => exact f n hn

local macro_rules | `(tactic| walk_at "call ref") => `(tactic| walk_at "mine_hc")
theorem getitem_spec {w : World} {tb td hl : Addr} {hsh : Int} {t tx : Tok} {its : List Value} {n : Nat} {x : Str} {rows : List (Str × Str)} (h1 : @LT.lt Nat _ td tb) (h2 : @LT.lt Nat _ tb hl) (hx : Safe (Txt.lower x)) (hxl : (Txt.lower x).length ≤ 1000) (hxs : x.length ≤ 1000) (hrl : ∀ p ∈ rows, p.1.length ≤ 1000) {v : Str}
    (hv : (rows.find? fun p => Txt.lower p.1 == Txt.lower x).map (·.2) = some v) :
    Calls w 203 [.ref tb, .str x tx] [] 30 300 (tabLed tb td hl hsh t its n) (fun h => RowsAt h its rows) (fun h r h' => (∃ tk, r = .str v tk) ∧ Kp h h') := by
  intro mean mg mb dp un gd cn cs a ccd cl outer A₀ base h₀ L m s Q E B F X T hk hd hu N pre ret
  revert X; k_fill; intro X
  have hno := no_tuple N rfl
  refine wpAny_call ?_
  k_dflt (refine' code_mine (binds := [(Str.ofString "self", .ref tb), (Str.ofString "name", .str x tx)]) ?k1 ?k2 ?k3 ?k4 ?k5 ?kA ?kF ?kK ?k6 ?k7 ?k8 ?k9 ?kB ?_ ?c5 ?c2 ?c3 ?c4; (case kA | kF => exact rfl); (case kK => assumption); (case k1 | k2 | k3 | k4 | k5 => k_asm); (case k6 | k7 => k_is); (case k8 => ktr_room); (case k9 => first | exact BindsTo.of_eq rfl | exact binds_K (by k_in) rfl (by k_is) rfl rfl rfl); (case c5 => decide); (case kB => exact locs rfl); (case c2 | c3 | c4 => exact rfl))
  intro P9 hP9
  intro g L' h₁ eL hg F' N' lN B' X' T'
  replace ret := fun r h' tk' p => hP9 r _ (ret r h' tk' p)
  (try dsimp only); (try k_fold)
  have hrg : RowsAt h₁ its rows := (RowsAt.but (fun b o e n => hg b o e n) hno pre).kp F'.keep
  repeat' (first | walk_at "k_one" | (unfold Hold; (with_reducible show wpAny _ _ (call (Value.ref 225) _ _) _ _ _); (k_dflt refine' call_it (get_spec (by assumption) (by assumption) (by assumption) (by assumption) (by assumption) (by assumption) (by assumption)) ?k9 ?_); (case k9 => assumption); intro r' h' tk' hp'; obtain ⟨⟨tk9, e9⟩, hk9⟩ := hp'; subst e9; (rename Fr _ _ _ _ => lF9); (rename News _ _ _ _ => lN9); have F' := Kp.fr hk9 lF9; have N' := Kp.news hk9 lN9))
  all_goals exact ret _ _ _ ⟨⟨_, rfl⟩, by walk_at "mine_kph"⟩
end
section
open PySem PySem.W PySem.Spec PySem.Calls PyProof.Rows
set_option Elab.async false
set_option maxRecDepth 100000
set_option maxHeartbeats 4000000
theorem TabAt.bnd {h : Heap} {vs es} (x : TabAt h vs es) : ∀ e ∈ es, e.2.1 < 1000000 ∧ e.2.2 < 1000000 := by
  induction x with
  | nil => intro e he; cases he
  | cons p _ ih =>
    intro e he
    rcases List.mem_cons.mp he with rfl | he
    · exact p.2.2
    · exact ih e he
theorem safe_kU (n : Nat) : Safe (Txt.lower (keyU n)) := by rw [lower_keyU]; exact safe_key n
theorem len_lkU {n : Nat} (h : n < 1000000) : (Txt.lower (keyU n)).length ≤ 1000 := by rw [lower_keyU]; have := len_key (n := n) (by omega); omega
theorem len_kU {n : Nat} (h : n < 1000000) : (keyU n).length ≤ 1000 := by have := len_keyU (n := n) (by omega); omega
theorem split_val {prog : Program} {w : World} {A : Around} {E : Value → Shared → Prop} {s : Shared} {h₀ : Heap} {L : Addr} {m : Str → Option Value} {news : List (Addr × Obj)} {a b : Nat} {t : Tok} {Q : Value → Shared → Prop}
    (hF : Fr h₀ L s.heap m) (hN : News h₀ L s.heap news) (ha : a < 1000000) (hb : b < 1000000)
    (h : ∀ D h' t1 t2 k, Fr h₀ L h' m → News h₀ L h' ((D, listOf #[.str (num a) t1, .str (num b) t2] 0) :: news) → (∀ p ∈ news, p.1 < D) → Q (.ref D) { s with heap := h', toks := k }) :
    wpAny (model prog w) A (call (.builtin "str.split") [.str (val a b) t]) Q E s := by
  refine KSpl.split0 hF hN ?_ (by rw [sizeLine_eq]; have := len_val (a := a) (b := b) (by omega) (by omega); omega)
  intro D l h' k e _ F' N' l1
  rw [words_val] at e
  match l, e with
  | [(x, t1), (y, t2)], e =>
    have e1 : x = num a := (List.cons.inj e).1
    have e2 : y = num b := (List.cons.inj (List.cons.inj e).2).1
    subst e1 e2
    exact h D h' t1 t2 k F' N' l1
local macro_rules | `(tactic| walk_at "binaryOp Mod str int") => `(tactic| (k_here; k_dflt (refine mod_call (by rfl) (by assumption) ?_); intro _ _))
local macro_rules | `(tactic| walk_at "call builtin:str.split") => `(tactic| (k_here; (with_reducible refine' split_val ?k1 ?k2 ?k3 ?k4 ?_); (case k1 | k2 => k_asm); (case k3 | k4 => with_reducible assumption); intro D' h' t1' t2' k' F' N' l1; (try k_lt l1)))
local macro_rules | `(tactic| walk_at "call ref") => `(tactic| (k_here; (with_reducible show wpAny _ _ (call (Value.ref 203) _ _) _ _ _); (k_dflt refine' call_it (getitem_spec (by with_reducible assumption) (by with_reducible assumption) (by with_reducible assumption) (by with_reducible assumption) (by with_reducible assumption) (by with_reducible assumption) (by with_reducible assumption)) ?k9 ?_); (case k9 => with_reducible assumption); intro r' h' tk' hp'; obtain ⟨⟨tk9, e9⟩, hk9⟩ := hp'; subst e9; walk_at "mine_kpE"))
theorem entry_spec {w : World} {tb td hl : Addr} {hsh : Int} {t tk : Tok} {its : List Value} {n : Nat} {k : Nat} {tab : List Ent} (h1 : @LT.lt Nat _ td tb) (h2 : @LT.lt Nat _ tb hl) (hk6 : k < 1000000) {e : Ent}
    (hv : tab.find? (fun e => e.1 == k) = some e) :
    Calls w 315 [.ref tb, .int (k : Nat) tk] [] 40 400 (tabLed tb td hl hsh t its n) (fun h => TabAt h its tab) (fun h r h' => (∃ l m t1 t2, r = .ref l ∧ h.get? l = none ∧ h'.get? l = some (listOf #[.int (e.2.1 : Nat) t1, .int (e.2.2 : Nat) t2] m)) ∧ Kp h h') := by
  intro mean mg mb dp un gd cn cs a ccd cl outer A₀ base h₀ L m s Q E B F X T hk hd hu N pre ret
  revert X; k_fill; intro X
  have hno := no_tuple N rfl
  refine wpAny_call ?_
  k_dflt (refine' code_mine (binds := [(Str.ofString "table", .ref tb), (Str.ofString "number", .int (k : Nat) tk)]) ?k1 ?k2 ?k3 ?k4 ?k5 ?kA ?kF ?kK ?k6 ?k7 ?k8 ?k9 ?kB ?_ ?c5 ?c2 ?c3 ?c4; (case kA | kF => exact rfl); (case kK => assumption); (case k1 | k2 | k3 | k4 | k5 => k_asm); (case k6 | k7 => k_is); (case k8 => ktr_room); (case k9 => first | exact BindsTo.of_eq rfl | exact binds_K (by k_in) rfl (by k_is) rfl rfl rfl); (case c5 => decide); (case kB => exact locs rfl); (case c2 | c3 | c4 => exact rfl))
  intro P9 hP9
  intro g L' h₁ eL hg F' N' lN B' X' T'
  replace ret := fun r h' tk' p => hP9 r _ (ret r h' tk' p)
  (try dsimp only); (try k_fold)
  obtain ⟨rows, hr9, hrl, hf9⟩ := ((pre.but (fun b o e n => hg b o e n) hno).kp F'.keep).rows
  have hvv := hf9 k hk6
  rw [hv] at hvv
  dsimp only [Option.map_some] at hvv
  have hev : tab.find? (fun e => e.1 == k) = some e := hv
  obtain ⟨hb1, hb2⟩ := (pre.bnd e (List.mem_of_find?_eq_some hv))
  have hx := safe_kU k
  have hxl := len_lkU hk6
  have hxs := len_kU hk6
  k_steps
  refine ret _ _ _ ⟨?_, by walk_at "mine_kph"⟩
  refine' Exists.intro ?zl (Exists.intro ?zm (Exists.intro ?za (Exists.intro ?zb (And.intro rfl (And.intro ?zd ?ze)))))
  case ze => exact News.get (by k_asm) (by k_mem)
  case zd => walk_at "mine_fresh"
end
section
open PySem PySem.W PySem.Spec PySem.Calls PyProof.Rows
set_option Elab.async false
set_option maxRecDepth 100000
set_option maxHeartbeats 4000000
theorem wp_peekPush {α : Type} {K : Frag} {M : Model} {A : Around} {E : Value → Shared → Prop} {Q : α → Shared → Prop} {s : Shared} {o : Obj} (X : K.In s.heap) :
    ∀ (t : Sem α) (g : Addr → Sem α), peekA K ⟨M.prog, M.w.params⟩ t = some (o, g) →
      wpAny M A (g s.heap.objs.size) Q E { s with heap := s.heap.push o } → wpAny M A t Q E s := by
  intro t
  induction t with
  | rule _ k ih => intro g e q Γ p hΓ; exact ih () g e q Γ p hΓ
  | point _ k ih => intro g e q Γ p hΓ; exact ih () g e q Γ p hΓ
  | ask k ih => intro g e q Γ p hΓ; exact ih _ g e q Γ p hΓ
  | load a _ k ih =>
    intro g e q Γ p hΓ
    simp only [peekA] at e
    split at e
    · rename_i ob ho; exact ⟨ob, X _ _ ho, ih ob g e q Γ p hΓ⟩
    · cases e
  | alloc ob k _ =>
    intro g e q
    have e : some (ob, k) = some (o, g) := e
    obtain ⟨e1, e2⟩ := Prod.mk.inj (Option.some.inj e)
    subst e1
    subst e2
    show wpAny M A (alloc ob >>= k) Q E s
    exact wpAny_bind (wpAny_alloc q)
  | _ => intro g e; cases e
/-- a def with a last parameter of its own for the names given, of which none is -/
theorem code_mineMore {prog : Program} {w : World} {A₀ A : Around} {s : Shared} {K : Frag} {h₀ base : Heap} {L : Addr} {m mg mb : Str → Option Value} {hid : List (Addr × Obj)} {p : Program} {loose : List Str} {mean : ExcName → Option Value}
    {env : Env} {outer : List Env} {R : Result → Shared → Prop} {name qual : Str} {params : Arguments} {body : List Stmt} {scope : Scope} {cl : List (Str × Addr)} {dV kV doc pm cdv ct oc : Value} {an od : Option Addr} {osl : Array (Option Value)} {f : Addr} {args : Args} {nm : Str} {front : List (Str × Value)} {g₁ : Addr → Sem (List (Str × Value))}
    (B : Below A₀ base outer h₀) (F : Fr h₀ L s.heap m) (X₀ : K.In h₀) (N : News h₀ L s.heap hid) (T : Top p loose mean mg mb h₀) (hA : A.frames = some (env :: outer)) (hf : env.frame = some L) (hke : env.scope.kind = .function)
    (ho : K.lookup f = some ⟨oc, od, .func (fnX name qual params body scope cl dV kV doc pm an cdv ct), osl⟩) (hcd : codeIn K cdv qual = true) (hroom : A.depth < recursionLimit)
    (hp : peekA K ⟨prog, w.params⟩ (bindArgs (fnX name qual params body scope cl dV kV doc pm an cdv ct) args) = some (dictOf [] 0, g₁))
    (hk₁ : ∀ D, g₁ D = (forIn ([] : List (Str × Value)) PUnit.unit (fun x _ => (nsSet D x.1 x.2 >>= fun _ => pure (ForInStep.yield PUnit.unit))) >>= fun _ => pure (front ++ [(nm, Value.ref D)])))
    (hloc : ∀ D, ∀ y ∈ front ++ [(nm, Value.ref D)], scope.names.lookup y.1 = some .local)
    (h : ∀ D g L' h₁ tk, (∀ p ∈ hid, p.1 < D) → (D == sysModules) = false → s.heap.get? D = none → (∀ b o, s.heap.get? b = some o → b ∉ hid.map (·.1) → g.get? b = some o) → Fr g L' h₁ (fun y => (front ++ [(nm, Value.ref D)]).reverse.lookup y) → News g L' h₁ ((D, dictOf [] 0) :: hid) → (∀ q ∈ ((D, dictOf [] 0) :: hid), q.1 < L') → Below A base (env :: outer) g → K.In g → Top p loose mean mg mb g →
      wpAny (model prog w) (A.deeper (envX qual scope L' f cdv cl)) (execs body (envX qual scope L' f cdv cl))
        (fun fl s' => Fini (fun v s'' => R (.ok (.ret v)) s'') (match fl with | .ret v => v | _ => .none) s')
        (fun e s' => wpAny (model prog w) (A.deeper (envX qual scope L' f cdv cl)) (leaving (envX qual scope L' f cdv cl) e) (fun _ s'' => R (.error e) s'') (fun e' s'' => R (.error e') s'') s')
        { s with heap := h₁, toks := tk })
    (hcell : ∀ x ∈ scope.names, x.2 ≠ .cell) (hco : scope.isCoroutine = false) (hgen : scope.isGenerator = false) (hk : scope.kind = .function) : codeAny (model prog w) A (.call (.ref f) args) R s := by
  refine codeAny_call_function (fd := fnX name qual params body scope cl dV kV doc pm an cdv ct) (body := body) hroom ((X₀.keeps F.keep) _ _ ho) rfl hco hgen rfl (codeRec_of (X₀.keeps F.keep) hcd) ?_
  refine wp_peekPush (o := dictOf [] 0) (X₀.keeps F.keep) _ g₁ hp ?_
  rw [hk₁, List.forIn_nil]
  refine wpAny_bind (wpAny_pure (wpAny_pure ?_))
  have F' : Fr h₀ L (s.heap.push (dictOf [] 0)) m := F.push _
  have N' : News h₀ L (s.heap.push (dictOf [] 0)) ((s.heap.objs.size, dictOf [] 0) :: hid) := N.push F _ rfl
  have hlt : ∀ p ∈ hid, p.1 < s.heap.objs.size := fun p hp => Heap.lt_size (N p hp).1
  have hn : s.heap.get? s.heap.objs.size = none := get_none_of_le (Nat.le_refl _)
  have hkp : ∀ b o, s.heap.get? b = some o → (s.heap.push (dictOf [] 0)).get? b = some o := fun b o e => Heap.get?_push_of_some _ e
  have hsm : (s.heap.objs.size == sysModules) = false := F.notModules (modules_low T.nolimit)
  revert F' N' hlt hn hkp hsm
  generalize s.heap.objs.size = D
  generalize s.heap.push (dictOf [] 0) = h₂
  intro F' N' hlt hn hkp hsm
  obtain ⟨FG, BG, st, lv⟩ := groundX (s := { s with heap := h₂ }) (R := R) B F' N' hA hf hke
  refine wpAny_newFunctionEnv hcell (hloc D) (fun h₁ hns hsb => ⟨(T.nolimit.keeps F'.keep).fresh _ hsb, codeAny_func ?_⟩) hk
  have hk₁ : ∀ b o, h₂.get? b = some o → h₁.get? b = some o := fun b o e => hsb.extBut b o (Nat.ne_of_lt (Heap.lt_size e)) (Heap.get?_push_of_some _ e)
  refine h D _ h₂.objs.size h₁ _ hlt hsm hn (fun b o e q => hideAll_get _ (hkp b o e) fun qq => ?_) ⟨hns, fun b o e => hk₁ b o (of_hideAll _ e), Nat.le_of_eq (hideAll_size _ _)⟩
    (fun p hp => ⟨hk₁ _ _ (N' p hp).1, Nat.ne_of_lt (Heap.lt_size (N' p hp).1), hideAll_none _ (List.mem_map_of_mem hp)⟩) (fun p hp => Heap.lt_size (N' p hp).1) BG (X₀.keeps st) (T.keeps st)
  rcases List.mem_cons.mp qq with z | z
  · have z' : b = D := z
    rw [z', hn] at e; cases e
  · exact q z
end
local macro_rules | `(tactic| walk_at "mine_ap") => `(tactic| (k_here; (with_reducible show wpAny _ _ (call (Value.builtin _) [Value.ref _, _]) _ _ _); k_dflt (refine' append_K ?k1 ?k2 ?k3 ?_ ?z; (case k1 | k2 => k_asm); (case k3 => k_upd); (case z => assumption); k_whole); intro h' F' N'; (try k_sweep)))
section
open PySem PySem.W PySem.Spec PySem.Calls PyProof.Rows
set_option Elab.async false
set_option maxRecDepth 100000
set_option maxHeartbeats 4000000
local macro_rules | `(tactic| walk_at "pad") => `(tactic| skip)
local macro_rules | `(tactic| walk_at "call ref") => `(tactic| walk_at "mine_hc")
local macro_rules | `(tactic| walk_at "call builtin:list.append") => `(tactic| walk_at "mine_ap")
theorem join_one (x : Str) : Txt.join (Str.ofString "; ") [x] = x := by
  show Builtin.Str.glued _ [x] = x
  rw [StrLaws.glued_eq_join]
  rfl
theorem add_spec {w : World} {tb td hl : Addr} {hsh : Int} {t tx ty : Tok} {its : List Value} {n : Nat} {x y : Str} (h1 : @LT.lt Nat _ td tb) (h2 : @LT.lt Nat _ tb hl) (hx : Safe x) (hxl : x.length ≤ 1000) (hy : Safe y) (hyl : y.length ≤ 1000) (hsz : its.length ≤ 1000) :
    Calls w 275 [.ref tb, .str x tx, .str y ty] [] 30 300 (tabLed tb td hl hsh t its n) (fun _ => True) (fun h r h' => r = .none ∧ ∃ v, PairIs h' v (x, y) ∧ Chg hl (listOf (its ++ [v]).toArray (n + 1)) h h') := by
  intro mean mg mb dp un gd cn cs a ccd cl outer A₀ base h₀ L m s Q E B F X T hk hd hu N pre ret
  revert X; k_fill; intro X
  refine wpAny_call ?_
  refine' code_mineMore (nm := Str.ofString "_params") (front := [(Str.ofString "self", .ref tb), (Str.ofString "_name", .str x tx), (Str.ofString "_value", .str y ty)]) ?k1 ?k2 ?k3 ?k4 ?k5 ?kA ?kF ?kK ?k6 ?k7 ?k8 ?kP ?kT ?kB ?_ ?c5 ?c2 ?c3 ?c4
  (case kA => exact rfl); (case kF => exact rfl); (case kK => assumption); (case k1 => k_asm); (case k2 => k_asm); (case k3 => k_asm); (case k4 => k_asm); (case k5 => k_asm); (case k6 => k_is); (case k7 => k_is); (case k8 => ktr_room)
  (case kP => exact rfl); (case kT => exact fun _ => rfl); (case kB => exact fun _ => locs rfl); (case c5 => decide); (case c2 => exact rfl); (case c3 => exact rfl); (case c4 => exact rfl)
  intro D g L' h₁ tk0 lD hsm hnD hg F' N' lN B' X' T'
  k_lt lD
  (try dsimp only [List.cons_append, List.nil_append]); (try k_fold)
  have hszA : its.toArray.size ≤ sizeLine := by rw [sizeLine_eq, List.size_toArray]; exact Nat.le_trans hsz (by decide)
  have hod : (dictOf [] 0).IsDictOf (PySem.strKind PySem.Challenge.rw_wc0025_01.prog w) ([] : List (Str × Value)) := kp_isDict (ex := []) 0 0 List.nodup_nil
  repeat (first | walk_at "k_one" | (unfold Hold; (with_reducible show wpAny _ _ (call (Value.ref 177) _ _) _ _ _); (k_dflt refine' call_it (conv_spec (by with_reducible assumption) (by with_reducible assumption)) ?k9 ?_); (case k9 => exact trivial); intro r' h' tk' hp'; obtain ⟨e9, hk9⟩ := hp'; subst e9; walk_at "mine_kpE"))
  (rename Fr _ _ _ _ => lF)
  refine For_turns lF ?_
  repeat (first | walk_at "k_one" | (unfold Hold; (with_reducible show wpAny _ _ (call (Value.ref 177) _ _) _ _ _); (k_dflt refine' call_it (conv_spec (by with_reducible assumption) (by with_reducible assumption)) ?k9 ?_); (case k9 => exact trivial); intro r' h' tk' hp'; obtain ⟨e9, hk9⟩ := hp'; subst e9; walk_at "mine_kpE"))
  (rename Fr _ _ _ _ => lF); (rename News _ _ _ _ => lN)
  refine kta_items (knd := PySem.strKind PySem.Challenge.rw_wc0025_01.prog w) (enc := PyData.str) (kvs := []) (by rfl) lF lN ⟨_, News.get lN (by k_mem), rfl, rfl⟩ (by k_mem) hod (fun _ _ h => Value.isStrOf_shape h) rfl ?_
  intro I lI
  k_lt lI
  clear lF lN
  refine ItemsRest.zero ?_
  intro h9 tk9 F9 N9
  repeat' (first | walk_at "k_one" | (unfold Hold; (with_reducible show wpAny _ _ (call (Value.ref 177) _ _) _ _ _); (k_dflt refine' call_it (conv_spec (by with_reducible assumption) (by with_reducible assumption)) ?k9 ?_); (case k9 => exact trivial); intro r' h' tk' hp'; obtain ⟨e9, hk9⟩ := hp'; subst e9; walk_at "mine_kpE"))
  refine ret _ _ _ ⟨rfl, ?_⟩
  refine' Exists.intro (.ref ?zv) (And.intro (Exists.intro ?zv (Exists.intro ?z1 (Exists.intro ?z2 (And.intro rfl ?z3)))) ?z4)
  case z3 => rw [← join_one y]; exact News.isTup (by k_asm) (by k_mem)
  case z4 => rw [← List.push_toArray]; walk_at "mine_chg"
end
section
open PySem PySem.W PySem.Spec PySem.Calls PyProof.Rows
set_option Elab.async false
set_option maxRecDepth 100000
set_option maxHeartbeats 4000000
open Builtin Builtin.List
theorem set_slice {prog : Program} {w : World} {A : Around} {E : Value → Shared → Prop} {s : Shared} {l sl src : Addr} {items new : Array Value} {n nn : Nat} {vl vu : Value} {lo hi : Option Int} {Q : Unit → Shared → Prop}
    (ho : s.heap.get? l = some (listOf items n)) (hs : s.heap.IsSliceOf sl vl vu .none) (pl : IsPart vl lo) (pu : IsPart vu hi) (hsrc : s.heap.get? src = some (listOf new nn)) (hne : src ≠ l)
    (hz1 : items.size ≤ 1000) (hz2 : new.size ≤ 1000) 
    (hQ : ∀ h', h'.get? l = some (Obj.mapSeq (fun xs => xs.extract 0 (sliceBounds lo hi none items.size).1.toNat ++ new ++ xs.extract (max (sliceBounds lo hi none items.size).1 (sliceBounds lo hi none items.size).2.1).toNat xs.size) (listOf items n)) → Heap.SameBut l s.heap h' → Q () { s with heap := h' }) :
    wpAny (model prog w) A (setItem (.ref l) (.ref sl) (.ref src)) Q E s := by
  have hl : s.heap.IsList l items := PySem.IsL.isList (n := n) ho
  obtain ⟨os, hos, hcs, hds⟩ := id hs
  have hTs : s.TypeIs (.ref sl) "slice" := ⟨os, hos, hcs⟩
  have hTn : s.TypeIs (.ref src) "list" := ⟨_, hsrc, rfl⟩
  unfold setItem
  try with_reducible refine wpAny_holding ?_
  first | refine wpAny_bind (wpAny_pure ?_) | skip
  refine wpAny_bind (wpAny_sequenceKey hl.typeIs (by decide) ?_)
  refine wpAny_bind (wpAny_callSpecial?_slot (name := Str.ofString "__setitem__") hl.typeIs slot_list_setitem
    (wpAny_call_entry slot_list_setitem hl.typeIs entry_list_setitem ?_ (args_list_setitem _ _ _)))
  show wpAny _ _ (Builtin.List.listSubscript? (.ref sl) >>= _) _ _ s
  refine wpAny_bind ?_
  unfold Builtin.List.listSubscript?
  refine wpAny_bind (wpAny_specialOf hTs slice_no_index ?_)
  simp only [Option.isNone_none, if_true]
  refine wpAny_pure ?_
  show wpAny _ _ (typeOf (.ref sl) >>= _) _ _ s
  refine wpAny_bind (wpAny_typeOf hTs ?_)
  rw [if_neg (by decide)]
  rw [listSliceParts_eq]
  refine wpAny_bind (wpAny_bind (wpAny_field hos hds (x := .none) rfl (wpAny_bind (wpAny_listPart .none ?_))))
  rw [if_neg (by exact Bool.false_ne_true)]
  refine wpAny_bind (wpAny_field hos hds (x := vl) rfl (wpAny_bind (wpAny_listPart pl ?_)))
  refine wpAny_bind (wpAny_field hos hds (x := vu) rfl (wpAny_bind (wpAny_listPart pu (wpAny_pure ?_))))
  have hb : listSameRef (.ref l) (.ref src) = false := beq_eq_false_iff_ne.mpr (Ne.symm hne)
  rw [if_neg (by rw [hb]; exact Bool.false_ne_true)]
  refine wpAny_bind (m := listAllItems (.ref src) _) ?_
  unfold listAllItems
  refine wpAny_bind (wpAny_typeOf hTn ?_)
  rw [if_pos (by decide)]
  unfold listItems
  refine wpAny_bind (wpAny_seqItems hsrc rfl (wpAny_pure ?_))
  refine wpAny_bind (wpAny_bind (wpAny_seqItems ho rfl (wpAny_pure ?_)))
  refine wpAny_bind (wpAny_of_eq (sliceIndices_raw lo hi none items.size (fun e => nomatch e)) ?_)
  have h1 : (sliceBounds lo hi none items.size).2.2 = 1 := rfl
  rw [if_pos (by rw [h1]; decide)]
  refine wpAny_bind (wpAny_rule ?_)
  have ht : ¬ (listTooLong (items.size + new.size) = true) := by
    unfold listTooLong
    rw [sizeLine_eq]
    intro e
    have := of_decide_eq_true e
    omega
  rw [if_neg ht]
  have hsz : ∀ a b : Nat, (items.extract 0 a ++ new ++ items.extract b items.size).size ≤ sizeLine + 1 := fun a b => by
    rw [sizeLine_eq]
    simp only [Array.size_append, Array.size_extract]
    omega
  refine wpAny_bind (wpAny_updateSeq ho rfl ?_ (by rw [sizeLine_eq]; omega) (hsz _ _))
  refine wpAny_bind (wpAny_letGo ?_)
  exact wpAny_pure ⟨_, rfl, wpAny_pure (hQ _ (Heap.get?_update_self _ ho rfl) (Heap.SameBut.update ..))⟩
theorem set_slice_K {prog : Program} {w : World} {A : Around} {E : Value → Shared → Prop} {s : Shared} {l src : Addr} {items new items' : Array Value} {n nn n' : Nat} {vl vu : Value} {lo hi : Option Int} {Q : Unit → Shared → Prop}
    {h₀ : Heap} {L : Addr} {m : Str → Option Value} {news news' : List (Addr × Obj)}
    (F : Fr h₀ L s.heap m) (N : News h₀ L s.heap news) (hsrc : (src, listOf new nn) ∈ news) (U : Upd l (listOf items n) (listOf items' n') news news') (pl : IsPart vl lo) (pu : IsPart vu hi) (hne : src ≠ l)
    (hz1 : items.size ≤ 1000) (hz2 : new.size ≤ 1000)
    (he : items.extract 0 (sliceBounds lo hi none items.size).1.toNat ++ new ++ items.extract (max (sliceBounds lo hi none items.size).1 (sliceBounds lo hi none items.size).2.1).toNat items.size = items')
    (hn : (if items'.size == items.size then n else n + 1) = n')
    (hQ : ∀ h', Fr h₀ L h' m → News h₀ L h' news' → Q () { s with heap := h' }) :
    wpAny (model prog w) A (setItem (.ref l) (.ref s.heap.objs.size) (.ref src)) Q E { s with heap := s.heap.push { cls := .type "slice", data := .fields #[vl, vu, .none] } } := by
  obtain ⟨pre, post, rfl, rfl, a, b⟩ := U.split
  have F' : Fr h₀ L (s.heap.push { cls := .type "slice", data := .fields #[vl, vu, .none] }) m := F.push _
  have N' : News h₀ L (s.heap.push { cls := .type "slice", data := .fields #[vl, vu, .none] }) _ := N.pushKeep { cls := .type "slice", data := .fields #[vl, vu, .none] }
  have z := N' (l, listOf items n) (List.mem_append.mpr (.inr (.head _)))
  refine set_slice z.1 (Heap.IsSliceOf.new ..) pl pu (N' _ hsrc).1 hne hz1 hz2 fun h' ho' hs => ?_
  refine hQ h' (F'.change hs z.2.1 z.2.2) (news_set N' a b hs ?_)
  rw [ho']
  subst he hn
  rfl
theorem splice_all (items new : Array Value) : items.extract 0 (sliceBounds none none none items.size).1.toNat ++ new ++ items.extract (max (sliceBounds none none none items.size).1 (sliceBounds none none none items.size).2.1).toNat items.size = new := by
  have e1 : (sliceBounds none none none items.size).1 = 0 := rfl
  have e2 : (sliceBounds none none none items.size).2.1 = (items.size : Int) := rfl
  rw [e1, e2]
  have e3 : (max (0 : Int) (items.size : Int)).toNat = items.size := by omega
  rw [e3]
  apply Array.ext'
  simp
theorem splice_two (items new : Array Value) (k : Nat) (h : k + 2 ≤ items.size) : items.extract 0 (sliceBounds (some (k : Int)) (some ((k : Int) + 2)) none items.size).1.toNat ++ new ++ items.extract (max (sliceBounds (some (k : Int)) (some ((k : Int) + 2)) none items.size).1 (sliceBounds (some (k : Int)) (some ((k : Int) + 2)) none items.size).2.1).toNat items.size =
    (items.toList.take k ++ new.toList ++ items.toList.drop (k + 2)).toArray := by
  have e1 : (sliceBounds (some (k : Int)) (some ((k : Int) + 2)) none items.size).1 = (k : Int) := by
    have q1 : ¬ ((k : Int) < 0) := by omega
    have q2 : ¬ ((k : Int) + 2 < 0) := by omega
    simp only [sliceBounds, Option.getD_none, show (1 : Int) > 0 from by decide, if_true, q1, q2, if_false]
    omega
  have e2 : (sliceBounds (some (k : Int)) (some ((k : Int) + 2)) none items.size).2.1 = ((k + 2 : Nat) : Int) := by
    have q1 : ¬ ((k : Int) < 0) := by omega
    have q2 : ¬ ((k : Int) + 2 < 0) := by omega
    simp only [sliceBounds, Option.getD_none, show (1 : Int) > 0 from by decide, if_true, q1, q2, if_false]
    omega
  rw [e1, e2]
  have e3 : (max (k : Int) ((k + 2 : Nat) : Int)).toNat = k + 2 := by omega
  rw [e3, Int.toNat_natCast]
  apply Array.ext'
  simp [Array.toList_extract, List.extract_eq_take_drop]
  exact List.take_of_length_le (by simp)
end
section
open PySem PySem.W PySem.Spec PySem.Calls PyProof.Rows
set_option Elab.async false
set_option maxRecDepth 100000
set_option maxHeartbeats 4000000
local macro_rules | `(tactic| walk_at "pad") => `(tactic| skip)
local macro_rules | `(tactic| walk_at "call ref") => `(tactic| walk_at "mine_hc")
local macro_rules | `(tactic| walk_at "call builtin:str.lower") => `(tactic| (k_here; k_dflt (refine SCL.lower (by with_reducible assumption) ?_; intro _)))
theorem code_mineC0 {prog : Program} {w : World} {A₀ A : Around} {s : Shared} {K : Frag} {h₀ base : Heap} {L : Addr} {m mg mb : Str → Option Value} {hid : List (Addr × Obj)} {p : Program} {loose : List Str} {mean : ExcName → Option Value}
    {env : Env} {outer : List Env} {R : Result → Shared → Prop} {name qual : Str} {params : Arguments} {body : List Stmt} {scope : Scope} {dV kV doc pm cdv ct oc : Value} {an od : Option Addr} {osl : Array (Option Value)} {f : Addr} {args : Args} {binds : List (Str × Value)}
    (B : Below A₀ base outer h₀) (F : Fr h₀ L s.heap m) (X₀ : K.In h₀) (N : News h₀ L s.heap hid) (T : Top p loose mean mg mb h₀) (hA : A.frames = some (env :: outer)) (hf : env.frame = some L) (hke : env.scope.kind = .function)
    (ho : K.lookup f = some ⟨oc, od, .func (fnX name qual params body scope [] dV kV doc pm an cdv ct), osl⟩) (hcd : codeIn K cdv qual = true) (hroom : A.depth < recursionLimit)
    (hbind : BindsTo s (fnX name qual params body scope [] dV kV doc pm an cdv ct) args binds) (hkind : (binds.all fun y => scope.names.lookup y.1 == some .local || scope.names.lookup y.1 == some .cell) = true)
    (hnd : ((cellsFrom 0 scope.names []).map (·.1)).Nodup)
    (h : ∀ g L' h₁ tk cells, (∀ b o, s.heap.get? b = some o → b ∉ hid.map (·.1) → g.get? b = some o) → Fr g L' h₁ (bindL (envOfC qual scope L' f cdv).kindOf binds fun _ => none) → News g L' h₁ (cells ++ hid) →
      CellsAre (bindC (envOfC qual scope L' f cdv).kindOf binds fun _ => none) (cellsFrom (L' + 1) scope.names []) cells → Below A base (env :: outer) g → K.In g → Top p loose mean mg mb g → (∀ p ∈ hid, p.1 < L') →
      wpAny (model prog w) (A.deeper (envOfC qual scope L' f cdv)) (execs body (envOfC qual scope L' f cdv))
        (fun fl s' => Fini (fun v s'' => R (.ok (.ret v)) s'') (match fl with | .ret v => v | _ => .none) s')
        (fun e s' => wpAny (model prog w) (A.deeper (envOfC qual scope L' f cdv)) (leaving (envOfC qual scope L' f cdv) e) (fun _ s'' => R (.error e) s'') (fun e' s'' => R (.error e') s'') s')
        { s with heap := h₁, toks := tk })
    (hco : scope.isCoroutine = false) (hgen : scope.isGenerator = false) (hk : scope.kind = .function) : codeAny (model prog w) A (.call (.ref f) args) R s := by
  obtain ⟨FG, BG, st, lv⟩ := groundX (R := R) B F N hA hf hke
  refine codeAny_call_function hroom ((X₀.keeps F.keep) _ _ ho) rfl hco hgen rfl (codeRec_of (X₀.keeps F.keep) hcd) (hbind _ _ _ _ ?_)
  refine wpAny_newFunctionEnv_cells hk ((kindsX hkind) _) fun env' he s' x => ?_
  subst he
  refine ⟨(T.nolimit.keeps F.keep).keeps x.toInCall.keep, codeAny_func ?_⟩
  obtain ⟨h₁, tk, rfl, _⟩ := x.done
  have hk₁ := x.toInCall.keep
  obtain ⟨cells, NC, Y⟩ := Cl.news (h₀ := s.heap) (Nat.le_refl _) fun n c hm => ⟨x.cell n c (lookup_of_mem_nodup (cellsFrom_names scope.names 0 (s.heap.objs.size + 1) [] [] rfl ▸ hnd) hm), x.above n c hm⟩
  refine h _ s.heap.objs.size h₁ tk cells (fun b o e q => hideAll_get _ e q) ⟨x.toInCall.ns, fun b o e => hk₁ b o (of_hideAll _ e), Nat.le_of_eq (hideAll_size _ _)⟩ (fun p hp => ?_) Y BG (X₀.keeps st) (T.keeps st) (fun p hp => Heap.lt_size (N p hp).1)
  rcases List.mem_append.mp hp with hp | hp
  · refine ⟨(NC p hp).1, (NC p hp).2.1, ?_⟩
    cases q : (hideAll s.heap (hid.map (·.1))).get? p.1 with
    | none => rfl
    | some o => have := of_hideAll _ q; rw [(NC p hp).2.2] at this; cases this
  · exact ⟨hk₁ _ _ (N p hp).1, Nat.ne_of_lt (Heap.lt_size (N p hp).1), hideAll_none _ (List.mem_map_of_mem hp)⟩
theorem code_mineC {prog : Program} {w : World} {A₀ A : Around} {s : Shared} {K : Frag} {h₀ base : Heap} {L : Addr} {m mg mb : Str → Option Value} {hid : List (Addr × Obj)} {p : Program} {loose : List Str} {mean : ExcName → Option Value}
    {env : Env} {outer : List Env} {R : Result → Shared → Prop} {name qual : Str} {params : Arguments} {body : List Stmt} {scope : Scope} {dV kV doc pm cdv ct oc : Value} {an od : Option Addr} {osl : Array (Option Value)} {f : Addr} {args : Args} {binds : List (Str × Value)}
    (B : Below A₀ base outer h₀) (F : Fr h₀ L s.heap m) (X₀ : K.In h₀) (N : News h₀ L s.heap hid) (T : Top p loose mean mg mb h₀) (hA : A.frames = some (env :: outer)) (hf : env.frame = some L) (hke : env.scope.kind = .function)
    (ho : K.lookup f = some ⟨oc, od, .func (fnX name qual params body scope [] dV kV doc pm an cdv ct), osl⟩) (hcd : codeIn K cdv qual = true) (hroom : A.depth < recursionLimit)
    (hbind : BindsTo s (fnX name qual params body scope [] dV kV doc pm an cdv ct) args binds) (hkind : (binds.all fun y => scope.names.lookup y.1 == some .local || scope.names.lookup y.1 == some .cell) = true)
    (hnd : ((cellsFrom 0 scope.names []).map (·.1)).Nodup)
    (h : ∀ P : Value → Shared → Prop, (∀ v s', R (.ok (.ret v)) s' → P v s') → ∀ g L' h₁ tk cells, (∀ b o, s.heap.get? b = some o → b ∉ hid.map (·.1) → g.get? b = some o) → Fr g L' h₁ (bindL (envOfC qual scope L' f cdv).kindOf binds fun _ => none) → News g L' h₁ (cells ++ hid) →
      CellsAre (bindC (envOfC qual scope L' f cdv).kindOf binds fun _ => none) (cellsFrom (L' + 1) scope.names []) cells → Below A base (env :: outer) g → K.In g → Top p loose mean mg mb g → (∀ p ∈ hid, p.1 < L') →
      wpAny (model prog w) (A.deeper (envOfC qual scope L' f cdv)) (execs body (envOfC qual scope L' f cdv))
        (fun fl s' => Fini P (match fl with | .ret v => v | _ => .none) s')
        (fun _ _ => False)
        { s with heap := h₁, toks := tk })
    (hco : scope.isCoroutine = false) (hgen : scope.isGenerator = false) (hk : scope.kind = .function) : codeAny (model prog w) A (.call (.ref f) args) R s :=
  code_mineC0 B F X₀ N T hA hf hke ho hcd hroom hbind hkind hnd (fun x0 x1 x2 x3 x4 x5 x6 x7 x8 x9 x10 x11 x12 => wpAny_mono (h (fun v s'' => R (.ok (.ret v)) s'') (fun _ _ r => r) x0 x1 x2 x3 x4 x5 x6 x7 x8 x9 x10 x11 x12) (fun _ _ q => q) fun _ _ z => z.elim) hco hgen hk
theorem comp_inv {prog : Program} {w : World} {A : Around} {h₀ : Heap} {L : Addr} {m : Str → Option Value} {env : Env} {ct elt : Expr} {x : Str} {scope : Scope} {cl : List (Str × Addr)} {s : Shared} {S : List (Addr × Obj) → Prop} {its : Array Value} {Fin : List Value → List (Addr × Obj) → Prop}
    (J : List Value → List Value → List (Addr × Obj) → Prop)
    (step : ∀ v r ys news, J (v :: r) ys news → ∀ I oI C oC D m₂ h tk (E' : Value → Shared → Prop), LCg.NsObj oC m₂ → m₂ x = some v → Fr h₀ L h m → News h₀ L h ((I, oI) :: (C, oC) :: (D, LCg.lst ys) :: news) → LCg.Off3 I C D news → ((@Ne Nat I C) ∧ (@Ne Nat I D) ∧ (@Ne Nat C D)) →
      wpAny (model prog w) A (PySem.isTrue ct (compEnvC scope cl C env) (eval ct (compEnvC scope cl C env))) (fun ok s' => if ok = true then
        wpAny (model prog w) A (eval elt (compEnvC scope cl C env)) (LCg.CompEnd h₀ L m { s with heap := h, toks := tk } I oI C oC D (LCg.lst ys) S (fun y news' => J r (ys ++ [y]) news')) E' s'
        else LCg.CompEnd h₀ L m { s with heap := h, toks := tk } I oI C oC D (LCg.lst ys) S (fun _ news' => J r ys news') Value.none s') E' { s with heap := h, toks := tk })
    (done : ∀ ys news, J [] ys news → Fin ys news) :
    ∀ (vs : List Value) (i : Nat) (ys : List Value) (news : List (Addr × Obj)), (∀ j : Nat, its[i + j]? = vs[j]?) → J vs ys news → LCt.CompRestT prog w A h₀ L m env ct elt x scope cl s S (fun i v => its[i]? = some v) Fin vs.length i ys news := by
  intro vs
  induction vs with
  | nil => exact fun i ys news _ hJ => LCt.CompRestT.zero (done ys news hJ)
  | cons v r ih =>
    intro i ys news hi hJ
    refine LCt.CompRestT.succ ?_
    intro v' I oI C oC D m₂ h tk E' hv hC hx F N off ne
    have e0 := hi 0
    rw [Nat.add_zero, hv] at e0
    have ev : v' = v := Option.some.inj e0
    subst ev
    have hi' : ∀ j : Nat, its[i + 1 + j]? = r[j]? := fun j => by
      have := hi (j + 1)
      rw [show i + (j + 1) = i + 1 + j by omega] at this
      simpa using this
    have ends : ∀ {y : Value} {s'} {q : List Value}, LCg.CompEnd h₀ L m { s with heap := h, toks := tk } I oI C oC D (LCg.lst ys) S (fun _ news' => J r q news') y s' →
        LCg.CompEnd h₀ L m { s with heap := h, toks := tk } I oI C oC D (LCg.lst ys) S (fun _ news' => LCt.CompRestT prog w A h₀ L m env ct elt x scope cl s S (fun i v => its[i]? = some v) Fin r.length (i + 1) q news') y s' := by
      rintro y s' q ⟨h', tk', news', e, F', N', o', hS, hj⟩
      exact ⟨h', tk', news', e, F', N', o', hS, ih (i + 1) _ news' hi' hj⟩
    refine wpAny_mono (step v' r ys news hJ I oI C oC D m₂ h tk E' hC hx F N off ne) (fun ok s' p => ?_) fun _ _ e => e
    cases ok with
    | true =>
      rw [if_pos rfl] at p ⊢
      refine wpAny_mono p (fun y s'' q => ?_) fun _ _ e => e
      obtain ⟨h', tk', news', e, F', N', o', hS, hj⟩ := q
      exact ⟨h', tk', news', e, F', N', o', hS, ih (i + 1) _ news' hi' hj⟩
    | false =>
      rw [if_neg (by decide)] at p ⊢
      exact ends p
local macro_rules | `(tactic| walk_at "eval ListComp") => `(tactic| (k_here; lct_look; lcg_calm; k_dflt (refine LCt.ListComp_T (F₀ := by k_asm) (by with_unfolding_all rfl) (by decide) (by rfl) (by decide) (by rfl) ?_)))
noncomputable def DelJ (x : Str) (led : List (Addr × Obj)) (its : List Value) (all : List (Str × Str)) (vs ys : List Value) (n' : List (Addr × Obj)) : Prop :=
  (∃ rd rs, (∀ hh, RowsAt hh its all → RowsAt hh ys (rd.filter fun p => !(Txt.lower p.1 == Txt.lower x)) ∧ RowsAt hh vs rs) ∧ (∀ p ∈ rs, p.1.length ≤ 1000) ∧ rd ++ rs = all) ∧ n' = led
theorem del_spec {w : World} {tb td hl : Addr} {hsh : Int} {t tx : Tok} {its : List Value} {n : Nat} {x : Str} {rows : List (Str × Str)} (h1 : @LT.lt Nat _ td tb) (h2 : @LT.lt Nat _ tb hl) (hx : Safe (Txt.lower x)) (hxl : (Txt.lower x).length ≤ 1000) (hxs : x.length ≤ 1000) (hrl : ∀ p ∈ rows, p.1.length ≤ 1000) (hsz : its.length ≤ 1000) :
    Calls w 196 [.ref tb, .str x tx] [] 30 300 (tabLed tb td hl hsh t its n) (fun h => RowsAt h its rows) (fun h r h' => r = .none ∧ ∃ its' n', (∀ hh, RowsAt hh its rows → RowsAt hh its' (rows.filter fun p => !(Txt.lower p.1 == Txt.lower x))) ∧ Chg hl (listOf its'.toArray n') h h') := by
  intro mean mg mb dp un gd cn cs a ccd cl outer A₀ base h₀ L m s Q E B F X T hk hd hu N pre ret
  revert X; k_fill; intro X
  have hno := no_tuple N rfl
  have hxs5 : x.length ≤ 5592405 := by omega
  have hszA : its.toArray.size ≤ sizeLine := by rw [sizeLine_eq, List.size_toArray]; exact Nat.le_trans hsz (by decide)
  refine wpAny_call ?_
  k_dflt (refine' code_mineC (binds := [(Str.ofString "self", .ref tb), (Str.ofString "name", .str x tx)]) ?k1 ?k2 ?k3 ?k4 ?k5 ?kA ?kF ?kK ?k6 ?k7 ?k8 ?k9 ?kB ?kD ?_ ?c2 ?c3 ?c4; (case kA => exact rfl); (case kF => exact rfl); (case kK => assumption); (case k1 => k_asm); (case k2 => k_asm); (case k3 => k_asm); (case k4 => k_asm); (case k5 => k_asm); (case k6 => k_is); (case k7 => k_is); (case k8 => ktr_room); (case k9 => first | exact BindsTo.of_eq rfl | exact binds_K (by k_in) rfl (by k_is) rfl rfl rfl); (case kB => exact rfl); (case kD => decide +kernel); (case c2 => exact rfl); (case c3 => exact rfl); (case c4 => exact rfl))
  intro P9 hP9
  intro g L' h₁ tk0 cells' hg F' N' Y' B' X' T' l1
  replace ret := fun r h' tk' p => hP9 r _ (ret r h' tk' p)
  k_lt l1
  k_cells Y'
  (try simp only [List.cons_append, List.nil_append] at N')
  (try dsimp only); (try k_fold)
  have hrg : RowsAt g its rows := RowsAt.but (fun b o e n => hg b o e n) hno pre
  repeat (first | walk_at "k_one" | (unfold Hold; (with_reducible show wpAny _ _ (call (Value.ref 177) _ _) _ _ _); (k_dflt refine' call_it (conv_spec (by with_reducible assumption) (by with_reducible assumption)) ?k9 ?_); (case k9 => exact trivial); intro r' h' tk' hp'; obtain ⟨e9, hk9⟩ := hp'; subst e9; walk_at "mine_kpE"))
  (rename Fr _ _ _ _ => lF); (rename News _ _ _ _ => lN)
  rename Obj => oC9
  refine LCt.CompSrcT.ledger (by rfl) lF lN (by k_mem) hszA ?_
  intro g9
  refine comp_inv (its := its.toArray) (J := DelJ x ((L' + 1, oC9) :: tabLed tb td hl hsh t its n) its rows) ?_ ?_ its 0 [] _ (fun j => by rw [Nat.zero_add, List.getElem?_toArray]) ⟨⟨[], rows, fun _ hR => ⟨.nil, hR⟩, hrl, rfl⟩, rfl⟩
  · clear lF lN
    rintro v' r ys n' ⟨⟨rd, rs, hall, hl9, e9⟩, rfl⟩ I9 oI9 C9 oD9 D9 m9 h9 tk9 E9 hns9 hm9 F9 N9 off9 ne9
    subst e9
    have hr9 := (hall g hrg).2
    cases hr9 with
    | @cons _ row _ rs' hp9 hr9 =>
    obtain ⟨a9, t1, t2, rfl, ht9⟩ := hp9
    have ht8 : IsTup h9 a9 _ := ht9.keeps F9.keep
    have hl8 : row.1.length ≤ 5592405 := by have := hl9 row (.head _); omega
    have hl7 := fun p hp => hl9 p (List.mem_cons_of_mem _ hp)
    clear hl9 hr9
    (try simp only [LCg.Off3, and_true] at off9)
    repeat' (first | walk_at "k_one" | (unfold Hold; (with_reducible show wpAny _ _ (call (Value.ref 177) _ _) _ _ _); (k_dflt refine' call_it (conv_spec (by with_reducible assumption) (by with_reducible assumption)) ?k9 ?_); (case k9 => exact trivial); intro r' h' tk' hp'; obtain ⟨e9, hk9⟩ := hp'; subst e9; walk_at "mine_kpE"))
    · refine ⟨⟨rd ++ [row], rs', fun hh hR => ?_, hl7, by simp⟩, rfl⟩
      have h8 : (Txt.lower row.1 != Txt.lower x) = true := by with_reducible assumption
      have h7 : (!(Txt.lower row.1 == Txt.lower x)) = _ := h8
      obtain ⟨hy, hz⟩ := hall hh hR
      cases hz with
      | cons p q =>
      rw [List.filter_append, List.filter_cons, h7]
      exact ⟨hy.append (.cons p .nil), q⟩
    · refine ⟨⟨rd ++ [row], rs', fun hh hR => ?_, hl7, by simp⟩, rfl⟩
      have h8 : (Txt.lower row.1 != Txt.lower x) = false := by with_reducible assumption
      have h7 : (!(Txt.lower row.1 == Txt.lower x)) = _ := h8
      obtain ⟨hy, hz⟩ := hall hh hR
      cases hz with
      | cons p q =>
      rw [List.filter_append, List.filter_cons, h7]
      exact ⟨by simpa using hy, q⟩
  · rintro ys n' ⟨⟨rd, rs, hall, hl9, e9⟩, rfl⟩
    have hr9 := (hall g hrg).2
    cases hr9
    rw [List.append_nil] at e9
    subst e9
    clear lF lN
    intro D9 h9 tk9 F9 N9 off9
    (try simp only [LCg.Off1, and_true] at off9)
    have hall9 : ∀ hh, RowsAt hh its rd → RowsAt hh ys (rd.filter fun p => !(Txt.lower p.1 == Txt.lower x)) := fun hh hR => (hall hh hR).1
    clear hall
    have hy1 : ys.length ≤ 1000 := by rw [(hall9 g hrg).length]; exact Nat.le_trans (List.length_filter_le _ _) (by rw [← pre.length]; exact hsz)
    have hzA : its.toArray.size ≤ 1000 := by rw [List.size_toArray]; exact hsz
    have hzB : ys.toArray.size ≤ 1000 := by rw [List.size_toArray]; exact hy1
    repeat (first | walk_at "k_one" | (unfold Hold; (with_reducible show wpAny _ _ (call (Value.ref 177) _ _) _ _ _); (k_dflt refine' call_it (conv_spec (by with_reducible assumption) (by with_reducible assumption)) ?k9 ?_); (case k9 => exact trivial); intro r' h' tk' hp'; obtain ⟨e9, hk9⟩ := hp'; subst e9; walk_at "mine_kpE"))
    refine' set_slice_K (lo := none) (hi := none) (new := ys.toArray) (nn := ys.length) (items := its.toArray) (items' := ys.toArray) ?k1 ?k2 ?k3 ?k4 .none .none ?k5 hzA hzB (splice_all _ _) rfl ?_
    (case k1 => exact F9); (case k2 => exact N9); (case k3 => exact List.Mem.head _); (case k4 => k_upd); (case k5 => exact fun q => off9.2.2.2 q.symm)
    intro h8 F8 N8
    clear F9 N9
    repeat' (first | walk_at "k_one" | (unfold Hold; (with_reducible show wpAny _ _ (call (Value.ref 177) _ _) _ _ _); (k_dflt refine' call_it (conv_spec (by with_reducible assumption) (by with_reducible assumption)) ?k9 ?_); (case k9 => exact trivial); intro r' h' tk' hp'; obtain ⟨e9, hk9⟩ := hp'; subst e9; walk_at "mine_kpE"))
    refine' ret _ _ _ (And.intro rfl (Exists.intro ys (Exists.intro ?zn (And.intro hall9 ?zc))))
    case zc => walk_at "mine_chg"
end
section
open PySem PySem.W PySem.Spec PySem.Calls PyProof.Rows
set_option Elab.async false
set_option maxRecDepth 100000
set_option maxHeartbeats 4000000
local macro_rules | `(tactic| walk_at "call ref") => `(tactic| walk_at "mine_hc")
local macro_rules | `(tactic| walk_at "call builtin:list.append") => `(tactic| walk_at "mine_ap")
theorem mine_delItem {M : Model} {A : Around} {E : Value → Shared → Prop} {s : Shared} {K : Frag} {x C L f : Addr} {h₀ : Heap} {m : Str → Option Value} {ox : Obj} {od : Option Obj} {i : Value} {Q : Unit → Shared → Prop} (F : Fr h₀ L s.heap m) (X₀ : K.In h₀) (I : InstAt s.heap x ox C od) (hq : noSeq K C = true) (hs : findIn K (.ref C) "__delitem__" = some (some (.ref f))) (hf : isFn K (.ref f) = true)
    (h : wpAny M A (call (.ref f) [.ref x, i]) (fun _ s' => Q () s') E s) : wpAny M A (delItem (.ref x) i) Q E s := by
  have X := X₀.keeps F.keep
  unfold delItem sequenceKey
  refine wpAny_holding (wpAny_bind (wpAny_bind (I.type.here ?_)))
  refine wpAny_bind ((anyM_none X hq).here ?_)
  rw [if_pos (show (!false) = true from rfl)]
  exact wpAny_pure (wpAny_bind (special_fn X I hs (beq_iff_eq.mp hf) (wpAny_mono h (fun _ _ z => wpAny_pure z) fun _ _ z => z)))
local macro_rules | `(tactic| walk_at "delItem ref str") => `(tactic| (k_here; (with_reducible show wpAny _ _ (delItem (Value.ref _) _) _ _ _); k_dflt (refine' mine_delItem ?F ?X ?I ?hQ ?hS ?hF ?_; (case F | X => k_asm); (case I => k_inst); (case hS | hF | hQ => k_is); k_whole)))
theorem News.ne {h₀ h : Heap} {L : Addr} {news : List (Addr × Obj)} {a : Addr} {o : Obj} (N : News h₀ L h news) (hm : (a, o) ∈ news) : a ≠ L := (N _ hm).2.1
theorem News.fresh {h₀ h : Heap} {L : Addr} {news : List (Addr × Obj)} {a : Addr} {o : Obj} (N : News h₀ L h news) (hm : (a, o) ∈ news) : h₀.get? a = none := (N _ hm).2.2
theorem set_spec {w : World} {tb td hl : Addr} {hsh : Int} {t tx ty : Tok} {its : List Value} {n : Nat} {x y : Str} {rows : List (Str × Str)} (h1 : @LT.lt Nat _ td tb) (h2 : @LT.lt Nat _ tb hl) (hx : Safe (Txt.lower x)) (hxl : (Txt.lower x).length ≤ 1000) (hxS : Safe x) (hxs : x.length ≤ 1000) (hyS : Safe y) (hys : y.length ≤ 1000) (hrl : ∀ p ∈ rows, p.1.length ≤ 1000) (hsz : its.length ≤ 1000) :
    Calls w 191 [.ref tb, .str x tx, .str y ty] [] 50 500 (tabLed tb td hl hsh t its n) (fun h => RowsAt h its rows) (fun h r h' => r = .none ∧ ∃ its' n' v, (∀ hh, RowsAt hh its rows → RowsAt hh its' (rows.filter fun p => !(Txt.lower p.1 == Txt.lower x))) ∧ PairIs h' v (x, y) ∧ Chg hl (listOf (its' ++ [v]).toArray n') h h') := by
  intro mean mg mb dp un gd cn cs a ccd cl outer A₀ base h₀ L m s Q E B F X T hk hd hu N pre ret
  revert X; k_fill; intro X
  have hno := no_tuple N rfl
  have hrl2 : rows.length ≤ 1000 := by rw [← pre.length]; exact hsz
  refine wpAny_call ?_
  k_dflt (refine' code_mine (binds := [(Str.ofString "self", .ref tb), (Str.ofString "name", .str x tx), (Str.ofString "val", .str y ty)]) ?k1 ?k2 ?k3 ?k4 ?k5 ?kA ?kF ?kK ?k6 ?k7 ?k8 ?k9 ?kB ?_ ?c5 ?c2 ?c3 ?c4; (case kA | kF => exact rfl); (case kK => assumption); (case k1 | k2 | k3 | k4 | k5 => k_asm); (case k6 | k7 => k_is); (case k8 => ktr_room); (case k9 => first | exact BindsTo.of_eq rfl | exact binds_K (by k_in) rfl (by k_is) rfl rfl rfl); (case c5 => decide); (case kB => exact locs rfl); (case c2 | c3 | c4 => exact rfl))
  intro P9 hP9
  intro g L' h₁ eL hg F' N' lN B' X' T'
  replace ret := fun r h' tk' p => hP9 r _ (ret r h' tk' p)
  (try dsimp only); (try k_fold)
  have hrg : RowsAt g its rows := RowsAt.but (fun b o e n => hg b o e n) hno pre
  have hr1 : RowsAt h₁ its rows := hrg.kp F'.keep
  repeat' (first | walk_at "k_one" | (unfold Hold; (with_reducible show wpAny _ _ (call (Value.ref 177) _ _) _ _ _); (k_dflt refine' call_it (conv_spec (by with_reducible assumption) (by with_reducible assumption)) ?k9 ?_); (case k9 => exact trivial); intro r' h' tk' hp'; obtain ⟨e9, hk9⟩ := hp'; subst e9; walk_at "mine_kpE") | (unfold Hold; (with_reducible show wpAny _ _ (call (Value.ref 196) _ _) _ _ _); (k_dflt refine' call_it (del_spec (by with_reducible assumption) (by with_reducible assumption) (by with_reducible assumption) (by with_reducible assumption) (by with_reducible assumption) (by with_reducible assumption) (by with_reducible assumption)) ?k9 ?_); (case k9 => with_reducible assumption); intro r' h' tk' hp'; obtain ⟨e9, its9, n9, hrows9, hk9⟩ := hp'; subst e9; (rename Fr _ _ _ _ => lF9); (rename News _ _ _ _ => lN9); have F' := Chg.fr hk9 lF9 (News.ne lN9 (by k_mem)) (News.fresh lN9 (by k_mem)); have N' := Chg.news hk9 lN9 (by k_upd); clear hk9; (have hl9 : its9.toArray.size ≤ sizeLine := (by rw [sizeLine_eq, List.size_toArray, RowsAt.length (hrows9 _ (by with_reducible assumption))]; exact Nat.le_trans (List.length_filter_le _ _) (Nat.le_trans (by with_reducible assumption) (by decide))))))
  rename List Value => its9
  rename ∀ hh, _ => hrows9
  refine' ret _ _ _ (And.intro rfl (Exists.intro its9 (Exists.intro ?zn (Exists.intro (.ref ?zv) (And.intro ?zr (And.intro (Exists.intro ?zv (Exists.intro ?z1 (Exists.intro ?z2 (And.intro rfl ?z3)))) ?z4))))))
  case z3 => exact News.isTup (by k_asm) (by k_mem)
  case zr => assumption
  case z4 => rw [← List.push_toArray]; walk_at "mine_chg"
end
section
open PySem PySem.W PySem.Spec PySem.Calls PyProof.Rows
set_option Elab.async false
set_option maxRecDepth 100000
set_option maxHeartbeats 4000000
inductive RowsTab : List (Str × Str) → List Ent → Prop
  | nil : RowsTab [] []
  | cons {r e rs es} : (r.2 = val e.2.1 e.2.2 ∧ Txt.lower r.1 = key e.1 ∧ r.1.length ≤ 1000 ∧ e.1 < 1000000 ∧ e.2.1 < 1000000 ∧ e.2.2 < 1000000) → RowsTab rs es → RowsTab (r :: rs) (e :: es)
theorem TabAt.split {h : Heap} {vs es} (x : TabAt h vs es) : ∃ rows, RowsAt h vs rows ∧ RowsTab rows es := by
  induction x with
  | nil => exact ⟨[], .nil, .nil⟩
  | @cons v e vs es p q ih =>
    obtain ⟨rows, r, l⟩ := ih
    obtain ⟨⟨k, p, lk, ll⟩, b⟩ := p
    exact ⟨(k, _) :: rows, .cons p r, .cons ⟨rfl, lk, ll, b⟩ l⟩
theorem TabAt.of {h : Heap} {vs rows es} (x : RowsAt h vs rows) (y : RowsTab rows es) : TabAt h vs es := by
  induction x generalizing es with
  | nil => cases y; exact .nil
  | @cons v r vs rs p _ ih =>
    cases y with
    | @cons _ e _ es hy y =>
      obtain ⟨h1, h2, h3, b⟩ := hy
      refine .cons ⟨⟨r.1, ?_, h2, h3⟩, b⟩ (ih y)
      rw [← h1]; exact p
theorem RowsTab.lens {rows es} (y : RowsTab rows es) : ∀ p ∈ rows, p.1.length ≤ 1000 := by
  induction y with
  | nil => intro p hp; cases hp
  | cons hy _ ih =>
    intro p hp
    rcases List.mem_cons.mp hp with rfl | hp
    · exact hy.2.2.1
    · exact ih p hp
theorem RowsTab.filter {rows es} (y : RowsTab rows es) {k : Nat} (hk : k < 1000000) : RowsTab (rows.filter fun p => !(Txt.lower p.1 == Txt.lower (keyU k))) (es.filter fun e => !(e.1 == k)) := by
  induction y with
  | nil => exact .nil
  | @cons r e rs es hy _ ih =>
    have e1 : (Txt.lower r.1 == Txt.lower (keyU k)) = (e.1 == k) := by rw [hy.2.1, lower_keyU]; exact key_beq hy.2.2.2.1 hk
    rw [List.filter_cons, List.filter_cons, e1]
    cases (e.1 == k) with
    | true => exact ih
    | false => exact .cons hy ih
theorem tabset_spec {w : World} {tb td hl : Addr} {hsh : Int} {t tx ty : Tok} {its : List Value} {n k c u : Nat} {tab : List Ent} (h1 : @LT.lt Nat _ td tb) (h2 : @LT.lt Nat _ tb hl) (hk6 : k < 1000000) (hc6 : c < 1000000) (hu6 : u < 1000000) (hsz : its.length ≤ 1000) :
    Calls w 191 [.ref tb, .str (keyU k) tx, .str (val c u) ty] [] 50 500 (tabLed tb td hl hsh t its n) (fun h => TabAt h its tab) (fun h r h' => r = .none ∧ ∃ its' n', TabAt h' its' ((tab.filter fun e => !(e.1 == k)) ++ [(k, c, u)]) ∧ Chg hl (listOf its'.toArray n') h h') := by
  intro mean mg mb dp un gd cn cs a ccd cl outer A₀ base h₀ L m s Q E B F X T hk hd hu N pre ret
  obtain ⟨rows, hR, hT⟩ := pre.split
  have hno := no_tuple N rfl
  have hv := len_val (a := c) (b := u) (by omega) (by omega)
  refine set_spec (rows := rows) h1 h2 (safe_kU k) (len_lkU hk6) (safe_keyU k) (len_kU hk6) (safe_val c u) (by omega) hT.lens hsz mean mg mb dp un gd cn cs a ccd cl outer A₀ base h₀ L m s Q E B F X T hk hd hu N hR ?_
  rintro r h' tk' ⟨e, its', n', v, hr, hp, hch⟩
  refine ret r h' tk' ⟨e, its' ++ [v], n', ?_, hch⟩
  have hne : ∀ a ∈ [hl], ∀ o, s.heap.get? a = some o → o.cls ≠ .type "tuple" := fun a ha => hno a (by rw [List.mem_singleton.mp ha]; simp)
  exact (TabAt.of (hr _ (hR.but hch.1 hne)) (hT.filter hk6)).append (.cons ⟨⟨keyU k, hp, lower_keyU k, len_kU hk6⟩, hk6, hc6, hu6⟩ .nil)
theorem len_spec {w : World} {tb td hl : Addr} {hsh : Int} {t : Tok} {its : List Value} {n : Nat} (h1 : @LT.lt Nat _ td tb) (h2 : @LT.lt Nat _ tb hl) (hs : its.length ≤ 1000) :
    Calls w 184 [.ref tb] [] 10 100 (tabLed tb td hl hsh t its n) (fun _ => True) (fun h r h' => (∃ tk, r = .int (its.length : Nat) tk) ∧ Kp h h') := by
  intro mean mg mb dp un gd cn cs a ccd cl outer A₀ base h₀ L m s Q E B F X T hk hd hu N pre ret
  revert X; k_fill; intro X
  have hs2 : its.toArray.size ≤ 1000 := by rw [List.size_toArray]; exact hs
  refine wpAny_call ?_
  k_dflt (refine' code_mine (binds := [(Str.ofString "self", .ref tb)]) ?k1 ?k2 ?k3 ?k4 ?k5 ?kA ?kF ?kK ?k6 ?k7 ?k8 ?k9 ?kB ?_ ?c5 ?c2 ?c3 ?c4; (case kA | kF => exact rfl); (case kK => assumption); (case k1 | k2 | k3 | k4 | k5 => k_asm); (case k6 | k7 => k_is); (case k8 => ktr_room); (case k9 => first | exact BindsTo.of_eq rfl | exact binds_K (by k_in) rfl (by k_is) rfl rfl rfl); (case c5 => decide); (case kB => exact locs rfl); (case c2 | c3 | c4 => exact rfl))
  intro P9 hP9
  walk_at "mine_start"
  replace ret := fun r h' tk' p => hP9 r _ (ret r h' tk' p)
  k_steps
  all_goals exact ret _ _ _ ⟨⟨_, rfl⟩, by walk_at "mine_kph"⟩
end
section
open PySem PySem.W PySem.Spec PySem.Calls PyProof.Rows
set_option Elab.async false
set_option maxRecDepth 100000
set_option maxHeartbeats 4000000
theorem lt63 {n : Nat} (h : n ≤ 1000) : (n : Int) < 2 ^ 63 := by omega
local macro_rules | `(tactic| walk_at "call ref") => `(tactic| walk_at "mine_hc")
local macro_rules | `(tactic| walk_at "binaryOp Mod str ref") => `(tactic| (k_here; k_dflt (refine mod_two (by k_asm) (by k_mem) (by rfl) (.nat (by assumption)) (.nat (by assumption)) ?_); intro _ _))
theorem laid_spec {w : World} {tb td hl : Addr} {hsh : Int} {t tx ty : Tok} {its : List Value} {n c u : Nat} {tab : List Ent} (h1 : @LT.lt Nat _ td tb) (h2 : @LT.lt Nat _ tb hl) (hc6 : c < 1000000) (hu6 : u < 1000000) (hsz : its.length ≤ 1000) :
    Calls w 310 [.ref tb, .int (c : Nat) tx, .int (u : Nat) ty] [] 50 500 (tabLed tb td hl hsh t its n) (fun h => TabAt h its tab) (fun h r h' => (∃ tk, r = .int ((256 + tab.length : Nat) : Int) tk) ∧ ∃ its' n', TabAt h' its' (tab ++ [(256 + tab.length, c, u)]) ∧ Chg hl (listOf its'.toArray n') h h') := by
  intro mean mg mb dp un gd cn cs a ccd cl outer A₀ base h₀ L m s Q E B F X T hk hd hu N pre ret
  revert X; k_fill; intro X
  have hno := no_tuple N rfl
  have hlen := pre.length
  have e6 : (256 : Int) + ((its.length : Nat) : Int) = ((256 + tab.length : Nat) : Int) := by omega
  have hlen2 : tab.length ≤ 1000 := by omega
  have hkS : Safe (key (256 + tab.length)) := safe_key (256 + tab.length)
  have hkL : (key (256 + tab.length)).length ≤ 1000 := by have := len_key (n := 256 + tab.length) (by omega); omega
  have hvS : Safe (val c u) := safe_val c u
  have hvL : (val c u).length ≤ 1000 := by have := len_val (a := c) (b := u) (by omega) (by omega); omega
  refine wpAny_call ?_
  k_dflt (refine' code_mine (binds := [(Str.ofString "table", .ref tb), (Str.ofString "caller", .int (c : Nat) tx), (Str.ofString "thing", .int (u : Nat) ty)]) ?k1 ?k2 ?k3 ?k4 ?k5 ?kA ?kF ?kK ?k6 ?k7 ?k8 ?k9 ?kB ?_ ?c5 ?c2 ?c3 ?c4; (case kA | kF => exact rfl); (case kK => assumption); (case k1 | k2 | k3 | k4 | k5 => k_asm); (case k6 | k7 => k_is); (case k8 => ktr_room); (case k9 => first | exact BindsTo.of_eq rfl | exact binds_K (by k_in) rfl (by k_is) rfl rfl rfl); (case c5 => decide); (case kB => exact locs rfl); (case c2 | c3 | c4 => exact rfl))
  intro P9 hP9
  intro g L' h₁ eL hg F' N' lN B' X' T'
  replace ret := fun r h' tk' p => hP9 r _ (ret r h' tk' p)
  (try dsimp only); (try k_fold)
  repeat (first | walk_at "k_one" | (unfold Hold; (with_reducible show wpAny _ _ (call (Value.ref 184) _ _) _ _ _); (k_dflt refine' call_it (len_spec (by with_reducible assumption) (by with_reducible assumption) (by with_reducible assumption)) ?k9 ?_); (case k9 => exact trivial); intro r' h' tk' hp'; obtain ⟨⟨tk9, e9⟩, hk9⟩ := hp'; subst e9; walk_at "mine_kpE"; refine ⟨⟨Int.natCast_nonneg _, lt63 (by with_reducible assumption)⟩, ?_⟩; dsimp only) | (unfold Hold; (with_reducible show wpAny _ _ (call (Value.ref 275) _ _) _ _ _); (k_dflt refine' call_it (add_spec (by with_reducible assumption) (by with_reducible assumption) (by with_reducible assumption) (by with_reducible assumption) (by with_reducible assumption) (by with_reducible assumption) (by with_reducible assumption)) ?k9 ?_); (case k9 => exact trivial); intro r' h' tk' hp'; obtain ⟨e9, v9, hv9, hk9⟩ := hp'; subst e9; (rename Fr _ _ _ _ => lF9); (rename News _ _ _ _ => lN9); have F' := Chg.fr hk9 lF9 (News.ne lN9 (by k_mem)) (News.fresh lN9 (by k_mem)); have N' := Chg.news hk9 lN9 (by k_upd); clear hk9))
  rw [e6]
  repeat' (first | walk_at "k_one" | (unfold Hold; (with_reducible show wpAny _ _ (call (Value.ref 184) _ _) _ _ _); (k_dflt refine' call_it (len_spec (by with_reducible assumption) (by with_reducible assumption) (by with_reducible assumption)) ?k9 ?_); (case k9 => exact trivial); intro r' h' tk' hp'; obtain ⟨⟨tk9, e9⟩, hk9⟩ := hp'; subst e9; walk_at "mine_kpE"; refine ⟨⟨Int.natCast_nonneg _, lt63 (by with_reducible assumption)⟩, ?_⟩; dsimp only) | (unfold Hold; (with_reducible show wpAny _ _ (call (Value.ref 275) _ _) _ _ _); (k_dflt refine' call_it (add_spec (by with_reducible assumption) (by with_reducible assumption) (by with_reducible assumption) (by with_reducible assumption) (by with_reducible assumption) (by with_reducible assumption) (by with_reducible assumption)) ?k9 ?_); (case k9 => exact trivial); intro r' h' tk' hp'; obtain ⟨e9, v9, hv9, hk9⟩ := hp'; subst e9; (rename Fr _ _ _ _ => lF9); (rename News _ _ _ _ => lN9); have F' := Chg.fr hk9 lF9 (News.ne lN9 (by k_mem)) (News.fresh lN9 (by k_mem)); have N' := Chg.news hk9 lN9 (by k_upd); clear hk9))
  have hlt : its.length = tab.length := hlen
  have hrg : TabAt g its tab := pre.but (fun b o e n => hg b o e n) hno
  refine ret _ _ _ ⟨⟨_, congrArg (fun z => Value.int z _) e6⟩, ?_⟩
  refine' Exists.intro (its ++ [?zv]) (Exists.intro ?zn (And.intro ?zr ?z4))
  case z4 => walk_at "mine_chg"
  case zr =>
    (rename Fr _ _ _ _ => lF9)
    exact (hrg.kp lF9.keep).append (.cons ⟨⟨key (256 + tab.length), by assumption, lower_key _, hkL⟩, by dsimp only; omega, hc6, hu6⟩ .nil)
end
section
set_option Elab.async false
inductive Sg | eq | sl | dot | col | pl | mi | bar | st
  deriving DecidableEq
inductive T | s (x : Sg) | a (f x : T)
namespace T
noncomputable def want : Sg → Nat | .eq => 1 | .sl => 2 | .dot => 3 | .col => 3 | .st => 3 | _ => 99
inductive Par : T → T → Prop
  | s (x : Sg) : Par (s x) (s x)
  | a {f f' x x'} : Par f f' → Par x x' → Par (a f x) (a f' x')
  | eq {x x'} : Par x x' → Par (a (s .eq) x) x'
  | sl {x x' y} : Par x x' → Par (a (a (s .sl) x) y) (a (s .eq) x')
  | dot {x x' y y' z z'} : Par x x' → Par y y' → Par z z' → Par (a (a (a (s .dot) x) y) z) (a x' (a y' z'))
  | col {x x' y y' z z'} : Par x x' → Par y y' → Par z z' → Par (a (a (a (s .col) x) y) z) (a (a x' z') y')
  | st {x x' y y' z z'} : Par x x' → Par y y' → Par z z' → Par (a (a (a (s .st) x) y) z) (a (a x' z') (a y' z'))
theorem Par.refl : ∀ t, Par t t
  | .s x => .s x
  | .a f x => .a (Par.refl f) (Par.refl x)
noncomputable def cd : T → T
  | .s x => .s x
  | .a (.s .eq) x => cd x
  | .a (.a (.s .sl) x) _ => .a (.s .eq) (cd x)
  | .a (.a (.a (.s .dot) x) y) z => .a (cd x) (.a (cd y) (cd z))
  | .a (.a (.a (.s .col) x) y) z => .a (.a (cd x) (cd z)) (cd y)
  | .a (.a (.a (.s .st) x) y) z => .a (.a (cd x) (cd z)) (.a (cd y) (cd z))
  | .a f x => .a (cd f) (cd x)
theorem shape (f : T) : f = .s .eq ∨ (∃ x, f = .a (.s .sl) x) ∨ (∃ x y, f = .a (.a (.s .dot) x) y) ∨ (∃ x y, f = .a (.a (.s .col) x) y) ∨ (∃ x y, f = .a (.a (.s .st) x) y) ∨ (∀ x, cd (.a f x) = .a (cd f) (cd x)) := by
  have last : ∀ {g : T}, (∀ x, cd (.a g x) = .a (cd g) (cd x)) → g = .s .eq ∨ (∃ x, g = .a (.s .sl) x) ∨ (∃ x y, g = .a (.a (.s .dot) x) y) ∨ (∃ x y, g = .a (.a (.s .col) x) y) ∨ (∃ x y, g = .a (.a (.s .st) x) y) ∨ (∀ x, cd (.a g x) = .a (cd g) (cd x)) := fun h => .inr (.inr (.inr (.inr (.inr h))))
  match f with
  | .s q => cases q <;> first | exact .inl rfl | exact last fun _ => rfl
  | .a (.s q) x => cases q <;> first | exact .inr (.inl ⟨x, rfl⟩) | exact last fun _ => rfl
  | .a (.a (.s q) x) y => cases q <;> first | exact .inr (.inr (.inl ⟨x, y, rfl⟩)) | exact .inr (.inr (.inr (.inl ⟨x, y, rfl⟩))) | exact .inr (.inr (.inr (.inr (.inl ⟨x, y, rfl⟩)))) | exact last fun _ => rfl
  | .a (.a (.a f x) y) z => exact last fun _ => rfl
theorem inv_s {q : Sg} {u : T} (h : Par (s q) u) : u = s q := by cases h; rfl
theorem inv_1 {q : Sg} {x u : T} (hq : q ≠ .eq) (h : Par (a (s q) x) u) : ∃ x', u = a (s q) x' ∧ Par x x' := by
  cases h with
  | a hf hx => rw [(inv_s hf)]; exact ⟨_, rfl, hx⟩
  | eq _ => exact absurd rfl hq
theorem inv_2 {q : Sg} {x y u : T} (hq : q ≠ .eq) (hq2 : q ≠ .sl) (h : Par (a (a (s q) x) y) u) : ∃ x' y', u = a (a (s q) x') y' ∧ Par x x' ∧ Par y y' := by
  cases h with
  | a hf hx => obtain ⟨x', e, h'⟩ := inv_1 hq hf; rw [e]; exact ⟨_, _, rfl, h', hx⟩
  | sl _ => exact absurd rfl hq2
theorem tri {t u : T} (h : Par t u) : Par u (cd t) := by
  induction h with
  | s x => exact .s x
  | eq _ ih => exact ih
  | sl _ ih => exact .a (.s _) ih
  | dot _ _ _ i1 i2 i3 => exact .a i1 (.a i2 i3)
  | col _ _ _ i1 i2 i3 => exact .a (.a i1 i3) i2
  | st _ _ _ i1 i2 i3 => exact .a (.a i1 i3) (.a i2 i3)
  | @a f f' x x' hf hx i1 i2 =>
    rcases shape f with rfl | ⟨x0, rfl⟩ | ⟨x0, y0, rfl⟩ | ⟨x0, y0, rfl⟩ | ⟨x0, y0, rfl⟩ | e
    · rw [(inv_s hf)]; exact .eq i2
    · obtain ⟨x1, rfl, h1⟩ := inv_1 (by decide) hf
      obtain ⟨x2, e2, h2⟩ := inv_1 (by decide) i1
      have e3 : x2 = cd x0 := by
        have : cd (a (s .sl) x0) = a (s .sl) (cd x0) := rfl
        rw [this] at e2; cases e2; rfl
      subst e3
      exact .sl h2
    · obtain ⟨x1, y1, rfl, h1, h1'⟩ := inv_2 (by decide) (by decide) hf
      obtain ⟨x2, y2, e2, h2, h2'⟩ := inv_2 (by decide) (by decide) i1
      have e3 : x2 = cd x0 ∧ y2 = cd y0 := by
        have : cd (a (a (s .dot) x0) y0) = a (a (s .dot) (cd x0)) (cd y0) := rfl
        rw [this] at e2; cases e2; exact ⟨rfl, rfl⟩
      obtain ⟨rfl, rfl⟩ := e3
      exact .dot h2 h2' i2
    · obtain ⟨x1, y1, rfl, h1, h1'⟩ := inv_2 (by decide) (by decide) hf
      obtain ⟨x2, y2, e2, h2, h2'⟩ := inv_2 (by decide) (by decide) i1
      have e3 : x2 = cd x0 ∧ y2 = cd y0 := by
        have : cd (a (a (s .col) x0) y0) = a (a (s .col) (cd x0)) (cd y0) := rfl
        rw [this] at e2; cases e2; exact ⟨rfl, rfl⟩
      obtain ⟨rfl, rfl⟩ := e3
      exact .col h2 h2' i2
    · obtain ⟨x1, y1, rfl, h1, h1'⟩ := inv_2 (by decide) (by decide) hf
      obtain ⟨x2, y2, e2, h2, h2'⟩ := inv_2 (by decide) (by decide) i1
      have e3 : x2 = cd x0 ∧ y2 = cd y0 := by
        have : cd (a (a (s .st) x0) y0) = a (a (s .st) (cd x0)) (cd y0) := rfl
        rw [this] at e2; cases e2; exact ⟨rfl, rfl⟩
      obtain ⟨rfl, rfl⟩ := e3
      exact .st h2 h2' i2
    · rw [e]; exact .a i1 i2
/-- reduction -/
inductive R : T → T → Prop
  | refl (t) : R t t
  | head {t u v} : Par t u → R u v → R t v
theorem R.one {t u} (h : Par t u) : R t u := .head h (.refl _)
theorem R.trans {t u v} (h : R t u) (h' : R u v) : R t v := by
  induction h with
  | refl => exact h'
  | head p _ ih => exact .head p (ih h')
theorem R.app {f f' x x'} (h : R f f') (h' : R x x') : R (a f x) (a f' x') := by
  induction h with
  | refl t =>
    induction h' with
    | refl => exact .refl _
    | head p _ ih => exact .head (.a (.refl _) p) ih
  | head p _ ih => exact .head (.a p (.refl _)) ih
theorem strip {t u v} (h : Par t u) (h' : R t v) : ∃ w, R u w ∧ Par v w := by
  induction h' generalizing u with
  | refl => exact ⟨u, .refl _, h⟩
  | head p _ ih =>
    obtain ⟨w, h1, h2⟩ := ih (tri p)
    exact ⟨w, .head (tri h) h1, h2⟩
theorem conf {t u v} (h : R t u) (h' : R t v) : ∃ w, R u w ∧ R v w := by
  induction h generalizing v with
  | refl => exact ⟨v, h', .refl _⟩
  | head p _ ih =>
    obtain ⟨w, h1, h2⟩ := strip p h'
    obtain ⟨w', h3, h4⟩ := ih h1
    exact ⟨w', h3, .head h2 h4⟩
/-- a sign and what it is called with -/
noncomputable def spine (h : Sg) : List T → T
  | [] => s h
  | x :: r => a (spine h r) x
theorem want_pos (h : Sg) : 0 < want h := by cases h <;> decide
/-- what is called with too few stays -/
theorem par_spine {h : Sg} : ∀ {as : List T} {u : T}, as.length < want h → Par (spine h as) u → ∃ bs, u = spine h bs ∧ bs.length = as.length ∧ ∀ i (h1 : i < as.length) (h2 : i < bs.length), Par as[i] bs[i]
  | [], u, _, p => ⟨[], inv_s p, rfl, fun i h1 => absurd h1 (Nat.not_lt_zero _)⟩
  | x :: r, u, hl, p => by
    have hl' : r.length + 1 < want h := hl
    have key : ∃ f' x', u = a f' x' ∧ Par (spine h r) f' ∧ Par x x' := by
      generalize e : spine h (x :: r) = t at p
      have e : a (spine h r) x = t := e
      cases p with
      | s => cases e
      | a hf hx => cases e; exact ⟨_, _, rfl, hf, hx⟩
      | eq _ =>
        injection e with e1 _
        exfalso
        match r, e1 with
        | [], e1 => injection e1 with e1; subst e1; exact absurd hl' (by simp [want])
        | _ :: _, e1 => injection e1
      | sl _ =>
        injection e with e1 _
        exfalso
        match r, e1 with
        | [], e1 => injection e1
        | [_], e1 => injection e1 with e1 _; injection e1 with e1; subst e1; exact absurd hl' (by simp [want])
        | _ :: _ :: _, e1 => injection e1 with e1 _; injection e1
      | dot _ _ _ =>
        injection e with e1 _
        exfalso
        match r, e1 with
        | [], e1 => injection e1
        | [_], e1 => injection e1 with e1 _; injection e1
        | [_, _], e1 => injection e1 with e1 _; injection e1 with e1 _; injection e1 with e1; subst e1; exact absurd hl' (by simp [want])
        | _ :: _ :: _ :: _, e1 => injection e1 with e1 _; injection e1 with e1 _; injection e1
      | col _ _ _ =>
        injection e with e1 _
        exfalso
        match r, e1 with
        | [], e1 => injection e1
        | [_], e1 => injection e1 with e1 _; injection e1
        | [_, _], e1 => injection e1 with e1 _; injection e1 with e1 _; injection e1 with e1; subst e1; exact absurd hl' (by simp [want])
        | _ :: _ :: _ :: _, e1 => injection e1 with e1 _; injection e1 with e1 _; injection e1
      | st _ _ _ =>
        injection e with e1 _
        exfalso
        match r, e1 with
        | [], e1 => injection e1
        | [_], e1 => injection e1 with e1 _; injection e1
        | [_, _], e1 => injection e1 with e1 _; injection e1 with e1 _; injection e1 with e1; subst e1; exact absurd hl' (by simp [want])
        | _ :: _ :: _ :: _, e1 => injection e1 with e1 _; injection e1 with e1 _; injection e1
    obtain ⟨f', x', rfl, hf, hx⟩ := key
    obtain ⟨bs, rfl, hb, hp⟩ := par_spine (by omega) hf
    refine ⟨x' :: bs, rfl, by simp [hb], fun i h1 h2 => ?_⟩
    cases i with
    | zero => exact hx
    | succ i => exact hp i (by simpa using h1) (by simpa using h2)
theorem r_spine {h : Sg} {t u : T} (hr : R t u) : ∀ {as : List T}, t = spine h as → as.length < want h → ∃ bs, u = spine h bs ∧ bs.length = as.length ∧ ∀ i (h1 : i < as.length) (h2 : i < bs.length), R as[i] bs[i] := by
  induction hr with
  | refl => exact fun {as} e _ => ⟨as, e, rfl, fun i _ _ => .refl _⟩
  | head p _ ih =>
    intro as e hl
    subst e
    obtain ⟨bs, e1, e2, e3⟩ := par_spine hl p
    obtain ⟨cs, f1, f2, f3⟩ := ih e1 (by omega)
    exact ⟨cs, f1, f2.trans e2, fun i h1 h2 => .head (e3 i h1 (by omega)) (f3 i (by omega) h2)⟩
theorem spine_inj {h h' : Sg} : ∀ {as bs : List T}, spine h as = spine h' bs → h = h' ∧ as = bs
  | [], [], e => by injection e with e; exact ⟨e, rfl⟩
  | _ :: _, _ :: _, e => by
    injection e with e1 e2
    obtain ⟨a, b⟩ := spine_inj e1
    exact ⟨a, by rw [e2, b]⟩
  | [], _ :: _, e => by injection e
  | _ :: _, [], e => by injection e
/-- of two stuck reducts the sign is one, and the number of things -/
theorem stuck_same {t : T} {h h' : Sg} {as bs : List T} (r1 : R t (spine h as)) (r2 : R t (spine h' bs)) (l1 : as.length < want h) (l2 : bs.length < want h') : h = h' ∧ as.length = bs.length := by
  obtain ⟨w, q1, q2⟩ := conf r1 r2
  obtain ⟨cs, e1, e2, _⟩ := r_spine q1 rfl l1
  obtain ⟨ds, f1, f2, _⟩ := r_spine q2 rfl l2
  obtain ⟨a, b⟩ := spine_inj (e1.symm.trans f1)
  exact ⟨a, by rw [← e2, ← f2, b]⟩
/-- normal -/
noncomputable def NF (t : T) : Prop := ∀ u, Par t u → u = t
theorem NF.r {t u : T} (n : NF t) (h : R t u) : u = t := by
  induction h with
  | refl => rfl
  | head p _ ih => have e := n _ p; subst e; exact ih n
theorem nf_same {t u v : T} (h : R t u) (h' : R t v) (n : NF u) (n' : NF v) : u = v := by
  obtain ⟨w, a, b⟩ := conf h h'
  rw [← n.r a, ← n'.r b]
theorem nf_spine {h : Sg} : ∀ {as : List T}, as.length < want h → (∀ x ∈ as, NF x) → NF (spine h as) := by
  intro as hl hn u p
  obtain ⟨bs, rfl, e, hp⟩ := par_spine hl p
  congr 1
  refine List.ext_getElem e fun i h1 h2 => hn _ (List.getElem_mem h2) _ (hp i h2 h1)
/-- leaves, stars, the measure -/
noncomputable def L : T → Nat | s _ => 1 | a f x => L f + L x
noncomputable def S : T → Nat | s .st => 1 | s _ => 0 | a f x => S f + S x
noncomputable def mu (t : T) : Nat := if S t = 0 then L t else 2 * L t
theorem L_pos : ∀ t, 0 < L t
  | s _ => Nat.one_pos
  | a f x => Nat.add_pos_left (L_pos f) _
theorem mu_pos (t : T) : 0 < mu t := by unfold mu; have := L_pos t; split <;> omega
theorem L_mu (t : T) : L t ≤ mu t := by unfold mu; split <;> omega
theorem mu_or (t : T) : (S t = 0 ∧ mu t = L t) ∨ (S t ≠ 0 ∧ mu t = 2 * L t) := by
  unfold mu
  by_cases h : S t = 0
  · exact .inl ⟨h, if_pos h⟩
  · exact .inr ⟨h, if_neg h⟩
theorem mu_0 {t : T} (h : S t = 0) : mu t = L t := if_pos h
theorem mu_1 {t : T} (h : S t ≠ 0) : mu t = 2 * L t := if_neg h
theorem mu_le {t t' : T} (hs : S t ≤ S t') (hl : L t ≤ L t') : mu t ≤ mu t' := by
  by_cases h : S t = 0
  · rw [mu_0 h]; exact Nat.le_trans hl (L_mu _)
  · rw [mu_1 h, mu_1 (fun e => h (Nat.le_zero.mp (e ▸ hs)))]; exact Nat.mul_le_mul_left 2 hl
theorem mu_lt {t t' : T} (hs : S t ≤ S t') (hl : L t < L t') : mu t < mu t' := by
  by_cases h : S t = 0
  · rw [mu_0 h]; exact Nat.lt_of_lt_of_le hl (L_mu _)
  · rw [mu_1 h, mu_1 (fun e => h (Nat.le_zero.mp (e ▸ hs)))]; omega
theorem mu_two (t : T) : mu t ≤ 2 * L t := by
  by_cases h : S t = 0
  · rw [mu_0 h]; omega
  · rw [mu_1 h]; exact Nat.le_refl _
theorem app_S (f x : T) : S (a f x) = S f + S x := rfl
theorem app_L (f x : T) : L (a f x) = L f + L x := rfl
/-- one side has the star, if any has it -/
theorem mu_side {f f' x x' : T} (k : Nat) (hx : S x = 0) (a1 : S f' ≤ S f) (a2 : S x' = 0) (b1 : mu f' + k ≤ mu f) (b2 : L x' ≤ L x) : mu (a f' x') + k ≤ mu (a f x) := by
  have e1 := app_L f x; have e2 := app_L f' x'; have e3 := app_S f x; have e4 := app_S f' x'
  rw [hx, Nat.add_zero] at e3
  rw [a2, Nat.add_zero] at e4
  by_cases h : S f = 0
  · have h' : S f' = 0 := Nat.le_zero.mp (h ▸ a1)
    rw [mu_0 h, mu_0 h'] at b1
    rw [mu_0 (e3.trans h), mu_0 (e4.trans h')]
    omega
  · rw [mu_1 h] at b1
    rw [mu_1 (t := a f x) (fun e => h (e3.symm.trans e))]
    by_cases h' : S f' = 0
    · rw [mu_0 h'] at b1
      rw [mu_0 (e4.trans h')]
      omega
    · rw [mu_1 h'] at b1
      rw [mu_1 (t := a f' x') (fun e => h' (e4.symm.trans e))]
      omega
theorem mu_flip (f x : T) : mu (a f x) = mu (a x f) := by
  unfold mu
  rw [app_S, app_S, app_L, app_L, Nat.add_comm, Nat.add_comm (L f)]
theorem mu_app {f f' x x' : T} (h : S f + S x ≤ 1) (a1 : S f' ≤ S f) (a2 : S x' ≤ S x) (b1 : mu f' ≤ mu f) (b2 : mu x' ≤ mu x) : mu (a f' x') ≤ mu (a f x) := by
  by_cases hx : S x = 0
  · have hx' : S x' = 0 := Nat.le_zero.mp (hx ▸ a2)
    exact mu_side 0 hx a1 hx' b1 (by rwa [mu_0 hx, mu_0 hx'] at b2)
  · have hf : S f = 0 := by omega
    have hf' : S f' = 0 := Nat.le_zero.mp (hf ▸ a1)
    rw [mu_flip f', mu_flip f]
    exact mu_side 0 hf a2 hf' b2 (by rwa [mu_0 hf, mu_0 hf'] at b1)
theorem mu_appS {f f' x x' : T} (h : S f + S x ≤ 1) (a1 : S f' ≤ S f) (a2 : S x' ≤ S x) (b1 : mu f' < mu f) (b2 : mu x' ≤ mu x) : mu (a f' x') < mu (a f x) := by
  by_cases hx : S x = 0
  · have hx' : S x' = 0 := Nat.le_zero.mp (hx ▸ a2)
    exact mu_side 1 hx a1 hx' b1 (by rwa [mu_0 hx, mu_0 hx'] at b2)
  · have hf : S f = 0 := by omega
    have hf' : S f' = 0 := Nat.le_zero.mp (hf ▸ a1)
    rw [mu_0 hf, mu_0 hf'] at b1
    have e1 := app_L f x; have e2 := app_L f' x'
    rw [mu_1 (t := a f x) (by rw [app_S]; omega)]
    by_cases hx' : S x' = 0
    · rw [mu_0 hx', mu_1 hx] at b2
      rw [mu_0 (by rw [app_S, hf', hx'])]
      omega
    · rw [mu_1 hx', mu_1 hx] at b2
      rw [mu_1 (t := a f' x') (by rw [app_S]; omega)]
      omega
theorem mu_sum {f x : T} : mu f + mu x ≤ mu (a f x) := by
  have e1 := app_L f x
  by_cases h : S (a f x) = 0
  · rw [app_S] at h
    rw [mu_0 (t := a f x) (by rw [app_S, h]), mu_0 (t := f) (by omega), mu_0 (t := x) (by omega), e1]
    exact Nat.le_refl _
  · have := mu_two f; have := mu_two x
    rw [mu_1 h]; omega
/-- a rule's own fall, at the root -/
theorem mu_rule3 {q : Sg} {x y z x' y' z' u : T} (hL : (S (s q) = 0 ∧ L u = L x' + L y' + L z' ∧ S u = S x' + S y' + S z') ∨ (S (s q) = 1 ∧ L u = L x' + L y' + 2 * L z' ∧ S u = S x' + S y' + 2 * S z')) (h : S (a (a (a (s q) x) y) z) ≤ 1)
    (i1 : S x ≤ 1 → S x' ≤ S x ∧ mu x' ≤ mu x) (i2 : S y ≤ 1 → S y' ≤ S y ∧ mu y' ≤ mu y) (i3 : S z ≤ 1 → S z' ≤ S z ∧ mu z' ≤ mu z) : S u ≤ S (a (a (a (s q) x) y) z) ∧ mu u < mu (a (a (a (s q) x) y) z) := by
  have e : S (a (a (a (s q) x) y) z) = S (s q) + S x + S y + S z := rfl
  have e2 : L (a (a (a (s q) x) y) z) = 1 + L x + L y + L z := rfl
  obtain ⟨a1, a2⟩ := i1 (by omega); obtain ⟨b1, b2⟩ := i2 (by omega); obtain ⟨c1, c2⟩ := i3 (by omega)
  rcases hL with ⟨h0, hl, hs⟩ | ⟨h0, hl, hs⟩
  · refine ⟨by omega, ?_⟩
    have m1 : mu (a (a x' y') z') ≤ mu (a (a x y) z) := mu_app (by rw [app_S]; omega) (Nat.add_le_add a1 b1) c1 (mu_app (by omega) a1 b1 a2 b2) c2
    have m2 : mu u ≤ mu (a (a x' y') z') := mu_le (by rw [app_S, app_S, hs]; exact Nat.le_refl _) (by rw [app_L, app_L, hl]; exact Nat.le_refl _)
    have m3 : mu (a (a x y) z) < mu (a (a (a (s q) x) y) z) := mu_lt (by rw [app_S, app_S]; omega) (by rw [app_L, app_L]; omega)
    exact Nat.lt_of_le_of_lt (Nat.le_trans m2 m1) m3
  · have z1 : S x = 0 := by omega
    have z2 : S y = 0 := by omega
    have z3 : S z = 0 := by omega
    rw [mu_0 z1, mu_0 (by omega)] at a2
    rw [mu_0 z2, mu_0 (by omega)] at b2
    rw [mu_0 z3, mu_0 (by omega)] at c2
    refine ⟨by omega, ?_⟩
    rw [mu_0 (t := u) (by omega), mu_1 (by omega)]
    omega
theorem S_s (q : Sg) : S (s q) = if q = .st then 1 else 0 := by cases q <;> rfl
theorem mu_par {t u : T} (p : Par t u) : S t ≤ 1 → S u ≤ S t ∧ mu u ≤ mu t := by
  induction p with
  | s x => exact fun _ => ⟨Nat.le_refl _, Nat.le_refl _⟩
  | @a f f' x x' _ _ i1 i2 =>
    intro h
    have h' : S f + S x ≤ 1 := h
    obtain ⟨a1, a2⟩ := i1 (by omega)
    obtain ⟨b1, b2⟩ := i2 (by omega)
    exact ⟨Nat.add_le_add a1 b1, mu_app h' a1 b1 a2 b2⟩
  | @eq x x' _ i1 =>
    intro h
    have e : S (a (s .eq) x) = S x := by simp [S]
    rw [e] at h ⊢
    obtain ⟨a1, a2⟩ := i1 h
    exact ⟨a1, Nat.le_trans a2 (Nat.le_trans (Nat.le_add_left _ _) mu_sum)⟩
  | @sl x x' y _ i1 =>
    intro h
    have e : S (a (a (s .sl) x) y) = S x + S y := by simp [S]
    have e1 : ∀ w, S (a (s .eq) w) = S w := fun w => by simp [S]
    rw [e] at h ⊢
    obtain ⟨a1, a2⟩ := i1 (by omega)
    rw [e1]
    refine ⟨by omega, Nat.le_trans (mu_app (f := s .eq) (x := x) (by rw [← app_S, e1]; exact Nat.le_trans (Nat.le_add_right _ _) h) (Nat.le_refl _) a1 (Nat.le_refl _) a2) (mu_le (by rw [e1, e]; omega) (by have q1 : L (s .eq) = 1 := rfl; have q2 : L (s .sl) = 1 := rfl; rw [app_L, app_L, app_L]; omega))⟩
  | @dot x x' y y' z z' _ _ _ i1 i2 i3 =>
    intro h
    have e := mu_rule3 (q := .dot) (u := a x' (a y' z')) (.inl ⟨rfl, by simp only [L]; omega, by simp only [S]; omega⟩) h i1 i2 i3
    exact ⟨e.1, Nat.le_of_lt e.2⟩
  | @col x x' y y' z z' _ _ _ i1 i2 i3 =>
    intro h
    have e := mu_rule3 (q := .col) (u := a (a x' z') y') (.inl ⟨rfl, by simp only [L]; omega, by simp only [S]; omega⟩) h i1 i2 i3
    exact ⟨e.1, Nat.le_of_lt e.2⟩
  | @st x x' y y' z z' _ _ _ i1 i2 i3 =>
    intro h
    have e := mu_rule3 (q := .st) (u := a (a x' z') (a y' z')) (.inr ⟨rfl, by simp only [L]; omega, by simp only [S]; omega⟩) h i1 i2 i3
    exact ⟨e.1, Nat.le_of_lt e.2⟩
theorem mu_r {t u : T} (p : R t u) : S t ≤ 1 → S u ≤ S t ∧ mu u ≤ mu t := by
  induction p with
  | refl => exact fun _ => ⟨Nat.le_refl _, Nat.le_refl _⟩
  | head p _ ih =>
    intro h
    obtain ⟨a1, a2⟩ := mu_par p h
    obtain ⟨b1, b2⟩ := ih (by omega)
    exact ⟨by omega, by omega⟩
end T
end
section
set_option Elab.async false
namespace T
noncomputable abbrev Tb := List (Nat × Nat × Nat)
noncomputable def look (tab : Tb) (p : Nat) : Option (Nat × Nat) := (tab.find? fun e => e.1 == p).map (·.2)
noncomputable def code : Sg → Nat | .eq => 22 | .sl => 17 | .dot => 23 | .col => 11 | .pl => 14 | .mi => 15 | .bar => 18 | .st => 16
theorem code_lt (q : Sg) : code q < 256 := by cases q <;> decide
theorem code_inj {q r : Sg} (h : code q = code r) : q = r := by cases q <;> cases r <;> first | rfl | cases h
inductive Unf (tab : Tb) : Nat → T → Prop
  | leaf (q : Sg) : Unf tab (code q) (s q)
  | node {p c th C A} : 256 ≤ p → look tab p = some (c, th) → Unf tab c C → Unf tab th A → Unf tab p (a C A)
theorem Unf.inv_leaf {tab : Tb} {q : Sg} {t : T} (h : Unf tab (code q) t) : t = s q := by
  generalize e : code q = n at h
  cases h with
  | leaf r => rw [code_inj e]
  | node h => have := code_lt q; omega
theorem Unf.inv_node {tab : Tb} {p c th : Nat} {t : T} (h : Unf tab p t) (hl : look tab p = some (c, th)) (hp : 256 ≤ p) : ∃ C A, t = a C A ∧ Unf tab c C ∧ Unf tab th A := by
  cases h with
  | leaf r => have := code_lt r; omega
  | node _ h1 h2 h3 => rw [hl] at h1; cases h1; exact ⟨_, _, rfl, h2, h3⟩
theorem Unf.cases' {tab : Tb} {n : Nat} {t : T} (h : Unf tab n t) : (∃ q, n = code q ∧ t = s q) ∨ (∃ c th C A, 256 ≤ n ∧ look tab n = some (c, th) ∧ t = a C A ∧ Unf tab c C ∧ Unf tab th A) := by
  cases h with
  | leaf q => exact .inl ⟨q, rfl, rfl⟩
  | node h0 h1 h2 h3 => exact .inr ⟨_, _, _, _, h0, h1, rfl, h2, h3⟩
theorem Unf.same {tab : Tb} {n : Nat} {t u : T} (h : Unf tab n t) (h' : Unf tab n u) : t = u := by
  induction h generalizing u with
  | leaf q => exact (Unf.inv_leaf h').symm
  | node h0 h1 _ _ i2 i3 =>
    obtain ⟨C, A, rfl, h2, h3⟩ := h'.inv_node h1 h0
    rw [i2 h2, i3 h3]
/-- nothing that stood is lost -/
noncomputable def Ext (tab tab1 : Tb) : Prop := ∀ p e, look tab p = some e → look tab1 p = some e
theorem Unf.ext {tab tab1 : Tb} (x : Ext tab tab1) {n : Nat} {t : T} (h : Unf tab n t) : Unf tab1 n t := by
  induction h with
  | leaf q => exact .leaf q
  | node h0 h1 _ _ i2 i3 => exact .node h0 (x _ _ h1) i2 i3
noncomputable def WF (tab : Tb) : Prop := (∀ e ∈ tab, 256 ≤ e.1 ∧ e.1 < 256 + tab.length) ∧ (tab.map (·.1)).Nodup
noncomputable def laid (tab : Tb) (c t : Nat) : Tb := tab ++ [(256 + tab.length, c, t)]
theorem laid_ext (tab : Tb) (c t : Nat) : Ext tab (laid tab c t) := by
  intro p e h
  unfold look laid at *
  rw [List.find?_append]
  cases q : tab.find? (fun e => e.1 == p) with
  | none => rw [q] at h; cases h
  | some z => rw [q] at h; exact h
theorem laid_new {tab : Tb} (w : WF tab) (c t : Nat) : look (laid tab c t) (256 + tab.length) = some (c, t) := by
  unfold look laid
  rw [List.find?_append]
  have : tab.find? (fun e => e.1 == 256 + tab.length) = none := by
    rw [List.find?_eq_none]
    intro e he h
    have := (w.1 e he).2
    have := beq_iff_eq.mp h
    omega
  rw [this]
  simp
theorem laid_wf {tab : Tb} (w : WF tab) (c t : Nat) : WF (laid tab c t) := by
  refine ⟨fun e he => ?_, ?_⟩
  · unfold laid at he ⊢
    rw [List.length_append]
    rcases List.mem_append.mp he with h | h
    · have := w.1 e h; simp; omega
    · rw [List.mem_singleton.mp h]; simp
  · unfold laid
    rw [List.map_append, List.nodup_append]
    refine ⟨w.2, by simp, ?_⟩
    intro x hx y hy e
    obtain ⟨z, hz, rfl⟩ := List.mem_map.mp hx
    have := (w.1 z hz).2
    simp at hy
    omega
theorem laid_len (tab : Tb) (c t : Nat) : (laid tab c t).length = tab.length + 1 := by simp [laid]
noncomputable def sets (tab : Tb) (k c t : Nat) : Tb := (tab.filter fun e => !(e.1 == k)) ++ [(k, c, t)]
theorem find_f (k p : Nat) : ∀ tab : Tb, (tab.filter fun e => !(e.1 == k)).find? (fun e => e.1 == p) = if p = k then none else tab.find? fun e => e.1 == p
  | [] => by simp
  | e :: r => by
    rw [List.filter_cons]
    by_cases q : e.1 = k
    · have h1 : (e.1 == k) = true := beq_iff_eq.mpr q
      rw [h1]
      simp only [Bool.not_true, Bool.false_eq_true, if_false]
      rw [find_f k p r]
      by_cases h : p = k
      · rw [if_pos h, if_pos h]
      · rw [if_neg h, if_neg h, List.find?_cons]
        have : (e.1 == p) = false := beq_eq_false_iff_ne.mpr (by rw [q]; exact fun z => h z.symm)
        rw [this]
    · have h1 : (e.1 == k) = false := beq_eq_false_iff_ne.mpr q
      rw [h1]
      simp only [Bool.not_false, if_true]
      rw [List.find?_cons, List.find?_cons, find_f k p r]
      by_cases h : p = k
      · rw [if_pos h, if_pos h]
        have : (e.1 == p) = false := beq_eq_false_iff_ne.mpr (by rw [h]; exact q)
        rw [this]
      · rw [if_neg h, if_neg h]
theorem look_sets (tab : Tb) (k c t p : Nat) : look (sets tab k c t) p = if p = k then some (c, t) else look tab p := by
  unfold look sets
  rw [List.find?_append, find_f]
  by_cases h : p = k
  · subst h
    simp
  · rw [if_neg h, if_neg h]
    have : (k == p) = false := beq_eq_false_iff_ne.mpr (fun q => h q.symm)
    cases tab.find? (fun e => e.1 == p) with
    | some z => rfl
    | none => simp [List.find?, this]
theorem filter_len {tab : Tb} {k : Nat} : (tab.map (·.1)).Nodup → k ∈ tab.map (·.1) → (tab.filter fun e => !(e.1 == k)).length + 1 = tab.length := by
  induction tab with
  | nil => intro _ h; cases h
  | cons e r ih =>
    intro hn hm
    rw [List.map_cons, List.nodup_cons] at hn
    rw [List.filter_cons]
    by_cases q : e.1 = k
    · have : (e.1 == k) = true := beq_iff_eq.mpr q
      rw [this]
      have hr : (r.filter fun e => !(e.1 == k)) = r := by
        rw [List.filter_eq_self]
        intro z hz
        have : z.1 ≠ k := fun e2 => hn.1 (by rw [q, ← e2]; exact List.mem_map_of_mem hz)
        simp [this]
      simp [hr]
    · have h1 : (e.1 == k) = false := beq_eq_false_iff_ne.mpr q
      rw [h1]
      have : k ∈ r.map (·.1) := by
        rcases List.mem_cons.mp hm with h | h
        · exact absurd h.symm q
        · exact h
      have := ih hn.2 this
      simp only [Bool.not_false, if_true, List.length_cons]
      omega
theorem look_mem {tab : Tb} {k : Nat} {e : Nat × Nat} (h : look tab k = some e) : k ∈ tab.map (·.1) := by
  unfold look at h
  cases q : tab.find? (fun e => e.1 == k) with
  | none => rw [q] at h; cases h
  | some z =>
    have h1 := List.find?_some q
    have h2 := List.mem_of_find?_eq_some q
    exact List.mem_map.mpr ⟨z, h2, beq_iff_eq.mp h1⟩
theorem sets_len {tab : Tb} (w : WF tab) {k : Nat} {e : Nat × Nat} (h : look tab k = some e) (c t : Nat) : (sets tab k c t).length = tab.length := by
  unfold sets
  rw [List.length_append]
  exact filter_len w.2 (look_mem h)
theorem sets_wf {tab : Tb} (w : WF tab) {k : Nat} {e : Nat × Nat} (h : look tab k = some e) (c t : Nat) : WF (sets tab k c t) := by
  have hl := sets_len w h c t
  refine ⟨fun z hz => ?_, ?_⟩
  · rw [hl]
    unfold sets at hz
    rcases List.mem_append.mp hz with q | q
    · exact w.1 z (List.mem_filter.mp q).1
    · obtain ⟨y, hy, e2⟩ := List.mem_map.mp (look_mem h)
      have := w.1 y hy
      rw [List.mem_singleton.mp q]
      dsimp only at e2 ⊢
      omega
  · unfold sets
    rw [List.map_append, List.nodup_append]
    refine ⟨?_, by simp, ?_⟩
    · exact (List.Sublist.map _ List.filter_sublist).nodup w.2
    · intro x hx y hy e
      obtain ⟨z, hz, rfl⟩ := List.mem_map.mp hx
      have := (List.mem_filter.mp hz).2
      simp at hy this
      omega
/-- the change of one entry, where what it tells is reduced -/
theorem upd {tab : Tb} {k c t : Nat} {K K' : T} (hK : Unf tab k K) (hK' : Unf (sets tab k c t) k K') (r : R K K') {n : Nat} {X : T} (h : Unf tab n X) : ∃ X', Unf (sets tab k c t) n X' ∧ R X X' := by
  induction h with
  | leaf q => exact ⟨_, .leaf q, .refl _⟩
  | @node p c0 th0 C A h0 h1 h2 h3 i2 i3 =>
    by_cases e : p = k
    · subst e
      have := Unf.same hK (.node h0 h1 h2 h3)
      subst this
      exact ⟨K', hK', r⟩
    · obtain ⟨C', c1, c2⟩ := i2
      obtain ⟨A', a1, a2⟩ := i3
      exact ⟨_, .node h0 (by rw [look_sets, if_neg e]; exact h1) c1 a1, R.app c2 a2⟩
theorem small {tab : Tb} {k c t : Nat} {K : T} (hK : Unf tab k K) {n : Nat} {X : T} (h : Unf tab n X) : L X < L K → Unf (sets tab k c t) n X := by
  induction h with
  | leaf q => exact fun _ => .leaf q
  | @node p c0 th0 C A h0 h1 h2 h3 i2 i3 =>
    intro hl
    have hl' : L C + L A < L K := hl
    by_cases e : p = k
    · subst e
      have := Unf.same hK (.node h0 h1 h2 h3)
      subst this
      exact absurd hl (Nat.lt_irrefl _)
    · exact .node h0 (by rw [look_sets, if_neg e]; exact h1) (i2 (by omega)) (i3 (by omega))
/-- one goes on at n where c stands: through calls of = -/
inductive Lead (tab : Tb) : Nat → Nat → Prop
  | refl (n) : Lead tab n n
  | eq {c c' t n C0} : 256 ≤ c → look tab c = some (c', t) → Unf tab c' C0 → R C0 (s .eq) → Lead tab t n → Lead tab c n
theorem Lead.trans {tab : Tb} {x y z : Nat} (h : Lead tab x y) (h' : Lead tab y z) : Lead tab x z := by
  induction h with
  | refl => exact h'
  | eq a1 a2 a3 a4 _ ih => exact .eq a1 a2 a3 a4 (ih h')
theorem Lead.sem {tab : Tb} {c n : Nat} (h : Lead tab c n) : ∀ {C : T}, Unf tab c C → ∃ X, Unf tab n X ∧ R C X ∧ L X ≤ L C := by
  induction h with
  | refl => exact fun {C} h => ⟨C, h, .refl _, Nat.le_refl _⟩
  | @eq c d t n C1 a1 a2 a3 a4 _ ih =>
    intro C hC
    obtain ⟨C0, A, rfl, b1, b2⟩ := hC.inv_node a2 a1
    have hh := Unf.same b1 a3
    subst hh
    obtain ⟨X, h1, h2, h3⟩ := ih b2
    refine ⟨X, h1, (R.app a4 (.refl _)).trans (.head (.eq (.refl _)) h2), ?_⟩
    have e : L (a C0 A) = L C0 + L A := rfl
    rw [e]; omega
theorem Lead.ext {tab tab1 : Tb} (x : Ext tab tab1) {c n : Nat} (h : Lead tab c n) : Lead tab1 c n := by
  induction h with
  | refl => exact .refl _
  | eq a1 a2 a3 a4 _ ih => exact .eq a1 (x _ _ a2) (a3.ext x) a4 ih
theorem r_eq {C C' : T} (h : R C (s .eq)) (h' : R C C') : R C' (s .eq) := by
  obtain ⟨w, a, b⟩ := conf h h'
  obtain ⟨bs, e1, e2, _⟩ := r_spine (h := .eq) a (as := []) rfl (by decide)
  have : bs = [] := List.length_eq_zero_iff.mp e2
  subst this
  rw [e1] at b
  exact b
theorem Lead.upd {tab : Tb} {k c' t' : Nat} {K K' : T} (hK : Unf tab k K) (hK' : Unf (sets tab k c' t') k K') (r : R K K') {c n : Nat} (h : Lead tab c n) : ∀ {C X : T}, Unf tab c C → Unf tab n X → L K ≤ L X → Lead (sets tab k c' t') c n := by
  induction h with
  | refl => exact fun _ _ _ => .refl _
  | @eq c d t n C0 a1 a2 a3 a4 hl ih =>
    intro C X hC hX hL
    obtain ⟨C1, A, rfl, b1, b2⟩ := hC.inv_node a2 a1
    have hh := Unf.same a3 b1
    subst hh
    obtain ⟨X1, h1, _, h3⟩ := hl.sem b2
    have hh := Unf.same hX h1
    subst hh
    have hne : c ≠ k := by
      rintro rfl
      have hh := Unf.same hK hC
      subst hh
      have e : L (a C0 A) = L C0 + L A := rfl
      have := L_pos C0
      omega
    obtain ⟨C2, d1, d2⟩ := Mine.T.upd hK hK' r b1
    exact .eq a1 (by rw [look_sets, if_neg hne]; exact a2) d1 (r_eq a4 d2) (ih b2 hX hL)
end T
end
section
set_option Elab.async false
namespace T
inductive Pile (tab : Tb) : Nat → List Nat → Prop
  | nil (n) : Pile tab n []
  | cons {n p c th P ps} : 256 ≤ p → look tab p = some (c, th) → Unf tab p P → Lead tab c n → Pile tab p ps → Pile tab n (p :: ps)
inductive Val (tab : Tb) : T → List Nat → T → Prop
  | nil (X) : Val tab X [] X
  | cons {X p c th A ps W} : look tab p = some (c, th) → Unf tab th A → Val tab (a X A) ps W → Val tab X (p :: ps) W
theorem Pile.ext {tab tab1 : Tb} (x : Ext tab tab1) {n : Nat} {ps : List Nat} (h : Pile tab n ps) : Pile tab1 n ps := by
  induction h with
  | nil => exact .nil _
  | cons a1 a2 a3 a4 _ ih => exact .cons a1 (x _ _ a2) (a3.ext x) (a4.ext x) ih
theorem Val.ext {tab tab1 : Tb} (x : Ext tab tab1) {X W : T} {ps : List Nat} (h : Val tab X ps W) : Val tab1 X ps W := by
  induction h with
  | nil => exact .nil _
  | cons a2 a3 _ ih => exact .cons (x _ _ a2) (a3.ext x) ih
theorem Val.S {tab : Tb} {X W : T} {ps : List Nat} (h : Val tab X ps W) : T.S X ≤ T.S W ∧ L X + ps.length ≤ L W := by
  induction h with
  | nil => exact ⟨Nat.le_refl _, by simp⟩
  | @cons X p c th A ps W _ _ _ ih =>
    have e1 : T.S (a X A) = T.S X + T.S A := rfl
    have e2 : L (a X A) = L X + L A := rfl
    have := L_pos A
    rw [List.length_cons]
    omega
theorem Val.fall {tab : Tb} {X W : T} {ps : List Nat} (h : Val tab X ps W) : T.S W ≤ 1 → ∀ {X' : T}, R X X' → T.S X' ≤ T.S X → mu X' < mu X → ∃ W', Val tab X' ps W' ∧ R W W' ∧ T.S W' ≤ T.S W ∧ mu W' < mu W := by
  induction h with
  | nil => exact fun _ X' r s' m => ⟨X', .nil _, r, s', m⟩
  | @cons X p c th A ps W a1 a2 hv ih =>
    intro hS X' r s' m
    have h1 := hv.S.1
    have e1 : T.S (a X A) = T.S X + T.S A := rfl
    have e2 : T.S (a X' A) = T.S X' + T.S A := rfl
    obtain ⟨W', b1, b2⟩ := ih hS (X' := a X' A) (R.app r (.refl _)) (by omega) (mu_appS (by omega) s' (Nat.le_refl _) m (Nat.le_refl _))
    exact ⟨W', .cons a1 a2 b1, b2⟩
/-- p stands with too few: it is rewritten no more -/
noncomputable def Fix (tab : Tb) (p c th : Nat) : Prop := 256 ≤ p ∧ look tab p = some (c, th) ∧ ∃ C h as, Unf tab c C ∧ R C (spine h as) ∧ as.length + 1 < want h
noncomputable def Le (tab tab' : Tb) : Prop := (∀ n X, Unf tab n X → ∃ X', Unf tab' n X' ∧ R X X') ∧ (∀ p c th, Fix tab p c th → Fix tab' p c th)
theorem Le.refl (tab : Tb) : Le tab tab := ⟨fun _ X h => ⟨X, h, .refl _⟩, fun _ _ _ h => h⟩
theorem Le.trans {x y z : Tb} (h : Le x y) (h' : Le y z) : Le x z := ⟨fun n X u => by
  obtain ⟨X1, a1, a2⟩ := h.1 n X u
  obtain ⟨X2, b1, b2⟩ := h'.1 n X1 a1
  exact ⟨X2, b1, a2.trans b2⟩, fun p c th f => h'.2 _ _ _ (h.2 _ _ _ f)⟩
theorem Le.ext {tab tab1 : Tb} (x : Ext tab tab1) : Le tab tab1 := ⟨fun _ X u => ⟨X, u.ext x, .refl _⟩, fun _ _ _ ⟨h0, h1, C, h, as, u, r⟩ => ⟨h0, x _ _ h1, C, h, as, u.ext x, r⟩⟩
section
variable {tab : Tb} {k c' t' : Nat} {K K' : T}
theorem Pile.upd (hK : Unf tab k K) (hK' : Unf (sets tab k c' t') k K') (r : R K K') {n : Nat} {ps : List Nat} (h : Pile tab n ps) : ∀ {X : T}, Unf tab n X → L K ≤ L X → Pile (sets tab k c' t') n ps ∧ ∀ p ∈ ps, p ≠ k := by
  induction h with
  | nil => exact fun _ _ => ⟨.nil _, by simp⟩
  | @cons n p c th P ps a1 a2 a3 a4 _ ih =>
    intro X hX hL
    obtain ⟨C, A, rfl, b1, b2⟩ := a3.inv_node a2 a1
    obtain ⟨X1, h1, _, h3⟩ := a4.sem b1
    have hh := Unf.same hX h1
    subst hh
    have e : L (a C A) = L C + L A := rfl
    have pA := L_pos A
    have hne : p ≠ k := by
      rintro rfl
      have hh := Unf.same hK a3
      subst hh
      omega
    obtain ⟨q1, q2⟩ := ih a3 (by omega)
    obtain ⟨P', d1, _⟩ := Mine.T.upd hK hK' r a3
    refine ⟨.cons a1 (by rw [look_sets, if_neg hne]; exact a2) d1 (a4.upd hK hK' r b1 hX hL) q1, fun z hz => ?_⟩
    rcases List.mem_cons.mp hz with rfl | hz
    · exact hne
    · exact q2 z hz
theorem Val.upd (hK : Unf tab k K) (hK' : Unf (sets tab k c' t') k K') (r : R K K') {X W : T} {ps : List Nat} (h : Val tab X ps W) : (∀ p ∈ ps, p ≠ k) → T.S W ≤ 1 → ∀ {X' : T}, R X X' → T.S X' ≤ T.S X → mu X' < mu X →
    ∃ W', Val (sets tab k c' t') X' ps W' ∧ R W W' ∧ T.S W' ≤ T.S W ∧ mu W' < mu W := by
  induction h with
  | nil => exact fun _ _ X' r s' m => ⟨X', .nil _, r, s', m⟩
  | @cons X p c th A ps W a1 a2 hv ih =>
    intro hne hS X' r' s' m
    have h1 := hv.S.1
    obtain ⟨A', d1, d2⟩ := Mine.T.upd hK hK' r a2
    have e1 : T.S (a X A) = T.S X + T.S A := rfl
    have e2 : T.S (a X' A') = T.S X' + T.S A' := rfl
    obtain ⟨f1, f2⟩ := mu_r d2 (by omega)
    obtain ⟨W', b1, b2⟩ := ih (fun z hz => hne z (.tail _ hz)) hS (X' := a X' A') (R.app r' d2) (by omega) (mu_appS (by omega) s' f1 m f2)
    exact ⟨W', .cons (by rw [look_sets, if_neg (hne p (.head _))]; exact a1) d1 b1, b2⟩
theorem Fix.upd (hK : Unf tab k K) (hK' : Unf (sets tab k c' t') k K') (r : R K K') {ck tk : Nat} {Ck : T} {h : Sg} {bs : List T} (hl : look tab k = some (ck, tk)) (hC : Unf tab ck Ck) (hr : R Ck (spine h bs)) (hb : bs.length + 1 = want h) {p c th : Nat} (f : Fix tab p c th) : Fix (sets tab k c' t') p c th := by
  obtain ⟨h0, h1, C, h2, as, u, rr, hw⟩ := f
  have hne : p ≠ k := by
    rintro rfl
    rw [hl] at h1
    cases h1
    have hh := Unf.same hC u
    subst hh
    obtain ⟨e1, e2⟩ := stuck_same rr hr (by omega) (by omega)
    subst e1
    omega
  obtain ⟨C', d1, d2⟩ := Mine.T.upd hK hK' r u
  obtain ⟨w, g1, g2⟩ := conf rr d2
  obtain ⟨cs, e1, e2, _⟩ := r_spine g1 rfl (by omega)
  subst e1
  exact ⟨h0, by rw [look_sets, if_neg hne]; exact h1, C', h2, cs, d1, g2, by omega⟩
end
/-- how the machine stands -/
noncomputable def St (tab : Tb) (n : Nat) (X : T) (ps : List Nat) (W : T) : Prop := Pile tab n ps ∧ Unf tab n X ∧ Val tab X ps W
theorem St.ext {tab tab1 : Tb} (x : Ext tab tab1) {n : Nat} {X W : T} {ps : List Nat} (h : St tab n X ps W) : St tab1 n X ps W := ⟨h.1.ext x, h.2.1.ext x, h.2.2.ext x⟩
theorem St.push {tab : Tb} {n c th : Nat} {X W : T} {ps : List Nat} (h : St tab n X ps W) (h0 : 256 ≤ n) (hl : look tab n = some (c, th)) : ∃ C, St tab c C (n :: ps) W ∧ L C < L X := by
  obtain ⟨h1, h2, h3⟩ := h
  obtain ⟨C, A, rfl, b1, b2⟩ := h2.inv_node hl h0
  have := L_pos A
  have e : L (a C A) = L C + L A := rfl
  exact ⟨C, ⟨.cons h0 hl h2 (.refl _) h1, b1, .cons hl b2 h3⟩, by omega⟩
theorem St.eq {tab : Tb} {p c th : Nat} {W : T} {ps : List Nat} (h : St tab (code .eq) (s .eq) (p :: ps) W) (hl : look tab p = some (c, th)) (hS : T.S W ≤ 1) :
    ∃ A W', St tab th A ps W' ∧ R W W' ∧ T.S W' ≤ T.S W ∧ mu W' < mu W := by
  obtain ⟨h1, h2, h3⟩ := h
  cases h1 with
  | cons a1 a2 a3 a4 a5 =>
  rw [hl] at a2; cases a2
  cases h3 with
  | cons b1 b2 b3 =>
  rw [hl] at b1; cases b1
  obtain ⟨C, A, rfl, d1, d2⟩ := a3.inv_node hl a1
  have hh := Unf.same d2 b2
  subst hh
  obtain ⟨X, x1, x2, _⟩ := a4.sem d1
  have hh := x1.inv_leaf
  subst hh
  have e1 : T.S (a (s .eq) A) = T.S A := by simp [T.S]
  have hm : mu A < mu (a (s .eq) A) := by
    have := @mu_sum (s .eq) A
    have := mu_pos (s .eq)
    omega
  obtain ⟨W', w1, w2⟩ := b3.fall hS (.one (.eq (.refl A))) (by omega) hm
  refine ⟨A, W', ⟨?_, b2, w1⟩, w2⟩
  cases a5 with
  | nil => exact .nil _
  | cons e1 e2 e3 e4 e5 => exact .cons e1 e2 e3 (e4.trans (.eq a1 hl d1 x2 (.refl _))) e5
/-- the entry of k is written anew: what every rule does at the end -/
theorem St.set {tab : Tb} {k c' t' ck tk : Nat} {K K' Ck Y W : T} {h : Sg} {bs : List T} {ps : List Nat} (hl : look tab k = some (ck, tk)) (hK : Unf tab k K) (hC : Unf tab ck Ck) (hr : R Ck (spine h bs)) (hb : bs.length + 1 = want h)
    (hp : Pile tab k ps) (hv : Val tab Y ps W) (hS : T.S W ≤ 1) (hK' : Unf (sets tab k c' t') k K') (r : R K K') (rY : R Y K') (hs : T.S K' ≤ T.S Y) (hm : mu K' < mu Y) :
    (∃ W', St (sets tab k c' t') k K' ps W' ∧ R W W' ∧ T.S W' ≤ T.S W ∧ mu W' < mu W) ∧ Le tab (sets tab k c' t') := by
  obtain ⟨q1, q2⟩ := hp.upd hK hK' r hK (Nat.le_refl _)
  obtain ⟨W', w1, w2⟩ := hv.upd hK hK' r q2 hS rY hs hm
  exact ⟨⟨W', ⟨q1, hK', w1⟩, w2⟩, fun n X u => Mine.T.upd hK hK' r u, fun p c th f => f.upd hK hK' r hl hC hr hb⟩
theorem St.two {tab : Tb} {h : Sg} {p1 p2 c1 x c2 y : Nat} {ps : List Nat} {W : T} (st : St tab (code h) (s h) (p1 :: p2 :: ps) W) (l1 : look tab p1 = some (c1, x)) (l2 : look tab p2 = some (c2, y)) :
    ∃ X Y C2, 256 ≤ p2 ∧ Unf tab x X ∧ Unf tab y Y ∧ Unf tab p2 (a C2 Y) ∧ Unf tab c2 C2 ∧ R C2 (a (s h) X) ∧ L X < L C2 ∧ Pile tab p2 ps ∧ Val tab (a (a (s h) X) Y) ps W := by
  obtain ⟨h1, h2, h3⟩ := st
  cases h1 with
  | cons a1 a2 a3 a4 a5 =>
  rw [l1] at a2; cases a2
  cases a5 with
  | cons e1 e2 e3 e4 e5 =>
  rw [l2] at e2; cases e2
  cases h3 with
  | cons b1 b2 b3 =>
  rw [l1] at b1; cases b1
  cases b3 with
  | cons d1 d2 d3 =>
  rw [l2] at d1; cases d1
  obtain ⟨C1, X, rfl, f1, f2⟩ := a3.inv_node l1 a1
  have hh := Unf.same f2 b2
  subst hh
  obtain ⟨Z, z1, z2, z3⟩ := a4.sem f1
  have hh := z1.inv_leaf
  subst hh
  obtain ⟨C2, Y, rfl, g1, g2⟩ := e3.inv_node l2 e1
  have hh := Unf.same g2 d2
  subst hh
  obtain ⟨P, p1', p2', p3'⟩ := e4.sem g1
  have hh := Unf.same a3 p1'
  subst hh
  have hL : L (a C1 X) = L C1 + L X := rfl
  have := L_pos C1
  exact ⟨X, Y, C2, e1, b2, d2, e3, g1, p2'.trans (R.app z2 (.refl _)), by omega, e5, d3⟩
theorem St.three {tab : Tb} {h : Sg} {p1 p2 p3 c1 x c2 y c3 z : Nat} {ps : List Nat} {W : T} (st : St tab (code h) (s h) (p1 :: p2 :: p3 :: ps) W) (l1 : look tab p1 = some (c1, x)) (l2 : look tab p2 = some (c2, y)) (l3 : look tab p3 = some (c3, z)) :
    ∃ X Y Z C3, 256 ≤ p3 ∧ Unf tab x X ∧ Unf tab y Y ∧ Unf tab z Z ∧ Unf tab p3 (a C3 Z) ∧ Unf tab c3 C3 ∧ R C3 (a (a (s h) X) Y) ∧ L X < L C3 ∧ L Y < L C3 ∧ Pile tab p3 ps ∧ Val tab (a (a (a (s h) X) Y) Z) ps W := by
  obtain ⟨X, Y, C2, g0, g1, g2, g3, g4, g5, g6, g7, g8⟩ := st.two l1 l2
  cases g7 with
  | cons e1 e2 e3 e4 e5 =>
  rw [l3] at e2; cases e2
  cases g8 with
  | cons d1 d2 d3 =>
  rw [l3] at d1; cases d1
  obtain ⟨C3, Z, rfl, f1, f2⟩ := e3.inv_node l3 e1
  have hh := Unf.same f2 d2
  subst hh
  obtain ⟨P, p1', p2', p3'⟩ := e4.sem f1
  have hh := Unf.same g3 p1'
  subst hh
  have hL : L (a C2 Y) = L C2 + L Y := rfl
  have := L_pos C2
  have := L_pos Y
  exact ⟨X, Y, Z, C3, e1, g1, g2, d2, e3, f1, p2'.trans (R.app g5 (.refl _)), by omega, by omega, e5, d3⟩
theorem St.sl {tab : Tb} {p1 p2 c1 x c2 y : Nat} {ps : List Nat} {W : T} (st : St tab (code .sl) (s .sl) (p1 :: p2 :: ps) W) (l1 : look tab p1 = some (c1, x)) (l2 : look tab p2 = some (c2, y)) (hS : T.S W ≤ 1) :
    (∃ K' W', St (sets tab p2 (code .eq) x) p2 K' ps W' ∧ R W W' ∧ T.S W' ≤ T.S W ∧ mu W' < mu W) ∧ Le tab (sets tab p2 (code .eq) x) := by
  obtain ⟨X, Y, C2, g0, g1, g2, g3, g4, g5, g6, g7, g8⟩ := st.two l1 l2
  have hL : L (a C2 Y) = L C2 + L Y := rfl
  have hK' : Unf (sets tab p2 (code .eq) x) p2 (a (s .eq) X) := .node g0 (by rw [look_sets, if_pos rfl]) (.leaf .eq) (small g3 g1 (by omega))
  have hp : Par (a (a (s .sl) X) Y) (a (s .eq) X) := .sl (.refl X)
  have hS1 := g8.S.1
  have hm : mu (a (s .eq) X) < mu (a (a (s .sl) X) Y) := by
    have m1 := mu_or (a (s .eq) X); have m2 := mu_or (a (a (s .sl) X) Y)
    have e1 : T.S (a (s .eq) X) = T.S X := by simp [T.S]
    have e2 : T.S (a (a (s .sl) X) Y) = T.S X + T.S Y := by simp [T.S]
    have e3 : L (a (s .eq) X) = 1 + L X := rfl
    have e4 : L (a (a (s .sl) X) Y) = 1 + L X + L Y := rfl
    have := L_pos Y
    omega
  have := (mu_par hp (by omega)).1
  obtain ⟨⟨W', w⟩, l⟩ := St.set (h := .sl) (bs := [X]) l2 g3 g4 g5 rfl g7 g8 hS hK' ((R.app g5 (.refl _)).trans (.one hp)) (.one hp) this hm
  exact ⟨⟨_, W', w⟩, l⟩
theorem St.set3 {tab : Tb} {h : Sg} {p1 p2 p3 c1 x c2 y c3 z c' t' : Nat} {ps : List Nat} {W : T} (st : St tab (code h) (s h) (p1 :: p2 :: p3 :: ps) W) (l1 : look tab p1 = some (c1, x)) (l2 : look tab p2 = some (c2, y)) (l3 : look tab p3 = some (c3, z)) (hS : T.S W ≤ 1) (hw : want h = 3)
    (hk : ∀ X Y Z, Unf tab x X → Unf tab y Y → Unf tab z Z → (∀ n U, Unf tab n U → L U ≤ max (L X) (L Y) + L Z → Unf (sets tab p3 c' t') n U) → ∃ C' A', Unf (sets tab p3 c' t') c' C' ∧ Unf (sets tab p3 c' t') t' A' ∧ Par (a (a (a (s h) X) Y) Z) (a C' A') ∧ (T.S (a (a (a (s h) X) Y) Z) ≤ 1 → mu (a C' A') < mu (a (a (a (s h) X) Y) Z))) :
    (∃ K' W', St (sets tab p3 c' t') p3 K' ps W' ∧ R W W' ∧ T.S W' ≤ T.S W ∧ mu W' < mu W) ∧ Le tab (sets tab p3 c' t') := by
  obtain ⟨X, Y, Z, C3, g0, g1, g2, gz, g3, g4, g5, g6, g6', g7, g8⟩ := st.three l1 l2 l3
  obtain ⟨C', A', k1, k2, hp, hm⟩ := hk X Y Z g1 g2 gz (fun n U hu hl => small g3 hu (by have e : L (a C3 Z) = L C3 + L Z := rfl; omega))
  have hK' : Unf (sets tab p3 c' t') p3 (a C' A') := .node g0 (by rw [look_sets, if_pos rfl]) k1 k2
  have hS1 := g8.S.1
  have := (mu_par hp (by omega)).1
  obtain ⟨⟨W', w⟩, l⟩ := St.set (h := h) (bs := [Y, X]) l3 g3 g4 g5 (by rw [hw]; rfl) g7 g8 hS hK' ((R.app g5 (.refl _)).trans (.one hp)) (.one hp) this (hm (by omega))
  exact ⟨⟨_, W', w⟩, l⟩
theorem mu_dot {X Y Z : T} (h : T.S (a (a (a (s .dot) X) Y) Z) ≤ 1) : mu (a X (a Y Z)) < mu (a (a (a (s .dot) X) Y) Z) :=
  (mu_rule3 (q := .dot) (.inl ⟨rfl, by simp only [L]; omega, by simp only [T.S]; omega⟩) h (fun _ => ⟨Nat.le_refl _, Nat.le_refl _⟩) (fun _ => ⟨Nat.le_refl _, Nat.le_refl _⟩) (fun _ => ⟨Nat.le_refl _, Nat.le_refl _⟩)).2
theorem mu_col {X Y Z : T} (h : T.S (a (a (a (s .col) X) Y) Z) ≤ 1) : mu (a (a X Z) Y) < mu (a (a (a (s .col) X) Y) Z) :=
  (mu_rule3 (q := .col) (.inl ⟨rfl, by simp only [L]; omega, by simp only [T.S]; omega⟩) h (fun _ => ⟨Nat.le_refl _, Nat.le_refl _⟩) (fun _ => ⟨Nat.le_refl _, Nat.le_refl _⟩) (fun _ => ⟨Nat.le_refl _, Nat.le_refl _⟩)).2
theorem mu_st {X Y Z : T} (h : T.S (a (a (a (s .st) X) Y) Z) ≤ 1) : mu (a (a X Z) (a Y Z)) < mu (a (a (a (s .st) X) Y) Z) :=
  (mu_rule3 (q := .st) (.inr ⟨rfl, by simp only [L]; omega, by simp only [T.S]; omega⟩) h (fun _ => ⟨Nat.le_refl _, Nat.le_refl _⟩) (fun _ => ⟨Nat.le_refl _, Nat.le_refl _⟩) (fun _ => ⟨Nat.le_refl _, Nat.le_refl _⟩)).2
section
variable {tab : Tb} {p1 p2 p3 c1 x c2 y c3 z : Nat} {ps : List Nat} {W : T}
theorem St.dot (wf : WF tab) (st : St tab (code .dot) (s .dot) (p1 :: p2 :: p3 :: ps) W) (l1 : look tab p1 = some (c1, x)) (l2 : look tab p2 = some (c2, y)) (l3 : look tab p3 = some (c3, z)) (hS : T.S W ≤ 1) :
    (∃ K' W', St (sets (laid tab y z) p3 x (256 + tab.length)) p3 K' ps W' ∧ R W W' ∧ T.S W' ≤ T.S W ∧ mu W' < mu W) ∧ Le tab (sets (laid tab y z) p3 x (256 + tab.length)) ∧ WF (sets (laid tab y z) p3 x (256 + tab.length)) ∧ (sets (laid tab y z) p3 x (256 + tab.length)).length = tab.length + 1 := by
  have x1 := laid_ext tab y z
  have w1 := laid_wf wf y z
  have l3' := x1 _ _ l3
  obtain ⟨hs, hl⟩ := St.set3 (c' := x) (t' := 256 + tab.length) (st.ext x1) (x1 _ _ l1) (x1 _ _ l2) l3' hS rfl (by
    intro X Y Z hx hy hz k
    have hn : Unf (laid tab y z) (256 + tab.length) (a Y Z) := .node (by omega) (laid_new wf y z) hy hz
    have e : L (a Y Z) = L Y + L Z := rfl
    exact ⟨X, a Y Z, k _ _ hx (by omega), k _ _ hn (by omega), .dot (.refl _) (.refl _) (.refl _), mu_dot⟩)
  exact ⟨hs, (Le.ext x1).trans hl, sets_wf w1 l3' _ _, by rw [sets_len w1 l3', laid_len]⟩
theorem St.col (wf : WF tab) (st : St tab (code .col) (s .col) (p1 :: p2 :: p3 :: ps) W) (l1 : look tab p1 = some (c1, x)) (l2 : look tab p2 = some (c2, y)) (l3 : look tab p3 = some (c3, z)) (hS : T.S W ≤ 1) :
    (∃ K' W', St (sets (laid tab x z) p3 (256 + tab.length) y) p3 K' ps W' ∧ R W W' ∧ T.S W' ≤ T.S W ∧ mu W' < mu W) ∧ Le tab (sets (laid tab x z) p3 (256 + tab.length) y) ∧ WF (sets (laid tab x z) p3 (256 + tab.length) y) ∧ (sets (laid tab x z) p3 (256 + tab.length) y).length = tab.length + 1 := by
  have x1 := laid_ext tab x z
  have w1 := laid_wf wf x z
  have l3' := x1 _ _ l3
  obtain ⟨hs, hl⟩ := St.set3 (c' := 256 + tab.length) (t' := y) (st.ext x1) (x1 _ _ l1) (x1 _ _ l2) l3' hS rfl (by
    intro X Y Z hx hy hz k
    have hn : Unf (laid tab x z) (256 + tab.length) (a X Z) := .node (by omega) (laid_new wf x z) hx hz
    have e : L (a X Z) = L X + L Z := rfl
    exact ⟨a X Z, Y, k _ _ hn (by omega), k _ _ hy (by omega), .col (.refl _) (.refl _) (.refl _), mu_col⟩)
  exact ⟨hs, (Le.ext x1).trans hl, sets_wf w1 l3' _ _, by rw [sets_len w1 l3', laid_len]⟩
theorem St.st (wf : WF tab) (st : St tab (code .st) (s .st) (p1 :: p2 :: p3 :: ps) W) (l1 : look tab p1 = some (c1, x)) (l2 : look tab p2 = some (c2, y)) (l3 : look tab p3 = some (c3, z)) (hS : T.S W ≤ 1) :
    (∃ K' W', St (sets (laid (laid tab x z) y z) p3 (256 + tab.length) (256 + (laid tab x z).length)) p3 K' ps W' ∧ R W W' ∧ T.S W' ≤ T.S W ∧ mu W' < mu W) ∧ Le tab (sets (laid (laid tab x z) y z) p3 (256 + tab.length) (256 + (laid tab x z).length)) ∧ WF (sets (laid (laid tab x z) y z) p3 (256 + tab.length) (256 + (laid tab x z).length)) ∧ (sets (laid (laid tab x z) y z) p3 (256 + tab.length) (256 + (laid tab x z).length)).length = tab.length + 2 := by
  have x1 := laid_ext tab x z
  have w1 := laid_wf wf x z
  have x2 := laid_ext (laid tab x z) y z
  have w2 := laid_wf w1 y z
  have x3 : Ext tab (laid (laid tab x z) y z) := fun p e h => x2 _ _ (x1 _ _ h)
  have l3' := x3 _ _ l3
  obtain ⟨hs, hl⟩ := St.set3 (c' := 256 + tab.length) (t' := 256 + (laid tab x z).length) (st.ext x3) (x3 _ _ l1) (x3 _ _ l2) l3' hS rfl (by
    intro X Y Z hx hy hz k
    have hn : Unf (laid (laid tab x z) y z) (256 + tab.length) (a X Z) := .node (by omega) (x2 _ _ (laid_new wf x z)) hx hz
    have hn2 : Unf (laid (laid tab x z) y z) (256 + (laid tab x z).length) (a Y Z) := .node (by omega) (laid_new w1 y z) hy hz
    have e : L (a X Z) = L X + L Z := rfl
    have e2 : L (a Y Z) = L Y + L Z := rfl
    exact ⟨a X Z, a Y Z, k _ _ hn (by omega), k _ _ hn2 (by omega), .st (.refl _) (.refl _) (.refl _), mu_st⟩)
  exact ⟨hs, (Le.ext x3).trans hl, sets_wf w2 l3' _ _, by rw [sets_len w2 l3', laid_len, laid_len]⟩
end
end T
end
section
set_option Elab.async false
namespace T
theorem spine_of : ∀ t : T, ∃ h as, t = spine h as
  | s q => ⟨q, [], rfl⟩
  | a f x => by
    obtain ⟨h, as, e⟩ := spine_of f
    exact ⟨h, x :: as, by rw [e]; rfl⟩
theorem NF.fst {f x : T} (n : NF (a f x)) : NF f := fun u p => by
  have := n _ (.a p (.refl x))
  injection this
theorem NF.snd {f x : T} (n : NF (a f x)) : NF x := fun u p => by
  have := n _ (.a (.refl f) p)
  injection this
theorem len_two {α : Type} : ∀ {l : List α}, l.length = 2 → ∃ y z, l = [y, z]
  | [y, z], _ => ⟨y, z, rfl⟩
theorem nf_args {h : Sg} : ∀ {as : List T}, as.length < 99 → NF (spine h as) → as.length < want h ∧ ∀ x ∈ as, NF x
  | [], _, _ => ⟨want_pos h, fun x hx => nomatch hx⟩
  | x :: r, hl, n => by
    have n' : NF (a (spine h r) x) := n
    obtain ⟨h1, h2⟩ := nf_args (by rw [List.length_cons] at hl; omega) n'.fst
    refine ⟨?_, fun y hy => ?_⟩
    · rw [List.length_cons]
      refine Nat.lt_of_le_of_ne h1 fun e => ?_
      cases h with
      | eq =>
        have : r = [] := List.length_eq_zero_iff.mp (by simpa [want] using e)
        subst this
        have e2 := n' _ (.eq (.refl x))
        have := congrArg L e2
        simp [L, spine] at this
      | sl =>
        obtain ⟨y, rfl⟩ := List.length_eq_one_iff.mp (show r.length = 1 by simpa [want] using e)
        have e2 := n' _ (.sl (.refl y))
        injection e2 with e3 _
        cases e3
      | dot =>
        obtain ⟨y, z, rfl⟩ := len_two (show r.length = 2 by simpa [want] using e)
        have e2 := n' _ (.dot (.refl z) (.refl y) (.refl x))
        injection e2 with _ e3
        have := congrArg L e3
        have := L_pos y
        simp only [L] at *
        omega
      | col =>
        obtain ⟨y, z, rfl⟩ := len_two (show r.length = 2 by simpa [want] using e)
        have e2 := n' _ (.col (.refl z) (.refl y) (.refl x))
        have e6 := congrArg L e2
        have e7 : L (a (a z x) y) = L z + L x + L y := rfl
        have e8 : L (spine .col [x, y, z]) = 1 + L z + L y + L x := rfl
        have e9 : L (a (spine .col [y, z]) x) = L (spine .col [x, y, z]) := rfl
        omega
      | st =>
        obtain ⟨y, z, rfl⟩ := len_two (show r.length = 2 by simpa [want] using e)
        have e2 := n' _ (.st (.refl z) (.refl y) (.refl x))
        injection e2 with _ e3
        have := congrArg L e3
        have := L_pos y
        simp only [L] at *
        omega
      | _ =>
        have e2 : r.length + 1 = 99 := e
        rw [List.length_cons] at hl
        omega
    · rcases List.mem_cons.mp hy with rfl | hy
      · exact n'.snd
      · exact h2 y hy
theorem spine_L (h : Sg) : ∀ as : List T, L (spine h as) = 1 + (as.map L).sum
  | [] => by simp [spine, L]
  | x :: r => by
    show L (spine h r) + L x = _
    rw [spine_L h r]; simp; omega
theorem spine_len (h : Sg) : ∀ as : List T, as.length < L (spine h as)
  | [] => L_pos _
  | x :: r => by
    have := spine_len h r
    have := L_pos x
    show r.length + 1 < L (spine h r) + L x
    omega
/-- what the inside-out work has at its end: a sign called with normal things -/
theorem worked_end {F X : T} (nF : NF F) (nX : NF X) (hl : L (a F X) ≤ 99) : ∃ h as, a F X = spine h as ∧ 0 < as.length ∧ (∀ x ∈ as, NF x) ∧ as.length ≤ want h ∧ (as.length < want h → NF (a F X)) := by
  obtain ⟨h, r, rfl⟩ := spine_of F
  have h0 := spine_len h r
  have h1 : L (a (spine h r) X) = L (spine h r) + L X := rfl
  have h2 := L_pos X
  obtain ⟨b1, b2⟩ := nf_args (by omega) nF
  have hn : ∀ x ∈ X :: r, NF x := fun x hx => by
    rcases List.mem_cons.mp hx with rfl | hx
    · exact nX
    · exact b2 x hx
  exact ⟨h, X :: r, rfl, by simp, hn, by rw [List.length_cons]; exact b1, fun hw => nf_spine hw hn⟩
end T
end
section
set_option Elab.async false
namespace T
/-- the things that the pile's calls are called with -/
inductive Things (tab : Tb) : List Nat → List T → Prop
  | nil : Things tab [] []
  | cons {p c th A ps As} : look tab p = some (c, th) → Unf tab th A → Things tab ps As → Things tab (p :: ps) (A :: As)
noncomputable def musum : List T → Nat | [] => 0 | x :: r => mu x + musum r
noncomputable def Ssum : List T → Nat | [] => 0 | x :: r => T.S x + Ssum r
theorem fold_S : ∀ (As : List T) (X : T), T.S (As.foldl a X) = T.S X + Ssum As
  | [], X => by simp [Ssum]
  | x :: r, X => by
    rw [List.foldl_cons, fold_S r (a X x)]
    show T.S X + T.S x + _ = T.S X + (T.S x + Ssum r)
    omega
theorem fold_mu : ∀ (As : List T) (X : T), mu X + musum As ≤ mu (As.foldl a X)
  | [], X => by simp [musum]
  | x :: r, X => by
    rw [List.foldl_cons]
    have h1 := fold_mu r (a X x)
    have h2 := @mu_sum X x
    show mu X + (mu x + musum r) ≤ _
    omega
theorem Val.things {tab : Tb} {X W : T} {ps : List Nat} (h : Val tab X ps W) : ∃ As, Things tab ps As ∧ W = As.foldl a X := by
  induction h with
  | nil => exact ⟨[], .nil, rfl⟩
  | @cons X p c th A ps W a1 a2 _ ih =>
    obtain ⟨As, h1, h2⟩ := ih
    exact ⟨A :: As, .cons a1 a2 h1, h2⟩
theorem Things.le {tab tab' : Tb} (hle : Le tab tab') {ps : List Nat} {As : List T} (h : Things tab ps As) : (∀ p ∈ ps, ∃ c th, Fix tab p c th) → Ssum As ≤ 1 →
    ∃ As', Things tab' ps As' ∧ (∀ X X', R X X' → R (As.foldl a X) (As'.foldl a X')) ∧ Ssum As' ≤ Ssum As ∧ musum As' ≤ musum As := by
  induction h with
  | nil => exact fun _ _ => ⟨[], .nil, fun _ _ h => h, Nat.le_refl _, Nat.le_refl _⟩
  | @cons p c th A ps As a1 a2 _ ih =>
    intro hf hS
    have e1 : Ssum (A :: As) = T.S A + Ssum As := rfl
    obtain ⟨As', b1, b2, b3, b4⟩ := ih (fun q hq => hf q (.tail _ hq)) (by omega)
    obtain ⟨A', d1, d2⟩ := hle.1 _ _ a2
    obtain ⟨c2, th2, f⟩ := hf p (.head _)
    have l1 := f.2.1
    rw [a1] at l1
    cases l1
    have l2 := (hle.2 _ _ _ f).2.1
    obtain ⟨m1, m2⟩ := mu_r d2 (by omega)
    refine ⟨A' :: As', .cons l2 d1 b1, fun X X' r => b2 _ _ (R.app r d2), ?_, ?_⟩
    · show T.S A' + Ssum As' ≤ T.S A + Ssum As
      omega
    · show mu A' + musum As' ≤ mu A + musum As
      omega
theorem Pile.fix {tab : Tb} {n : Nat} {ps : List Nat} (h : Pile tab n ps) : ∀ {X : T} {q : Sg} {as : List T}, Unf tab n X → R X (spine q as) → as.length + ps.length < want q → ∀ p ∈ ps, ∃ c th, Fix tab p c th := by
  induction h with
  | nil => exact fun _ _ _ p hp => nomatch hp
  | @cons n p c th P ps a1 a2 a3 a4 _ ih =>
    intro X q as hX hR hl
    rw [List.length_cons] at hl
    obtain ⟨C, A, rfl, b1, b2⟩ := a3.inv_node a2 a1
    obtain ⟨X1, h1, h2, _⟩ := a4.sem b1
    have hh := Unf.same hX h1
    subst hh
    have hC : R C (spine q as) := h2.trans hR
    intro z hz
    rcases List.mem_cons.mp hz with rfl | hz
    · exact ⟨c, th, a1, a2, C, q, as, b1, hC, by omega⟩
    · exact ih (as := A :: as) a3 (R.app hC (.refl A)) (by rw [List.length_cons]; omega) z hz
theorem Pile.mem {tab : Tb} {n : Nat} {ps : List Nat} (h : Pile tab n ps) : ∀ p ∈ ps, 256 ≤ p ∧ ∃ e, look tab p = some e := by
  induction h with
  | nil => exact fun p hp => nomatch hp
  | cons a1 a2 _ _ _ ih =>
    intro z hz
    rcases List.mem_cons.mp hz with rfl | hz
    · exact ⟨a1, _, a2⟩
    · exact ih z hz
theorem look_lt {tab : Tb} (wf : WF tab) {p : Nat} {e : Nat × Nat} (h : look tab p = some e) : p < 256 + tab.length := by
  obtain ⟨z, hz, rfl⟩ := List.mem_map.mp (look_mem h)
  exact (wf.1 z hz).2
theorem Unf.lt {tab : Tb} (wf : WF tab) {n : Nat} {X : T} (h : Unf tab n X) : n < 256 + tab.length := by
  rcases h.cases' with ⟨q, rfl, _⟩ | ⟨c, th, C, A, _, hl, _⟩
  · have := code_lt q; omega
  · exact look_lt wf hl
/-- how the machine stands behind so many rewritings -/
noncomputable def Runs (tab : Tb) (A : T) (tab1 : Tb) (n : Nat) (X : T) (ps : List Nat) (W : T) : Prop :=
  St tab1 n X ps W ∧ R A W ∧ T.S W ≤ 1 ∧ mu W ≤ mu A ∧ WF tab1 ∧ Le tab tab1 ∧ tab1.length + 2 * mu W ≤ tab.length + 2 * mu A
theorem Runs.start {tab : Tb} {n : Nat} {A : T} (wf : WF tab) (h : Unf tab n A) (hS : T.S A ≤ 1) : Runs tab A tab n A [] A :=
  ⟨⟨.nil _, h, .nil _⟩, .refl _, hS, Nat.le_refl _, wf, .refl _, Nat.le_refl _⟩
theorem Runs.len {tab tab1 : Tb} {n : Nat} {A X W : T} {ps : List Nat} (h : Runs tab A tab1 n X ps W) : L X + ps.length ≤ mu A := by
  have h1 := h.1.2.2.S.2
  have h2 := L_mu W
  have h3 := h.2.2.2.1
  omega
theorem Runs.push {tab tab1 : Tb} {n c th : Nat} {A X W : T} {ps : List Nat} (h : Runs tab A tab1 n X ps W) (h0 : 256 ≤ n) (hl : look tab1 n = some (c, th)) : ∃ C, Runs tab A tab1 c C (n :: ps) W ∧ L C < L X := by
  obtain ⟨C, h1, h2⟩ := h.1.push h0 hl
  exact ⟨C, ⟨h1, h.2⟩, h2⟩
/-- one rewriting more -/
theorem Runs.step {tab tab1 tab2 : Tb} {n k j : Nat} {A X W K' W' : T} {ps ps' : List Nat} (h : Runs tab A tab1 n X ps W) (st : St tab2 k K' ps' W') (r : R W W') (hs : T.S W' ≤ T.S W) (hm : mu W' < mu W) (hl : Le tab1 tab2) (wf : WF tab2) (hj : tab2.length = tab1.length + j) (hj2 : j ≤ 2) :
    Runs tab A tab2 k K' ps' W' ∧ mu W' < mu W := by
  obtain ⟨a1, a2, a3, a4, a5, a6, a7⟩ := h
  exact ⟨⟨st, a2.trans r, by omega, by omega, wf, a6.trans hl, by omega⟩, hm⟩
/-- how the telling stands -/
noncomputable def Told (tab : Tb) (A : T) (tab2 : Tb) (X : T) (ps : List Nat) : Prop :=
  ∃ As q Ns, Things tab2 ps As ∧ (∀ p ∈ ps, ∃ c th, Fix tab2 p c th) ∧ R A (As.foldl a X) ∧ Ssum As ≤ 1 ∧ musum As + 1 ≤ mu A ∧ tab2.length + 2 * musum As ≤ tab.length + 2 * mu A ∧ WF tab2 ∧ Le tab tab2 ∧
    X = spine q Ns ∧ (∀ x ∈ Ns, NF x) ∧ Ns.length + ps.length < want q
theorem Runs.told {tab tab1 : Tb} {A W : T} {q : Sg} {ps : List Nat} (h : Runs tab A tab1 (code q) (s q) ps W) (hw : ps.length < want q) : Told tab A tab1 (s q) ps := by
  obtain ⟨⟨hp, hu, hv⟩, a2, a3, a4, a5, a6, a7⟩ := h
  obtain ⟨As, h1, h2⟩ := hv.things
  subst h2
  have f1 := fold_S As (s q)
  have f2 := fold_mu As (s q)
  have f3 := mu_pos (s q)
  exact ⟨As, q, [], h1, hp.fix (as := []) hu (.refl _) (by simpa using hw), a2, by omega, by omega, by omega, a5, a6, rfl, (fun x hx => nomatch hx), by simpa using hw⟩
theorem Told.next {tab tab2 : Tb} {A X : T} {p : Nat} {ps : List Nat} (h : Told tab A tab2 X (p :: ps)) : ∃ c th Y, look tab2 p = some (c, th) ∧ Unf tab2 th Y ∧ mu Y < mu A ∧ T.S Y ≤ 1 ∧ WF tab2 ∧ tab2.length + 2 * mu Y ≤ tab.length + 2 * mu A ∧
    ∀ tab3 N, R Y N → NF N → Le tab2 tab3 → WF tab3 → tab3.length ≤ tab2.length + 2 * mu Y → Told tab A tab3 (a X N) ps := by
  obtain ⟨As, q, Ns, hT, hF, hR, hS, hM, hL, hW, hle, rfl, hN, hw⟩ := h
  cases hT with
  | @cons _ c th Y _ As a1 a2 a3 =>
  have e1 : Ssum (Y :: As) = T.S Y + Ssum As := rfl
  have e2 : musum (Y :: As) = mu Y + musum As := rfl
  refine ⟨c, th, Y, a1, a2, by omega, by omega, hW, by omega, fun tab3 N r n le wf hl => ?_⟩
  have hF' : ∀ p ∈ ps, ∃ c th, Fix tab2 p c th := fun p hp => hF p (.tail _ hp)
  obtain ⟨As', b1, b2, b3, b4⟩ := a3.le le hF' (by omega)
  refine ⟨As', q, N :: Ns, b1, fun p hp => ?_, hR.trans (b2 _ _ (R.app (.refl _) r)), by omega, by omega, by omega, wf, hle.trans le, rfl, fun x hx => ?_, ?_⟩
  · obtain ⟨c, th, f⟩ := hF' p hp
    exact ⟨c, th, le.2 _ _ _ f⟩
  · rcases List.mem_cons.mp hx with rfl | hx
    · exact n
    · exact hN x hx
  · rw [List.length_cons] at hw ⊢
    omega
theorem Told.done {tab tab2 : Tb} {A X : T} (h : Told tab A tab2 X []) : R A X ∧ NF X ∧ Le tab tab2 ∧ WF tab2 ∧ tab2.length ≤ tab.length + 2 * mu A := by
  obtain ⟨As, q, Ns, hT, hF, hR, hS, hM, hL, hW, hle, rfl, hN, hw⟩ := h
  cases hT
  exact ⟨hR, nf_spine (by simpa using hw) hN, hle, hW, by omega⟩
theorem Told.wf {tab tab2 : Tb} {A X : T} {ps : List Nat} (h : Told tab A tab2 X ps) : WF tab2 := by
  obtain ⟨As, q, Ns, hT, hF, hR, hS, hM, hL, hW, hle, rfl, hN, hw⟩ := h
  exact hW
theorem Told.len {tab tab2 : Tb} {A X : T} {ps : List Nat} (h : Told tab A tab2 X ps) (hA : T.S A ≤ 1) : L X ≤ mu A := by
  obtain ⟨As, q, Ns, hT, hF, hR, hS, hM, hL, hW, hle, rfl, hN, hw⟩ := h
  have h1 := (mu_r hR hA).2
  have h2 := L_mu (As.foldl a (spine q Ns))
  have h3 : L (spine q Ns) ≤ L (As.foldl a (spine q Ns)) := le_fold As _
  omega
where le_fold : ∀ (As : List T) (X : T), L X ≤ L (As.foldl a X)
  | [], _ => Nat.le_refl _
  | x :: r, X => Nat.le_trans (Nat.le_add_right _ _) (le_fold r (a X x))
theorem Told.few {tab tab2 : Tb} {A X : T} {ps : List Nat} (h : Told tab A tab2 X ps) (_hA : T.S A ≤ 1) : ps.length ≤ 99 := by
  obtain ⟨As, q, Ns, hT, hF, hR, hS, hM, hL, hW, hle, rfl, hN, hw⟩ := h
  have : want q ≤ 99 := by cases q <;> decide
  omega
end T
end
section
open PySem PySem.W PySem.Spec PySem.Calls PyProof.Rows
set_option Elab.async false
set_option maxRecDepth 100000
set_option maxHeartbeats 4000000
noncomputable def chr : Sg → Str
  | .eq => Str.ofString "=" | .sl => Str.ofString "/" | .dot => Str.ofString "." | .col => Str.ofString ":" | .pl => Str.ofString "+" | .mi => Str.ofString "-" | .bar => Str.ofString "|" | .st => Str.ofString "*"
theorem chr_len (q : Sg) : (chr q).length = 1 := by cases q <;> decide +kernel
noncomputable def txt : T → Str
  | .s q => chr q
  | .a f x => Str.ofString "@" ++ txt f ++ txt x
noncomputable def TermAt (h : Heap) : Value → T → Prop
  | v, .s q => ∃ tk, v = .str (chr q) tk
  | v, .a f x => ∃ b vf vx, v = .ref b ∧ IsTup h b #[vf, vx] ∧ TermAt h vf f ∧ TermAt h vx x
theorem TermAt.kp {h h' : Heap} (k : Kp h h') : ∀ {t : T} {v : Value}, TermAt h v t → TermAt h' v t
  | .s _, _, x => x
  | .a _ _, _, ⟨b, vf, vx, e, i, x, y⟩ => ⟨b, vf, vx, e, i.keeps k, x.kp k, y.kp k⟩
theorem TermAt.but {h h' : Heap} {as : List Addr} (k : KpBut as h h') (hn : ∀ a ∈ as, ∀ o, h.get? a = some o → o.cls ≠ .type "tuple") : ∀ {t : T} {v : Value}, TermAt h v t → TermAt h' v t
  | .s _, _, x => x
  | .a _ _, _, ⟨b, vf, vx, e, i, x, y⟩ => ⟨b, vf, vx, e, isTup_but k hn i, x.but k hn, y.but k hn⟩
theorem txt_len : ∀ t : T, (txt t).length ≤ 2 * T.L t
  | .s q => by show (chr q).length ≤ 2 * 1; rw [chr_len]; decide
  | .a f x => by
    have h1 := txt_len f
    have h2 := txt_len x
    show (Str.ofString "@" ++ txt f ++ txt x).length ≤ 2 * (T.L f + T.L x)
    rw [Str.length_append, Str.length_append]
    have e : (Str.ofString "@").length = 1 := by decide +kernel
    have p1 : (txt f).length < 2 * T.L f := txt_lt f
    omega
where txt_lt : ∀ t : T, (txt t).length < 2 * T.L t
  | .s q => by show (chr q).length < 2 * 1; rw [chr_len]; decide
  | .a f x => by
    have h1 := txt_lt f
    have h2 := txt_lt x
    show (Str.ofString "@" ++ txt f ++ txt x).length < 2 * (T.L f + T.L x)
    rw [Str.length_append, Str.length_append]
    have e : (Str.ofString "@").length = 1 := by decide +kernel
    omega
theorem text_spec {w : World} : ∀ (t : T) (v : Value), T.L t ≤ 1000 → Calls w 303 [v] [] (20 + T.L t) (200 + 50 * T.L t) [] (fun h => TermAt h v t) (fun h r h' => (∃ tk, r = .str (txt t) tk) ∧ Kp h h') := by
  intro t
  induction t with
  | s q =>
    intro v hL mean mg mb dp un gd cn cs a ccd cl outer A₀ base h₀ L m s Q E B F X Tt hk hd hu N pre ret
    revert X; k_fill; intro X
    obtain ⟨tk, rfl⟩ := pre
    have hq := chr_len q
    refine wpAny_call ?_
    k_dflt (refine' code_mine (binds := [(Str.ofString "term", .str (chr q) tk)]) ?k1 ?k2 ?k3 ?k4 ?k5 ?kA ?kF ?kK ?k6 ?k7 ?k8 ?k9 ?kB ?_ ?c5 ?c2 ?c3 ?c4; (case kA | kF => exact rfl); (case kK => assumption); (case k1 | k2 | k3 | k4 | k5 => k_asm); (case k6 | k7 => k_is); (case k8 => ktr_room); (case k9 => first | exact BindsTo.of_eq rfl | exact binds_K (by k_in) rfl (by k_is) rfl rfl rfl); (case c5 => decide); (case kB => exact locs rfl); (case c2 | c3 | c4 => exact rfl))
    intro P9 hP9
    walk_at "mine_start"
    replace ret := fun r h' tk' p => hP9 r _ (ret r h' tk' p)
    repeat walk_at "k_one"
    all_goals first | exact ret _ _ _ ⟨⟨_, rfl⟩, by walk_at "mine_kp"⟩ | omega
  | a f x ihf ihx =>
    intro v hL mean mg mb dp un gd cn cs a ccd cl outer A₀ base h₀ L m s Q E B F X Tt hk hd hu N pre ret
    revert X; k_fill; intro X
    obtain ⟨b, vf, vx, rfl, i1, pf, px⟩ := pre
    refine wpAny_call ?_
    k_dflt (refine' code_mine (binds := [(Str.ofString "term", .ref b)]) ?k1 ?k2 ?k3 ?k4 ?k5 ?kA ?kF ?kK ?k6 ?k7 ?k8 ?k9 ?kB ?_ ?c5 ?c2 ?c3 ?c4; (case kA | kF => exact rfl); (case kK => assumption); (case k1 | k2 | k3 | k4 | k5 => k_asm); (case k6 | k7 => k_is); (case k8 => ktr_room); (case k9 => first | exact BindsTo.of_eq rfl | exact binds_K (by k_in) rfl (by k_is) rfl rfl rfl); (case c5 => decide); (case kB => exact locs rfl); (case c2 | c3 | c4 => exact rfl))
    intro P9 hP9
    intro g L' h₁ eL hg F' N' lN B' X' T'
    replace ret := fun r h' tk' p => hP9 r _ (ret r h' tk' p)
    (try dsimp only); (try k_fold)
    have hg' : Kp s.heap h₁ := kp_of hg F'
    have i2 := i1.keeps hg'
    have pf2 := pf.kp hg'
    have px2 := px.kp hg'
    have hLe : T.L f + T.L x ≤ 1000 := hL
    have hLd : T.L (.a f x) = T.L f + T.L x := rfl
    have hp1 := T.L_pos f
    have hp2 := T.L_pos x
    rw [hLd] at hd hu
    have tl1 := txt_len f
    have tl2 := txt_len x
    repeat walk_at "k_one"
    · rename (_ = (1 : Int)) => hz; exact absurd hz (by simp)
    repeat walk_at "k_one"
    (k_dflt refine' call_it (ihf vf (by omega)) ?k9 ?_)
    (case k9 => with_reducible assumption); intro r' h' tk' hp'; obtain ⟨⟨tk9, e9⟩, hk9⟩ := hp'; subst e9; (rename Fr _ _ _ _ => lF9); (rename News _ _ _ _ => lN9); have F' := Kp.fr hk9 lF9; have N' := Kp.news hk9 lN9
    have i3 := i2.keeps hk9
    have px3 := px2.kp hk9
    clear lF9 lN9
    repeat walk_at "k_one"
    (k_dflt refine' call_it (ihx vx (by omega)) ?k9 ?_)
    (case k9 => with_reducible assumption); intro r' h' tk' hp'; obtain ⟨⟨tk9, e9⟩, hk9⟩ := hp'; subst e9; (rename Fr _ _ _ _ => lF9); (rename News _ _ _ _ => lN9); have F' := Kp.fr hk9 lF9; have N' := Kp.news hk9 lN9
    clear lF9 lN9
    repeat walk_at "k_one"
    exact ret _ _ _ ⟨⟨_, rfl⟩, kp_of hg F'⟩
end
section
open PySem PySem.W PySem.Spec PySem.Calls PyProof.Rows
set_option Elab.async false
set_option maxRecDepth 100000
set_option maxHeartbeats 4000000
/-- the table's rows, of what stands in g and in the ledger's tail rw -/
noncomputable def TabG (g : Heap) (rw' : List (Addr × Obj)) (its : List Value) (tab : List Ent) : Prop := ∀ h : Heap, (∀ b o, g.get? b = some o → h.get? b = some o) → (∀ p ∈ rw', h.get? p.1 = some p.2) → TabAt h its tab
noncomputable def TupOk (o : Obj) : Prop := o.cls = .type "tuple" ∧ ∃ its n, o.data = .seq its n
noncomputable def TupAll (rw' : List (Addr × Obj)) : Prop := ∀ p ∈ rw', TupOk p.2
theorem TabG.at {g h : Heap} {L : Addr} {m : Str → Option Value} {news rw' : List (Addr × Obj)} {its : List Value} {tab : List Ent} (x : TabG g rw' its tab) (F : Fr g L h m) (N : News g L h news) (hs : ∀ p ∈ rw', p ∈ news) : TabAt h its tab :=
  x h F.keep fun p hp => (N p (hs p hp)).1
theorem TabG.of {g : Heap} {its : List Value} {tab : List Ent} (x : TabAt g its tab) : TabG g [] its tab := fun _ k _ => x.kp k
theorem tail_ne {g h : Heap} {L d : Addr} {news rw' : List (Addr × Obj)} {o : Obj} (N : News g L h news) (hm : (d, o) ∈ news) (hc : (o.cls == .type "tuple") = false) (hs : ∀ p ∈ rw', p ∈ news) (hT : TupAll rw') : ∀ p ∈ rw', p.1 ≠ d := by
  intro p hp e
  have h1 := (N p (hs p hp)).1
  have h2 := (N _ hm).1
  rw [e] at h1
  rw [h2] at h1
  have e2 : o = p.2 := Option.some.inj h1
  rw [e2, (hT p hp).1] at hc
  exact absurd hc (by decide)
theorem tail_ne_cell {g h : Heap} {L d : Addr} {news rw' : List (Addr × Obj)} {o : Obj} {v : Option Value} (N : News g L h news) (hm : (d, o) ∈ news) (hc : o.data = .cell v) (hs : ∀ p ∈ rw', p ∈ news) (hT : TupAll rw') : ∀ p ∈ rw', p.1 ≠ d := by
  intro p hp e
  have h1 := (N p (hs p hp)).1
  have h2 := (N _ hm).1
  rw [e] at h1
  rw [h2] at h1
  have e2 : o = p.2 := Option.some.inj h1
  obtain ⟨its, n, hd⟩ := (hT p hp).2
  rw [← e2, hc] at hd
  cases hd
theorem Ns_noTup {h : Heap} {L : Addr} {m : Str → Option Value} (n : h.Ns L m) {its : Array Value} (x : IsTup h L its) : False := by
  obtain ⟨o, es, ep, h1, h2, _⟩ := n
  obtain ⟨o', g1, _, k, g3⟩ := x
  rw [h1] at g1
  have e : o = o' := Option.some.inj g1
  subst e
  rw [h2] at g3
  cases g3
theorem regrow {g h : Heap} {L : Addr} {m : Str → Option Value} {its : List Value} {tab : List Ent} (F : Fr g L h m) (x : TabAt h its tab) :
    ∃ rw', (∀ p ∈ rw', h.get? p.1 = some p.2 ∧ p.1 ≠ L ∧ g.get? p.1 = none) ∧ TupAll rw' ∧ TabG g rw' its tab := by
  induction x with
  | nil => exact ⟨[], by simp, (fun p hp => nomatch hp), fun _ _ _ => .nil⟩
  | @cons v e vs es hv _ ih =>
    obtain ⟨rw', h1, h2, h3⟩ := ih
    obtain ⟨⟨k, ⟨a, t1, t2, rfl, hT⟩, lk, ll⟩, bd⟩ := hv
    obtain ⟨o, ho, hc, hr⟩ := id hT
    cases q : g.get? a with
    | some o' =>
      have e1 : o' = o := Option.some.inj ((F.keep a o' q).symm.trans ho)
      subst e1
      exact ⟨rw', h1, h2, fun h' k' k2 => .cons ⟨⟨k, ⟨a, t1, t2, rfl, o', k' _ _ q, hc, hr⟩, lk, ll⟩, bd⟩ (h3 h' k' k2)⟩
    | none =>
      refine ⟨(a, o) :: rw', fun p hp => ?_, fun p hp => ?_, fun h' k' k2 => .cons ⟨⟨k, ⟨a, t1, t2, rfl, o, k2 _ (.head _), hc, hr⟩, lk, ll⟩, bd⟩ (h3 h' k' fun p hp => k2 p (.tail _ hp))⟩
      · rcases List.mem_cons.mp hp with rfl | hp
        · exact ⟨ho, fun e => Ns_noTup F.ns ((show a = L from e) ▸ hT), q⟩
        · exact h1 p hp
      · rcases List.mem_cons.mp hp with rfl | hp
        · exact ⟨hc, _, hr⟩
        · exact h2 p hp
theorem retail {g h : Heap} {L : Addr} {es rw' rw2 : List (Addr × Obj)} (N : News g L h (es ++ rw')) (h2 : ∀ p ∈ rw2, h.get? p.1 = some p.2 ∧ p.1 ≠ L ∧ g.get? p.1 = none) : News g L h (es ++ rw2) := fun p hp => by
  rcases List.mem_append.mp hp with q | q
  · exact N p (List.mem_append_left _ q)
  · exact h2 p q
end
section
open PySem PySem.W PySem.Spec PySem.Calls PyProof.Rows
set_option Elab.async false
set_option maxRecDepth 100000
set_option maxHeartbeats 4000000
/-- two objects are changed, the rest stands -/
noncomputable def Chg2 (a : Addr) (oa : Obj) (b : Addr) (ob : Obj) (h h' : Heap) : Prop := KpBut [a, b] h h' ∧ h'.get? a = some oa ∧ h'.get? b = some ob
theorem Chg2.fr {h₀ h h' : Heap} {L a b : Addr} {oa ob : Obj} {m : Str → Option Value} (k : Chg2 a oa b ob h h') (F : Fr h₀ L h m) (h1 : a ≠ L) (h2 : h₀.get? a = none) (h3 : b ≠ L) (h4 : h₀.get? b = none) : Fr h₀ L h' m := by
  obtain ⟨oL, es, ep, hL, r⟩ := F.ns
  have n2 : ∀ x : Addr, x ≠ a → x ≠ b → x ∉ [a, b] := fun x p q z => by
    rcases List.mem_cons.mp z with z | z
    · exact p z
    · exact q (List.mem_singleton.mp z)
  exact ⟨⟨oL, es, ep, k.1 _ _ hL (n2 _ (Ne.symm h1) (Ne.symm h3)), r⟩, fun x o e => k.1 x o (F.keep x o e) (n2 _ (fun q => by rw [q, h2] at e; cases e) (fun q => by rw [q, h4] at e; cases e)), F.above⟩
theorem Chg2.news {h₀ h h' : Heap} {L a b : Addr} {oa oa0 ob ob0 : Obj} {news n1 n2 : List (Addr × Obj)} (k : Chg2 a oa b ob h h') (N : News h₀ L h news) (U : Upd a oa0 oa news n1) (U2 : Upd b ob0 ob n1 n2) (hne : a ≠ b) : News h₀ L h' n2 := by
  obtain ⟨pre, post, rfl, rfl, x, y⟩ := U.split
  obtain ⟨pre2, post2, e2, rfl, x2, y2⟩ := U2.split
  have ha := N (a, oa0) (by simp)
  have old : ∀ p, p ∈ pre ++ (a, oa) :: post → p.1 ≠ b → h'.get? p.1 = some p.2 ∧ p.1 ≠ L ∧ h₀.get? p.1 = none := by
    intro p hp hb
    have go : ∀ q : Addr × Obj, q ∈ pre ++ (a, oa0) :: post → q.1 ≠ a → q.1 ≠ b → h'.get? q.1 = some q.2 ∧ q.1 ≠ L ∧ h₀.get? q.1 = none := fun q hq z1 z2 => by
      have P := N q hq
      refine ⟨k.1 _ _ P.1 (fun z => ?_), P.2⟩
      rcases List.mem_cons.mp z with z | z
      · exact z1 z
      · exact z2 (List.mem_singleton.mp z)
    rcases List.mem_append.mp hp with q | q
    · exact go p (List.mem_append_left _ q) (x p q) hb
    · rcases List.mem_cons.mp q with rfl | q
      · exact ⟨k.2.1, ha.2⟩
      · exact go p (List.mem_append_right _ (.tail _ q)) (y p q) hb
  have hb0 : (b, ob0) ∈ pre ++ (a, oa) :: post := by rw [e2]; simp
  have hb1 : (b, ob0) ∈ pre ++ (a, oa0) :: post := by
    rcases List.mem_append.mp hb0 with q | q
    · exact List.mem_append_left _ q
    · rcases List.mem_cons.mp q with q | q
      · cases q; exact absurd rfl hne
      · exact List.mem_append_right _ (.tail _ q)
  intro p hp
  rcases List.mem_append.mp hp with q | q
  · exact old p (by rw [e2]; exact List.mem_append_left _ q) (x2 p q)
  · rcases List.mem_cons.mp q with rfl | q
    · exact ⟨k.2.2, (N _ hb1).2⟩
    · exact old p (by rw [e2]; exact List.mem_append_right _ (.tail _ q)) (y2 p q)
inductive Toks : T → List Value → Prop
  | s (q : Sg) (tk : Tok) : Toks (.s q) [.str (chr q) tk]
  | a {f x vf vx} (tk : Tok) : Toks f vf → Toks x vx → Toks (.a f x) (.str (Str.ofString "@") tk :: (vf ++ vx))
theorem Toks.len {t : T} {vs : List Value} (h : Toks t vs) : vs.length < 2 * T.L t := by
  induction h with
  | s => show 1 < 2 * 1; decide
  | @a f x vf vx tk _ _ i1 i2 =>
    show (vf ++ vx).length + 1 < 2 * (T.L f + T.L x)
    rw [List.length_append]; omega
theorem pop0 {prog : Program} {w : World} {A : Around} {E : Value → Shared → Prop} {s : Shared} {h₀ : Heap} {L D : Addr} {m : Str → Option Value} {news news' : List (Addr × Obj)} {n : Nat} {u : Tok} {v : Value} {r : List Value} {Q : Value → Shared → Prop} (F : Fr h₀ L s.heap m) (N : News h₀ L s.heap news)
    (U : Upd D (listOf (v :: r).toArray n) (listOf r.toArray (n + 1)) news news') (hz : r.length ≤ 900) (h : ∀ h', Fr h₀ L h' m → News h₀ L h' news' → Q v { s with heap := h' }) : wpAny (model prog w) A (call (.builtin "list.pop") [.ref D, .int 0 u]) Q E s :=
  kl_popAt (k := 0) (p := []) (q := r) (y := v) F N rfl (by simp [seqIndex?]) rfl U (by rw [sizeLine_eq]; simp; omega) h
theorem chg2_hid {h₀ s : Heap} {L a b : Addr} {oa ob : Obj} {hid : List (Addr × Obj)} {g h' : Heap} {L' : Addr} {m' : Str → Option Value} (N : News h₀ L s hid) (hg : ∀ b o, s.get? b = some o → b ∉ (hid.map (·.1)) → g.get? b = some o) (F' : Fr g L' h' m')
    (ha : h'.get? a = some oa) (hb : h'.get? b = some ob) (hN : ∀ p ∈ hid, p.1 = a ∨ p.1 = b ∨ h'.get? p.1 = some p.2) : Chg2 a oa b ob s h' := ⟨fun x o e n => by
  by_cases hx : x ∈ hid.map (·.1)
  · obtain ⟨p, hp, rfl⟩ := List.mem_map.mp hx
    rw [(N p hp).1] at e; cases e
    rcases hN p hp with q | q | q
    · exact absurd (by rw [q]; exact .head _) n
    · exact absurd (by rw [q]; exact .tail _ (.head _)) n
    · exact q
  · exact F'.keep x o (hg x o e hx), ha, hb⟩
end
local macro_rules | `(tactic| walk_at "mine_hid2") => `(tactic| (first | exact List.forall_mem_nil _ | (refine allm ?_ ?_; ((rename News _ _ _ _ => lN9); first | exact Or.inl rfl | exact Or.inr (Or.inl rfl) | exact Or.inr (Or.inr (News.get lN9 (by k_mem)))); walk_at "mine_hid2")))
local macro_rules | `(tactic| walk_at "mine_chg2") => `(tactic| ((rename Fr _ _ _ _ => lF9); (rename News _ _ _ _ => lN8); refine chg2_hid (by assumption) (by assumption) lF9 (News.get lN8 (by k_mem)) (News.get lN8 (by k_mem)) ?_; walk_at "mine_hid2"))
section
open PySem PySem.W PySem.Spec PySem.Calls PyProof.Rows
set_option Elab.async false
set_option maxRecDepth 100000
set_option maxHeartbeats 4000000
theorem tl4 {α : Type} {x a b c d : α} {l : List α} (h : x ∈ l) : x ∈ a :: b :: c :: d :: l := .tail _ (.tail _ (.tail _ (.tail _ h)))
end
local macro_rules | `(tactic| walk_at "mine_tl") => `(tactic| (intro p hp; repeat (first | exact hp | refine tl4 ?_ | refine List.mem_cons_of_mem _ ?_)))
local macro_rules | `(tactic| k_all) => `(tactic| first | exact tail_ne (by k_asm) (by k_mem) (by rfl) (by walk_at "mine_tl") (by with_reducible assumption) | exact tail_ne_cell (by k_asm) (by k_mem) (by with_reducible assumption) (by walk_at "mine_tl") (by with_reducible assumption))
section
open PySem PySem.W PySem.Spec PySem.Calls PyProof.Rows
set_option Elab.async false
set_option maxRecDepth 100000
set_option maxHeartbeats 4000000
/-- what a call leaves -/
inductive StoP (hl sg : Addr) (rest : List Value) (tab : List Ent) (u : T) (h h' : Heap) : Value → Prop
  | mk (k : Nat) (tk : Tok) (its' : List Value) (n' m' : Nat) (tab' : List Ent) (hk : k < 1000000) (hT : TabAt h' its' tab') (hx : T.Ext tab tab') (hw : T.WF tab') (hq : tab'.length + 1 = tab.length + T.L u) (hu : T.Unf tab' k u) (hc : Chg2 hl (listOf its'.toArray n') sg (listOf rest.toArray m') h h') : StoP hl sg rest tab u h h' (.int ((k : Nat) : Int) tk)
section
variable {hl sg : Addr} {rest its : List Value} {tab : List Ent} {h h' : Heap} {r : Value}
theorem StoP.of {u : T} (x : ∃ k tk its' n' m' tab', r = .int ((k : Nat) : Int) tk ∧ k < 1000000 ∧ TabAt h' its' tab' ∧ T.Ext tab tab' ∧ T.WF tab' ∧ tab'.length + 1 = tab.length + T.L u ∧ T.Unf tab' k u ∧ Chg2 hl (listOf its'.toArray n') sg (listOf rest.toArray m') h h') : StoP hl sg rest tab u h h' r := by
  obtain ⟨k, tk, its', n', m', tab', rfl, a, b, c, d, e, f, g⟩ := x
  exact ⟨k, tk, its', n', m', tab', a, b, c, d, e, f, g⟩
theorem sto_leaf (q : Sg) {tk : Tok} {n m : Nat} (hr : r = .int ((T.code q : Nat) : Int) tk) (hT : TabAt h' its tab) (wf : T.WF tab) (hc : Chg2 hl (listOf its.toArray n) sg (listOf rest.toArray m) h h') : ∃ k tk its' n' m' tab', r = .int ((k : Nat) : Int) tk ∧ k < 1000000 ∧ TabAt h' its' tab' ∧ T.Ext tab tab' ∧ T.WF tab' ∧ tab'.length + 1 = tab.length + T.L (.s q) ∧ T.Unf tab' k (.s q) ∧ Chg2 hl (listOf its'.toArray n') sg (listOf rest.toArray m') h h' :=
  ⟨T.code q, tk, its, n, m, tab, hr, by have := T.code_lt q; omega, hT, fun _ _ h => h, wf, rfl, .leaf _, hc⟩
end
theorem each_find {κ : Type} [DecidableEq κ] {h : Heap} {k x : κ} {P : Value → Prop} {els : Prop} {d : KTD.Dat} : ∀ {D : List (κ × KTD.Dat)}, (D.find? fun e => decide (k = e.1)) = some (x, d) → KTD.Opened h P d → KTD.Each h k P els D
  | [], e, _ => by cases e
  | (y, d') :: D, e, o => by
    rw [List.find?_cons] at e
    by_cases hy : k = y
    · rw [show decide (k = (y, d').1) = true from decide_eq_true hy] at e
      cases e
      exact KTD.each_hit hy o
    · rw [show decide (k = (y, d').1) = false from decide_eq_false hy] at e
      exact KTD.each_miss hy (each_find e o)
theorem ett_each {h : Heap} {P : Value → Prop} {els : Prop} {D : List (Str × KTD.Dat)} (p : Sg) (hD : ∀ q : Sg, (D.find? fun e => decide (chr q = e.1)) = some (chr q, .flat (.int ((T.code q : Nat) : Int)))) (o : ∀ t, P (.int ((T.code p : Nat) : Int) t)) : KTD.Each h (chr p) P els D := each_find (hD p) o
local macro_rules | `(tactic| walk_at "Each") => `(tactic| ((k_dflt (refine ett_each _ (by intro q; cases q <;> rfl) ?_)); intro _))
theorem code_at (q : Sg) : ¬ ((T.code q : Nat) : Int) = 49 := by cases q <;> decide
theorem stored_spec {w : World} {tb td hl sg : Addr} {hsh : Int} {t : Tok} (h1 : @LT.lt Nat _ td tb) (h2 : @LT.lt Nat _ tb hl) (h3 : @LT.lt Nat _ hl sg) :
    ∀ (u : T) (sv rest its : List Value) (n m : Nat) (tab : List Ent), Toks u sv → its.length + T.L u ≤ 900 → (sv ++ rest).length ≤ 900 → T.WF tab →
    Calls w 322 [.ref tb, .ref sg] [] (60 + T.L u) (600 + 50 * T.L u) [(sg, listOf (sv ++ rest).toArray m), (tb, instObj 278 td), (td, hdrDict hsh t hl), (hl, listOf its.toArray n)] (fun h => TabAt h its tab)
      (fun h r h' => ∃ k tk its' n' m' tab', r = .int ((k : Nat) : Int) tk ∧ k < 1000000 ∧ TabAt h' its' tab' ∧ T.Ext tab tab' ∧ T.WF tab' ∧ tab'.length + 1 = tab.length + T.L u ∧ T.Unf tab' k u ∧ Chg2 hl (listOf its'.toArray n') sg (listOf rest.toArray m') h h') := by
  intro u
  induction u with
  | s q =>
    intro sv rest its n m tab hT hz1 hz2 wf mean mg mb dp un gd cn cs a ccd cl outer A₀ base h₀ L mm s Q E B F X Tt hk hd hu N pre ret
    revert X; k_fill; intro X
    cases hT with
    | s q tk9 =>
    simp only [List.cons_append, List.nil_append] at N ret hz2
    have hz3 : rest.length ≤ 900 := by rw [List.length_cons] at hz2; omega
    refine wpAny_call ?_
    k_dflt (refine' code_mine (binds := [(Str.ofString "table", .ref tb), (Str.ofString "signs", .ref sg)]) ?k1 ?k2 ?k3 ?k4 ?k5 ?kA ?kF ?kK ?k6 ?k7 ?k8 ?k9 ?kB ?_ ?c5 ?c2 ?c3 ?c4; (case kA | kF => exact rfl); (case kK => assumption); (case k1 | k2 | k3 | k4 | k5 => k_asm); (case k6 | k7 => k_is); (case k8 => ktr_room); (case k9 => first | exact BindsTo.of_eq rfl | exact binds_K (by k_in) rfl (by k_is) rfl rfl rfl); (case c5 => decide); (case kB => exact locs rfl); (case c2 | c3 | c4 => exact rfl))
    intro P9 hP9
    intro g L' h₁ eL hg F' N' lN B' X' T'
    replace ret := fun r h' tk' p => hP9 r _ (ret r h' tk' p)
    (try dsimp only); (try k_fold)
    have hno := no_tuple N rfl
    have hrg : TabAt g its tab := pre.but (fun b o e n => hg b o e n) hno
    repeat walk_at "k_one"
    k_dflt (refine' pop0 ?F ?N ?U hz3 ?_; (case F => k_asm); (case N => k_asm); (case U => k_upd))
    clear F' N'
    intro h8 F' N'
    have hq := chr_len q
    have hc9 := code_at q
    repeat walk_at "k_one"
    all_goals first | exact absurd (by with_reducible assumption) hc9 | ((rename Fr _ _ _ _ => lF9); exact ret _ _ _ (sto_leaf q rfl (hrg.kp lF9.keep) wf (by walk_at "mine_chg2")))
  | a f x ihf ihx =>
    intro sv rest its n m tab hT hz1 hz2 wf mean mg mb dp un gd cn cs a ccd cl outer A₀ base h₀ L mm s Q E B F X Tt hk hd hu N pre ret
    revert X; k_fill; intro X
    have hLd : T.L (.a f x) = T.L f + T.L x := rfl
    have hp1 := T.L_pos f
    have hp2 := T.L_pos x
    rw [hLd] at hd hu hz1 ret
    cases hT with
    | @a f x vf vx tk9 hTf hTx =>
    simp only [List.cons_append, List.append_assoc] at N ret hz2
    have hz3 : (vf ++ (vx ++ rest)).length ≤ 900 := by rw [List.length_cons] at hz2; omega
    have hz4 : (vx ++ rest).length ≤ 900 := by rw [List.length_append] at hz3; omega
    refine wpAny_call ?_
    k_dflt (refine' code_mine (binds := [(Str.ofString "table", .ref tb), (Str.ofString "signs", .ref sg)]) ?k1 ?k2 ?k3 ?k4 ?k5 ?kA ?kF ?kK ?k6 ?k7 ?k8 ?k9 ?kB ?_ ?c5 ?c2 ?c3 ?c4; (case kA | kF => exact rfl); (case kK => assumption); (case k1 | k2 | k3 | k4 | k5 => k_asm); (case k6 | k7 => k_is); (case k8 => ktr_room); (case k9 => first | exact BindsTo.of_eq rfl | exact binds_K (by k_in) rfl (by k_is) rfl rfl rfl); (case c5 => decide); (case kB => exact locs rfl); (case c2 | c3 | c4 => exact rfl))
    intro P9 hP9
    intro g L' h₁ eL hg F' N' lN B' X' T'
    replace ret := fun r h' tk' p => hP9 r _ (ret r h' tk' p)
    (try dsimp only); (try k_fold)
    have hno := no_tuple N rfl
    have hrg : TabAt g its tab := pre.but (fun b o e n => hg b o e n) hno
    repeat walk_at "k_one"
    k_dflt (refine' pop0 ?F ?N ?U hz3 ?_; (case F => k_asm); (case N => k_asm); (case U => k_upd))
    clear F' N'
    intro h8 F' N'
    repeat walk_at "k_one"
    (k_dflt refine' call_it (ihf vf (vx ++ rest) its n (m + 1) tab hTf (by omega) hz3 wf) ?k9 ?_)
    (case k9 => ((rename Fr _ _ _ _ => lF9); exact hrg.kp lF9.keep))
    intro r' h7 tk7 hp7
    obtain ⟨k1, tk1, its1, n1, m1, tab1, hk1, hT1, hx1, hw1, hl1, hu1, hc1⟩ := StoP.of hp7
    (rename Fr _ _ _ _ => lF9); (rename News _ _ _ _ => lN9)
    have F' := Chg2.fr hc1 lF9 (News.ne lN9 (by k_mem)) (News.fresh lN9 (by k_mem)) (News.ne lN9 (by k_mem)) (News.fresh lN9 (by k_mem))
    have N' := Chg2.news hc1 lN9 (by k_upd) (by k_upd) (Nat.ne_of_lt h3)
    clear lF9 lN9 hc1
    have hlt1 := hT1.length
    have hlt0 := hrg.length
    obtain ⟨rw1, hrw1, htu1, htg1⟩ := regrow F' hT1
    have N2 := retail (es := [(sg, listOf (vx ++ rest).toArray m1), (tb, instObj 278 td), (td, hdrDict hsh t hl), (hl, listOf its1.toArray n1)]) (rw' := []) N' hrw1
    clear N'
    simp only [List.cons_append, List.nil_append] at N2
    repeat walk_at "k_one"
    (k_dflt refine' call_it (ihx vx rest its1 n1 m1 tab1 hTx (by omega) hz4 hw1) ?k9 ?_)
    (case k9 => ((rename Fr _ _ _ _ => lF9); (rename News _ _ _ _ => lN9); exact htg1.at lF9 lN9 (by walk_at "mine_tl")))
    intro r' h6 tk6 hp6
    obtain ⟨k2, tk2, its2, n2, m2, tab2, hk2, hT2, hx2, hw2, hl2, hu2, hc2⟩ := StoP.of hp6
    (rename Fr _ _ _ _ => lF9); (rename News _ _ _ _ => lN9)
    have F' := Chg2.fr hc2 lF9 (News.ne lN9 (by k_mem)) (News.fresh lN9 (by k_mem)) (News.ne lN9 (by k_mem)) (News.fresh lN9 (by k_mem))
    have N' := Chg2.news hc2 lN9 (by k_upd) (by k_upd) (Nat.ne_of_lt h3)
    clear lF9 lN9 hc2
    have hlt2 := hT2.length
    repeat walk_at "k_one"
    (k_dflt refine' call_it (laid_spec (its := its2) (n := n2) (tab := tab2) h1 h2 hk1 hk2 (by omega)) ?k9 ?_)
    (case k9 => exact hT2)
    intro r' h5 tk5 hp5
    obtain ⟨⟨tk3, e3⟩, its3, n3, hT3, hc3⟩ := hp5
    subst e3
    (rename Fr _ _ _ _ => lF9); (rename News _ _ _ _ => lN9)
    have F' := Chg.fr hc3 lF9 (News.ne lN9 (by k_mem)) (News.fresh lN9 (by k_mem))
    have N' := Chg.news hc3 lN9 (by k_upd)
    clear lF9 lN9 hc3
    k_steps
    exact ret _ _ _ ⟨256 + tab2.length, _, its3, n3, _, T.laid tab2 k1 k2, rfl, by omega, hT3, fun p e h => T.laid_ext _ _ _ _ _ (hx2 _ _ (hx1 _ _ h)), T.laid_wf hw2 _ _, by rw [T.laid_len]; omega, .node (by omega) (T.laid_new hw2 _ _) ((hu1.ext hx2).ext (T.laid_ext _ _ _)) (hu2.ext (T.laid_ext _ _ _)), by walk_at "mine_chg2"⟩
end
section
open PySem PySem.W PySem.Spec PySem.Calls PyProof.Rows
set_option Elab.async false
set_option maxRecDepth 100000
set_option maxHeartbeats 4000000
noncomputable def TupG (g : Heap) (rw' : List (Addr × Obj)) (b : Addr) (its : Array Value) : Prop := IsTup g b its ∨ ∃ o, (b, o) ∈ rw' ∧ o.cls = .type "tuple" ∧ ∃ n, o.data = .seq its n
theorem TupG.at {g h : Heap} {L : Addr} {m : Str → Option Value} {news rw' : List (Addr × Obj)} {b : Addr} {its : Array Value} (x : TupG g rw' b its) (F : Fr g L h m) (N : News g L h news) (hs : ∀ p ∈ rw', p ∈ news) : IsTup h b its := by
  rcases x with x | ⟨o, hm, hc, hd⟩
  · exact x.keeps F.keep
  · exact ⟨o, (N _ (hs _ hm)).1, hc, hd⟩
theorem TupG.mono {g : Heap} {rw1 rw2 : List (Addr × Obj)} {b : Addr} {its : Array Value} (x : TupG g rw1 b its) (hs : ∀ p ∈ rw1, p ∈ rw2) : TupG g rw2 b its := x.imp id fun ⟨o, hm, h⟩ => ⟨o, hs _ hm, h⟩
noncomputable def TermG (g : Heap) (rw' : List (Addr × Obj)) : Value → T → Prop
  | v, .s q => ∃ tk, v = .str (chr q) tk
  | v, .a f x => ∃ b vf vx, v = .ref b ∧ TupG g rw' b #[vf, vx] ∧ TermG g rw' vf f ∧ TermG g rw' vx x
theorem TermG.at {g h : Heap} {L : Addr} {m : Str → Option Value} {news rw' : List (Addr × Obj)} (F : Fr g L h m) (N : News g L h news) (hs : ∀ p ∈ rw', p ∈ news) : ∀ {t : T} {v : Value}, TermG g rw' v t → TermAt h v t
  | .s _, _, x => x
  | .a _ _, _, ⟨b, vf, vx, e, i, y1, y2⟩ => ⟨b, vf, vx, e, i.at F N hs, TermG.at F N hs y1, TermG.at F N hs y2⟩
theorem TermG.of {g : Heap} : ∀ {t : T} {v : Value}, TermAt g v t → TermG g [] v t
  | .s _, _, x => x
  | .a _ _, _, ⟨b, vf, vx, e, i, y1, y2⟩ => ⟨b, vf, vx, e, .inl i, TermG.of y1, TermG.of y2⟩
theorem TermG.mono {g : Heap} {rw1 rw2 : List (Addr × Obj)} (hs : ∀ p ∈ rw1, p ∈ rw2) : ∀ {t : T} {v : Value}, TermG g rw1 v t → TermG g rw2 v t
  | .s _, _, x => x
  | .a _ _, _, ⟨b, vf, vx, e, i, y1, y2⟩ => ⟨b, vf, vx, e, i.mono hs, TermG.mono hs y1, TermG.mono hs y2⟩
theorem regrowT {g h : Heap} {L : Addr} {m : Str → Option Value} (F : Fr g L h m) : ∀ {t : T} {v : Value}, TermAt h v t →
    ∃ rw', (∀ p ∈ rw', h.get? p.1 = some p.2 ∧ p.1 ≠ L ∧ g.get? p.1 = none) ∧ TupAll rw' ∧ TermG g rw' v t
  | .s _, _, x => ⟨[], by simp, (fun p hp => nomatch hp), x⟩
  | .a f x, v, ⟨b, vf, vx, e, hT, y1, y2⟩ => by
    obtain ⟨r1, a1, a2, a3⟩ := regrowT F y1
    obtain ⟨r2, b1, b2, b3⟩ := regrowT F y2
    have c3 := TermG.mono (rw2 := r1 ++ r2) (fun p hp => List.mem_append_left _ hp) a3
    have d3 := TermG.mono (rw2 := r1 ++ r2) (fun p hp => List.mem_append_right _ hp) b3
    have e1 : ∀ p ∈ r1 ++ r2, h.get? p.1 = some p.2 ∧ p.1 ≠ L ∧ g.get? p.1 = none := fun p hp => (List.mem_append.mp hp).elim (a1 p) (b1 p)
    have e2 : TupAll (r1 ++ r2) := fun p hp => (List.mem_append.mp hp).elim (a2 p) (b2 p)
    obtain ⟨o, ho, hc, hr⟩ := id hT
    cases q : g.get? b with
    | some o' =>
      have e0 : o' = o := Option.some.inj ((F.keep b o' q).symm.trans ho)
      subst e0
      exact ⟨r1 ++ r2, e1, e2, b, vf, vx, e, .inl ⟨o', q, hc, hr⟩, c3, d3⟩
    | none =>
      refine ⟨(b, o) :: (r1 ++ r2), fun p hp => ?_, fun p hp => ?_, b, vf, vx, e, .inr ⟨o, .head _, hc, hr⟩, TermG.mono (fun p hp => .tail _ hp) c3, TermG.mono (fun p hp => .tail _ hp) d3⟩
      · rcases List.mem_cons.mp hp with rfl | hp
        · exact ⟨ho, fun e => Ns_noTup F.ns ((show b = L from e) ▸ hT), q⟩
        · exact e1 p hp
      · rcases List.mem_cons.mp hp with rfl | hp
        · exact ⟨hc, _, hr⟩
        · exact e2 p hp
/-- the ledger grows by a tail more -/
theorem addtail {g h : Heap} {L : Addr} {news rw2 : List (Addr × Obj)} (N : News g L h news) (h2 : ∀ p ∈ rw2, h.get? p.1 = some p.2 ∧ p.1 ≠ L ∧ g.get? p.1 = none) : News g L h (news ++ rw2) := fun p hp => by
  rcases List.mem_append.mp hp with q | q
  · exact N p q
  · exact h2 p q
theorem item_nc {prog : Program} {w : World} {A : Around} {E : Value → Shared → Prop} {s : Shared} {h₀ : Heap} {L l : Addr} {news : List (Addr × Obj)} {x : Str} {px pc : Pos} {c : Const} {kd : Nat} {its : Array Value} {n : Nat} {k : Int} {u : Tok} {v : Value} {Q : Value → Shared → Prop}
    (N : News h₀ L s.heap news) (hm : (l, listOf its n) ∈ news) (h0 : 0 ≤ k) (h1 : k < 2 ^ 63) (hx : its[k.toNat]? = some v) (h : Q v s) : wpAny (model prog w) A (subscriptTail (.Name x px) (.Constant c kd pc) (.ref l) (.int k u)) Q E s :=
  PyProof.Rows.item_list (N.isList hm) h0 h1 hx h
end
local macro_rules | `(tactic| walk_at "mine_nc") => `(tactic| (k_here; k_dflt (refine item_nc (by k_asm) (by k_mem) (by decide) (by decide) (by rfl) ?_)))
section
open PySem PySem.W PySem.Spec PySem.Calls PyProof.Rows
set_option Elab.async false
set_option maxRecDepth 100000
set_option maxHeartbeats 4000000
local macro_rules | `(tactic| walk_at "call builtin:dict.get") => `(tactic| ((with_reducible show wpAny _ _ (call _ [_, Value.str (chr _) _, _]) _ _ _); refine unhold ?_))
theorem want_spec {w : World} (q : Sg) {tk : Tok} : Calls w 289 [.str (chr q) tk] [] 10 100 [] (fun _ => True) (fun h r h' => (∃ tk, r = .int ((T.want q : Nat) : Int) tk) ∧ Kp h h') := by
  intro mean mg mb dp un gd cn cs a ccd cl outer A₀ base h₀ L m s Q E B F X T hk hd hu N pre ret
  revert X; k_fill; intro X
  refine wpAny_call ?_
  k_dflt (refine' code_mine (binds := [(Str.ofString "sign", .str (chr q) tk)]) ?k1 ?k2 ?k3 ?k4 ?k5 ?kA ?kF ?kK ?k6 ?k7 ?k8 ?k9 ?kB ?_ ?c5 ?c2 ?c3 ?c4; (case kA | kF => exact rfl); (case kK => assumption); (case k1 | k2 | k3 | k4 | k5 => k_asm); (case k6 | k7 => k_is); (case k8 => ktr_room); (case k9 => first | exact BindsTo.of_eq rfl | exact binds_K (by k_in) rfl (by k_is) rfl rfl rfl); (case c5 => decide); (case kB => exact locs rfl); (case c2 | c3 | c4 => exact rfl))
  intro P9 hP9
  walk_at "mine_start"
  replace ret := fun r h' tk' p => hP9 r _ (ret r h' tk' p)
  repeat walk_at "k_one"
  unfold Hold
  cases q
  all_goals dsimp only [chr]
  all_goals k_steps
  all_goals exact ret _ _ _ ⟨⟨_, rfl⟩, by walk_at "mine_kp"⟩
theorem want_at {w : World} (q : Sg) {x : Str} {tk : Tok} {k : Int} (hx : chr q = x) (hk : ((T.want q : Nat) : Int) = k) : Calls w 289 [.str x tk] [] 10 100 [] (fun _ => True) (fun h r h' => (∃ tk, r = .int k tk) ∧ Kp h h') := hx ▸ hk ▸ want_spec q
theorem kl_ins0 {its : Array Value} {y : Value} : kl_ins its.toList 0 y = y :: its.toList := by
  cases h : its.toList <;> rfl
theorem ins0 {prog : Program} {w : World} {A : Around} {E : Value → Shared → Prop} {s : Shared} {h₀ : Heap} {L D : Addr} {m : Str → Option Value} {news news' : List (Addr × Obj)} {n : Nat} {u : Tok} {y : Value} {vs : List Value} {Q : Value → Shared → Prop} (F : Fr h₀ L s.heap m) (N : News h₀ L s.heap news)
    (U : Upd D (listOf vs.toArray n) (listOf (y :: vs).toArray (n + 1)) news news') (hz : vs.length ≤ 900) (h : ∀ h', Fr h₀ L h' m → News h₀ L h' news' → Q .none { s with heap := h' }) : wpAny (model prog w) A (call (.builtin "list.insert") [.ref D, .int 0 u, y]) Q E s :=
  kl_insert F N rfl (kl_ins0 (its := vs.toArray) (y := y)) U (by rw [sizeLine_eq]; simp; omega) h
namespace T
theorem fold_L : ∀ (As : List T) (X : T), L X + As.length ≤ L (As.foldl a X)
  | [], X => by simp
  | x :: r, X => by
    rw [List.foldl_cons, List.length_cons]
    have h1 := fold_L r (a X x)
    have h2 := L_pos x
    have h3 : L (a X x) = L X + L x := rfl
    omega
theorem fold_spine (q : Sg) : ∀ (As Bs : List T), As.foldl a (spine q Bs) = spine q (As.reverse ++ Bs)
  | [], Bs => rfl
  | x :: r, Bs => by
    rw [List.foldl_cons, List.reverse_cons, List.append_assoc]
    exact fold_spine q r (x :: Bs)
/-- the end of the work from the inside, read off the list of things -/
theorem worked_fold {F X : T} (nF : NF F) (nX : NF X) (hl : L (a F X) ≤ 99) {q : Sg} {ts : List T} (e : a F X = ts.foldl a (s q)) : (∀ x ∈ ts, NF x) ∧ ts.length ≤ want q ∧ (ts.length ≠ want q → NF (a F X)) := by
  obtain ⟨h, as, e1, _, h2, h3, h4⟩ := worked_end nF nX hl
  have e2 : spine h as = spine q (ts.reverse ++ []) := e1.symm.trans (e.trans (fold_spine q ts []))
  rw [List.append_nil] at e2
  obtain ⟨rfl, rfl⟩ := spine_inj e2
  rw [List.length_reverse] at h3 h4
  exact ⟨fun x hx => h2 x (List.mem_reverse.mpr hx), h3, fun hn => h4 (by omega)⟩
end T
inductive TermsG (g : Heap) (rw' : List (Addr × Obj)) : List Value → List T → Prop
  | nil : TermsG g rw' [] []
  | cons {v t vs ts} : TermG g rw' v t → TermsG g rw' vs ts → TermsG g rw' (v :: vs) (t :: ts)
theorem TermsG.length {g : Heap} {rw' : List (Addr × Obj)} {vs : List Value} {ts : List T} (x : TermsG g rw' vs ts) : vs.length = ts.length := by
  induction x with
  | nil => rfl
  | cons _ _ ih => simp [ih]
theorem TermsG.one {g : Heap} {rw' : List (Addr × Obj)} {vs : List Value} {ts : List T} (x : TermsG g rw' vs ts) (h : ts.length = 1) : ∃ v1 t1, vs = [v1] ∧ ts = [t1] ∧ TermG g rw' v1 t1 := by
  cases x with
  | nil => cases h
  | cons a b =>
    cases b with
    | nil => exact ⟨_, _, rfl, rfl, a⟩
    | cons _ _ => cases h
theorem TermsG.two {g : Heap} {rw' : List (Addr × Obj)} {vs : List Value} {ts : List T} (x : TermsG g rw' vs ts) (h : ts.length = 2) : ∃ v1 t1 v2 t2, vs = [v1, v2] ∧ ts = [t1, t2] ∧ TermG g rw' v1 t1 ∧ TermG g rw' v2 t2 := by
  cases x with
  | nil => cases h
  | cons a b =>
    obtain ⟨v2, t2, rfl, rfl, c⟩ := b.one (Nat.succ.inj h)
    exact ⟨_, _, _, _, rfl, rfl, a, c⟩
theorem TermsG.three {g : Heap} {rw' : List (Addr × Obj)} {vs : List Value} {ts : List T} (x : TermsG g rw' vs ts) (h : ts.length = 3) : ∃ v1 t1 v2 t2 v3 t3, vs = [v1, v2, v3] ∧ ts = [t1, t2, t3] ∧ TermG g rw' v1 t1 ∧ TermG g rw' v2 t2 ∧ TermG g rw' v3 t3 := by
  cases x with
  | nil => cases h
  | cons a b =>
    obtain ⟨v2, t2, v3, t3, rfl, rfl, c, d⟩ := b.two (Nat.succ.inj h)
    exact ⟨_, _, _, _, _, _, rfl, rfl, a, c, d⟩
theorem ws2 {h₀ h' : Heap} {m : Str → Option Value} {L : Addr} {s : Shared} {J : Nat → (Str → Option Value) → List (Addr × Obj) → Prop} {Q : Flow → Shared → Prop} {i n' tk : Nat} {news : List (Addr × Obj)} (F : Fr h₀ L h' m) (N : News h₀ L h' news) (lt : n' < i) (j : J n' m news) : WhileStep2 h₀ L s J Q i .next { s with heap := h', toks := tk } := ⟨_, _, _, _, _, rfl, F, N, lt, j⟩
inductive KI (i : Int) (h h' : Heap) : Value → Prop
  | mk (tk : Tok) (hk : Kp h h') : KI i h h' (.int i tk)
theorem KI.of {i : Int} {h h' : Heap} {r : Value} (x : (∃ tk, r = .int i tk) ∧ Kp h h') : KI i h h' r := by
  obtain ⟨⟨tk, rfl⟩, hk⟩ := x
  exact ⟨tk, hk⟩
end
section
open PySem PySem.W PySem.Spec PySem.Calls PyProof.Rows
set_option Elab.async false
set_option maxRecDepth 100000
set_option maxHeartbeats 0
theorem TabG.mono {g : Heap} {rw1 rw2 : List (Addr × Obj)} {its : List Value} {tab : List Ent} (x : TabG g rw1 its tab) (hs : ∀ p ∈ rw1, p ∈ rw2) : TabG g rw2 its tab := fun h k k2 => x h k fun p hp => k2 p (hs p hp)
/-- an object that a call has made: it goes onto the ledger -/
theorem fresh_new {g h h' : Heap} {L x : Addr} {m : Str → Option Value} {o : Obj} (F : Fr g L h m) (hn : h.get? x = none) (hx : h'.get? x = some o) : h'.get? x = some o ∧ x ≠ L ∧ g.get? x = none := by
  refine ⟨hx, fun e => ?_, ?_⟩
  · obtain ⟨oL, es, ep, hL, _⟩ := F.ns
    rw [e, hL] at hn; cases hn
  · cases q : g.get? x with
    | none => rfl
    | some o' => rw [F.keep x o' q] at hn; cases hn
theorem News.cons {g h : Heap} {L x : Addr} {news : List (Addr × Obj)} {o : Obj} (N : News g L h news) (hx : h.get? x = some o ∧ x ≠ L ∧ g.get? x = none) : News g L h ((x, o) :: news) := fun p hp => by
  rcases List.mem_cons.mp hp with rfl | hp
  · exact hx
  · exact N p hp
theorem news_lt {g h : Heap} {L : Addr} {news : List (Addr × Obj)} {a d : Addr} {o : Obj} (N : News g L h news) (hm : (a, o) ∈ news) (hd : @LE.le Nat _ h.objs.size d) : @LT.lt Nat _ a d := Nat.lt_of_lt_of_le (Heap.lt_size (N _ hm).1) hd
/-- the pile's items, the last one pushed first in ps -/
inductive PileG (g : Heap) (rw' : List (Addr × Obj)) : List Value → List Nat → Prop
  | nil : PileG g rw' [] []
  | snoc {vs ps b n tk1 tk2} : PileG g rw' vs ps → TupG g rw' b #[.str (Str.ofString " ") tk1, .str (num n) tk2] → PileG g rw' (vs ++ [.ref b]) (n :: ps)
theorem PileG.mono {g : Heap} {rw1 rw2 : List (Addr × Obj)} {vs : List Value} {ps : List Nat} (x : PileG g rw1 vs ps) (hs : ∀ p ∈ rw1, p ∈ rw2) : PileG g rw2 vs ps := by
  induction x with
  | nil => exact .nil
  | snoc _ i ih => exact .snoc ih (i.mono hs)
theorem PileG.length {g : Heap} {rw1 : List (Addr × Obj)} {vs : List Value} {ps : List Nat} (x : PileG g rw1 vs ps) : vs.length = ps.length := by
  induction x with
  | nil => rfl
  | snoc _ _ ih => simp [ih]
theorem PileG.pop {g : Heap} {rw1 : List (Addr × Obj)} {vs : List Value} {p : Nat} {ps : List Nat} (x : PileG g rw1 vs (p :: ps)) : ∃ vs' b tk1 tk2, vs = vs' ++ [.ref b] ∧ TupG g rw1 b #[.str (Str.ofString " ") tk1, .str (num p) tk2] ∧ PileG g rw1 vs' ps := by
  cases x with
  | snoc a i => exact ⟨_, _, _, _, rfl, i, a⟩
theorem PileG.empty {g : Heap} {rw1 : List (Addr × Obj)} {vs : List Value} (x : PileG g rw1 vs []) : vs = [] := by
  cases x; rfl
theorem isnt_spec {w : World} {n : Nat} {tk : Tok} : Calls w 48 [.int (n : Nat) tk] [] 10 100 [] (fun _ => True) (fun h r h' => (∃ _ : Tok, r = .bool (decide (256 ≤ n))) ∧ Kp h h') := by
  intro mean mg mb dp un gd cn cs a ccd cl outer A₀ base h₀ L m s Q E B F X T hk hd hu N pre ret
  revert X; k_fill; intro X
  refine wpAny_call ?_
  k_dflt (refine' code_mine (binds := [(Str.ofString "x", .int (n : Nat) tk)]) ?k1 ?k2 ?k3 ?k4 ?k5 ?kA ?kF ?kK ?k6 ?k7 ?k8 ?k9 ?kB ?_ ?c5 ?c2 ?c3 ?c4; (case kA | kF => exact rfl); (case kK => assumption); (case k1 | k2 | k3 | k4 | k5 => k_asm); (case k6 | k7 => k_is); (case k8 => ktr_room); (case k9 => first | exact BindsTo.of_eq rfl | exact binds_K (by k_in) rfl (by k_is) rfl rfl rfl); (case c5 => decide); (case kB => exact locs rfl); (case c2 | c3 | c4 => exact rfl))
  intro P9 hP9
  walk_at "mine_start"
  replace ret := fun r h' tk' p => hP9 r _ (ret r h' tk' p)
  k_steps
  all_goals exact ret _ _ _ ⟨⟨(0 : Nat), congrArg Value.bool (decide_eq_decide.mpr (by omega))⟩, by walk_at "mine_kp"⟩
theorem isnt_at {w : World} {n : Nat} {tk : Tok} {b : Bool} (hb : decide (256 ≤ n) = b) : Calls w 48 [.int (n : Nat) tk] [] 10 100 [] (fun _ => True) (fun h r h' => (∃ _ : Tok, r = .bool b) ∧ Kp h h') := hb ▸ isnt_spec
theorem cut_stmt {M : Model} {A : Around} {st : Stmt} {env : Env} {Q : Flow → Shared → Prop} {E : Value → Shared → Prop} {s : Shared} (P : Flow → Shared → Prop) (h1 : wpAny M A (exec st env) P E s) (h2 : ∀ f s', P f s' → Q f s') : wpAny M A (exec st env) Q E s := wpAny_mono h1 h2 fun _ _ e => e
noncomputable abbrev runLed (L' tb td hl pa pd : Addr) (hsh hsh2 : Int) (t t2 t3 : Tok) (oP oN oT : Obj) (vs its : List Value) (pn n : Nat) (rw' : List (Addr × Obj)) : List (Addr × Obj) := (pa, accObj pd vs pn) :: (pd, accDict hsh2 t2 t3) :: ((show Nat from L') + 1 + 1 + 1, oP) :: ((show Nat from L') + 1 + 1, oN) :: ((show Nat from L') + 1, oT) :: (tb, instObj 278 td) :: (td, hdrDict hsh t hl) :: (hl, listOf its.toArray n) :: rw'
noncomputable abbrev runM (sv : Value) (u : Str → Option Value) : Str → Option Value := fun y => if y = Str.ofString "sign" then some sv else u y
theorem runM_of {sv : Value} {m : Str → Option Value} (h1 : m (Str.ofString "sign") = some sv) : m = runM sv m := by
  funext y
  unfold runM
  by_cases e1 : y = Str.ofString "sign"
  · rw [if_pos e1, e1, h1]
  · rw [if_neg e1]
section
variable {prog : Program} {w : World} {A : Around} {E : Value → Shared → Prop} {Q : Flow → Shared → Prop} {s : Shared} {env : Env} {h₀ : Heap} {L : Addr}
/-- a while loop whose turn sees nothing of what comes after it -/
theorem While_inv3 {test : Expr} {body : List Stmt} {pos : Pos} {m : Str → Option Value} {news : List (Addr × Obj)} (J : Nat → (Str → Option Value) → List (Addr × Obj) → Prop) (X : (Str → Option Value) → List (Addr × Obj) → Prop) {n₀ : Nat}
    (F : Fr h₀ L s.heap m) (N : News h₀ L s.heap news) (hJ : J n₀ m news)
    (turn : ∀ (Q' : Flow → Shared → Prop) (E' : Value → Shared → Prop) (J' : Nat → (Str → Option Value) → List (Addr × Obj) → Prop) (X' : Shared → Prop) (s : Shared), PassesOwn (model prog w) A env E' → (∀ n m news, J n m news → J' n m news) →
      (∀ h tk m news, Fr h₀ L h m → News h₀ L h news → X m news → X' { s with heap := h, toks := tk }) → ∀ n m₁ news₁ h₁ tk₁, Fr h₀ L h₁ m₁ → News h₀ L h₁ news₁ → J n m₁ news₁ →
      wpAny (model prog w) A (isTrue test env (eval test env)) (fun b s₂ =>
        if b = true then wpAny (model prog w) A (execs body env) (WhileStep2 h₀ L s J' Q' n) E' s₂ else Hold (X' s₂)) E' { s with heap := h₁, toks := tk₁ })
    (exit : ∀ h tk m news, Fr h₀ L h m → News h₀ L h news → X m news → Q .next { s with heap := h, toks := tk })
    (hE : PassesOwn (model prog w) A env E := by passes_own) :
    wpAny (model prog w) A (exec (.While test body [] pos) env) Q E s :=
  While_inv2 J F N hJ (fun n m₁ news₁ h₁ tk₁ F₁ N₁ J₁ => turn Q E J (fun s₂ => Q .next s₂) s hE (fun _ _ _ h => h) exit n m₁ news₁ h₁ tk₁ F₁ N₁ J₁) hE
end
end
section
open PySem PySem.W PySem.Spec PySem.Calls PyProof.Rows
set_option Elab.async false
set_option maxRecDepth 100000
set_option maxHeartbeats 0
open LCg LCt
section
variable {prog : Program} {w : World} {A : Around} {E : Value → Shared → Prop} {s : Shared} {h₀ : Heap} {L : Addr} {m : Str → Option Value} {env : Env}
theorem str_st {I : Addr} {T : String} {x : Str} {t : Tok} : ∀ (i : Nat) (h h' : Heap) (o : Obj) (nw : List (Addr × Obj)), h.IsStrIter I T x t i → h.get? I = some o → h'.get? I = some o → (∀ b o, h₀.get? b = some o → h'.get? b = some o) → News h₀ L h' nw → True → h'.IsStrIter I T x t i :=
  fun i h h' o nw st e e' _ _ _ => by
    obtain ⟨o2, q, r⟩ := st
    rw [e] at q
    cases q
    exact ⟨o, e', r⟩
noncomputable def CompSrcS (prog : Program) (w : World) (A : Around) (h₀ : Heap) (L : Addr) (m : Str → Option Value) (env : Env) (ct elt : Expr) (x : Str) (scope : Scope) (cl : List (Str × Addr)) (Q : Value → Shared → Prop) (xv : Value) (s₁ : Shared) : Prop :=
  ∃ tx t news, xv = .str tx t ∧ A.handled = none ∧ Fr h₀ L s₁.heap m ∧ News h₀ L s₁.heap news ∧ tx.cps.all (· < 128) = true ∧ tx.cps.size ≤ sizeLine ∧
      ∀ g, CompRestT prog w A h₀ L m env ct elt x scope cl { s₁ with heap := g } (fun _ => True) (SignAt tx) (FinE h₀ L m { s₁ with heap := g } Q) tx.cps.size 0 [] news
/-- a list comprehension with a test over a text of plain signs -/
theorem ListComp_S {ct elt iter : Expr} {x : Str} {px : Pos} {scope : Scope} {cl : List (Str × Addr)} {pos : Pos} {Q : Value → Shared → Prop} (F₀ : Fr h₀ L s.heap m)
    (hclos : closureFor scope env = pure cl) (hcell : ∀ y ∈ scope.names, y.2 ≠ .cell) (hkind : scope.kind = .function)
    (hnames : ∀ y ∈ scope.names, y.2 = .local → scope.names.lookup y.1 = some .local) (hx : scope.names.lookup x = some .local)
    (h : wpAny (model prog w) A (eval iter env) (CompSrcS prog w A h₀ L m env ct elt x scope cl Q) E s)
    (hs : ∀ x, foldedSetIterable iter env x = pure x := by intro _; rfl) :
    wpAny (model prog w) A (eval (.ListComp elt [⟨.Name x px, iter, [ct], 0⟩] scope pos) env) Q E s := by
  rw [eval_ListComp]
  refine wpAny_comprehension_free (use := none) rfl hs hclos hkind hnames (wpAny_mono h (fun xv s₁ h₁ => ?_) fun _ _ e => e)
  obtain ⟨tx, t, news, rfl, hh, F, N, ha, hsz, R⟩ := h₁
  refine wpAny_pyIter_ascii ha ?_
  refine block_T (Walks.strAscii hh s₁.heap.objs.size tx t) hsz (fun i h st => by obtain ⟨o, e, _⟩ := st; exact ⟨o, e⟩) str_st hcell hkind hx ⟨_, Heap.get?_push_size _ rfl, rfl, rfl⟩ (fun b hb => ?_)
    (F.keeps fun _ _ e => Heap.get?_push_of_some _ e) (N.grown fun _ _ e => Heap.get?_push_of_some _ e) (Nat.ne_of_lt F.ns.lt) (next_is_new F) (fun p hp => Nat.ne_of_lt (Heap.lt_size (N p hp).1)) trivial (R _) ?_
  · rw [List.mem_singleton.mp hb]
    show s₁.heap.objs.size < (s₁.heap.push _).objs.size
    rw [Heap.size_push]; exact Nat.lt_succ_self _
  · intro D C h tk m' ys news' F' N' o1 hn hC₀ hD₀ hCL hDL hCD offC fin
    refine ⟨m', hn, fun h'' hs'' => fin D h'' tk (F'.change hs'' hCL hC₀) (fun p hp => ?_) o1⟩
    refine ⟨hs''.extBut _ _ ?_ (N' p hp).1, (N' p hp).2⟩
    rcases List.mem_cons.mp hp with rfl | hp
    · exact Ne.symm hCD
    · exact offC p hp
theorem comp_sg {ct elt : Expr} {x : Str} {scope : Scope} {cl : List (Str × Addr)} {S : List (Addr × Obj) → Prop} {tx : Str} {Fin : List Value → List (Addr × Obj) → Prop}
    (J : List Sg → List Value → List (Addr × Obj) → Prop)
    (step : ∀ (J' : List Sg → List Value → List (Addr × Obj) → Prop) (s : Shared), (∀ r ys news, J r ys news → J' r ys news) → ∀ p r ys news, J (p :: r) ys news → ∀ u I oI C oC D m₂ h tk (E' : Value → Shared → Prop), LCg.NsObj oC m₂ → m₂ x = some (.str (chr p) u) → Fr h₀ L h m → News h₀ L h ((I, oI) :: (C, oC) :: (D, LCg.lst ys) :: news) → LCg.Off3 I C D news → ((@Ne Nat I C) ∧ (@Ne Nat I D) ∧ (@Ne Nat C D)) →
      wpAny (model prog w) A (PySem.isTrue ct (compEnvC scope cl C env) (eval ct (compEnvC scope cl C env))) (fun ok s' => if ok = true then
        wpAny (model prog w) A (eval elt (compEnvC scope cl C env)) (LCg.CompEnd h₀ L m { s with heap := h, toks := tk } I oI C oC D (LCg.lst ys) S (fun y news' => J' r (ys ++ [y]) news')) E' s'
        else LCg.CompEnd h₀ L m { s with heap := h, toks := tk } I oI C oC D (LCg.lst ys) S (fun _ news' => J' r ys news') Value.none s') E' { s with heap := h, toks := tk })
    (done : ∀ ys news, J [] ys news → Fin ys news) :
    ∀ (ps : List Sg) (i : Nat) (ys : List Value) (news : List (Addr × Obj)), (∀ (j : Nat) (p : Sg), ps[j]? = some p → ∃ c, tx.cps[i + j]? = some c ∧ chr p = ⟨#[c]⟩) → J ps ys news → LCt.CompRestT prog w A h₀ L m env ct elt x scope cl s S (SignAt tx) Fin ps.length i ys news := by
  intro ps
  induction ps with
  | nil => exact fun i ys news _ hJ => LCt.CompRestT.zero (done ys news hJ)
  | cons p r ih =>
    intro i ys news hi hJ
    refine LCt.CompRestT.succ ?_
    intro v' I oI C oC D m₂ h tk E' hv hC hx F N off ne
    obtain ⟨c0, e0, e1⟩ := hi 0 p rfl
    rw [Nat.add_zero] at e0
    have hi' : ∀ (j : Nat) (p : Sg), r[j]? = some p → ∃ c, tx.cps[i + 1 + j]? = some c ∧ chr p = ⟨#[c]⟩ := fun j q hq => by
      have := hi (j + 1) q (by simpa using hq)
      rw [show i + (j + 1) = i + 1 + j by omega] at this
      exact this
    obtain ⟨c, u, hc, rfl⟩ : ∃ c u, tx.cps[i]? = some c ∧ v' = .str ⟨#[c]⟩ u := by
      obtain ⟨c, u, a, b⟩ := hv
      first | exact ⟨c, u, a, b⟩ | exact ⟨c, u, b, a⟩
    rw [e0] at hc
    cases hc
    rw [← e1] at hx
    have ends : ∀ {y : Value} {s'} {q : List Value}, LCg.CompEnd h₀ L m { s with heap := h, toks := tk } I oI C oC D (LCg.lst ys) S (fun _ news' => J r q news') y s' →
        LCg.CompEnd h₀ L m { s with heap := h, toks := tk } I oI C oC D (LCg.lst ys) S (fun _ news' => LCt.CompRestT prog w A h₀ L m env ct elt x scope cl s S (SignAt tx) Fin r.length (i + 1) q news') y s' := by
      rintro y s' q ⟨h', tk', news', e, F', N', o', hS, hj⟩
      exact ⟨h', tk', news', e, F', N', o', hS, ih (i + 1) _ news' hi' hj⟩
    refine wpAny_mono (step J s (fun _ _ _ h => h) p r ys news hJ u I oI C oC D m₂ h tk E' hC hx F N off ne) (fun ok s' p => ?_) fun _ _ e => e
    cases ok with
    | true =>
      rw [if_pos rfl] at p ⊢
      refine wpAny_mono p (fun y s'' q => ?_) fun _ _ e => e
      obtain ⟨h', tk', news', e, F', N', o', hS, hj⟩ := q
      exact ⟨h', tk', news', e, F', N', o', hS, ih (i + 1) _ news' hi' hj⟩
    | false =>
      rw [if_neg (by decide)] at p ⊢
      exact ends p
theorem comp_N {elt : Expr} {x : Str} {scope : Scope} {cl : List (Str × Addr)} {S : List (Addr × Obj) → Prop} {P : Nat → Value → Prop} {Fin : List Value → List (Addr × Obj) → Prop} {n : Nat}
    (J : Nat → List Value → List (Addr × Obj) → Prop)
    (step : ∀ (J' : Nat → List Value → List (Addr × Obj) → Prop) (s : Shared), (∀ i ys news, J i ys news → J' i ys news) → ∀ i ys news, i < n → J i ys news → ∀ v I oI C oC D m₂ h tk (E' : Value → Shared → Prop), P i v → LCg.NsObj oC m₂ → m₂ x = some v → Fr h₀ L h m → News h₀ L h ((I, oI) :: (C, oC) :: (D, LCg.lst ys) :: news) → LCg.Off3 I C D news → ((@Ne Nat I C) ∧ (@Ne Nat I D) ∧ (@Ne Nat C D)) →
      wpAny (model prog w) A (eval elt (compEnvC scope cl C env)) (LCg.CompEnd h₀ L m { s with heap := h, toks := tk } I oI C oC D (LCg.lst ys) S (fun y news' => J' (i + 1) (ys ++ [y]) news')) E' { s with heap := h, toks := tk })
    (done : ∀ ys news, J n ys news → Fin ys news) :
    ∀ (k i : Nat) (ys : List Value) (news : List (Addr × Obj)), i + k = n → J i ys news → LCg.CompRest prog w A h₀ L m env elt x scope cl s S P Fin k i ys news := by
  intro k
  induction k with
  | zero =>
    intro i ys news hi hJ
    rw [Nat.add_zero] at hi
    subst hi
    exact LCg.CompRest.zero (done ys news hJ)
  | succ k ih =>
    intro i ys news hi hJ
    refine LCg.CompRest.succ ?_
    intro v' I oI C oC D m₂ h tk E' hv hC hx F N off ne
    refine wpAny_mono (step J s (fun _ _ _ h => h) i ys news (by omega) hJ v' I oI C oC D m₂ h tk E' hv hC hx F N off ne) (fun y s'' q => ?_) fun _ _ e => e
    obtain ⟨h', tk', news', e, F', N', o', hS, hj⟩ := q
    exact ⟨h', tk', news', e, F', N', o', hS, ih (i + 1) _ news' (by omega) hj⟩
noncomputable def allSg : List Sg := [.eq, .sl, .dot, .col, .pl, .mi, .bar, .st]
theorem allSg_at : ∀ (j : Nat) (p : Sg), allSg[j]? = some p → ∃ c, (Str.ofString "=/.:+-|*").cps[0 + j]? = some c ∧ chr p = ⟨#[c]⟩ := by
  intro j p h
  have hj : j < 8 := by
    rcases Nat.lt_or_ge j 8 with q | q
    · exact q
    · rw [List.getElem?_eq_none (by show 8 ≤ j; exact q)] at h; cases h
  match j, hj, h with
  | 0, _, h => cases h; exact ⟨61, by decide +kernel, by decide +kernel⟩
  | 1, _, h => cases h; exact ⟨47, by decide +kernel, by decide +kernel⟩
  | 2, _, h => cases h; exact ⟨46, by decide +kernel, by decide +kernel⟩
  | 3, _, h => cases h; exact ⟨58, by decide +kernel, by decide +kernel⟩
  | 4, _, h => cases h; exact ⟨43, by decide +kernel, by decide +kernel⟩
  | 5, _, h => cases h; exact ⟨45, by decide +kernel, by decide +kernel⟩
  | 6, _, h => cases h; exact ⟨124, by decide +kernel, by decide +kernel⟩
  | 7, _, h => cases h; exact ⟨42, by decide +kernel, by decide +kernel⟩
/-- the marks so far: of those that are behind us, q alone -/
noncomputable def SignJ (q : Sg) (led : List (Addr × Obj)) (r : List Sg) (ys : List Value) (news : List (Addr × Obj)) : Prop :=
  (∃ d, d ++ r = allSg ∧ ((q ∈ d ∧ ∃ tk, ys = [.str (chr q) tk]) ∨ (q ∉ d ∧ ys = []))) ∧ news = led
theorem SignJ.hit {q : Sg} {led : List (Addr × Obj)} {r : List Sg} {ys : List Value} {news : List (Addr × Obj)} {tk : Tok} (h : SignJ q led (q :: r) ys news) : SignJ q led r (ys ++ [.str (chr q) tk]) news := by
  obtain ⟨⟨d, e, h⟩, rfl⟩ := h
  have hn : q ∉ d := by
    intro hm
    have : (d ++ q :: r).Nodup := by rw [e]; decide
    exact (List.nodup_append.mp this).2.2 q hm q (.head _) rfl
  rcases h with ⟨hm, _⟩ | ⟨_, rfl⟩
  · exact absurd hm hn
  · exact ⟨⟨d ++ [q], by rw [List.append_assoc]; exact e, .inl ⟨by simp, tk, rfl⟩⟩, rfl⟩
theorem SignJ.miss {q p : Sg} {led : List (Addr × Obj)} {r : List Sg} {ys : List Value} {news : List (Addr × Obj)} (hp : p ≠ q) (h : SignJ q led (p :: r) ys news) : SignJ q led r ys news := by
  obtain ⟨⟨d, e, h⟩, rfl⟩ := h
  refine ⟨⟨d ++ [p], by rw [List.append_assoc]; exact e, ?_⟩, rfl⟩
  rcases h with ⟨hm, z⟩ | ⟨hm, z⟩
  · exact .inl ⟨List.mem_append_left _ hm, z⟩
  · refine .inr ⟨fun hc => ?_, z⟩
    rcases List.mem_append.mp hc with hc | hc
    · exact hm hc
    · exact hp (List.mem_singleton.mp hc).symm
theorem sg_of {p q : Sg} (h : ((T.code p : Nat) : Int) = ((T.code q : Nat) : Int)) : p = q := T.code_inj (Int.ofNat.inj h)
theorem SignJ.hit' {q p : Sg} {led : List (Addr × Obj)} {r : List Sg} {ys : List Value} {news : List (Addr × Obj)} {tk : Tok} {x : Str} (h : SignJ q led (p :: r) ys news) (hz : ((T.code p : Nat) : Int) = ((T.code q : Nat) : Int)) (hx : x = chr p) : SignJ q led r (ys ++ [.str x tk]) news := by
  have e := sg_of hz
  subst e hx
  exact h.hit
theorem SignJ.miss' {q p : Sg} {led : List (Addr × Obj)} {r : List Sg} {ys : List Value} {news : List (Addr × Obj)} (h : SignJ q led (p :: r) ys news) (hz : ((T.code p : Nat) : Int) ≠ ((T.code q : Nat) : Int)) : SignJ q led r ys news := h.miss fun e => hz (by rw [e])
theorem SignJ.done {q : Sg} {led : List (Addr × Obj)} {ys : List Value} {news : List (Addr × Obj)} (h : SignJ q led [] ys news) : (∃ tk, ys = [.str (chr q) tk]) ∧ news = led := by
  obtain ⟨⟨d, e, h⟩, rfl⟩ := h
  rw [List.append_nil] at e
  rcases h with ⟨_, z⟩ | ⟨hm, _⟩
  · exact ⟨z, rfl⟩
  · exact absurd (by rw [e]; cases q <;> decide) hm
theorem look_find {tab : List Ent} {k c th : Nat} (h : T.look tab k = some (c, th)) : ∃ k0, tab.find? (fun e => e.1 == k) = some (k0, c, th) := by
  unfold T.look at h
  cases q : tab.find? (fun e => e.1 == k) with
  | none => rw [q] at h; cases h
  | some z =>
    rw [q] at h
    obtain ⟨k0, c0, th0⟩ := z
    have e : (c0, th0) = (c, th) := Option.some.inj h
    cases e
    exact ⟨k0, rfl⟩
theorem TupAll.add {rw1 : List (Addr × Obj)} {p : Addr × Obj} (h : TupAll rw1) (hp : TupOk p.2) : TupAll (rw1 ++ [p]) := fun q hq => by
  rcases List.mem_append.mp hq with z | z
  · exact h q z
  · rw [List.mem_singleton.mp z]; exact hp
theorem item_two {prog : Program} {w : World} {A : Around} {E : Value → Shared → Prop} {s : Shared} {value slice : Expr} {l : Addr} {u : Tok} {i : Int} {x y v : Value} {m : Nat} {Q : Value → Shared → Prop} (hl : s.heap.get? l = some (W.listOf #[x, y] m)) (h0 : 0 ≤ i) (h1 : i < 2) (hv : #[x, y][i.toNat]? = some v) (h : Q v s)
    (hs : subscripted slice false (.ref l) (.int i u) = operate [.ref l, .int i u] (getItem (.ref l) (.int i u)) := by with_unfolding_all rfl) (hg : ∀ r, letTemporaryGo value (.ref l) r = pure () := by intro _; with_unfolding_all rfl) :
    wpAny (model prog w) A (subscriptTail value slice (.ref l) (.int i u)) Q E s :=
  PyProof.Rows.item_list ⟨_, hl, rfl, _, rfl⟩ h0 (by omega) hv h hs hg
end
inductive NumsAre : List Value → List Nat → Prop
  | nil : NumsAre [] []
  | cons {n vs ns} (tk : Tok) : NumsAre vs ns → NumsAre (.int ((n : Nat) : Int) tk :: vs) (n :: ns)
theorem NumsAre.snoc {vs ns} (x : NumsAre vs ns) (n : Nat) (tk : Tok) : NumsAre (vs ++ [.int ((n : Nat) : Int) tk]) (ns ++ [n]) := by
  induction x with
  | nil => exact .cons tk .nil
  | cons u _ ih => exact .cons u ih
theorem NumsAre.length {vs ns} (x : NumsAre vs ns) : vs.length = ns.length := by
  induction x with
  | nil => rfl
  | cons _ _ ih => simp [ih]
theorem NumsAre.at {vs ns} (x : NumsAre vs ns) : ∀ {i : Nat} {v : Value}, vs[i]? = some v → ∃ n tk, ns[i]? = some n ∧ v = .int ((n : Nat) : Int) tk := by
  induction x with
  | nil => intro i v h; cases h
  | @cons n vs ns tk _ ih =>
    intro i v h
    cases i with
    | zero => cases h; exact ⟨n, tk, rfl, rfl⟩
    | succ i => exact ih h
theorem NumsAre.one {vs ns} (x : NumsAre vs ns) (h : ns.length = 1) : ∃ n1 k1, ns = [n1] ∧ vs = [.int ((n1 : Nat) : Int) k1] := by
  cases x with
  | nil => cases h
  | cons k a => cases a with
    | nil => exact ⟨_, _, rfl, rfl⟩
    | cons _ _ => cases h
theorem NumsAre.two {vs ns} (x : NumsAre vs ns) (h : ns.length = 2) : ∃ n1 k1 n2 k2, ns = [n1, n2] ∧ vs = [.int ((n1 : Nat) : Int) k1, .int ((n2 : Nat) : Int) k2] := by
  cases x with
  | nil => cases h
  | cons k a =>
    obtain ⟨n2, k2, rfl, rfl⟩ := a.one (Nat.succ.inj h)
    exact ⟨_, _, _, _, rfl, rfl⟩
theorem NumsAre.three {vs ns} (x : NumsAre vs ns) (h : ns.length = 3) : ∃ n1 k1 n2 k2 n3 k3, ns = [n1, n2, n3] ∧ vs = [.int ((n1 : Nat) : Int) k1, .int ((n2 : Nat) : Int) k2, .int ((n3 : Nat) : Int) k3] := by
  cases x with
  | nil => cases h
  | cons k a =>
    obtain ⟨n2, k2, n3, k3, rfl, rfl⟩ := a.two (Nat.succ.inj h)
    exact ⟨_, _, _, _, _, _, rfl, rfl⟩
inductive LooksTo (tab : List Ent) : List Nat → List Nat → Prop
  | nil : LooksTo tab [] []
  | cons {p c th ps ths} : T.look tab p = some (c, th) → LooksTo tab ps ths → LooksTo tab (p :: ps) (th :: ths)
theorem LooksTo.snoc {tab ps ths} (x : LooksTo tab ps ths) {p c th : Nat} (h : T.look tab p = some (c, th)) : LooksTo tab (ps ++ [p]) (ths ++ [th]) := by
  induction x with
  | nil => exact .cons h .nil
  | cons u _ ih => exact .cons u ih
theorem LooksTo.length {tab ps ths} (x : LooksTo tab ps ths) : ths.length = ps.length := by
  induction x with
  | nil => rfl
  | cons _ _ ih => simp [ih]
/-- so many popped -/
noncomputable def PopJ (g : Heap) (rw1 : List (Addr × Obj)) (led : List Value → Nat → List (Addr × Obj)) (ps1 : List Nat) (i : Nat) (ys : List Value) (news : List (Addr × Obj)) : Prop :=
  ∃ taken psr vsr pn, ps1 = taken ++ psr ∧ taken.length = i ∧ NumsAre ys taken ∧ PileG g rw1 vsr psr ∧ news = led vsr pn
/-- so many things read -/
noncomputable def ThJ (tab1 : List Ent) (led : List (Addr × Obj)) (taken : List Nat) (i : Nat) (zs : List Value) (news : List (Addr × Obj)) : Prop :=
  ∃ ths, NumsAre zs ths ∧ LooksTo tab1 (taken.take i) ths ∧ news = led
theorem want_small (q : Sg) : Builtin.Range.small 0 ((T.want q : Nat) : Int) 1 = true := by cases q <;> rfl
theorem want_size (q : Sg) : Builtin.Range.rangeSize 0 ((T.want q : Nat) : Int) 1 = ((T.want q : Nat) : Int) := by cases q <;> rfl
theorem want_line (q : Sg) : T.want q ≤ sizeLine := by rw [sizeLine_eq]; cases q <;> decide
theorem LooksTo.bnd {tab ps ths} (x : LooksTo tab ps ths) (hb : ∀ e ∈ tab, e.2.1 < 1000000 ∧ e.2.2 < 1000000) : ∀ th ∈ ths, th < 1000000 := by
  induction x with
  | nil => intro th h; cases h
  | @cons p c th ps ths u _ ih =>
    intro z hz
    rcases List.mem_cons.mp hz with rfl | hz
    · obtain ⟨k0, hf⟩ := look_find u
      exact (hb _ (List.mem_of_find?_eq_some hf)).2
    · exact ih z hz
theorem LooksTo.one {tab p ths} (x : LooksTo tab [p] ths) : ∃ c th, T.look tab p = some (c, th) ∧ ths = [th] := by
  cases x with
  | cons u y => cases y; exact ⟨_, _, u, rfl⟩
theorem LooksTo.two {tab p1 p2 ths} (x : LooksTo tab [p1, p2] ths) : ∃ c1 th1 c2 th2, T.look tab p1 = some (c1, th1) ∧ T.look tab p2 = some (c2, th2) ∧ ths = [th1, th2] := by
  cases x with
  | cons u y => obtain ⟨c, th, v, rfl⟩ := y.one; exact ⟨_, _, _, _, u, v, rfl⟩
theorem LooksTo.three {tab p1 p2 p3 ths} (x : LooksTo tab [p1, p2, p3] ths) : ∃ c1 th1 c2 th2 c3 th3, T.look tab p1 = some (c1, th1) ∧ T.look tab p2 = some (c2, th2) ∧ T.look tab p3 = some (c3, th3) ∧ ths = [th1, th2, th3] := by
  cases x with
  | cons u y => obtain ⟨c, th, c', th', v, v', rfl⟩ := y.two; exact ⟨_, _, _, _, _, _, u, v, v', rfl⟩
noncomputable def ToldJ (g : Heap) (L' tb td hl pa pd : Addr) (hsh hsh2 : Int) (t t2 t3 : Tok) (oP oN oT : Obj) (tab : List Ent) (A : T) (k : Nat) (m : Str → Option Value) (news : List (Addr × Obj)) : Prop :=
  ∃ tab2 its2 n2 rw2 vs ps pn X tkt, ∃ u : Str → Option Value, k = ps.length ∧ T.Told tab A tab2 X ps ∧ TabG g rw2 its2 tab2 ∧ PileG g rw2 vs ps ∧ TupAll rw2 ∧ m = (fun y => if y = Str.ofString "told" then some (.str (txt X) tkt) else u y) ∧ news = runLed L' tb td hl pa pd hsh hsh2 t t2 t3 oP oN oT vs its2 pn n2 rw2
theorem told_of {sv : Value} {m : Str → Option Value} (h1 : m (Str.ofString "told") = some sv) : m = fun y => if y = Str.ofString "told" then some sv else m y := by
  funext y
  by_cases e1 : y = Str.ofString "told"
  · rw [if_pos e1, e1, h1]
  · rw [if_neg e1]
end
section
open PySem PySem.W PySem.Spec PySem.Calls PyProof.Rows
set_option Elab.async false
set_option maxRecDepth 100000
set_option maxHeartbeats 0
local macro_rules | `(tactic| walk_at "exec While") => `(tactic| (refine unhold ?_))
local macro_rules | `(tactic| walk_at "last exec While") => `(tactic| (refine unhold ?_))
local macro_rules | `(tactic| walk_at "call builtin:list.insert") => `(tactic| (k_here; k_dflt (refine' ins0 ?F ?N ?U ?z ?_; (case F | N => k_asm); (case U => k_upd); (case z => with_reducible assumption)); intro h' F' N'; (rename TupG _ _ _ _ => lU9); (have i8 := TupG.at lU9 F' N' (by walk_at "mine_tl"))))
local macro_rules | `(tactic| walk_at "call ref") => `(tactic| walk_at "mine_hc")
local macro_rules | `(tactic| walk_at "subscriptTail") => `(tactic| walk_at "mine_nc")
local macro_rules | `(tactic| walk_at "subscriptTail Name Constant ref int") => `(tactic| walk_at "mine_nc")
theorem in_lit {prog : Program} {w : World} {A : Around} {E : Value → Shared → Prop} {s : Shared} {x y : Str} {t u : Tok} {Q : Value → Shared → Prop} (b : Bool) (hb : Txt.contains x y = b) (h : Q (.bool b) s) : wpAny (model prog w) A (compareOp .In (.str y u) (.str x t)) Q E s := SB.contains (hb ▸ h)
local macro_rules | `(tactic| walk_at "compareOp In str str") => `(tactic| (k_here; k_dflt (first | refine in_lit true (by decide +kernel) ?_ | refine in_lit false (by decide +kernel) ?_)))
noncomputable abbrev wrkM (b D l : Addr) (u : Value) : Str → Option Value := fun y => if y = Str.ofString "things" then some (.ref l) else if y = Str.ofString "head" then some u else if y = Str.ofString "term" then some (.ref D) else List.lookup y [(Str.ofString "term", Value.ref b)].reverse
inductive WrkJ (g : Heap) (b D l : Addr) (rw' : List (Addr × Obj)) (whole : T) : Nat → (Str → Option Value) → List (Addr × Obj) → Prop
  | mk (hv : Value) (t' : T) (vs : List Value) (ts : List T) (k : Nat) (hT : TermG g rw' hv t') (hTs : TermsG g rw' vs ts) (hw : whole = ts.foldl T.a t') : WrkJ g b D l rw' whole (T.L t') (wrkM b D l hv) ((l, listOf vs.toArray k) :: rw')
theorem WrkJ.mk' {g : Heap} {b D l : Addr} {rw' : List (Addr × Obj)} {whole : T} {hv : Value} {t' : T} {vs : List Value} {ts : List T} {k : Nat} {m : Str → Option Value} (hm : m = wrkM b D l hv) (hT : TermG g rw' hv t') (hTs : TermsG g rw' vs ts) (hw : whole = ts.foldl T.a t') : WrkJ g b D l rw' whole (T.L t') m ((l, listOf vs.toArray k) :: rw') := hm ▸ .mk _ _ _ _ _ hT hTs hw
/-- what a call leaves, and what an int's giving leaves -/
inductive WkP (h h' : Heap) (r : Value) (t : T) : Prop
  | mk (n : T) (ht : TermAt h' r n) (hr : T.R t n) (hn : T.NF n) (hk : Kp h h')
theorem WkP.of {h h' : Heap} {r : Value} {t : T} (x : (∃ n, TermAt h' r n ∧ T.R t n ∧ T.NF n) ∧ Kp h h') : WkP h h' r t := by
  obtain ⟨⟨n, a, b, c⟩, d⟩ := x
  exact ⟨n, a, b, c, d⟩
section
variable (g : Heap) (rw' : List (Addr × Obj))
inductive TOne : List Value → List T → Prop
  | mk (v1 : Value) (t1 : T) (g1 : TermG g rw' v1 t1) : TOne [v1] [t1]
inductive TTwo : List Value → List T → Prop
  | mk (v1 : Value) (t1 : T) (v2 : Value) (t2 : T) (g1 : TermG g rw' v1 t1) (g2 : TermG g rw' v2 t2) : TTwo [v1, v2] [t1, t2]
inductive TThree : List Value → List T → Prop
  | mk (v1 : Value) (t1 : T) (v2 : Value) (t2 : T) (v3 : Value) (t3 : T) (g1 : TermG g rw' v1 t1) (g2 : TermG g rw' v2 t2) (g3 : TermG g rw' v3 t3) : TThree [v1, v2, v3] [t1, t2, t3]
end
section
variable {g h h' : Heap} {L' : Addr} {m : Str → Option Value} {rw' rw1 : List (Addr × Obj)} {vs : List Value} {ts : List T} {r r1 : Value} {t n1 : T} {P : Prop}
theorem TOne.of (x : TermsG g rw' vs ts) (h : ts.length = 1) : TOne g rw' vs ts := by
  obtain ⟨v1, t1, rfl, rfl, g1⟩ := x.one h
  exact ⟨_, _, g1⟩
theorem TTwo.of (x : TermsG g rw' vs ts) (h : ts.length = 2) : TTwo g rw' vs ts := by
  obtain ⟨v1, t1, v2, t2, rfl, rfl, g1, g2⟩ := x.two h
  exact ⟨_, _, _, _, g1, g2⟩
theorem TThree.of (x : TermsG g rw' vs ts) (h : ts.length = 3) : TThree g rw' vs ts := by
  obtain ⟨v1, t1, v2, t2, v3, t3, rfl, rfl, g1, g2, g3⟩ := x.three h
  exact ⟨_, _, _, _, _, _, g1, g2, g3⟩
theorem aftW1 (F : Fr g L' h m) (N : News g L' h []) (x : (∃ n, TermAt h' r n ∧ T.R t n ∧ T.NF n) ∧ Kp h h')
    (k : ∀ n rw2, Fr g L' h' m → News g L' h' rw2 → TupAll rw2 → TermG g rw2 r n → T.R t n → T.NF n → P) : P := by
  obtain ⟨⟨n, ht, hr, hn⟩, hk⟩ := x
  have F' := Kp.fr hk F
  obtain ⟨rw2, hrw, htu, htg⟩ := regrowT F' ht
  exact k n rw2 F' (addtail (Kp.news hk N) hrw) htu htg hr hn
theorem aftW2 (F : Fr g L' h m) (N : News g L' h rw1) (hU : TupAll rw1) (hG : TermG g rw1 r1 n1) (x : (∃ n, TermAt h' r n ∧ T.R t n ∧ T.NF n) ∧ Kp h h')
    (k : ∀ n rw2, Fr g L' h' m → News g L' h' rw2 → TupAll rw2 → TermG g rw2 r1 n1 → TermG g rw2 r n → T.R t n → T.NF n → P) : P := by
  obtain ⟨⟨n, ht, hr, hn⟩, hk⟩ := x
  have F' := Kp.fr hk F
  obtain ⟨rw2, hrw, htu, htg⟩ := regrowT F' ht
  exact k n (rw1 ++ rw2) F' (addtail (Kp.news hk N) hrw) (fun p hp => (List.mem_append.mp hp).elim (hU p) (htu p)) (TermG.mono (fun p hp => List.mem_append_left rw2 hp) hG) (TermG.mono (fun p hp => List.mem_append_right rw1 hp) htg) hr hn
end
theorem worked_spec {w : World} : ∀ (M : Nat) (t : T) (v : Value), M ≤ 60 → T.mu t ≤ M → T.S t ≤ 1 → Calls w 334 [v] [] (30 + M) (400 + 100 * M) [] (fun h => TermAt h v t) (fun h r h' => (∃ n, TermAt h' r n ∧ T.R t n ∧ T.NF n) ∧ Kp h h') := by
  intro M
  induction M with
  | zero => intro t v _ h0; have := T.mu_pos t; omega
  | succ M ih =>
    intro t v hM hmu hS
    cases t with
    | s q =>
      intro mean mg mb dp un gd cn cs a ccd cl outer A₀ base h₀ L m s Q E B F X Tt hk hd hu N pre ret
      revert X; k_fill; intro X
      obtain ⟨tk, rfl⟩ := pre
      have hq := chr_len q
      refine wpAny_call ?_
      k_dflt (refine' code_mine (binds := [(Str.ofString "term", .str (chr q) tk)]) ?k1 ?k2 ?k3 ?k4 ?k5 ?kA ?kF ?kK ?k6 ?k7 ?k8 ?k9 ?kB ?_ ?c5 ?c2 ?c3 ?c4; (case kA | kF => exact rfl); (case kK => assumption); (case k1 | k2 | k3 | k4 | k5 => k_asm); (case k6 | k7 => k_is); (case k8 => ktr_room); (case k9 => first | exact BindsTo.of_eq rfl | exact binds_K (by k_in) rfl (by k_is) rfl rfl rfl); (case c5 => decide); (case kB => exact locs rfl); (case c2 | c3 | c4 => exact rfl))
      intro P9 hP9
      walk_at "mine_start"
      replace ret := fun r h' tk' p => hP9 r _ (ret r h' tk' p)
      repeat walk_at "k_one"
      all_goals first | exact ret _ _ _ ⟨⟨.s q, ⟨_, rfl⟩, .refl _, fun u p => T.inv_s p⟩, by walk_at "mine_kp"⟩ | omega
    | a f x =>
      intro mean mg mb dp un gd cn cs a ccd cl outer A₀ base h₀ L m s Q E B F X Tt hk hd hu N pre ret
      revert X; k_fill; intro X
      obtain ⟨b, vf, vx, rfl, i1, pf, px⟩ := pre
      have hsum := @T.mu_sum f x
      have hpf := T.mu_pos f
      have hpx := T.mu_pos x
      have hSe : T.S (.a f x) = T.S f + T.S x := rfl
      refine wpAny_call ?_
      k_dflt (refine' code_mine (binds := [(Str.ofString "term", .ref b)]) ?k1 ?k2 ?k3 ?k4 ?k5 ?kA ?kF ?kK ?k6 ?k7 ?k8 ?k9 ?kB ?_ ?c5 ?c2 ?c3 ?c4; (case kA | kF => exact rfl); (case kK => assumption); (case k1 | k2 | k3 | k4 | k5 => k_asm); (case k6 | k7 => k_is); (case k8 => ktr_room); (case k9 => first | exact BindsTo.of_eq rfl | exact binds_K (by k_in) rfl (by k_is) rfl rfl rfl); (case c5 => decide); (case kB => exact locs rfl); (case c2 | c3 | c4 => exact rfl))
      intro P9 hP9
      intro g L' h₁ eL hg F' N' lN B' X' T'
      replace ret := fun r h' tk' p => hP9 r _ (ret r h' tk' p)
      (try dsimp only); (try k_fold)
      have kg : Kp s.heap g := fun b o e => hg b o e (fun h => nomatch h)
      have i2 := i1.keeps kg
      have pf2 := pf.kp kg
      have px2 := px.kp kg
      have i3 := i2.keeps F'.keep
      repeat walk_at "k_one"
      · rename (_ = (1 : Int)) => hz; exact absurd hz (by simp)
      repeat walk_at "k_one"
      unfold Hold
      (k_dflt refine' call_it (ih f vf (by omega) (by omega) (by omega)) ?k9 ?_)
      (case k9 => ((rename Fr _ _ _ _ => lF9); exact pf2.kp lF9.keep))
      intro r1 h7 tk7 hp7
      (rename Fr _ _ _ _ => lF9); (rename News _ _ _ _ => lN9)
      refine aftW1 lF9 lN9 hp7 ?_
      clear lF9 lN9 hp7
      intro n1 rw1 F' N2 htu1 htg1 hr1 hn1
      have i4 := i2.keeps F'.keep
      repeat walk_at "k_one"
      unfold Hold
      (k_dflt refine' call_it (ih x vx (by omega) (by omega) (by omega)) ?k9 ?_)
      (case k9 => ((rename Fr _ _ _ _ => lF9); exact px2.kp lF9.keep))
      intro r2 h6 tk6 hp6
      (rename Fr _ _ _ _ => lF9); (rename News _ _ _ _ => lN9)
      refine aftW2 lF9 lN9 htu1 htg1 hp6 ?_
      clear lF9 lN9 hp6 htu1 htg1
      intro n2 rw3 F' N2 htuA htg1 htg2 hr2 hn2
      repeat walk_at "k_one"
      unfold Hold
      (rename Fr _ _ _ _ => lF); (rename News _ _ _ _ => lN)
      obtain ⟨D9, l9, hlt9, hltA, lF, lN⟩ : ∃ (D l : Addr), @LT.lt Nat _ D l ∧ AllLt l rw3 ∧ (Fr g L' _ (wrkM b D l (.ref D))) ∧ News g L' _ ((l, listOf #[] 0) :: (D, ({ cls := .type "tuple", data := .seq #[r1, r2] } : Obj)) :: rw3) := by
        refine ⟨_, _, ?_, ?_, lF, lN⟩
        · exact And.left (by assumption)
        · exact And.right (by assumption)
      have tupT : TermG g ((D9, ({ cls := .type "tuple", data := .seq #[r1, r2] } : Obj)) :: rw3) (.ref D9) (.a n1 n2) := ⟨D9, r1, r2, rfl, .inr ⟨_, .head _, rfl, _, rfl⟩, TermG.mono (fun p hp => .tail _ hp) htg1, TermG.mono (fun p hp => .tail _ hp) htg2⟩
      have htuB : TupAll ((D9, ({ cls := .type "tuple", data := .seq #[r1, r2] } : Obj)) :: rw3) := fun p hp => (List.mem_cons.mp hp).elim (fun e => e ▸ ⟨rfl, _, _, rfl⟩) (htuA p)
      generalize ((D9, ({ cls := .type "tuple", data := .seq #[r1, r2] } : Obj)) :: rw3) = rwB at lN tupT htuB
      refine While_inv2 (WrkJ g b D9 l9 rwB (.a n1 n2)) lF lN (.mk _ _ _ _ _ tupT .nil rfl) ?_
      clear lF lN
      rintro n m9 news9 h9 tk9 F9 N9 ⟨hv, t', vs, ts, k, hT, hTs, hw⟩
      have hLw : T.L (T.a n1 n2) ≤ 61 := by
        have m1 := T.L_mu (.a n1 n2)
        have m2 := (T.mu_r (T.R.app hr1 hr2) hS).2
        omega
      have hlen := hTs.length
      have hfl := T.fold_L ts t'
      rw [← hw] at hfl
      have hvz : vs.length ≤ 900 := by omega
      have hvs : vs.toArray.size ≤ 1000 := by rw [List.size_toArray]; omega
      cases t' with
      | s q =>
        obtain ⟨tq, rfl⟩ := hT
        have hq := chr_len q
        obtain ⟨hnf, hle, hne⟩ := T.worked_fold hn1 hn2 (by omega) hw
        have hRR := T.R.app hr1 hr2
        obtain ⟨hS2, hmu2⟩ := T.mu_r hRR hS
        by_cases hc : ts.length = T.want q
        · cases q
          case pl => exact absurd hc (by have e : T.want .pl = 99 := rfl; omega)
          case mi => exact absurd hc (by have e : T.want .mi = 99 := rfl; omega)
          case bar => exact absurd hc (by have e : T.want .bar = 99 := rfl; omega)
          case eq =>
            obtain ⟨v1, t1, g1⟩ := TOne.of hTs hc
            clear hTs hvs
            dsimp only [chr] at F9
            repeat walk_at "k_one"
            unfold Hold
            (k_dflt refine' call_it (want_at .eq (k := 1) rfl rfl) ?k9 ?_)
            (case k9 => exact trivial)
            intro r' h' tk' hp'
            obtain ⟨tk9, hk9⟩ := KI.of hp'
            walk_at "mine_kpE"
            k_steps
            (rename Fr _ _ _ _ => lF9); (rename News _ _ _ _ => lN9)
            exact ret _ _ _ ⟨⟨t1, TermG.at lF9 lN9 (by walk_at "mine_tl") g1, hRR.trans (hw ▸ .one (.eq (.refl _))), hnf _ (.head _)⟩, by walk_at "mine_kp"⟩
          case sl =>
            obtain ⟨v1, t1, v2, t2, g1, g2⟩ := TTwo.of hTs hc
            clear hTs hvs
            dsimp only [chr] at F9
            repeat walk_at "k_one"
            unfold Hold
            (k_dflt refine' call_it (want_at .sl (k := 2) rfl rfl) ?k9 ?_)
            (case k9 => exact trivial)
            intro r' h' tk' hp'
            obtain ⟨tk9, hk9⟩ := KI.of hp'
            walk_at "mine_kpE"
            k_steps
            (rename Fr _ _ _ _ => lF9); (rename News _ _ _ _ => lN9)
            exact ret _ _ _ ⟨⟨t1, TermG.at lF9 lN9 (by walk_at "mine_tl") g1, hRR.trans (hw ▸ .head (.sl (.refl _)) (.one (.eq (.refl _)))), hnf _ (.head _)⟩, by walk_at "mine_kp"⟩
          all_goals (obtain ⟨v1, t1, v2, t2, v3, t3, g1, g2, g3⟩ := TThree.of hTs hc)
          all_goals clear hTs hvs
          all_goals dsimp only [chr] at F9
          case dot =>
            have hp : T.Par (T.a n1 n2) (.a t1 (.a t2 t3)) := hw ▸ .dot (.refl _) (.refl _) (.refl _)
            have hmm : T.mu (.a t1 (.a t2 t3)) < T.mu (T.a n1 n2) := hw ▸ T.mu_dot (by rw [hw] at hS2; exact Nat.le_trans hS2 hS)
            have hss := (T.mu_par hp (by omega)).1
            repeat walk_at "k_one"
            unfold Hold
            (k_dflt refine' call_it (want_at .dot (k := 3) rfl rfl) ?k9 ?_)
            (case k9 => exact trivial)
            intro r' h' tk' hp'
            obtain ⟨tk9, hk9⟩ := KI.of hp'
            walk_at "mine_kpE"
            k_steps
            unfold Hold
            (k_dflt refine' call_it (ih (.a t1 (.a t2 t3)) _ (by omega) (by omega) (by omega)) ?k9 ?_)
            (case k9 => ((rename Fr _ _ _ _ => lF9); (rename News _ _ _ _ => lN9); exact ⟨_, _, _, rfl, News.isTup lN9 (by k_mem), TermG.at lF9 lN9 (by walk_at "mine_tl") g1, _, _, _, rfl, News.isTup lN9 (by k_mem), TermG.at lF9 lN9 (by walk_at "mine_tl") g2, TermG.at lF9 lN9 (by walk_at "mine_tl") g3⟩))
            intro r8 h8 tk8 hp8
            obtain ⟨n8, ht8, hr8, hn8, hk8⟩ := WkP.of hp8
            (rename Fr _ _ _ _ => lF9)
            have kb := kp_of hg (Kp.fr hk8 lF9)
            exact ret _ _ _ ⟨⟨n8, ht8, hRR.trans (.head hp hr8), hn8⟩, kb⟩
          case col =>
            have hp : T.Par (T.a n1 n2) (.a (.a t1 t3) t2) := hw ▸ .col (.refl _) (.refl _) (.refl _)
            have hmm : T.mu (.a (.a t1 t3) t2) < T.mu (T.a n1 n2) := hw ▸ T.mu_col (by rw [hw] at hS2; exact Nat.le_trans hS2 hS)
            have hss := (T.mu_par hp (by omega)).1
            repeat walk_at "k_one"
            unfold Hold
            (k_dflt refine' call_it (want_at .col (k := 3) rfl rfl) ?k9 ?_)
            (case k9 => exact trivial)
            intro r' h' tk' hp'
            obtain ⟨tk9, hk9⟩ := KI.of hp'
            walk_at "mine_kpE"
            k_steps
            unfold Hold
            (k_dflt refine' call_it (ih (.a (.a t1 t3) t2) _ (by omega) (by omega) (by omega)) ?k9 ?_)
            (case k9 => ((rename Fr _ _ _ _ => lF9); (rename News _ _ _ _ => lN9); exact ⟨_, _, _, rfl, News.isTup lN9 (by k_mem), ⟨_, _, _, rfl, News.isTup lN9 (by k_mem), TermG.at lF9 lN9 (by walk_at "mine_tl") g1, TermG.at lF9 lN9 (by walk_at "mine_tl") g3⟩, TermG.at lF9 lN9 (by walk_at "mine_tl") g2⟩))
            intro r8 h8 tk8 hp8
            obtain ⟨n8, ht8, hr8, hn8, hk8⟩ := WkP.of hp8
            (rename Fr _ _ _ _ => lF9)
            have kb := kp_of hg (Kp.fr hk8 lF9)
            exact ret _ _ _ ⟨⟨n8, ht8, hRR.trans (.head hp hr8), hn8⟩, kb⟩
          case st =>
            have hp : T.Par (T.a n1 n2) (.a (.a t1 t3) (.a t2 t3)) := hw ▸ .st (.refl _) (.refl _) (.refl _)
            have hmm : T.mu (.a (.a t1 t3) (.a t2 t3)) < T.mu (T.a n1 n2) := hw ▸ T.mu_st (by rw [hw] at hS2; exact Nat.le_trans hS2 hS)
            have hss := (T.mu_par hp (by omega)).1
            repeat walk_at "k_one"
            unfold Hold
            (k_dflt refine' call_it (want_at .st (k := 3) rfl rfl) ?k9 ?_)
            (case k9 => exact trivial)
            intro r' h' tk' hp'
            obtain ⟨tk9, hk9⟩ := KI.of hp'
            walk_at "mine_kpE"
            k_steps
            unfold Hold
            (k_dflt refine' call_it (ih (.a (.a t1 t3) (.a t2 t3)) _ (by omega) (by omega) (by omega)) ?k9 ?_)
            (case k9 => ((rename Fr _ _ _ _ => lF9); (rename News _ _ _ _ => lN9); exact ⟨_, _, _, rfl, News.isTup lN9 (by k_mem), ⟨_, _, _, rfl, News.isTup lN9 (by k_mem), TermG.at lF9 lN9 (by walk_at "mine_tl") g1, TermG.at lF9 lN9 (by walk_at "mine_tl") g3⟩, ⟨_, _, _, rfl, News.isTup lN9 (by k_mem), TermG.at lF9 lN9 (by walk_at "mine_tl") g2, TermG.at lF9 lN9 (by walk_at "mine_tl") g3⟩⟩))
            intro r8 h8 tk8 hp8
            obtain ⟨n8, ht8, hr8, hn8, hk8⟩ := WkP.of hp8
            (rename Fr _ _ _ _ => lF9)
            have kb := kp_of hg (Kp.fr hk8 lF9)
            exact ret _ _ _ ⟨⟨n8, ht8, hRR.trans (.head hp hr8), hn8⟩, kb⟩
        · have hcc : ¬ ((vs.toArray.size : Nat) : Int) = ((T.want q : Nat) : Int) := by rw [List.size_toArray, hlen]; omega
          repeat walk_at "k_one"
          unfold Hold
          (k_dflt refine' call_it (want_spec _) ?k9 ?_)
          (case k9 => exact trivial)
          intro r' h' tk' hp'
          obtain ⟨tk9, hk9⟩ := KI.of hp'
          walk_at "mine_kpE"
          k_steps
          all_goals (try (exact absurd (by with_reducible assumption) hcc))
          all_goals (rename Fr _ _ _ _ => lF9)
          all_goals (rename News _ _ _ _ => lN9)
          all_goals (exact ret _ _ _ ⟨⟨.a n1 n2, TermG.at lF9 lN9 (by walk_at "mine_tl") tupT, hRR, hne hc⟩, by walk_at "mine_kp"⟩)
      | a f' x' =>
        obtain ⟨b', vf', vx', rfl, hU, pf9, px9⟩ := hT
        have i9 := hU.at F9 N9 (by walk_at "mine_tl")
        have hs2 : (((#[vf', vx'] : Array Value).size : Nat) : Int) = 2 := rfl
        k_steps
        (rename Fr _ _ _ _ => lF9); (rename News _ _ _ _ => lN9)
        refine ws2 lF9 lN9 (Nat.lt_add_of_pos_right (T.L_pos x')) (WrkJ.mk' (vs := vx' :: vs) (k := k + 1) ?_ pf9 (.cons px9 hTs) hw)
        funext y
        show (if y = Str.ofString "head" then some vf' else wrkM b D9 l9 (Value.ref b') y) = wrkM b D9 l9 vf' y
        unfold wrkM
        by_cases h1 : y = Str.ofString "head"
        · have h2 : ¬ y = Str.ofString "things" := by rw [h1]; decide +kernel
          rw [if_pos h1, if_neg h2, if_pos h1]
        · rw [if_neg h1, if_neg h1, if_neg h1]
end
section
open PySem PySem.W PySem.Spec PySem.Calls PyProof.Rows
set_option Elab.async false
set_option maxRecDepth 100000
set_option maxHeartbeats 0
local macro_rules | `(tactic| walk_at "exec For") => `(tactic| (refine unhold ?_))
local macro_rules | `(tactic| walk_at "exec For Name Name cons nil") => `(tactic| (refine unhold ?_))
local macro_rules | `(tactic| walk_at "exec For Name Subscript cons nil") => `(tactic| (refine unhold ?_))
local macro_rules | `(tactic| walk_at "subscriptTail") => `(tactic| ((with_reducible show wpAny _ _ (subscriptTail _ _ (Value.str _ _) (Value.int _ _)) _ _ _); refine unhold ?_))
local macro_rules | `(tactic| walk_at "subscriptTail") => `(tactic| ((with_reducible show wpAny _ _ (subscriptTail _ _ (Value.ref _) (Value.int _ _)) _ _ _); refine unhold ?_))
local macro_rules | `(tactic| walk_at "setItem ref ref") => `(tactic| (refine unhold ?_))
theorem sg_item {i : Int} (h0 : 0 ≤ i) (h1 : i < 8) : ∃ q, Txt.item (Str.ofString "=/.:+-|*") i = chr q := by
  obtain ⟨n, rfl⟩ := Int.eq_ofNat_of_zero_le h0
  have hn : n < 8 := by omega
  match n, hn with
  | 0, _ => exact ⟨.eq, by decide +kernel⟩
  | 1, _ => exact ⟨.sl, by decide +kernel⟩
  | 2, _ => exact ⟨.dot, by decide +kernel⟩
  | 3, _ => exact ⟨.col, by decide +kernel⟩
  | 4, _ => exact ⟨.pl, by decide +kernel⟩
  | 5, _ => exact ⟨.mi, by decide +kernel⟩
  | 6, _ => exact ⟨.bar, by decide +kernel⟩
  | 7, _ => exact ⟨.st, by decide +kernel⟩
noncomputable abbrev drM (lt l : Addr) (u : Str → Option Value) : Str → Option Value := fun y => if y = Str.ofString "terms" then some (.ref lt) else if y = Str.ofString "numbers" then some (.ref l) else u y
theorem drM_of {lt l : Addr} {m : Str → Option Value} (h1 : m (Str.ofString "terms") = some (.ref lt)) (h2 : m (Str.ofString "numbers") = some (.ref l)) : m = drM lt l m := by
  funext y
  unfold drM
  by_cases e1 : y = Str.ofString "terms"
  · rw [if_pos e1, e1, h1]
  · rw [if_neg e1]
    by_cases e2 : y = Str.ofString "numbers"
    · rw [if_pos e2, e2, h2]
    · rw [if_neg e2]
/-- so many stars among the signs -/
noncomputable def stars : List Sg → Nat | [] => 0 | q :: r => (if q = .st then 1 else 0) + stars r
inductive DrJ (l lt : Addr) (vs0 : List Value) (n0 : Nat) (vs : List Value) : (Str → Option Value) → List (Addr × Obj) → Prop
  | mk (qs : List Sg) (tvs : List Value) (k : Nat) (u : Str → Option Value) (ns : List Int) (hT : StrsAre tvs (qs.map chr)) (hlen : qs.length + vs.length = vs0.length) (hst : stars qs ≤ 1) (hI : IntsAre vs ns) : DrJ l lt vs0 n0 vs (drM lt l u) [(lt, listOf tvs.toArray k), (l, listOf vs0.toArray n0)]
theorem DrJ.mk' {l lt : Addr} {vs0 : List Value} {n0 : Nat} {vs : List Value} {m : Str → Option Value} {qs : List Sg} {tvs : List Value} {k : Nat} {ns : List Int} (hm : m = drM lt l m) (hT : StrsAre tvs (qs.map chr)) (hlen : qs.length + vs.length = vs0.length) (hst : stars qs ≤ 1) (hI : IntsAre vs ns) :
    DrJ l lt vs0 n0 vs m [(lt, listOf tvs.toArray k), (l, listOf vs0.toArray n0)] := by
  rw [hm]
  exact .mk _ _ _ _ _ hT hlen hst hI
theorem strs_snoc : ∀ {vs : List Value} {ys : List Str} (y : Str) (t : Tok), StrsAre vs ys → StrsAre (vs ++ [.str y t]) (ys ++ [y])
  | _, _, y, t, .nil => .cons y t .nil
  | _, _, y, t, .cons x u h => .cons x u (strs_snoc y t h)
theorem stars_snoc (q : Sg) : ∀ qs, stars (qs ++ [q]) = stars qs + (if q = .st then 1 else 0)
  | [] => by simp [stars]
  | x :: r => by simp only [List.cons_append, stars, stars_snoc q r]; omega
theorem stars_mem : ∀ {qs}, ((qs.map chr).any fun x => x == chr .st) = false → stars qs = 0
  | [], _ => rfl
  | x :: r, h => by
    rw [List.map_cons, List.any_cons, Bool.or_eq_false_iff] at h
    show (if x = .st then 1 else 0) + stars r = 0
    rw [stars_mem h.2, if_neg]
    rintro rfl
    simp at h
theorem DrJ.snoc {l lt : Addr} {vs0 r tvs : List Value} {n0 k : Nat} {qs : List Sg} {ns : List Int} {m : Str → Option Value} {x : Str} {tk : Tok} (q : Sg) (hT : StrsAre tvs (qs.map chr)) (hl : qs.length + (r.length + 1) = vs0.length) (hI : IntsAre r ns) (hs : stars (qs ++ [q]) ≤ 1) (hx : chr q = x)
    (h1 : m (Str.ofString "terms") = some (.ref lt)) (h2 : m (Str.ofString "numbers") = some (.ref l)) : DrJ l lt vs0 n0 r m [(lt, listOf (tvs.toArray.push (.str x tk)) (k + 1)), (l, listOf vs0.toArray n0)] := by
  subst hx
  rw [List.push_toArray]
  refine DrJ.mk' (qs := qs ++ [q]) (tvs := tvs ++ [.str (chr q) tk]) (ns := ns) (drM_of h1 h2) (by rw [List.map_append]; exact strs_snoc _ _ hT) ?_ hs hI
  rw [List.length_append, List.length_singleton]; omega
noncomputable def Lsum : List T → Nat | [] => 0 | x :: r => T.L x + Lsum r
theorem TermsG.leaves {g : Heap} : ∀ {tvs : List Value} {qs : List Sg}, StrsAre tvs (qs.map chr) → TermsG g [] tvs (qs.map T.s)
  | _, [], h => by cases h; exact .nil
  | _, q :: r, h => by
    cases h with
    | cons _ t h => exact .cons ⟨t, rfl⟩ (TermsG.leaves h)
theorem leaves_sum : ∀ qs : List Sg, Lsum (qs.map T.s) = qs.length ∧ T.Ssum (qs.map T.s) = stars qs
  | [] => ⟨rfl, rfl⟩
  | q :: r => by
    obtain ⟨h1, h2⟩ := leaves_sum r
    refine ⟨?_, ?_⟩
    · show 1 + Lsum (r.map T.s) = r.length + 1
      omega
    · show T.S (.s q) + T.Ssum (r.map T.s) = (if q = .st then 1 else 0) + stars r
      rw [h2]
      cases q <;> rfl
theorem Lsum_append : ∀ (xs ys : List T), Lsum (xs ++ ys) = Lsum xs + Lsum ys
  | [], _ => by simp [Lsum]
  | x :: r, ys => by simp only [List.cons_append, Lsum, Lsum_append r ys]; omega
theorem TermsG.mono {g : Heap} {rw1 rw2 : List (Addr × Obj)} (hs : ∀ p ∈ rw1, p ∈ rw2) {vs : List Value} {ts : List T} (x : TermsG g rw1 vs ts) : TermsG g rw2 vs ts := by
  induction x with
  | nil => exact .nil
  | cons a _ ih => exact .cons (TermG.mono hs a) ih
/-- two neighbours joined -/
theorem TermsG.join {g : Heap} {rw1 : List (Addr × Obj)} : ∀ {k : Nat} {vs : List Value} {ts : List T}, TermsG g rw1 vs ts → k + 1 < vs.length →
    ∃ v1 v2 t1 t2, vs[k]? = some v1 ∧ vs[k + 1]? = some v2 ∧ TermG g rw1 v1 t1 ∧ TermG g rw1 v2 t2 ∧ ∀ rw2, (∀ p ∈ rw1, p ∈ rw2) → ∀ v, TermG g rw2 v (.a t1 t2) →
      ∃ ts', TermsG g rw2 (vs.take k ++ [v] ++ vs.drop (k + 2)) ts' ∧ ts'.length + 1 = ts.length ∧ Lsum ts' = Lsum ts ∧ T.Ssum ts' = T.Ssum ts := by
  intro k
  induction k with
  | zero =>
    intro vs ts h hk
    cases h with
    | nil => exact absurd hk (by simp)
    | @cons v1 t1 _ _ a b =>
    cases b with
    | nil => exact absurd hk (by simp)
    | @cons v2 t2 vs ts c d =>
    refine ⟨v1, v2, t1, t2, rfl, rfl, a, c, fun rw2 hs v hv => ⟨.a t1 t2 :: ts, .cons hv (d.mono hs), rfl, ?_, ?_⟩⟩
    · show T.L t1 + T.L t2 + Lsum ts = T.L t1 + (T.L t2 + Lsum ts)
      omega
    · show T.S t1 + T.S t2 + T.Ssum ts = T.S t1 + (T.S t2 + T.Ssum ts)
      omega
  | succ k ih =>
    intro vs ts h hk
    cases h with
    | nil => exact absurd hk (by simp)
    | @cons v0 t0 vs ts a b =>
    obtain ⟨v1, v2, t1, t2, e1, e2, g1, g2, hj⟩ := ih b (by rw [List.length_cons] at hk; omega)
    refine ⟨v1, v2, t1, t2, e1, e2, g1, g2, fun rw2 hs v hv => ?_⟩
    obtain ⟨ts', q1, q2, q3, q4⟩ := hj rw2 hs v hv
    refine ⟨t0 :: ts', .cons (TermG.mono hs a) q1, by rw [List.length_cons, List.length_cons, q2], ?_, ?_⟩
    · show T.L t0 + Lsum ts' = T.L t0 + Lsum ts
      rw [q3]
    · show T.S t0 + T.Ssum ts' = T.S t0 + T.Ssum ts
      rw [q4]
inductive JoinP (g : Heap) (rw1 : List (Addr × Obj)) (k : Nat) (vs : List Value) (ts : List T) : Prop
  | mk (v1 v2 : Value) (t1 t2 : T) (hv1 : vs[k]? = some v1) (hv2 : vs[k + 1]? = some v2) (g1 : TermG g rw1 v1 t1) (g2 : TermG g rw1 v2 t2) (hj : ∀ rw2, (∀ p ∈ rw1, p ∈ rw2) → ∀ v, TermG g rw2 v (.a t1 t2) →
      ∃ ts', TermsG g rw2 (vs.take k ++ [v] ++ vs.drop (k + 2)) ts' ∧ ts'.length + 1 = ts.length ∧ Lsum ts' = Lsum ts ∧ T.Ssum ts' = T.Ssum ts) : JoinP g rw1 k vs ts
theorem JoinP.of {g : Heap} {rw1 : List (Addr × Obj)} {k : Nat} {vs : List Value} {ts : List T} (x : TermsG g rw1 vs ts) (hk : k + 1 < vs.length) : JoinP g rw1 k vs ts := by
  obtain ⟨v1, v2, t1, t2, a, b, c, d, e⟩ := x.join hk
  exact ⟨v1, v2, t1, t2, a, b, c, d, e⟩
inductive FoJ (g : Heap) (l lt ls : Addr) (vs0 ws0 : List Value) (n0 : Nat) (r : List Value) : (Str → Option Value) → List (Addr × Obj) → Prop
  | mk (tvs : List Value) (ts : List T) (k : Nat) (u : Str → Option Value) (ns : List Int) (rw1 : List (Addr × Obj)) (hT : TermsG g rw1 tvs ts) (hlen : ts.length = r.length + 1) (hL : Lsum ts = 7) (hS : T.Ssum ts ≤ 1) (hI : IntsAre r ns) (hU : TupAll rw1) :
    FoJ g l lt ls vs0 ws0 n0 r (drM lt l u) ((ls, listOf ws0.toArray 0) :: (lt, listOf tvs.toArray k) :: (l, listOf vs0.toArray n0) :: rw1)
theorem FoJ.mk' {g : Heap} {l lt ls : Addr} {vs0 ws0 : List Value} {n0 : Nat} {r : List Value} {m : Str → Option Value} {tvs : List Value} {ts : List T} {k : Nat} {ns : List Int} {rw1 : List (Addr × Obj)} (hm : m = drM lt l m) (hT : TermsG g rw1 tvs ts) (hlen : ts.length = r.length + 1) (hL : Lsum ts = 7) (hS : T.Ssum ts ≤ 1) (hI : IntsAre r ns) (hU : TupAll rw1) :
    FoJ g l lt ls vs0 ws0 n0 r m ((ls, listOf ws0.toArray 0) :: (lt, listOf tvs.toArray k) :: (l, listOf vs0.toArray n0) :: rw1) := by
  rw [hm]
  exact .mk _ _ _ _ _ _ hT hlen hL hS hI hU
theorem tup_add {rw1 : List (Addr × Obj)} {p : Addr × Obj} (h : TupAll rw1) (hp : TupOk p.2) : TupAll (rw1 ++ [p]) := fun q hq => by
  rcases List.mem_append.mp hq with z | z
  · exact h q z
  · rw [List.mem_singleton.mp z]; exact hp
theorem off_tail {g h : Heap} {L I : Addr} {x4 x5 x6 : Addr × Obj} {o : Obj} {rw2 : List (Addr × Obj)} (N : News g L h ((I, o) :: x4 :: x5 :: x6 :: rw2)) (hc : o.cls = .type "list_iterator") (hU : TupAll rw2) (l : x4.1 < I ∧ x5.1 < I ∧ x6.1 < I) : ∀ p ∈ x4 :: x5 :: x6 :: rw2, ∀ q ∈ [(I, o)], p.1 ≠ q.1 := by
  intro p hp q hq
  rw [List.mem_singleton.mp hq]
  rcases List.mem_cons.mp hp with rfl | hp
  · exact Nat.ne_of_lt l.1
  rcases List.mem_cons.mp hp with rfl | hp
  · exact Nat.ne_of_lt l.2.1
  rcases List.mem_cons.mp hp with rfl | hp
  · exact Nat.ne_of_lt l.2.2
  · exact tail_ne N (.head _) (by rw [hc]; rfl) (fun p hp => .tail _ (.tail _ (.tail _ (.tail _ hp)))) hU p hp
theorem fo_turn {P : Prop} {g h : Heap} {L D lt : Addr} {x1 x3 x4 x6 : Addr × Obj} {rw1 : List (Addr × Obj)} {tvs : List Value} {v1 v2 : Value} {t1 t2 : T} {ts : List T} {kk k2 : Nat}
    (N : News g L h (x1 :: (D, ({ cls := .type "tuple", data := .seq #[v1, v2] } : Obj)) :: x3 :: x4 :: (lt, listOf (tvs.take kk ++ [Value.ref D] ++ tvs.drop (kk + 2)).toArray k2) :: x6 :: rw1)) (hU : TupAll rw1) (g1 : TermG g rw1 v1 t1) (g2 : TermG g rw1 v2 t2)
    (hj : ∀ rw2, (∀ p ∈ rw1, p ∈ rw2) → ∀ v, TermG g rw2 v (.a t1 t2) → ∃ ts', TermsG g rw2 (tvs.take kk ++ [v] ++ tvs.drop (kk + 2)) ts' ∧ ts'.length + 1 = ts.length ∧ Lsum ts' = Lsum ts ∧ T.Ssum ts' = T.Ssum ts)
    (kx : ∀ rw2 ts', News g L h (x3 :: x4 :: (lt, listOf (tvs.take kk ++ [Value.ref D] ++ tvs.drop (kk + 2)).toArray k2) :: x6 :: rw2) → TupAll rw2 → TermsG g rw2 (tvs.take kk ++ [Value.ref D] ++ tvs.drop (kk + 2)) ts' → ts'.length + 1 = ts.length → Lsum ts' = Lsum ts → T.Ssum ts' = T.Ssum ts → P) : P := by
  have hs : ∀ p ∈ rw1, p ∈ rw1 ++ [(D, ({ cls := .type "tuple", data := .seq #[v1, v2] } : Obj))] := fun p hp => List.mem_append_left _ hp
  obtain ⟨ts', q1, q2, q3, q4⟩ := hj _ hs (Value.ref D) ⟨D, v1, v2, rfl, .inr ⟨_, List.mem_append_right _ (.head _), rfl, _, rfl⟩, TermG.mono hs g1, TermG.mono hs g2⟩
  refine kx _ ts' (News.sub N fun p hp => ?_) (tup_add hU ⟨rfl, _, _, rfl⟩) q1 q2 q3 q4
  simp only [List.mem_cons, List.mem_append, List.not_mem_nil, or_false] at hp ⊢
  rcases hp with h | h | h | h | h | h
  all_goals simp [h]
theorem drawn_spec {w : World} {l : Addr} {vs : List Value} {n : Nat} {ns : List Int} (hi : IntsAre vs ns) (hl : vs.length = 7) : Calls w 296 [.ref l] [] 20 400 [(l, listOf vs.toArray n)] (fun _ => True) (fun h r h' => (∃ t, TermAt h' r t ∧ T.L t = 7 ∧ T.S t ≤ 1) ∧ Kp h h') := by
  intro mean mg mb dp un gd cn cs a ccd cl outer A₀ base h₀ L m s Q E B F X Tt hk hd hu N pre ret
  revert X; k_fill; intro X
  refine wpAny_call ?_
  k_dflt (refine' code_mine (binds := [(Str.ofString "numbers", .ref l)]) ?k1 ?k2 ?k3 ?k4 ?k5 ?kA ?kF ?kK ?k6 ?k7 ?k8 ?k9 ?kB ?_ ?c5 ?c2 ?c3 ?c4; (case kA | kF => exact rfl); (case kK => assumption); (case k1 | k2 | k3 | k4 | k5 => k_asm); (case k6 | k7 => k_is); (case k8 => ktr_room); (case k9 => first | exact BindsTo.of_eq rfl | exact binds_K (by k_in) rfl (by k_is) rfl rfl rfl); (case c5 => decide); (case kB => exact locs rfl); (case c2 | c3 | c4 => exact rfl))
  intro P9 hP9
  intro g L' h₁ eL hg F' N' lN B' X' T'
  replace ret := fun r h' tk' p => hP9 r _ (ret r h' tk' p)
  (try dsimp only); (try k_fold)
  repeat walk_at "k_one"
  unfold Hold
  (rename Fr _ _ _ _ => lF)
  refine For_turns lF ?_
  walk_at "k_one"
  (rename Fr _ _ _ _ => lF); (rename News _ _ _ _ => lN)
  refine iter_listTurns (lo := listOf vs.toArray n) (vs := vs) (by rfl) lF lN (by k_mem) rfl rfl ?_
  intro I lI
  k_lt lI
  refine items_inv (J := DrJ l _ vs n) ?_ ?_ vs _ _ (DrJ.mk' (qs := []) (tvs := []) (k := 0) (drM_of rfl rfl) .nil (by simp) (by decide) hi)
  · rintro v' r m' n' ⟨qs, tvs, k, u, ns', hT, hlen, hst, hI⟩ h9 tk9 F9
    cases hI with
    | @cons i ti _ ns'' hI =>
    have hm0 := Int.fmod_nonneg_of_pos i (show (0 : Int) < 8 by decide)
    have hm1 := Int.fmod_lt_of_pos i (show (0 : Int) < 8 by decide)
    obtain ⟨q, hq⟩ := sg_item hm0 hm1
    clear lF lN
    have hz : tvs.length ≤ 900 := by rw [hT.length, List.length_map]; omega
    ktu_objs
    repeat walk_at "k_one"
    unfold Hold
    refine KXi.item (n := 8) (by decide +kernel) (by omega) (by omega) (by decide) ?_
    intro _
    rw [hq]
    clear hm0 hm1 hq
    have hq := chr_len q
    k_steps
    · exact DrJ.snoc .pl hT hlen hI (by rw [stars_snoc]; exact hst) rfl rfl rfl
    · refine DrJ.snoc q hT hlen hI ?_ rfl rfl rfl
      have h8 : (chr q == Str.ofString "*") = false := by with_reducible assumption
      rw [stars_snoc, if_neg (by rintro rfl; exact absurd h8 (by decide +kernel))]
      exact hst
    · refine DrJ.snoc q hT hlen hI ?_ rfl rfl rfl
      have h8 : ((List.map chr qs).any fun x => x == chr q) = false := by with_reducible assumption
      rw [stars_snoc]
      by_cases e : q = .st
      · subst e
        rw [stars_mem h8, if_pos rfl]
        decide
      · rw [if_neg e]
        exact hst
  · rintro m' n' ⟨qs, tvs, k, u, ns', hT, hlen, hst, hI⟩ h9 tk9 F9 N9
    clear lF lN
    repeat walk_at "k_one"
    unfold Hold
    (rename Fr _ _ _ _ => lF)
    refine For_turns lF ?_
    repeat walk_at "k_one"
    (rename Fr _ _ _ _ => lF); (rename News _ _ _ _ => lN); (rename IntsAre _ (List.drop 1 ns) => hIw)
    have hwl : (List.drop 1 ns).length = 6 := by rw [List.length_drop, ← hi.length, hl]
    have hwl2 := hIw.length
    obtain ⟨hs1, hs2⟩ := leaves_sum qs
    refine iter_listTurns (by rfl) lF lN (by k_mem) rfl rfl ?_
    intro I lI
    k_lt lI
    refine items_inv (J := FoJ g l _ _ vs _ n) ?_ ?_ _ _ _ (FoJ.mk' (rw1 := []) (drM_of rfl rfl) (TermsG.leaves hT) (by rw [List.length_map, hwl2, hwl]; simp at hlen; omega) (by rw [hs1]; simp at hlen; omega) (by rw [hs2]; exact hst) hIw (fun p hp => nomatch hp))
    · clear lF lN hT hlen hst hI hs1 hs2 hwl2 hwl
      rintro v' r m' n' ⟨tvs, ts, k, u, ns', rw1, hT, hlen, hL, hS, hI, hU⟩ h9 tk9 F9
      cases hI with
      | @cons i ti _ ns'' hI =>
      have htl := hT.length
      have hrl : r.length ≤ 6 := by
        have e1 : ∀ l : List T, l.length ≤ Lsum l := fun l => by
          induction l with
          | nil => exact Nat.le_refl _
          | cons x l ih => have := T.L_pos x; show l.length + 1 ≤ T.L x + Lsum l; omega
        have := e1 ts
        rw [hlen, List.length_cons] at this
        omega
      have hvs : tvs.toArray.size ≤ 1000 := by rw [List.size_toArray, htl, hlen, List.length_cons]; omega
      have hpos : 0 < ((tvs.toArray.size : Nat) : Int) - 1 := by rw [List.size_toArray, htl, hlen, List.length_cons]; omega
      have hpos2 : ((tvs.toArray.size : Nat) : Int) - 1 ≠ 0 := by omega
      obtain ⟨kk, hkk, hkl⟩ : ∃ kk : Nat, (i.fdiv 8).fmod (((tvs.toArray.size : Nat) : Int) - 1) = (kk : Int) ∧ kk + 1 < tvs.length := by
        have q1 := Int.fmod_nonneg_of_pos (i.fdiv 8) hpos
        have q2 := Int.fmod_lt_of_pos (i.fdiv 8) hpos
        refine ⟨((i.fdiv 8).fmod (((tvs.toArray.size : Nat) : Int) - 1)).toNat, by omega, ?_⟩
        rw [List.size_toArray] at q1 q2 ⊢
        omega
      have hkb : kk < 100 := by have e := hkl; rw [htl, hlen, List.length_cons] at e; omega
      have hk63 : (kk : Int) < 2 ^ 63 := by omega
      have hk64 : (kk : Int) + 1 < 2 ^ 63 := by omega
      obtain ⟨v1, v2, t1, t2, hv1, hv2, g1, g2, hj⟩ := JoinP.of hT hkl
      ktu_objs
      repeat walk_at "k_one"
      unfold Hold
      rw [hkk]
      refine item_list (x := v1) (by is_list) (Int.natCast_nonneg _) hk63 (by rw [Int.toNat_natCast, List.getElem?_toArray]; exact hv1) ?_
      repeat walk_at "k_one"
      unfold Hold
      rw [hkk]
      refine item_list (x := v2) (by is_list) (Int.natCast_nonneg (kk + 1)) hk64 (by rw [show ((kk : Int) + 1).toNat = kk + 1 by omega, List.getElem?_toArray]; exact hv2) ?_
      repeat walk_at "k_one"
      unfold Hold
      rw [hkk]
      (rename Fr _ _ _ _ => lF9); (rename News _ _ _ _ => lN9)
      refine' set_slice_K (lo := some (kk : Int)) (hi := some ((kk : Int) + 2)) (items := tvs.toArray) (new := #[?nw]) (nn := 0) (items' := (tvs.take kk ++ [?nw] ++ tvs.drop (kk + 2)).toArray) ?k1 ?k2 ?k3 ?k4 (.int _ _) (.int _ _) ?k5 (by omega) ?k6 (splice_two _ _ _ ?k7) rfl ?_
      (case k1 => exact lF9)
      (case k2 => exact lN9)
      (case k3 => exact List.Mem.head _)
      (case k4 => k_upd)
      (case k5 => ((rename (_ < _ ∧ _ < _ ∧ _ < _ ∧ _ < _ ∧ _ < _ ∧ AllLt _ _) => l1); exact Nat.ne_of_gt l1.2.2.2.1))
      (case k6 => exact Nat.le_of_ble_eq_true rfl)
      (case k7 => exact hkl)
      intro h8 F8 N8
      clear lF9 lN9
      refine fo_turn N8 hU g1 g2 hj ?_
      clear N8 hT hU g1 g2 hj
      intro rw2 ts2 N9 hU2 hT2 q1 q2 q3
      repeat walk_at "k_one"
      (rename Fr _ _ _ _ => lF9); (rename News _ _ _ _ => lN9)
      exact ⟨_, _, _, _, rfl, lF9, lN9, off_tail lN9 (by with_reducible assumption) hU2 lI, ⟨.head _, trivial⟩, FoJ.mk' (drM_of rfl rfl) hT2 (by rw [hlen] at q1; simpa using q1) (by rw [q2]; exact hL) (by rw [q3]; exact hS) hI hU2⟩
    · rintro m' n' ⟨tvs, ts, k, u, ns', rw1, hT, hlen, hL, hS, hI, hU⟩ h9 tk9 F9 N9
      obtain ⟨v1, t1, rfl, rfl, g1⟩ := hT.one hlen
      clear lF lN
      repeat walk_at "k_one"
      unfold Hold
      refine item_list (x := v1) (by is_list) (by decide) (by decide) rfl ?_
      repeat walk_at "k_one"
      (rename Fr _ _ _ _ => lF9); (rename News _ _ _ _ => lN9)
      exact ret _ _ _ ⟨⟨t1, TermG.at lF9 lN9 (by walk_at "mine_tl") g1, by simpa [Lsum] using hL, by simpa [T.Ssum] using hS⟩, by walk_at "mine_kph"⟩
end
section
open PySem PySem.W PySem.Spec PySem.Calls PyProof.Rows
set_option Elab.async false
set_option maxRecDepth 100000
set_option maxHeartbeats 0
namespace T
variable {tab tab1 : Tb} {A W : T} {psr : List Nat}
theorem Runs.wf {n : Nat} {X : T} {ps : List Nat} (h : Runs tab A tab1 n X ps W) : WF tab1 := h.2.2.2.2.1
theorem Runs.eq {p1 c1 x1 : Nat} (h : Runs tab A tab1 (code .eq) (s .eq) (p1 :: psr) W) (l1 : look tab1 p1 = some (c1, x1)) : ∃ X' W', Runs tab A tab1 x1 X' psr W' ∧ mu W' < mu W := by
  obtain ⟨X', W', st', r', hs', hm'⟩ := T.St.eq h.1 l1 h.2.2.1
  exact ⟨X', W', h.step st' r' hs' hm' (.refl _) h.wf (j := 0) rfl (by decide)⟩
theorem Runs.sl {p1 p2 c1 x1 c2 x2 : Nat} (h : Runs tab A tab1 (code .sl) (s .sl) (p1 :: p2 :: psr) W) (l1 : look tab1 p1 = some (c1, x1)) (l2 : look tab1 p2 = some (c2, x2)) :
    ∃ X' W', Runs tab A (sets tab1 p2 (code .eq) x1) p2 X' psr W' ∧ mu W' < mu W := by
  obtain ⟨⟨K', W', st', r', hs', hm'⟩, hle'⟩ := T.St.sl h.1 l1 l2 h.2.2.1
  exact ⟨K', W', h.step st' r' hs' hm' hle' (T.sets_wf h.wf l2 _ _) (j := 0) (T.sets_len h.wf l2 _ _) (by decide)⟩
theorem Runs.dot {p1 p2 p3 c1 x1 c2 x2 c3 x3 : Nat} (h : Runs tab A tab1 (code .dot) (s .dot) (p1 :: p2 :: p3 :: psr) W) (l1 : look tab1 p1 = some (c1, x1)) (l2 : look tab1 p2 = some (c2, x2)) (l3 : look tab1 p3 = some (c3, x3)) :
    ∃ X' W', Runs tab A (sets (laid tab1 x2 x3) p3 x1 (256 + tab1.length)) p3 X' psr W' ∧ mu W' < mu W := by
  obtain ⟨⟨K', W', st', r', hs', hm'⟩, hle', hwf', hlen'⟩ := T.St.dot h.wf h.1 l1 l2 l3 h.2.2.1
  exact ⟨K', W', h.step st' r' hs' hm' hle' hwf' hlen' (by decide)⟩
theorem Runs.col {p1 p2 p3 c1 x1 c2 x2 c3 x3 : Nat} (h : Runs tab A tab1 (code .col) (s .col) (p1 :: p2 :: p3 :: psr) W) (l1 : look tab1 p1 = some (c1, x1)) (l2 : look tab1 p2 = some (c2, x2)) (l3 : look tab1 p3 = some (c3, x3)) :
    ∃ X' W', Runs tab A (sets (laid tab1 x1 x3) p3 (256 + tab1.length) x2) p3 X' psr W' ∧ mu W' < mu W := by
  obtain ⟨⟨K', W', st', r', hs', hm'⟩, hle', hwf', hlen'⟩ := T.St.col h.wf h.1 l1 l2 l3 h.2.2.1
  exact ⟨K', W', h.step st' r' hs' hm' hle' hwf' hlen' (by decide)⟩
theorem Runs.st {p1 p2 p3 c1 x1 c2 x2 c3 x3 : Nat} (h : Runs tab A tab1 (code .st) (s .st) (p1 :: p2 :: p3 :: psr) W) (l1 : look tab1 p1 = some (c1, x1)) (l2 : look tab1 p2 = some (c2, x2)) (l3 : look tab1 p3 = some (c3, x3)) :
    ∃ X' W', Runs tab A (sets (laid (laid tab1 x1 x3) x2 x3) p3 (256 + tab1.length) (256 + (laid tab1 x1 x3).length)) p3 X' psr W' ∧ mu W' < mu W := by
  obtain ⟨⟨K', W', st', r', hs', hm'⟩, hle', hwf', hlen'⟩ := T.St.st h.wf h.1 l1 l2 l3 h.2.2.1
  exact ⟨K', W', h.step st' r' hs' hm' hle' hwf' hlen' (by decide)⟩
/-- what a number tells: a sign, or a call -/
inductive UnfC (tab1 : Tb) : Nat → T → Prop
  | leaf (q : Sg) : UnfC tab1 (code q) (s q)
  | node {n : Nat} {X : T} (c th : Nat) (h : 256 ≤ n) (hl : look tab1 n = some (c, th)) : UnfC tab1 n X
theorem Unf.c {n : Nat} {X : T} (h : Unf tab1 n X) : UnfC tab1 n X := by
  rcases h.cases' with ⟨q, rfl, rfl⟩ | ⟨c, th, C, A1, hp256, hlook, _, _, _⟩
  · exact .leaf q
  · exact .node c th hp256 hlook
end T
section
variable (tab : List Ent) (A : T) (tab1 : List Ent) (W : T) (psr : List Nat)
inductive EqIn : List Value → List Value → Prop
  | mk (p1 : Nat) (k1 : Tok) (x1 : Nat) (kx1 : Tok) (X' W' : T) (hr : T.Runs tab A tab1 x1 X' psr W') (hm : T.mu W' < T.mu W) : EqIn [.int ((p1 : Nat) : Int) k1] [.int ((x1 : Nat) : Int) kx1]
inductive SlIn : List Value → List Value → Prop
  | mk (p1 : Nat) (k1 : Tok) (p2 : Nat) (k2 : Tok) (x1 : Nat) (kx1 : Tok) (x2 : Nat) (kx2 : Tok) (X' W' : T) (hx1 : x1 < 1000000) (hp2 : p2 < 1000000) (hr : T.Runs tab A (T.sets tab1 p2 (T.code .eq) x1) p2 X' psr W') (hm : T.mu W' < T.mu W) :
    SlIn [.int ((p1 : Nat) : Int) k1, .int ((p2 : Nat) : Int) k2] [.int ((x1 : Nat) : Int) kx1, .int ((x2 : Nat) : Int) kx2]
inductive ThIn (f : Nat → Nat → Nat → Nat → List Ent) : List Value → List Value → Prop
  | mk (p1 : Nat) (k1 : Tok) (p2 : Nat) (k2 : Tok) (p3 : Nat) (k3 : Tok) (x1 : Nat) (kx1 : Tok) (x2 : Nat) (kx2 : Tok) (x3 : Nat) (kx3 : Tok) (X' W' : T) (hx1 : x1 < 1000000) (hx2 : x2 < 1000000) (hx3 : x3 < 1000000) (hp3 : p3 < 1000000)
      (hr : T.Runs tab A (f x1 x2 x3 p3) p3 X' psr W') (hm : T.mu W' < T.mu W) :
    ThIn f [.int ((p1 : Nat) : Int) k1, .int ((p2 : Nat) : Int) k2, .int ((p3 : Nat) : Int) k3] [.int ((x1 : Nat) : Int) kx1, .int ((x2 : Nat) : Int) kx2, .int ((x3 : Nat) : Int) kx3]
end
section
variable {tab : List Ent} {A : T} {tab1 : List Ent} {W : T} {ps1 taken psr ths : List Nat} {ys zs : List Value}
theorem EqIn.of (hR : T.Runs tab A tab1 (T.code .eq) (.s .eq) ps1 W) (ep : ps1 = taken ++ psr) (el : taken.length = 1) (hys : NumsAre ys taken) (hlk : LooksTo tab1 taken ths) (hzs : NumsAre zs ths) : EqIn tab A tab1 W psr ys zs := by
  obtain ⟨p1, k1, rfl, rfl⟩ := hys.one el
  obtain ⟨c1, x1, l1', rfl⟩ := hlk.one
  obtain ⟨_, kx1, ex, rfl⟩ := hzs.one rfl
  cases ex
  subst ep
  obtain ⟨X', W', hr, hm⟩ := hR.eq l1'
  exact .mk _ _ _ _ _ _ hr hm
theorem SlIn.of (hR : T.Runs tab A tab1 (T.code .sl) (.s .sl) ps1 W) (ep : ps1 = taken ++ psr) (el : taken.length = 2) (hys : NumsAre ys taken) (hlk : LooksTo tab1 taken ths) (hzs : NumsAre zs ths) (hbnd : ∀ th ∈ ths, th < 1000000) (hl : tab1.length ≤ 900) : SlIn tab A tab1 W psr ys zs := by
  obtain ⟨p1, k1, p2, k2, rfl, rfl⟩ := hys.two el
  obtain ⟨c1, x1, c2, x2, l1', l2', rfl⟩ := hlk.two
  obtain ⟨_, kx1, _, kx2, ex, rfl⟩ := hzs.two rfl
  cases ex
  subst ep
  obtain ⟨X', W', hr, hm⟩ := hR.sl l1' l2'
  have := T.look_lt hR.wf l2'
  exact .mk _ _ _ _ _ _ _ _ _ _ (hbnd _ (.head _)) (by omega) hr hm
theorem ThIn.of {q : Sg} {f : Nat → Nat → Nat → Nat → List Ent} (hf : ∀ {p1 p2 p3 c1 x1 c2 x2 c3 x3 : Nat}, T.Runs tab A tab1 (T.code q) (.s q) (p1 :: p2 :: p3 :: psr) W → T.look tab1 p1 = some (c1, x1) → T.look tab1 p2 = some (c2, x2) → T.look tab1 p3 = some (c3, x3) → ∃ X' W', T.Runs tab A (f x1 x2 x3 p3) p3 X' psr W' ∧ T.mu W' < T.mu W)
    (hR : T.Runs tab A tab1 (T.code q) (.s q) ps1 W) (ep : ps1 = taken ++ psr) (el : taken.length = 3) (hys : NumsAre ys taken) (hlk : LooksTo tab1 taken ths) (hzs : NumsAre zs ths) (hbnd : ∀ th ∈ ths, th < 1000000) (hl : tab1.length ≤ 900) : ThIn tab A W psr f ys zs := by
  obtain ⟨p1, k1, p2, k2, p3, k3, rfl, rfl⟩ := hys.three el
  obtain ⟨c1, x1, c2, x2, c3, x3, l1', l2', l3', rfl⟩ := hlk.three
  obtain ⟨_, kx1, _, kx2, _, kx3, ex, rfl⟩ := hzs.three rfl
  cases ex
  subst ep
  obtain ⟨X', W', hr, hm⟩ := hf hR l1' l2' l3'
  have := T.look_lt hR.wf l3'
  exact .mk _ _ _ _ _ _ _ _ _ _ _ _ _ _ (hbnd _ (.head _)) (hbnd _ (.tail _ (.head _))) (hbnd _ (.tail _ (.tail _ (.head _)))) (by omega) hr hm
end
/-- what a call of the entry's reading leaves -/
inductive EntP (h h' : Heap) (e : Ent) : Value → Prop
  | mk (l : Addr) (m : Nat) (t1 t2 : Tok) (hn : h.get? l = none) (hl : h'.get? l = some (listOf #[.int (e.2.1 : Nat) t1, .int (e.2.2 : Nat) t2] m)) (hk : Kp h h') : EntP h h' e (.ref l)
theorem EntP.of {h h' : Heap} {e : Ent} {r : Value} (x : (∃ l m t1 t2, r = .ref l ∧ h.get? l = none ∧ h'.get? l = some (listOf #[.int (e.2.1 : Nat) t1, .int (e.2.2 : Nat) t2] m)) ∧ Kp h h') : EntP h h' e r := by
  obtain ⟨⟨l, m, t1, t2, rfl, h1, h2⟩, hk⟩ := x
  exact .mk l m t1 t2 h1 h2 hk
inductive AccP (h h' : Heap) : Value → Prop
  | mk (x d : Addr) (hsh : Int) (t t2 : Tok) (h1 : h'.get? x = some (accObj d [] 0)) (h2 : h'.get? d = some (accDict hsh t t2)) (h3 : @LT.lt Nat _ d x) (h4 : @LE.le Nat _ h.objs.size d) (h5 : h.get? x = none) (h6 : h.get? d = none) (hk : Kp h h') : AccP h h' (.ref x)
theorem AccP.of {h h' : Heap} {r : Value} (y : ∃ (x d : Addr) (hsh : Int) (t t2 : Tok), r = .ref x ∧ h'.get? x = some (accObj d [] 0) ∧ h'.get? d = some (accDict hsh t t2) ∧ @LT.lt Nat _ d x ∧ @LE.le Nat _ h.objs.size d ∧ h.get? x = none ∧ h.get? d = none ∧ Kp h h') : AccP h h' r := by
  obtain ⟨x, d, hsh, t, t2, rfl, h1, h2, h3, h4, h5, h6, hk⟩ := y
  exact .mk x d hsh t t2 h1 h2 h3 h4 h5 h6 hk
theorem tohold {p : Prop} (h : p) : Hold p := h
theorem News.tl3 {g h : Heap} {L : Addr} {a b c : Addr × Obj} {l : List (Addr × Obj)} (N : News g L h (a :: b :: c :: l)) : News g L h l := fun p hp => N p (.tail _ (.tail _ (.tail _ hp)))
theorem News.tl4 {g h : Heap} {L : Addr} {a b c d : Addr × Obj} {l : List (Addr × Obj)} (N : News g L h (a :: b :: c :: d :: l)) : News g L h l := fun p hp => N p (.tail _ (.tail _ (.tail _ (.tail _ hp))))
theorem News.tl1 {g h : Heap} {L : Addr} {a : Addr × Obj} {l : List (Addr × Obj)} (N : News g L h (a :: l)) : News g L h l := fun p hp => N p (.tail _ hp)
/-- the fixed rows' addresses are apart from the list's and from the pile's -/
structure RunNe (L' tb td hl pa pd : Addr) : Prop where
  a1 : @Ne Nat pd pa
  a2 : @Ne Nat tb pa
  a3 : @Ne Nat td pa
  a4 : @Ne Nat hl pa
  a5 : @Ne Nat ((show Nat from L') + 1) pa
  a6 : @Ne Nat ((show Nat from L') + 1 + 1) pa
  a7 : @Ne Nat ((show Nat from L') + 1 + 1 + 1) pa
  b1 : @Ne Nat pd hl
  b3 : @Ne Nat tb hl
  b4 : @Ne Nat td hl
  b5 : @Ne Nat ((show Nat from L') + 1) hl
  b6 : @Ne Nat ((show Nat from L') + 1 + 1) hl
  b7 : @Ne Nat ((show Nat from L') + 1 + 1 + 1) hl
section
variable {g h h' : Heap} {L' tb td hl pa pd : Addr} {hsh hsh2 : Int} {t t2 t3 : Tok} {oP oN oT : Obj} {vs its : List Value} {pn n : Nat} {rw1 : List (Addr × Obj)} {m : Str → Option Value} {ps : List Nat}
theorem upd_app {d : Addr} {o o' : Obj} {l l' : List (Addr × Obj)} : ∀ {ex : List (Addr × Obj)}, (∀ p ∈ ex, p.1 ≠ d) → Upd d o o' l l' → Upd d o o' (ex ++ l) (ex ++ l')
  | [], _, u => u
  | _ :: _, hx, u => .tail (hx _ (.head _)) (upd_app (fun p hp => hx p (.tail _ hp)) u)
theorem aftE {ex : List (Addr × Obj)} {tab' : List Ent} {P : Prop} (F : Fr g L' h m) (N : News g L' h (ex ++ runLed L' tb td hl pa pd hsh hsh2 t t2 t3 oP oN oT vs its pn n rw1)) (ne : RunNe L' tb td hl pa pd) (hx : ∀ p ∈ ex, p.1 ≠ hl) (hU : TupAll rw1) (hP : PileG g rw1 vs ps)
    (hp : ∃ its' n', TabAt h' its' tab' ∧ Chg hl (listOf its'.toArray n') h h')
    (k : ∀ its' n' rw', Fr g L' h' m → News g L' h' (ex ++ runLed L' tb td hl pa pd hsh hsh2 t t2 t3 oP oN oT vs its' pn n' rw') → TabG g rw' its' tab' → PileG g rw' vs ps → TupAll rw' → its'.length = tab'.length → P) : P := by
  obtain ⟨its', n', hT, hc⟩ := hp
  have hlm : (hl, listOf its.toArray n) ∈ ex ++ runLed L' tb td hl pa pd hsh hsh2 t t2 t3 oP oN oT vs its pn n rw1 := List.mem_append_right _ (.tail _ (.tail _ (.tail _ (.tail _ (.tail _ (.tail _ (.tail _ (.head _))))))))
  have F' := Chg.fr hc F (News.ne N hlm) (News.fresh N hlm)
  obtain ⟨rw2, h2, u2, g2⟩ := regrow F' hT
  have hr : ∀ p ∈ rw1, p.1 ≠ hl := tail_ne N hlm rfl (fun p hp => List.mem_append_right _ (.tail _ (.tail _ (.tail _ (.tail _ (.tail _ (.tail _ (.tail _ (.tail _ hp))))))))) hU
  have U : Upd hl (listOf its.toArray n) (listOf its'.toArray n') (ex ++ runLed L' tb td hl pa pd hsh hsh2 t t2 t3 oP oN oT vs its pn n rw1) (ex ++ runLed L' tb td hl pa pd hsh hsh2 t t2 t3 oP oN oT vs its' pn n' rw1) :=
    upd_app hx (.tail (Ne.symm ne.a4) (.tail ne.b1 (.tail ne.b7 (.tail ne.b6 (.tail ne.b5 (.tail ne.b3 (.tail ne.b4 (.head hr))))))))
  have N' := addtail (Chg.news hc N U) h2
  rw [List.append_assoc] at N'
  exact k its' n' (rw1 ++ rw2) F' N' (g2.mono fun p hp => List.mem_append_right _ hp) (hP.mono fun p hp => List.mem_append_left _ hp) (fun p hp => (List.mem_append.mp hp).elim (hU p) (u2 p)) hT.length
theorem aftS {e1 e2 e3 e4 : Addr × Obj} {tab' : List Ent} {R P : Prop} (F : Fr g L' h m) (N : News g L' h (e1 :: e2 :: e3 :: e4 :: runLed L' tb td hl pa pd hsh hsh2 t t2 t3 oP oN oT vs its pn n rw1)) (ne : RunNe L' tb td hl pa pd)
    (n1 : @Ne Nat e1.1 hl) (n2 : @Ne Nat e2.1 hl) (n3 : @Ne Nat e3.1 hl) (n4 : @Ne Nat e4.1 hl) (hU : TupAll rw1) (hP : PileG g rw1 vs ps)
    (hp : R ∧ ∃ its' n', TabAt h' its' tab' ∧ Chg hl (listOf its'.toArray n') h h')
    (k : ∀ its' n' rw', Fr g L' h' m → News g L' h' (e1 :: e2 :: e3 :: e4 :: runLed L' tb td hl pa pd hsh hsh2 t t2 t3 oP oN oT vs its' pn n' rw') → TabG g rw' its' tab' → PileG g rw' vs ps → TupAll rw' → P) : P :=
  aftE (ex := [e1, e2, e3, e4]) F N ne (allm n1 (allm n2 (allm n3 (allm n4 fun _ h => nomatch h)))) hU hP hp.2 fun a b c d e f g h _ => k a b c d e f g h
theorem aftL {e1 e2 e3 : Addr × Obj} {tab' : List Ent} {R P : Prop} (F : Fr g L' h m) (N : News g L' h (e1 :: e2 :: e3 :: runLed L' tb td hl pa pd hsh hsh2 t t2 t3 oP oN oT vs its pn n rw1)) (ne : RunNe L' tb td hl pa pd)
    (n1 : @Ne Nat e1.1 hl) (n2 : @Ne Nat e2.1 hl) (n3 : @Ne Nat e3.1 hl) (hU : TupAll rw1) (hP : PileG g rw1 vs ps)
    (hp : R ∧ ∃ its' n', TabAt h' its' tab' ∧ Chg hl (listOf its'.toArray n') h h')
    (k : ∀ its' n' rw', Fr g L' h' m → News g L' h' (e1 :: e2 :: e3 :: runLed L' tb td hl pa pd hsh hsh2 t t2 t3 oP oN oT vs its' pn n' rw') → TabG g rw' its' tab' → PileG g rw' vs ps → TupAll rw' → its'.length = tab'.length → P) : P :=
  aftE (ex := [e1, e2, e3]) F N ne (allm n1 (allm n2 (allm n3 fun _ h => nomatch h))) hU hP hp.2 k
theorem aftP {tab1 : List Ent} {num1 : Nat} {u1 u2 : Tok} {R P : Prop} (F : Fr g L' h m) (N : News g L' h (runLed L' tb td hl pa pd hsh hsh2 t t2 t3 oP oN oT vs its pn n rw1)) (ne : RunNe L' tb td hl pa pd)
    (hT : TabG g rw1 its tab1) (hU : TupAll rw1) (hP : PileG g rw1 vs ps)
    (hp : R ∧ ∃ T, h.get? T = none ∧ IsTup h' T #[.str (Str.ofString " ") u1, .str (num num1) u2] ∧ Chg pa (accObj pd (vs ++ [.ref T]) (pn + 1)) h h')
    (k : ∀ T rw', Fr g L' h' m → News g L' h' (runLed L' tb td hl pa pd hsh hsh2 t t2 t3 oP oN oT (vs ++ [.ref T]) its (pn + 1) n rw') → TabG g rw' its tab1 → PileG g rw' (vs ++ [.ref T]) (num1 :: ps) → TupAll rw' → P) : P := by
  obtain ⟨_, T8, hn8, ht8, hc8⟩ := hp
  obtain ⟨o8, g8, c8, d8⟩ := id ht8
  have q8 := fresh_new F hn8 g8
  have hpm : (pa, accObj pd vs pn) ∈ runLed L' tb td hl pa pd hsh hsh2 t t2 t3 oP oN oT vs its pn n rw1 := .head _
  have F' := Chg.fr hc8 F (News.ne N hpm) (News.fresh N hpm)
  have hr : ∀ p ∈ rw1, p.1 ≠ pa := tail_ne N hpm rfl (fun p hp => .tail _ (.tail _ (.tail _ (.tail _ (.tail _ (.tail _ (.tail _ (.tail _ hp)))))))) hU
  have U : Upd pa (accObj pd vs pn) (accObj pd (vs ++ [.ref T8]) (pn + 1)) (runLed L' tb td hl pa pd hsh hsh2 t t2 t3 oP oN oT vs its pn n rw1) (runLed L' tb td hl pa pd hsh hsh2 t t2 t3 oP oN oT (vs ++ [.ref T8]) its (pn + 1) n rw1) :=
    .head (allm ne.a1 (allm ne.a7 (allm ne.a6 (allm ne.a5 (allm ne.a2 (allm ne.a3 (allm ne.a4 hr)))))))
  have N' := addtail (rw2 := [(T8, o8)]) (Chg.news hc8 N U) (fun p hp => by rw [List.mem_singleton.mp hp]; exact ⟨q8.1, q8.2⟩)
  exact k T8 (rw1 ++ [(T8, o8)]) F' N' (hT.mono fun p hp => List.mem_append_left _ hp) (PileG.snoc (hP.mono fun p hp => List.mem_append_left _ hp) (.inr ⟨o8, List.mem_append_right _ (.head _), c8, d8⟩)) (hU.add (p := (T8, o8)) ⟨c8, _, d8⟩)
theorem ce2 {h₀ : Heap} {L I C D : Addr} {s : Shared} {oI oC oD : Obj} {S : List (Addr × Obj) → Prop} {rest : Value → List (Addr × Obj) → Prop} {y : Value} {tk : Nat} {news : List (Addr × Obj)} (F : Fr h₀ L h' m) (N : News h₀ L h' ((I, oI) :: (C, oC) :: (D, oD) :: news)) (off : LCg.Off3 I C D news) (hS : S news) (r : rest y news) :
    LCg.CompEnd h₀ L m s I oI C oC D oD S rest y { s with heap := h', toks := tk } := ⟨_, _, _, rfl, F, N, off, hS, r⟩
end
section
variable (g : Heap) (L' tb td hl pa pd : Addr) (hsh hsh2 : Int) (t t2 t3 : Tok) (oP oT : Obj) (tab : List Ent) (A : T)
/-- the machine's stand in the frame and on the ledger -/
inductive OutI : Nat → (Str → Option Value) → List (Addr × Obj) → Prop
  | run (tab1 : List Ent) (num : Nat) (X : T) (ps : List Nat) (W : T) (tks : Tok) (its1 : List Value) (n1 : Nat) (rw1 : List (Addr × Obj)) (vs1 : List Value) (pn1 : Nat) (tkn1 : Tok) (u1 : Str → Option Value) (oN1 : Obj) (hR : T.Runs tab A tab1 num X ps W) (hT : TabG g rw1 its1 tab1) (hP : PileG g rw1 vs1 ps) (hU : TupAll rw1) (dN : oN1.data = .cell (some (.int ((num : Nat) : Int) tkn1))) :
      OutI (T.mu W) (runM (.str (Str.ofString "") tks) u1) (runLed L' tb td hl pa pd hsh hsh2 t t2 t3 oP oN1 oT vs1 its1 pn1 n1 rw1)
  | stop (tab1 : List Ent) (q : Sg) (ps : List Nat) (W : T) (tks : Tok) (its1 : List Value) (n1 : Nat) (rw1 : List (Addr × Obj)) (vs1 : List Value) (pn1 : Nat) (tkn1 : Tok) (u1 : Str → Option Value) (oN1 : Obj) (hlt : ps.length < T.want q) (hR : T.Runs tab A tab1 (T.code q) (.s q) ps W) (hT : TabG g rw1 its1 tab1) (hP : PileG g rw1 vs1 ps) (hU : TupAll rw1) (dN : oN1.data = .cell (some (.int ((T.code q : Nat) : Int) tkn1))) :
      OutI 0 (runM (.str (chr q) tks) u1) (runLed L' tb td hl pa pd hsh hsh2 t t2 t3 oP oN1 oT vs1 its1 pn1 n1 rw1)
inductive OutIX : (Str → Option Value) → List (Addr × Obj) → Prop
  | mk (tab1 : List Ent) (q : Sg) (ps : List Nat) (W : T) (tks : Tok) (its1 : List Value) (n1 : Nat) (rw1 : List (Addr × Obj)) (vs1 : List Value) (pn1 : Nat) (tkn1 : Tok) (u1 : Str → Option Value) (oN1 : Obj) (hlt : ps.length < T.want q) (hR : T.Runs tab A tab1 (T.code q) (.s q) ps W) (hT : TabG g rw1 its1 tab1) (hP : PileG g rw1 vs1 ps) (hU : TupAll rw1) (dN : oN1.data = .cell (some (.int ((T.code q : Nat) : Int) tkn1))) :
      OutIX (runM (.str (chr q) tks) u1) (runLed L' tb td hl pa pd hsh hsh2 t t2 t3 oP oN1 oT vs1 its1 pn1 n1 rw1)
inductive DownI (tab1 : List Ent) (W : T) : Nat → (Str → Option Value) → List (Addr × Obj) → Prop
  | mk (num : Nat) (X : T) (ps : List Nat) (tks : Tok) (its1 : List Value) (n1 : Nat) (rw1 : List (Addr × Obj)) (vs1 : List Value) (pn1 : Nat) (tkn1 : Tok) (u1 : Str → Option Value) (oN1 : Obj) (hR : T.Runs tab A tab1 num X ps W) (hT : TabG g rw1 its1 tab1) (hP : PileG g rw1 vs1 ps) (hU : TupAll rw1) (dN : oN1.data = .cell (some (.int ((num : Nat) : Int) tkn1))) :
      DownI tab1 W (T.L X) (runM (.str (Str.ofString "") tks) u1) (runLed L' tb td hl pa pd hsh hsh2 t t2 t3 oP oN1 oT vs1 its1 pn1 n1 rw1)
inductive DownIX (tab1 : List Ent) (W : T) : (Str → Option Value) → List (Addr × Obj) → Prop
  | mk (q : Sg) (ps : List Nat) (tks : Tok) (its1 : List Value) (n1 : Nat) (rw1 : List (Addr × Obj)) (vs1 : List Value) (pn1 : Nat) (tkn1 : Tok) (u1 : Str → Option Value) (oN1 : Obj) (hR : T.Runs tab A tab1 (T.code q) (.s q) ps W) (hT : TabG g rw1 its1 tab1) (hP : PileG g rw1 vs1 ps) (hU : TupAll rw1) (dN : oN1.data = .cell (some (.int ((T.code q : Nat) : Int) tkn1))) :
      DownIX tab1 W (runM (.str (Str.ofString "") tks) u1) (runLed L' tb td hl pa pd hsh hsh2 t t2 t3 oP oN1 oT vs1 its1 pn1 n1 rw1)
end
section
variable {g : Heap} {L' tb td hl pa pd : Addr} {hsh hsh2 : Int} {t t2 t3 : Tok} {oP oT : Obj} {tab : List Ent} {A : T} {tab1 : List Ent} {num : Nat} {X : T} {ps : List Nat} {W : T} {tks : Tok} {its1 : List Value} {n1 : Nat} {rw1 : List (Addr × Obj)} {vs1 : List Value} {pn1 : Nat} {tkn1 : Tok} {m : Str → Option Value} {oN1 : Obj} {q : Sg}
theorem OutI.run' (hR : T.Runs tab A tab1 num X ps W) (hT : TabG g rw1 its1 tab1) (hP : PileG g rw1 vs1 ps) (hU : TupAll rw1) (dN : oN1.data = .cell (some (.int ((num : Nat) : Int) tkn1))) (hm : m (Str.ofString "sign") = some (.str (Str.ofString "") tks)) :
    OutI g L' tb td hl pa pd hsh hsh2 t t2 t3 oP oT tab A (T.mu W) m (runLed L' tb td hl pa pd hsh hsh2 t t2 t3 oP oN1 oT vs1 its1 pn1 n1 rw1) := by
  rw [runM_of hm]
  exact .run _ _ _ _ _ _ _ _ _ _ _ _ _ _ hR hT hP hU dN
theorem OutI.stop' (hlt : ps.length < T.want q) (hR : T.Runs tab A tab1 (T.code q) (.s q) ps W) (hT : TabG g rw1 its1 tab1) (hP : PileG g rw1 vs1 ps) (hU : TupAll rw1) (dN : oN1.data = .cell (some (.int ((T.code q : Nat) : Int) tkn1))) (hm : m (Str.ofString "sign") = some (.str (chr q) tks)) :
    OutI g L' tb td hl pa pd hsh hsh2 t t2 t3 oP oT tab A 0 m (runLed L' tb td hl pa pd hsh hsh2 t t2 t3 oP oN1 oT vs1 its1 pn1 n1 rw1) := by
  rw [runM_of hm]
  exact .stop _ _ _ _ _ _ _ _ _ _ _ _ _ hlt hR hT hP hU dN
end
end
section
open PySem PySem.W PySem.Spec PySem.Calls PyProof.Rows
set_option Elab.async false
set_option maxRecDepth 100000
set_option maxHeartbeats 0
noncomputable def NeA (a b : Nat) : Prop := a ≠ b
theorem NeA.ne {a b : Addr} (h : NeA a b) : a ≠ b := h
theorem NeA.en {a b : Addr} (h : NeA a b) : b ≠ a := Ne.symm h
theorem NeA.up1 {a L : Nat} (h : a < L) : NeA a (L + 1) := Nat.ne_of_lt (Nat.lt_succ_of_lt h)
theorem NeA.up2 {a L : Nat} (h : a < L) : NeA a (L + 1 + 1) := NeA.up1 (Nat.lt_succ_of_lt h)
theorem NeA.up3 {a L : Nat} (h : a < L) : NeA a (L + 1 + 1 + 1) := NeA.up2 (Nat.lt_succ_of_lt h)
theorem NeA.s1 {L : Nat} : NeA L (L + 1) := Nat.ne_of_lt (Nat.lt_succ_self L)
local macro_rules | `(tactic| walk_at "exec While") => `(tactic| (refine unhold ?_))
local macro_rules | `(tactic| walk_at "exec While Compare cons nil") => `(tactic| (refine unhold ?_))
local macro_rules | `(tactic| walk_at "call ref") => `(tactic| ((with_reducible show wpAny _ _ (call (Value.ref _) _ _) _ _ _); first | (k_here; k_dflt ((first | ((with_reducible rename decide _ = _ => h9); (k_dflt refine' call_it (isnt_at h9) ?k9 ?_)) | (k_dflt refine' call_it (want_spec _) ?k9 ?_) | ((with_reducible rename List.length _ = _ => h9); (k_dflt refine' call_it (acc_pc' h9) ?k9 ?_))); (case k9 => exact trivial); intro r' h' tk' hp'; obtain ⟨⟨tk9, e9⟩, hk9⟩ := hp'; subst e9; walk_at "mine_kpE")) | refine unhold ?_))
local macro_rules | `(tactic| walk_at "eval ListComp") => `(tactic| (k_here; (with_reducible show wpAny _ _ (PySem.eval (PySem.Expr.ListComp _ [⟨_, PySem.Expr.Constant (PySem.Const.str _) _ _, _, _⟩] _ _) _) _ _ _); k_dflt (refine ListComp_S (F₀ := by k_asm) (by with_unfolding_all rfl) (by decide) (by rfl) (by decide) (by rfl) ?_)))
local macro_rules | `(tactic| walk_at "getMethod ref") => `(tactic| walk_at "mine_ml")
local macro_rules | `(tactic| walk_at "Each") => `(tactic| ((k_dflt (refine ett_each _ (by intro q; cases q <;> rfl) ?_)); intro _))
local macro_rules | `(tactic| k_ne) => `(tactic| (first | (refine NeA.ne ?_; with_reducible assumption) | (refine NeA.en ?_; with_reducible assumption)))
local macro_rules | `(tactic| walk_at "subscriptTail") => `(tactic| (k_here; (with_reducible show wpAny _ _ (subscriptTail _ (Expr.UnaryOp _ _ _) (Value.ref _) (Value.int _ _)) _ _ _); k_dflt (refine kde_neg (News.isList (by k_asm) (by k_mem)) (by decide) (by decide) (by rfl) (by rfl) ?_)))
local macro_rules | `(tactic| walk_at "subscriptTail Name Constant ref int") => `(tactic| walk_at "mine_nc")
local macro_rules | `(tactic| walk_at "CompEnd") => `(tactic| (refine unhold ?_))
local macro_rules | `(tactic| walk_at "exec Assign cons ListComp") => `(tactic| (refine unhold ?_))
local macro_rules | `(tactic| walk_at "CompSrc") => `(tactic| (refine unhold ?_))
local macro_rules | `(tactic| walk_at "binaryOp Mod str ref") => `(tactic| (k_here; k_dflt (refine mod_two (by k_asm) (by k_mem) (by rfl) (by first | exact .nat (by first | with_reducible assumption | omega) | decide) (.nat (by first | with_reducible assumption | omega)) ?_); intro _ _))
local macro_rules | `(tactic| walk_at "binaryOp Mod str int") => `(tactic| (k_here; k_dflt (first | refine mod_call (by rfl) (by with_reducible assumption) ?_ | refine mod_num (by rfl) (by with_reducible assumption) ?_); intro _ _))
theorem run_spec {w : World} {tb td hl : Addr} {hsh : Int} {t : Tok} (h1 : @LT.lt Nat _ td tb) (h2 : @LT.lt Nat _ tb hl) :
    ∀ (M : Nat) (A : T) (num : Nat) (tk : Tok) (its : List Value) (n : Nat) (tab : List Ent), M ≤ 60 → T.mu A ≤ M → T.S A ≤ 1 → T.WF tab → T.Unf tab num A → tab.length + 2 * T.mu A ≤ 900 →
    Calls w 327 [.ref tb, .int (num : Nat) tk] [] (60 + M) (600 + 100 * M) (tabLed tb td hl hsh t its n) (fun h => TabAt h its tab)
      (fun h r h' => ∃ N its' n' tab', (∃ tk, r = .str (txt N) tk) ∧ T.R A N ∧ T.NF N ∧ T.Le tab tab' ∧ T.WF tab' ∧ tab'.length ≤ tab.length + 2 * T.mu A ∧ TabAt h' its' tab' ∧ Chg hl (listOf its'.toArray n') h h') := by
  intro M
  induction M with
  | zero => intro A _ _ _ _ _ _ h0; have := T.mu_pos A; omega
  | succ M ih =>
    intro A num tk its n tab hM hmu hS wf hA hsz mean mg mb dp un gd cn cs a ccd cl outer A₀ base h₀ L m s Q E B F X Tt hk hd hu N pre ret
    revert X; k_fill; intro X
    refine wpAny_call ?_
    k_dflt (refine' code_mineC (binds := [(Str.ofString "table", .ref tb), (Str.ofString "number", .int (num : Nat) tk)]) ?k1 ?k2 ?k3 ?k4 ?k5 ?kA ?kF ?kK ?k6 ?k7 ?k8 ?k9 ?kB ?kD ?_ ?c2 ?c3 ?c4; (case kA => exact rfl); (case kF => exact rfl); (case kK => assumption); (case k1 => k_asm); (case k2 => k_asm); (case k3 => k_asm); (case k4 => k_asm); (case k5 => k_asm); (case k6 => k_is); (case k7 => k_is); (case k8 => ktr_room); (case k9 => first | exact BindsTo.of_eq rfl | exact binds_K (by k_in) rfl (by k_is) rfl rfl rfl); (case kB => exact rfl); (case kD => decide +kernel); (case c2 => exact rfl); (case c3 => exact rfl); (case c4 => exact rfl))
    intro P9 hP9
    intro g L' h₁ tk0 cells' hg F' N' Y' B' X' T' l1
    replace ret := fun r h' tk' p => hP9 r _ (ret r h' tk' p)
    k_lt l1
    k_cells Y'
    rename_i oP0 oN oT d1 d2 d3
    have dT : oT.data = .cell (some (.ref tb)) := d3.trans rfl
    have dN : oN.data = .cell (some (.int (num : Nat) tk)) := d2.trans rfl
    clear d2 d3
    (try simp only [List.cons_append, List.nil_append] at N')
    (try dsimp only); (try k_fold)
    have hno := no_tuple N rfl
    have hrg : TabAt g its tab := pre.but (fun b o e n => hg b o e n) hno
    repeat walk_at "k_one"
    (try unfold Hold)
    (k_dflt refine' call_it acc_make ?k9 ?_)
    (case k9 => exact trivial)
    intro r7 h7 tk7 hp7
    obtain ⟨pa, pd, hsh2, t2, t3, hpa, hpd, hlt, hle, na, nd, hk7⟩ := AccP.of hp7
    (rename Fr _ _ _ _ => lF9); (rename News _ _ _ _ => lN9)
    have q1 := fresh_new lF9 na hpa
    have q2 := fresh_new lF9 nd hpd
    have o1 := news_lt lN9 (a := tb) (by k_mem) hle
    have o2 := news_lt lN9 (a := td) (by k_mem) hle
    have o3 := news_lt lN9 (a := hl) (by k_mem) hle
    have o4 := news_lt lN9 (a := L' + 1) (by k_mem) hle
    have o5 := news_lt lN9 (a := L' + 1 + 1) (by k_mem) hle
    have o6 := news_lt lN9 (a := L' + 1 + 1 + 1) (by k_mem) hle
    have a1 : NeA pa pd := Nat.ne_of_gt hlt
    have a2 : NeA pa tb := Nat.ne_of_gt (Nat.lt_trans o1 hlt)
    have a3 : NeA pa td := Nat.ne_of_gt (Nat.lt_trans o2 hlt)
    have a4 : NeA pa hl := Nat.ne_of_gt (Nat.lt_trans o3 hlt)
    have a5 : NeA pa (L' + 1) := Nat.ne_of_gt (Nat.lt_trans o4 hlt)
    have a6 : NeA pa (L' + 1 + 1) := Nat.ne_of_gt (Nat.lt_trans o5 hlt)
    have a7 : NeA pa (L' + 1 + 1 + 1) := Nat.ne_of_gt (Nat.lt_trans o6 hlt)
    have b1 : NeA pd hl := Nat.ne_of_gt o3
    have b2 : NeA pd (L' + 1 + 1) := Nat.ne_of_gt o5
    have b3 : NeA hl tb := Nat.ne_of_gt h2
    have b4 : NeA hl td := Nat.ne_of_gt (Nat.lt_trans h1 h2)
    have b5 : NeA hl (L' + 1) := NeA.up1 l1.2.2
    have b6 : NeA hl (L' + 1 + 1) := NeA.up2 l1.2.2
    have b7 : NeA hl (L' + 1 + 1 + 1) := NeA.up3 l1.2.2
    have c1 : NeA tb (L' + 1 + 1) := NeA.up2 l1.1
    have c2 : NeA td (L' + 1 + 1) := NeA.up2 l1.2.1
    have c3 : NeA (L' + 1) (L' + 1 + 1) := NeA.s1
    have c4 : NeA (L' + 1 + 1) (L' + 1 + 1 + 1) := NeA.s1
    have d1 : NeA td tb := Nat.ne_of_lt h1
    have d2 : NeA pd tb := Nat.ne_of_gt o1
    have d3 : NeA tb (L' + 1) := NeA.up1 l1.1
    have d4 : NeA tb (L' + 1 + 1 + 1) := NeA.up3 l1.1
    have hne : RunNe L' tb td hl pa pd := ⟨a1.en, a2.en, a3.en, a4.en, a5.en, a6.en, a7.en, b1, b3.en, b4.en, b5.en, b6.en, b7.en⟩
    have F' := Kp.fr hk7 lF9
    have N' := (News.cons (News.cons (Kp.news hk7 lN9) q2) q1)
    clear lF9 lN9 hk7 q1 q2 hpa hpd na nd hle
    repeat walk_at "k_one"
    unfold Hold
    (rename Fr _ _ _ _ => lF); (rename News _ _ _ _ => lN)
    obtain ⟨oP, dP, lN⟩ : ∃ o : Obj, o.data = .cell (some (.ref pa)) ∧ News g L' _ (runLed L' tb td hl pa pd hsh hsh2 t t2 t3 o oN oT [] its 0 n []) := ⟨_, by assumption, lN⟩
    refine While_inv3 (OutI g L' tb td hl pa pd hsh hsh2 t t2 t3 oP oT tab A) (OutIX g L' tb td hl pa pd hsh hsh2 t t2 t3 oP oT tab A) (n₀ := T.mu A) lF lN (OutI.run' (T.Runs.start wf hA hS) (TabG.of hrg) .nil (fun p hp => nomatch hp) dN rfl) ?turn ?exit
    all_goals clear lF lN dN
    all_goals (try (rename News _ _ _ _ => lN; clear lN))
    all_goals (try (rename Fr _ _ _ _ => lF; clear lF))
    all_goals (try clear oN)
    case turn =>
      rintro Q1 E1 J1 X1' s hE1 hJ1 hX1 k9 m9 news9 h9 tk9 F9 N9 (⟨tab1, num1, X1, ps1, W1, tks, its1, n1, rw1, vs1, pn1, tkn1, u1, oN1, hR1, hT1, hP1, hU1, dN1⟩ | ⟨tab1, q, ps1, W1, tks, its1, n1, rw1, vs1, pn1, tkn1, u1, oN1, hlt1, hR1, hT1, hP1, hU1, dN1⟩)
      · repeat walk_at "k_one"
        unfold Hold
        refine While_inv3 (DownI g L' tb td hl pa pd hsh hsh2 t t2 t3 oP oT tab A tab1 W1) (DownIX g L' tb td hl pa pd hsh hsh2 t t2 t3 oP oT tab A tab1 W1) (n₀ := T.L X1) F9 N9 (.mk _ _ _ _ _ _ _ _ _ _ _ _ hR1 hT1 hP1 hU1 dN1) ?turn2 ?exit2 hE1
        all_goals clear hR1 hT1 hP1 hU1 dN1 F9 N9
        case turn2 =>
          rintro Q2 E2 J2 X2' s hE2 hJ2 hX2 k9 m9 news9 h9 tk9 F9 N9 ⟨num1, X1, ps1, tks, its1, n1, rw1, vs1, pn1, tkn1, u1, oN1, hR1, hT1, hP1, hU1, dN1⟩
          have hlen1 := hR1.len
          have hpl1 := hP1.length
          have hwf1 := hR1.2.2.2.2.1
          have hn6 := hR1.1.2.1.lt hwf1
          have hz1 := hR1.2.2.2.2.2.2
          have hvz : vs1.length ≤ 1000 := by omega
          have hn10 : num1 < 1000000 := by omega
          rcases T.Unf.c hR1.1.2.1 with ⟨q⟩ | ⟨c, th, hp256, hlook⟩
          · have hdec : decide (256 ≤ T.code q) = false := decide_eq_false (by have := T.code_lt q; omega)
            repeat walk_at "k_one"
            (rename Fr _ _ _ _ => lF9); (rename News _ _ _ _ => lN9)
            exact hX2 _ _ _ _ lF9 lN9 (.mk _ _ _ _ _ _ _ _ _ _ _ hR1 hT1 hP1 hU1 dN1)
          · have hdec : decide (256 ≤ num1) = true := decide_eq_true hp256
            obtain ⟨k0, hfind⟩ := look_find hlook
            obtain ⟨C2, hR2, hL2⟩ := hR1.push hp256 hlook
            clear hlook
            repeat walk_at "k_one"
            unfold Hold
            (k_dflt refine' call_it (acc_push hlt hvz) ?k9 ?_)
            (case k9 => exact trivial)
            intro r8 h8 tk8 hp8
            (rename Fr _ _ _ _ => lF9); (rename News _ _ _ _ => lN9)
            obtain rfl := hp8.1
            refine aftP lF9 lN9 hne hT1 hU1 hP1 hp8 ?_
            clear lF9 lN9 hp8 hT1 hU1 hP1
            intro T8 rw2 F' N' hT2 hP2 hU2
            repeat walk_at "k_one"
            unfold Hold
            (k_dflt refine' call_it (entry_spec h1 h2 hn10 hfind) ?k9 ?_)
            (case k9 => ((rename Fr _ _ _ _ => lF9); (rename News _ _ _ _ => lN9); exact hT2.at lF9 lN9 (by walk_at "mine_tl")))
            intro r7 h7 tk7 hp7
            obtain ⟨l7, m7, t7, t8, hn7, hl7, hk7⟩ := EntP.of hp7
            (rename Fr _ _ _ _ => lF9); (rename News _ _ _ _ => lN9)
            have F' := Kp.fr hk7 lF9
            have N' := Kp.news hk7 lN9
            clear lF9 lN9 hk7
            repeat walk_at "k_one"
            refine item_two (v := .int ((c : Nat) : Int) t7) hl7 (by decide) (by decide) rfl ?_
            repeat walk_at "k_one"
            (rename Fr _ _ _ _ => lF9); (rename News _ _ _ _ => lN9)
            exact ws2 lF9 lN9 hL2 (hJ2 _ _ _ (.mk _ _ _ _ _ _ _ _ _ _ _ _ hR2 hT2 hP2 hU2 (by assumption)))
        case exit2 =>
          rintro h9 tk9 m9 news9 F9 N9 ⟨q, ps1, tks, its1, n1, rw1, vs1, pn1, tkn1, u1, oN1, hR1, hT1, hP1, hU1, dN1⟩
          have hlen1 := hR1.len
          have hpl1 := hP1.length
          have hwf1 := hR1.2.2.2.2.1
          have hn6 := hR1.1.2.1.lt hwf1
          have hz1 := hR1.2.2.2.2.2.2
          have hvz : vs1.length ≤ 1000 := by omega
          have hn10 : T.code q < 1000000 := by omega
          (try dsimp only)
          repeat walk_at "k_one"
          (rename Fr _ _ _ _ => lF); (rename News _ _ _ _ => lN)
          refine ⟨_, _, _, rfl, rfl, lF, lN, by decide +kernel, by rw [sizeLine_eq]; decide +kernel, ?_⟩
          intro g9
          dsimp only
          refine comp_sg (SignJ q (runLed L' tb td hl pa pd hsh hsh2 t t2 t3 oP oN1 oT vs1 its1 pn1 n1 rw1)) ?_ ?_ allSg 0 [] _ allSg_at ⟨⟨[], rfl, .inr ⟨by simp, rfl⟩⟩, rfl⟩
          · clear lF lN
            rintro J3 s hJ3 p r ys news hJ u I9 oI9 C9 oC9 D9 m9 h9 tk9 E9 hns9 hm9 F9 N9 off9 ne9
            obtain ⟨_, rfl⟩ := id hJ
            repeat walk_at "k_one"
            all_goals (try unfold Hold)
            · (rename Fr _ _ _ _ => lF9); (rename News _ _ _ _ => lN9)
              exact ce2 lF9 lN9 off9 trivial (hJ3 _ _ _ (hJ.hit' (by with_reducible assumption) rfl))
            · (rename Fr _ _ _ _ => lF9); (rename News _ _ _ _ => lN9)
              exact ce2 lF9 lN9 off9 trivial (hJ3 _ _ _ (hJ.miss' (by with_reducible assumption)))
          · intro ys news hJ
            obtain ⟨⟨tkq, rfl⟩, rfl⟩ := hJ.done
            clear lF lN hJ
            intro D9 h9 tk9 F9 N9 off9
            have ep9 : NeA pa D9 := off9.1
            have ec9 : NeA (L' + 1 + 1) D9 := off9.2.2.2.1
            have eh9 : NeA hl D9 := off9.2.2.2.2.2.2.2.1
            have et9 : NeA tb D9 := off9.2.2.2.2.2.1
            repeat walk_at "k_one"
            · unfold Hold
              k_dflt (refine LCg.Assign_ListComp_U (F₀ := by k_asm) (by rfl) (by with_unfolding_all rfl) (by rfl) (by decide) (by rfl) (by decide) (by rfl) (by rfl) (by rfl) ?_)
              repeat walk_at "k_one"
              unfold Hold
              have hwl : T.want q ≤ ps1.length := by omega
              (rename Fr _ _ _ _ => lF); (rename News _ _ _ _ => lN)
              refine LCg.CompSrc.range (by rfl) lF lN (by assumption) (want_small q) (want_size q) (want_line q) ?_
              intro g8
              dsimp only
              refine comp_N (PopJ g rw1 (fun vsr pn => (D9, LCg.lst [.str (chr q) tkq]) :: runLed L' tb td hl pa pd hsh hsh2 t t2 t3 oP oN1 oT vsr its1 pn n1 rw1) ps1) ?_ ?_ (T.want q) 0 [] _ (Nat.zero_add _) ⟨[], ps1, vs1, pn1, rfl, rfl, .nil, hP1, rfl⟩
              · clear lF lN
                rintro J3 s hJ3 i ys news hi ⟨taken, psr, vsr, pn, ep, el, hys, hPr, rfl⟩ v I8 oI8 C8 oC8 D8 m8 h8 tk8 E8 hv8 hns8 hm8 F8 N8 off8 ne8
                obtain ⟨en1, en2, en3⟩ := LCg.Off3.mem off8 _ (.tail _ (.head _))
                have en1 : NeA pa I8 := en1
                have en2 : NeA pa C8 := en2
                have en3 : NeA pa D8 := en3
                cases psr with
                | nil => exact absurd (congrArg List.length ep) (by rw [List.append_nil]; omega)
                | cons p psr =>
                obtain ⟨vs', b8, tka, tkb, rfl, hU8, hP8⟩ := hPr.pop
                have hvz8 : vs'.length ≤ 1000 := by
                  have e1 := congrArg List.length ep
                  have e2 := hP8.length
                  rw [List.length_append, List.length_cons] at e1
                  omega
                have hp10 : p < 1000000 := by
                  obtain ⟨_, e, he⟩ := hR1.1.1.mem p (by rw [ep]; simp)
                  have := T.look_lt hwf1 he
                  omega
                repeat walk_at "k_one"
                unfold Hold
                dsimp only [List.append_nil]
                (k_dflt refine' call_it (acc_pop hlt hvz8) ?k9 ?_)
                (case k9 => exact trivial)
                intro r7 h7 tk7 hp7
                obtain ⟨rfl, hc7⟩ := hp7
                (rename Fr _ _ _ _ => lF9); (rename News _ _ _ _ => lN9)
                have F' := Chg.fr hc7 lF9 (News.ne lN9 (by k_mem)) (News.fresh lN9 (by k_mem))
                have N' := Chg.news hc7 lN9 (by k_upd)
                have i8 := hU8.at F' N' (by walk_at "mine_tl")
                clear lF9 lN9 hc7
                repeat walk_at "k_one"
                (rename Fr _ _ _ _ => lF9); (rename News _ _ _ _ => lN9)
                (try unfold Hold)
                exact ce2 lF9 lN9 off8 trivial (hJ3 _ _ _ ⟨taken ++ [p], psr, vs', pn + 1, by rw [ep, List.append_assoc]; rfl, by rw [List.length_append, el]; rfl, hys.snoc _ _, hP8, rfl⟩)
              · clear lF lN
                rintro ys news ⟨taken, psr, vsr, pn, ep, el, hys, hPr, rfl⟩ D8 h8 tk8 F8 N8 off8
                have ep8 : NeA pa D8 := off8.2.1
                have ec8 : NeA (L' + 1 + 1) D8 := off8.2.2.2.2.1
                have eh8 : NeA hl D8 := off8.2.2.2.2.2.2.2.2.1
                have et8 : NeA tb D8 := off8.2.2.2.2.2.2.1
                repeat walk_at "k_one"
                unfold Hold
                k_dflt (refine LCg.Assign_ListComp_U (F₀ := by k_asm) (by rfl) (by with_unfolding_all rfl) (by rfl) (by decide) (by rfl) (by decide) (by rfl) (by rfl) (by rfl) ?_)
                repeat walk_at "k_one"
                unfold Hold
                (rename Fr _ _ _ _ => lF); (rename News _ _ _ _ => lN)
                have hyl := hys.length
                refine LCg.CompSrc.ledger (by rfl) lF lN (by k_mem) (by rw [List.size_toArray, hyl, el]; exact want_line q) ?_
                intro g7
                dsimp only
                refine comp_N (n := ys.toArray.size) (ThJ tab1 ((D8, LCg.lst ys) :: (D9, LCg.lst [.str (chr q) tkq]) :: runLed L' tb td hl pa pd hsh hsh2 t t2 t3 oP oN1 oT vsr its1 pn n1 rw1) taken) ?_ ?_ _ 0 [] _ (Nat.zero_add _) ⟨[], .nil, .nil, rfl⟩
                · clear lF lN
                  rintro J3 s hJ3 i zs news hi ⟨ths, hzs, hlk, rfl⟩ v I7 oI7 C7 oC7 D7 m7 h7 tk7 E7 hv7 hns7 hm7 F7 N7 off7 ne7
                  obtain ⟨p, tkp, hpi, rfl⟩ := hys.at (by rw [← List.getElem?_toArray]; exact hv7)
                  have hpm : p ∈ ps1 := by rw [ep]; exact List.mem_append_left _ (List.mem_of_getElem? hpi)
                  obtain ⟨_, ⟨c, th⟩, hlook⟩ := hR1.1.1.mem p hpm
                  have hp10 : p < 1000000 := by have := T.look_lt hwf1 hlook; omega
                  obtain ⟨k0, hfind⟩ := look_find hlook
                  repeat walk_at "k_one"
                  unfold Hold
                  (k_dflt refine' call_it (entry_spec h1 h2 hp10 hfind) ?k9 ?_)
                  (case k9 => ((rename Fr _ _ _ _ => lF9); (rename News _ _ _ _ => lN9); exact hT1.at lF9 lN9 (by walk_at "mine_tl")))
                  intro r6 h6 tk6 hp6
                  obtain ⟨l6, m6, ta, tb6, hn6', hl6, hk6⟩ := EntP.of hp6
                  (rename Fr _ _ _ _ => lF9); (rename News _ _ _ _ => lN9)
                  have F' := Kp.fr hk6 lF9
                  have N' := Kp.news hk6 lN9
                  clear lF9 lN9 hk6
                  repeat walk_at "k_one"
                  refine item_two (v := .int ((th : Nat) : Int) tb6) hl6 (by decide) (by decide) rfl ?_
                  (rename Fr _ _ _ _ => lF9); (rename News _ _ _ _ => lN9)
                  (try unfold Hold)
                  exact ce2 lF9 lN9 off7 (.inr ⟨_, .head _, rfl, _, rfl⟩) (hJ3 _ _ _ ⟨ths ++ [th], hzs.snoc _ _, by rw [List.take_succ, hpi]; exact hlk.snoc hlook, rfl⟩)
                · clear lF lN
                  rintro zs news ⟨ths, hzs, hlk, rfl⟩ D7 h7 tk7 F7 N7 off7
                  have ep7 : NeA pa D7 := off7.2.2.1
                  have ec7 : NeA (L' + 1 + 1) D7 := off7.2.2.2.2.2.1
                  have eh7 : NeA hl D7 := off7.2.2.2.2.2.2.2.2.2.1
                  have et7 : NeA tb D7 := off7.2.2.2.2.2.2.2.1
                  rw [List.take_of_length_le (by rw [List.size_toArray, hyl]; exact Nat.le_refl _)] at hlk
                  have hbnd := hlk.bnd ((hT1.at F7 N7 (by walk_at "mine_tl")).bnd)
                  have hitl := (hT1.at F7 N7 (by walk_at "mine_tl")).length
                  have hi1 : its1.length ≤ 1000 := by omega
                  have ht9 : tab1.length ≤ 900 := by omega
                  clear hitl
                  cases q
                  case pl => exact absurd hwl (by have e : T.want .pl = 99 := rfl; omega)
                  case mi => exact absurd hwl (by have e : T.want .mi = 99 := rfl; omega)
                  case bar => exact absurd hwl (by have e : T.want .bar = 99 := rfl; omega)
                  all_goals dsimp only [chr] at F7 N7
                  case eq =>
                    obtain ⟨p1, k1, x1, kx1, X', W', hr', hm'⟩ := EqIn.of hR1 ep el hys hlk hzs
                    clear hlk hzs hys hbnd ep el hR1
                    repeat walk_at "k_one"
                    (rename Fr _ _ _ _ => lF9); (rename News _ _ _ _ => lN9)
                    exact ws2 lF9 (News.tl3 lN9) hm' (hJ1 _ _ _ (OutI.run' hr' hT1 hPr hU1 (by assumption) rfl))
                  case sl =>
                    obtain ⟨p1, k1, p2, k2, x1, kx1, x2, kx2, X', W', hx1, hp2, hr', hm'⟩ := SlIn.of hR1 ep el hys hlk hzs hbnd ht9
                    clear hlk hzs hys hbnd ep el hR1
                    repeat walk_at "k_one"
                    unfold Hold
                    (k_dflt refine' call_it (tabset_spec (its := its1) (n := n1) (tab := tab1) (k := p2) (c := T.code .eq) (u := x1) h1 h2 hp2 (by decide) hx1 hi1) ?k9 ?_)
                    (case k9 => ((rename Fr _ _ _ _ => lF9); (rename News _ _ _ _ => lN9); exact hT1.at lF9 lN9 (by walk_at "mine_tl")))
                    intro r4 h4 tk4 hp4
                    (rename Fr _ _ _ _ => lF9); (rename News _ _ _ _ => lN9)
                    obtain rfl := hp4.1
                    replace hp4 := tohold hp4
                    refine aftS lF9 lN9 hne (by k_ne) (by k_ne) (by k_ne) (by k_ne) hU1 hPr hp4 ?_
                    clear lF9 lN9 hp4 hT1 hU1 hPr
                    intro its9 n9 rw9 F' N' hT9 hP9 hU9
                    repeat walk_at "k_one"
                    (rename Fr _ _ _ _ => lF9); (rename News _ _ _ _ => lN9)
                    exact ws2 lF9 (News.tl4 lN9) hm' (hJ1 _ _ _ (OutI.run' hr' hT9 hP9 hU9 (by assumption) rfl))
                  case dot =>
                    obtain ⟨p1, k1, p2, k2, p3, k3, x1, kx1, x2, kx2, x3, kx3, X', W', hx1, hx2, hx3, hp3, hr', hm'⟩ := ThIn.of T.Runs.dot hR1 ep el hys hlk hzs hbnd ht9
                    clear hlk hzs hys hbnd ep el hR1
                    repeat walk_at "k_one"
                    unfold Hold
                    (k_dflt refine' call_it (laid_spec (its := its1) (n := n1) (tab := tab1) h1 h2 hx2 hx3 hi1) ?k9 ?_)
                    (case k9 => ((rename Fr _ _ _ _ => lF9); (rename News _ _ _ _ => lN9); exact hT1.at lF9 lN9 (by walk_at "mine_tl")))
                    intro r4 h4 tk4 hp4
                    (rename Fr _ _ _ _ => lF9); (rename News _ _ _ _ => lN9)
                    obtain ⟨tkl, e4⟩ := hp4.1
                    subst e4
                    replace hp4 := tohold hp4
                    refine aftL lF9 lN9 hne (by k_ne) (by k_ne) (by k_ne) hU1 hPr hp4 ?_
                    clear lF9 lN9 hp4 hT1 hU1 hPr
                    intro its4 n4 rw4 F' N' hT4 hP4 hU4 hll4
                    have hi4 : its4.length ≤ 1000 := by rw [hll4]; simp; omega
                    repeat walk_at "k_one"
                    unfold Hold
                    (k_dflt refine' call_it (tabset_spec (its := its4) (n := n4) (tab := (tab1 ++ [(256 + tab1.length, x2, x3)])) (k := p3) (c := x1) (u := 256 + tab1.length) h1 h2 hp3 hx1 (by omega) hi4) ?k9 ?_)
                    (case k9 => ((rename Fr _ _ _ _ => lF9); (rename News _ _ _ _ => lN9); exact hT4.at lF9 lN9 (by walk_at "mine_tl")))
                    intro r4 h4 tk4 hp4
                    (rename Fr _ _ _ _ => lF9); (rename News _ _ _ _ => lN9)
                    obtain rfl := hp4.1
                    replace hp4 := tohold hp4
                    refine aftS lF9 lN9 hne (by k_ne) (by k_ne) (by k_ne) (by k_ne) hU4 hP4 hp4 ?_
                    clear lF9 lN9 hp4 hT4 hU4 hP4
                    intro its9 n9 rw9 F' N' hT9 hP9 hU9
                    repeat walk_at "k_one"
                    (rename Fr _ _ _ _ => lF9); (rename News _ _ _ _ => lN9)
                    exact ws2 lF9 (News.tl4 lN9) hm' (hJ1 _ _ _ (OutI.run' hr' hT9 hP9 hU9 (by assumption) rfl))
                  case col =>
                    obtain ⟨p1, k1, p2, k2, p3, k3, x1, kx1, x2, kx2, x3, kx3, X', W', hx1, hx2, hx3, hp3, hr', hm'⟩ := ThIn.of T.Runs.col hR1 ep el hys hlk hzs hbnd ht9
                    clear hlk hzs hys hbnd ep el hR1
                    repeat walk_at "k_one"
                    unfold Hold
                    (k_dflt refine' call_it (laid_spec (its := its1) (n := n1) (tab := tab1) h1 h2 hx1 hx3 hi1) ?k9 ?_)
                    (case k9 => ((rename Fr _ _ _ _ => lF9); (rename News _ _ _ _ => lN9); exact hT1.at lF9 lN9 (by walk_at "mine_tl")))
                    intro r4 h4 tk4 hp4
                    (rename Fr _ _ _ _ => lF9); (rename News _ _ _ _ => lN9)
                    obtain ⟨tkl, e4⟩ := hp4.1
                    subst e4
                    replace hp4 := tohold hp4
                    refine aftL lF9 lN9 hne (by k_ne) (by k_ne) (by k_ne) hU1 hPr hp4 ?_
                    clear lF9 lN9 hp4 hT1 hU1 hPr
                    intro its4 n4 rw4 F' N' hT4 hP4 hU4 hll4
                    have hi4 : its4.length ≤ 1000 := by rw [hll4]; simp; omega
                    repeat walk_at "k_one"
                    unfold Hold
                    (k_dflt refine' call_it (tabset_spec (its := its4) (n := n4) (tab := (tab1 ++ [(256 + tab1.length, x1, x3)])) (k := p3) (c := 256 + tab1.length) (u := x2) h1 h2 hp3 (by omega) hx2 hi4) ?k9 ?_)
                    (case k9 => ((rename Fr _ _ _ _ => lF9); (rename News _ _ _ _ => lN9); exact hT4.at lF9 lN9 (by walk_at "mine_tl")))
                    intro r4 h4 tk4 hp4
                    (rename Fr _ _ _ _ => lF9); (rename News _ _ _ _ => lN9)
                    obtain rfl := hp4.1
                    replace hp4 := tohold hp4
                    refine aftS lF9 lN9 hne (by k_ne) (by k_ne) (by k_ne) (by k_ne) hU4 hP4 hp4 ?_
                    clear lF9 lN9 hp4 hT4 hU4 hP4
                    intro its9 n9 rw9 F' N' hT9 hP9 hU9
                    repeat walk_at "k_one"
                    (rename Fr _ _ _ _ => lF9); (rename News _ _ _ _ => lN9)
                    exact ws2 lF9 (News.tl4 lN9) hm' (hJ1 _ _ _ (OutI.run' hr' hT9 hP9 hU9 (by assumption) rfl))
                  case st =>
                    obtain ⟨p1, k1, p2, k2, p3, k3, x1, kx1, x2, kx2, x3, kx3, X', W', hx1, hx2, hx3, hp3, hr', hm'⟩ := ThIn.of T.Runs.st hR1 ep el hys hlk hzs hbnd ht9
                    clear hlk hzs hys hbnd ep el hR1
                    repeat walk_at "k_one"
                    unfold Hold
                    (k_dflt refine' call_it (laid_spec (its := its1) (n := n1) (tab := tab1) h1 h2 hx1 hx3 hi1) ?k9 ?_)
                    (case k9 => ((rename Fr _ _ _ _ => lF9); (rename News _ _ _ _ => lN9); exact hT1.at lF9 lN9 (by walk_at "mine_tl")))
                    intro r4 h4 tk4 hp4
                    (rename Fr _ _ _ _ => lF9); (rename News _ _ _ _ => lN9)
                    obtain ⟨tkl, e4⟩ := hp4.1
                    subst e4
                    replace hp4 := tohold hp4
                    refine aftL lF9 lN9 hne (by k_ne) (by k_ne) (by k_ne) hU1 hPr hp4 ?_
                    clear lF9 lN9 hp4 hT1 hU1 hPr
                    intro its4 n4 rw4 F' N' hT4 hP4 hU4 hll4
                    have hi4 : its4.length ≤ 1000 := by rw [hll4]; simp; omega
                    repeat walk_at "k_one"
                    unfold Hold
                    (k_dflt refine' call_it (laid_spec (its := its4) (n := n4) (tab := (tab1 ++ [(256 + tab1.length, x1, x3)])) h1 h2 hx2 hx3 hi4) ?k9 ?_)
                    (case k9 => ((rename Fr _ _ _ _ => lF9); (rename News _ _ _ _ => lN9); exact hT4.at lF9 lN9 (by walk_at "mine_tl")))
                    intro r4 h4 tk4 hp4
                    (rename Fr _ _ _ _ => lF9); (rename News _ _ _ _ => lN9)
                    obtain ⟨tkl, e4⟩ := hp4.1
                    subst e4
                    replace hp4 := tohold hp4
                    refine aftL lF9 lN9 hne (by k_ne) (by k_ne) (by k_ne) hU4 hP4 hp4 ?_
                    clear lF9 lN9 hp4 hT4 hU4 hP4
                    intro its5 n5 rw5 F' N' hT5 hP5 hU5 hll5
                    have hi5 : its5.length ≤ 1000 := by rw [hll5]; simp; omega
                    repeat walk_at "k_one"
                    unfold Hold
                    (k_dflt refine' call_it (tabset_spec (its := its5) (n := n5) (tab := (tab1 ++ [(256 + tab1.length, x1, x3)] ++ [(256 + (tab1 ++ [(256 + tab1.length, x1, x3)]).length, x2, x3)])) (k := p3) (c := 256 + tab1.length) (u := 256 + (tab1 ++ [(256 + tab1.length, x1, x3)]).length) h1 h2 hp3 (by omega) (by simp; omega) hi5) ?k9 ?_)
                    (case k9 => ((rename Fr _ _ _ _ => lF9); (rename News _ _ _ _ => lN9); exact hT5.at lF9 lN9 (by walk_at "mine_tl")))
                    intro r4 h4 tk4 hp4
                    (rename Fr _ _ _ _ => lF9); (rename News _ _ _ _ => lN9)
                    obtain rfl := hp4.1
                    replace hp4 := tohold hp4
                    refine aftS lF9 lN9 hne (by k_ne) (by k_ne) (by k_ne) (by k_ne) hU5 hP5 hp4 ?_
                    clear lF9 lN9 hp4 hT5 hU5 hP5
                    intro its9 n9 rw9 F' N' hT9 hP9 hU9
                    repeat walk_at "k_one"
                    (rename Fr _ _ _ _ => lF9); (rename News _ _ _ _ => lN9)
                    exact ws2 lF9 (News.tl4 lN9) hm' (hJ1 _ _ _ (OutI.run' hr' hT9 hP9 hU9 (by assumption) rfl))
            · repeat walk_at "k_one"
              have hlt1 : ps1.length < T.want q := by omega
              (rename Fr _ _ _ _ => lF9); (rename News _ _ _ _ => lN9)
              exact ws2 lF9 (News.tl1 lN9) (T.mu_pos _) (hJ1 _ _ _ (OutI.stop' hlt1 hR1 hT1 hP1 hU1 dN1 (if_pos rfl)))
      · have hnc : ¬ chr q = Str.ofString "" := fun e => by have := chr_len q; rw [e] at this; exact absurd this (by decide +kernel)
        have hne2 : (chr q == Str.ofString "") = false := beq_eq_false_iff_ne.mpr hnc
        repeat walk_at "k_one"
        (try dsimp only)
        (rename Fr _ _ _ _ => lF9); (rename News _ _ _ _ => lN9)
        exact hX1 _ _ _ _ lF9 lN9 (.mk _ _ _ _ _ _ _ _ _ _ _ _ _ hlt1 hR1 hT1 hP1 hU1 dN1)
    case exit =>
      rintro h9 tk9 m9 news9 F9 N9 ⟨tab1, q, ps1, W1, tks, its1, n1, rw1, vs1, pn1, tkn1, u1, oN1, hlt1, hR1, hT1, hP1, hU1, dN1⟩
      have hpl1 := hP1.length
      have hnc : ¬ chr q = Str.ofString "" := fun e => by have := chr_len q; rw [e] at this; exact absurd this (by decide +kernel)
      have hne2 : (chr q == Str.ofString "") = false := beq_eq_false_iff_ne.mpr hnc
      (try dsimp only)
      repeat walk_at "k_one"
      (try dsimp only)
      repeat walk_at "k_one"
      unfold Hold
      (rename Fr _ _ _ _ => lF); (rename News _ _ _ _ => lN)
      refine While_inv2 (ToldJ g L' tb td hl pa pd hsh hsh2 t t2 t3 oP oN1 oT tab A) (n₀ := ps1.length) lF lN ⟨tab1, its1, n1, rw1, vs1, ps1, pn1, .s q, tks, _, rfl, hR1.told hlt1, hT1, hP1, hU1, rfl, rfl⟩ ?_
      clear lF lN hT1 hP1 hU1 hR1 hpl1
      rintro k9 m9 news9 h9 tk9 F9 N9 ⟨tab2, its2, n2, rw2, vs2, ps2, pn2, X2, tkt, u2, rfl, hD2, hT2, hP2, hU2, rfl, rfl⟩
      have hpl2 := hP2.length
      cases ps2 with
      | nil =>
        obtain rfl := hP2.empty
        obtain ⟨z1, z2, z3, z4, z5⟩ := hD2.done
        repeat walk_at "k_one"
        (rename Fr _ _ _ _ => lF9); (rename News _ _ _ _ => lN9)
        exact ret _ _ _ ⟨X2, its2, n2, tab2, ⟨_, rfl⟩, z1, z2, z3, z4, z5, hT2.at lF9 lN9 (by walk_at "mine_tl"), by walk_at "mine_chg"⟩
      | cons p ps3 =>
        obtain ⟨vs3, b3, tka, tkb, rfl, hU3, hP3⟩ := hP2.pop
        have hXl := hD2.len hS
        have hfx := hD2
        obtain ⟨c, th, Y, hlook, hY, hYm, hYS, hwf2, hYl, hnext⟩ := hD2.next
        have tl1 := txt_len X2
        have hvz3 : vs3.length ≤ 1000 := by
          have e2 := hP3.length
          have e3 := hfx.few hS
          rw [List.length_cons] at e3
          omega
        have hpl3 : (vs3 ++ [Value.ref b3]).length = ps3.length + 1 := hpl2
        clear hpl2
        have hp10 : p < 1000000 := by have := T.look_lt hwf2 hlook; omega
        obtain ⟨k0, hfind⟩ := look_find hlook
        repeat walk_at "k_one"
        (try dsimp only)
        repeat walk_at "k_one"
        (try unfold Hold)
        (try dsimp only [List.append_nil])
        (k_dflt refine' call_it (acc_pop hlt hvz3) ?k9 ?_)
        (case k9 => exact trivial)
        intro r7 h7 tk7 hp7
        obtain ⟨rfl, hc7⟩ := hp7
        (rename Fr _ _ _ _ => lF9); (rename News _ _ _ _ => lN9)
        have F' := Chg.fr hc7 lF9 (News.ne lN9 (by k_mem)) (News.fresh lN9 (by k_mem))
        have N' := Chg.news hc7 lN9 (by k_upd)
        have i8 := hU3.at F' N' (by walk_at "mine_tl")
        clear lF9 lN9 hc7
        repeat walk_at "k_one"
        unfold Hold
        (k_dflt refine' call_it (entry_spec h1 h2 hp10 hfind) ?k9 ?_)
        (case k9 => ((rename Fr _ _ _ _ => lF9); (rename News _ _ _ _ => lN9); exact hT2.at lF9 lN9 (by walk_at "mine_tl")))
        intro r6 h6 tk6 hp6
        obtain ⟨l6, m6, ta, tb6, hn6', hl6, hk6⟩ := EntP.of hp6
        (rename Fr _ _ _ _ => lF9); (rename News _ _ _ _ => lN9)
        have F' := Kp.fr hk6 lF9
        have N' := Kp.news hk6 lN9
        clear lF9 lN9 hk6
        repeat walk_at "k_one"
        refine item_two (v := .int ((th : Nat) : Int) tb6) hl6 (by decide) (by decide) rfl ?_
        repeat walk_at "k_one"
        unfold Hold
        (k_dflt refine' call_it (ih Y th tb6 its2 n2 tab2 (by omega) (by omega) hYS hwf2 hY (by omega)) ?k9 ?_)
        (case k9 => ((rename Fr _ _ _ _ => lF9); (rename News _ _ _ _ => lN9); exact hT2.at lF9 lN9 (by walk_at "mine_tl")))
        intro r5 h5 tk5 hp5
        obtain ⟨N5, its5, n5, tab5, ⟨tkr, e5⟩, hRN, hNF, hLe5, hwf5, hl5, hT5, hc5⟩ := hp5
        subst e5
        (rename Fr _ _ _ _ => lF9); (rename News _ _ _ _ => lN9)
        have F' := Chg.fr hc5 lF9 (News.ne lN9 (by k_mem)) (News.fresh lN9 (by k_mem))
        have N' := Chg.news hc5 lN9 (by k_upd)
        clear lF9 lN9 hc5
        obtain ⟨rw5, hrw5, hu5, hg5⟩ := regrow F' hT5
        have N2 := addtail N' hrw5
        simp only [List.cons_append] at N2
        have hg6 := hg5.mono (rw2 := rw2 ++ rw5) (fun p hp => List.mem_append_right _ hp)
        have hP6 := hP3.mono (rw2 := rw2 ++ rw5) (fun p hp => List.mem_append_left _ hp)
        have hU6 : TupAll (rw2 ++ rw5) := fun p hp => (List.mem_append.mp hp).elim (hU2 p) (hu5 p)
        have hD6 := hnext tab5 N5 hRN hNF hLe5 hwf5 hl5
        have tl2 := txt_len N5
        have hNl : T.L N5 ≤ T.mu A := by
          have e1 := (T.mu_r hRN hYS).2
          have e2 := T.L_mu N5
          omega
        clear N' hT5 hrw5 hg5 hu5 hP3 hU2 hT2 hnext hD2 hfx
        generalize rw2 ++ rw5 = rw6 at N2 hg6 hP6 hU6
        repeat walk_at "k_one"
        (rename Fr _ _ _ _ => lF9); (rename News _ _ _ _ => lN9)
        all_goals first | exact ⟨_, _, _, _, ps3.length, rfl, lF9, lN9, Nat.lt_succ_self _, tab5, its5, n5, rw6, vs3, ps3, _, .a X2 N5, _, _, rfl, hD6, hg6, hP6, hU6, told_of rfl, rfl⟩ | (exfalso; omega)
end
section
open PySem PySem.W PySem.Spec PySem.Calls PyProof.Rows
set_option Elab.async false
set_option maxRecDepth 100000
set_option maxHeartbeats 4000000
inductive CharsAre : List Value → List Nat → Prop
  | nil : CharsAre [] []
  | cons {vs cs} (c : Nat) (tk : Tok) : CharsAre vs cs → CharsAre (.str ⟨#[c]⟩ tk :: vs) (c :: cs)
theorem CharsAre.split : ∀ {xs : List Nat} {vs : List Value} {ys : List Nat}, CharsAre vs (xs ++ ys) → ∃ v1 v2, vs = v1 ++ v2 ∧ CharsAre v1 xs ∧ CharsAre v2 ys
  | [], vs, ys, h => ⟨[], vs, rfl, .nil, h⟩
  | x :: xs, vs, ys, h => by
    have h' : CharsAre vs (x :: (xs ++ ys)) := h
    cases h' with
    | cons _ tk h =>
      obtain ⟨v1, v2, rfl, a, b⟩ := CharsAre.split h
      exact ⟨_ :: v1, v2, rfl, .cons _ _ a, b⟩
theorem CharsAre.toks : ∀ {u : T} {vs : List Value}, CharsAre vs (txt u).cps.toList → Toks u vs
  | .s q, vs, h => by
    have hl := chr_len q
    have e : ∃ c, (chr q).cps.toList = [c] := List.length_eq_one_iff.mp (by rw [Array.length_toList]; exact hl)
    obtain ⟨c, e⟩ := e
    have h' : CharsAre vs (chr q).cps.toList := h
    rw [e] at h'
    cases h' with
    | cons _ tk h2 =>
      cases h2
      have e2 : (⟨#[c]⟩ : Str) = chr q := by
        cases hq : chr q with
        | mk cps =>
          rw [hq] at e
          congr 1
          exact Array.ext' e.symm
      rw [e2]
      exact .s q tk
  | .a f x, vs, h => by
    have h' : CharsAre vs (64 :: ((txt f).cps.toList ++ (txt x).cps.toList)) := by
      have e : (txt (.a f x)).cps.toList = 64 :: ((txt f).cps.toList ++ (txt x).cps.toList) := by
        show ((#[64] ++ (txt f).cps) ++ (txt x).cps).toList = _
        simp
      rw [← e]
      exact h
    cases h' with
    | cons _ tk h2 =>
      obtain ⟨v1, v2, rfl, a, b⟩ := h2.split
      exact .a tk a.toks b.toks
theorem CharsAre.of : ∀ {cs : List Nat} {vs : List Value}, vs.length = cs.length → (∀ (j : Nat) v, vs[j]? = some v → ∃ c u, cs[j]? = some c ∧ v = .str ⟨#[c]⟩ u) → CharsAre vs cs
  | [], [], _, _ => .nil
  | [], _ :: _, h, _ => by cases h
  | _ :: _, [], h, _ => by cases h
  | c :: cs, v :: vs, h, hv => by
    obtain ⟨c', u, e, rfl⟩ := hv 0 v rfl
    cases e
    exact .cons _ _ (CharsAre.of (Nat.succ.inj h) fun j w hw => hv (j + 1) w hw)
theorem toks_of {u : T} {acc : Array Value} (h : ItemsOf (SignAt (txt u)) acc (txt u).cps.size) : Toks u acc.toList := by
  refine (CharsAre.of (by rw [Array.length_toList, Array.length_toList]; exact h.1) fun j v hv => ?_).toks
  obtain ⟨c, k, e, rfl⟩ := h.2 j v (by simpa using hv)
  exact ⟨c, k, by simpa using e, rfl⟩
end
section
open PySem PySem.W PySem.Spec PySem.Calls PyProof.Rows
set_option maxRecDepth 100000
set_option maxHeartbeats 0
local macro_rules | `(tactic| walk_at "call ref") => `(tactic| walk_at "mine_hc")
local macro_rules | `(tactic| walk_at "subscriptTail") => `(tactic| ((with_reducible show wpAny _ _ (subscriptTail (Expr.List _ _) _ (Value.ref _) (Value.ref _)) _ _ _); walk_at "last subscriptTail"))
local macro_rules | `(tactic| walk_at "subscriptTail Name Slice ref ref") => `(tactic| ((with_reducible show wpAny _ _ (subscriptTail _ (PySem.Expr.Slice (some _) none none _) _ _) _ _ _); refine unhold ?_))
theorem list_news {g h h' : Heap} {L : Addr} {m : Str → Option Value} {news : List (Addr × Obj)} {acc : Array Value} {c : Nat} (F : Fr g L h m) (N : News g L h news) (hk : Kp h h') (hS : h'.get? h.objs.size = some { cls := .type "list", dict := none, data := .seq acc c, slots := #[] }) :
    ∃ sg : Addr, sg = h.objs.size ∧ News g L h' ((sg, listOf (acc.toList ++ []).toArray c) :: news) := by
  refine ⟨_, rfl, ?_⟩
  rw [List.append_nil, Array.toArray_toList]
  exact News.cons (Kp.news hk N) (fresh_new F (by cases e : h.get? h.objs.size with | none => rfl | some o => exact absurd (Heap.lt_size e) (Nat.lt_irrefl _)) hS)
/- The names that follow are taken, so that the head makes no second copy of what it lays (the compiled file stays small). -/
theorem hd.tw14090284624843534012 : True := trivial
theorem hd.tw2867327485932766208 : True := trivial
theorem hd.tw4971549296188076032 : True := trivial
theorem hd.tw8735263284916673568 : True := trivial
theorem hd.tw1800889605409440832 : True := trivial
theorem hd.tw6276725880618359904 : True := trivial
theorem hd.tw16412773359747925120 : True := trivial
theorem hd.tw4706079058837389440 : True := trivial
theorem hd.tw6830512106363814048 : True := trivial
theorem hd.tw17950676927832955104 : True := trivial
theorem hd.tw7515886511687920896 : True := trivial
theorem hd.tw17387473266821786944 : True := trivial
theorem hd.tw15347494238783688032 : True := trivial
theorem hd.tw5363116716869082496 : True := trivial
theorem hd.tw7023726343779634624 : True := trivial
theorem hd.tw8134915037123179040 : True := trivial
theorem hd.tw15344866539931968096 : True := trivial
theorem hd.tw1359830224848277088 : True := trivial
theorem hd.tw4494801613693538912 : True := trivial
theorem hd.tw16154546982801380032 : True := trivial
theorem hd.tw15643275761693703936 : True := trivial
theorem hd.tw17252143746492648416 : True := trivial
theorem hd.tw10752148897807903841 : True := trivial
theorem hd.tw7610815399733428385 : True := trivial
theorem hd.tw10403243965636340961 : True := trivial
theorem hd.tw10409065472786389249 : True := trivial
theorem hd.tw4086058157674990017 : True := trivial
theorem hd.tw7512474625130614241 : True := trivial
theorem hd.tw16037735763661986305 : True := trivial
theorem hd.tw15220180469806662145 : True := trivial
theorem hd.tw18343703819029505601 : True := trivial
theorem hd.tw9128771937076168289 : True := trivial
theorem hd.tw13330244855972007585 : True := trivial
theorem hd.tw5343241284826551009 : True := trivial
theorem hd.tw10838410872621293473 : True := trivial
theorem hd.tw7914949630228597729 : True := trivial
theorem hd.tw11210553801493137410 : True := trivial
theorem hd.tw5480042469492414594 : True := trivial
theorem hd.tw4272726840584523970 : True := trivial
theorem hd.tw9430268157657104642 : True := trivial
theorem hd.tw13919464512627920130 : True := trivial
theorem hd.tw4702841417184801058 : True := trivial
theorem hd.tw758273949599710562 : True := trivial
theorem hd.tw17588044629489971554 : True := trivial
theorem hd.tw12271959270614036898 : True := trivial
theorem hd.tw1563243489668339170 : True := trivial
theorem hd.tw5781342201191254626 : True := trivial
theorem hd.tw3919010098100093602 : True := trivial
theorem hd.tw1213985386368065218 : True := trivial
theorem hd.tw5190246844813560578 : True := trivial
theorem hd.tw9960721518486171458 : True := trivial
theorem hd.tw18245042118932799458 : True := trivial
theorem hd.tw8228950375871286339 : True := trivial
theorem hd.tw1882180444382439491 : True := trivial
theorem hd.tw16904818350239718627 : True := trivial
theorem hd.tw18322514126500204803 : True := trivial
theorem hd.tw3229955645248102723 : True := trivial
theorem hd.tw5174551420813472067 : True := trivial
theorem hd.tw11754176132448286083 : True := trivial
theorem hd.tw1760603350576429475 : True := trivial
theorem hd.tw13368278939475635651 : True := trivial
theorem hd.tw17087091549796120035 : True := trivial
theorem hd.tw11513968764499736323 : True := trivial
theorem hd.tw9908193460736022307 : True := trivial
theorem hd.tw11631947586910100387 : True := trivial
theorem hd.tw18293851220164018083 : True := trivial
theorem hd.tw16477043939570097188 : True := trivial
theorem hd.tw6060742912462422084 : True := trivial
theorem hd.tw14896477498954680388 : True := trivial
theorem hd.tw6785817131721698500 : True := trivial
theorem hd.tw5278057926702712004 : True := trivial
theorem hd.tw14892549342360969540 : True := trivial
theorem hd.tw8068729725432388964 : True := trivial
theorem hd.tw7676003278276379012 : True := trivial
theorem hd.tw11465210709893060100 : True := trivial
theorem hd.tw10949625832625181284 : True := trivial
theorem hd.tw2323474266016966308 : True := trivial
theorem hd.tw5732804406350252772 : True := trivial
theorem hd.tw1241404454085649124 : True := trivial
theorem hd.tw14556912332899702596 : True := trivial
theorem hd.tw18241275227582772068 : True := trivial
theorem hd.tw8458067239894703972 : True := trivial
theorem hd.tw3789350110615891812 : True := trivial
theorem hd.tw8356816923877370021 : True := trivial
theorem hd.tw7355570028127101125 : True := trivial
theorem hd.tw6305734824756694309 : True := trivial
theorem hd.tw10258999931320997221 : True := trivial
theorem hd.tw11893437276241958245 : True := trivial
theorem hd.tw15910714762333108613 : True := trivial
theorem hd.tw12399718760709695909 : True := trivial
theorem hd.tw1847840615245081061 : True := trivial
theorem hd.tw7721951785955056133 : True := trivial
theorem hd.tw6663896369628448293 : True := trivial
theorem hd.tw15790720579355451973 : True := trivial
theorem hd.tw10957212852122400357 : True := trivial
theorem hd.tw11251137523995926341 : True := trivial
theorem hd.tw6438293893037913957 : True := trivial
theorem hd.tw5505005885091257285 : True := trivial
theorem hd.tw13181700845877081190 : True := trivial
theorem hd.tw3026753882482905222 : True := trivial
theorem hd.tw10583446816852156582 : True := trivial
theorem hd.tw13466754112058979494 : True := trivial
theorem hd.tw8268277133935991078 : True := trivial
theorem hd.tw2276098100821748038 : True := trivial
theorem hd.tw16211521421427940678 : True := trivial
theorem hd.tw212345690472687942 : True := trivial
theorem hd.tw7523672394736509286 : True := trivial
theorem hd.tw991583007596301734 : True := trivial
theorem hd.tw2386827423013361158 : True := trivial
theorem hd.tw3795277891434052102 : True := trivial
theorem hd.tw10424393626065333798 : True := trivial
theorem hd.tw2195365466389143174 : True := trivial
theorem hd.tw17258206423299326598 : True := trivial
theorem hd.tw13903934854276604550 : True := trivial
theorem hd.tw4993660671451451078 : True := trivial
theorem hd.tw1506431575118746342 : True := trivial
theorem hd.tw8990313861142287110 : True := trivial
theorem hd.tw3039998526598829958 : True := trivial
theorem hd.tw9386895884608548742 : True := trivial
theorem hd.tw8934143017859847078 : True := trivial
theorem hd.tw1589133516308662214 : True := trivial
theorem hd.tw5978321128707920903 : True := trivial
theorem hd.tw15043168886218598503 : True := trivial
theorem hd.tw17893044597097874663 : True := trivial
theorem hd.tw15683763237869141255 : True := trivial
theorem hd.tw17062030032774818151 : True := trivial
theorem hd.tw7762615721169606023 : True := trivial
theorem hd.tw8977307856219701671 : True := trivial
theorem hd.tw8920659734516437415 : True := trivial
theorem hd.tw9783614193127449063 : True := trivial
theorem hd.tw5635641802508607975 : True := trivial
theorem hd.tw3109861748172591687 : True := trivial
theorem hd.tw9557236495431379559 : True := trivial
theorem hd.tw12901994302517312135 : True := trivial
theorem hd.tw11660266114150955751 : True := trivial
theorem hd.tw7068711184596962023 : True := trivial
theorem hd.tw8960069828448710407 : True := trivial
theorem hd.tw5054737718236178183 : True := trivial
theorem hd.tw17672654358674132775 : True := trivial
theorem hd.tw7028611270464810887 : True := trivial
theorem hd.tw701787995468756871 : True := trivial
theorem hd.tw8545014587354053640 : True := trivial
theorem hd.tw190519026028168232 : True := trivial
theorem hd.tw4282304852377368616 : True := trivial
theorem hd.tw4832075414478813256 : True := trivial
theorem hd.tw8671608845466749128 : True := trivial
theorem hd.tw10246146449241189800 : True := trivial
theorem hd.tw16920754564084929960 : True := trivial
theorem hd.tw12949589719889679912 : True := trivial
theorem hd.tw14457593812595234344 : True := trivial
theorem hd.tw2708950531961675432 : True := trivial
theorem hd.tw4297731678662094536 : True := trivial
theorem hd.tw162610821266807592 : True := trivial
theorem hd.tw17975533764899295144 : True := trivial
theorem hd.tw4870687313549177768 : True := trivial
theorem hd.tw11882545898705644456 : True := trivial
theorem hd.tw189712035060473897 : True := trivial
theorem hd.tw8959176491354863721 : True := trivial
theorem hd.tw18166333605607142505 : True := trivial
theorem hd.tw4225703048834024713 : True := trivial
theorem hd.tw14906377314874228009 : True := trivial
theorem hd.tw1129884963351977449 : True := trivial
theorem hd.tw15801637453660337897 : True := trivial
theorem hd.tw10258225898301398825 : True := trivial
theorem hd.tw17579296083999419209 : True := trivial
theorem hd.tw5148922909946612681 : True := trivial
theorem hd.tw3915529967508079626 : True := trivial
theorem hd.tw18264374347568628810 : True := trivial
theorem hd.tw15042006015671813226 : True := trivial
theorem hd.tw6906073325868019850 : True := trivial
theorem hd.tw13217225542625558698 : True := trivial
theorem hd.tw7120233287515763914 : True := trivial
theorem hd.tw6804821044290156842 : True := trivial
theorem hd.tw5416991563250132298 : True := trivial
theorem hd.tw16794629799341752650 : True := trivial
theorem hd.tw7654286748164834634 : True := trivial
theorem hd.tw4383666589626881386 : True := trivial
theorem hd.tw17447410573909459338 : True := trivial
theorem hd.tw6528754448969337418 : True := trivial
theorem hd.tw7751791981175770698 : True := trivial
theorem hd.tw9223920413712330314 : True := trivial
theorem hd.tw10603584201595350602 : True := trivial
theorem hd.tw4360684699965382250 : True := trivial
theorem hd.tw10170382586518783626 : True := trivial
theorem hd.tw13362437707155312330 : True := trivial
theorem hd.tw12112201142124510154 : True := trivial
theorem hd.tw4478964076566166474 : True := trivial
theorem hd.tw11128854368766332075 : True := trivial
theorem hd.tw13277076834127875243 : True := trivial
theorem hd.tw11917015161858427179 : True := trivial
theorem hd.tw9170477692918782315 : True := trivial
theorem hd.tw10030107230732127627 : True := trivial
theorem hd.tw15463257786427224491 : True := trivial
theorem hd.tw16598086639473574507 : True := trivial
theorem hd.tw10155235664658247307 : True := trivial
theorem hd.tw9741134391959003819 : True := trivial
theorem hd.tw15089522573102190283 : True := trivial
theorem hd.tw10743916045514856203 : True := trivial
theorem hd.tw9748044761591592747 : True := trivial
theorem hd.tw8727321023445011275 : True := trivial
theorem hd.tw2999033326186475339 : True := trivial
theorem hd.tw8716120427605611371 : True := trivial
theorem hd.tw6196171512934965099 : True := trivial
theorem hd.tw978945382295711627 : True := trivial
theorem hd.tw6264232113106981867 : True := trivial
theorem hd.tw4315991029959535628 : True := trivial
theorem hd.tw6394381022753523788 : True := trivial
theorem hd.tw1836080755315867724 : True := trivial
theorem hd.tw12647368939536790636 : True := trivial
theorem hd.tw16299908979028503884 : True := trivial
theorem hd.tw12092154237167983948 : True := trivial
theorem hd.tw17711083657039698284 : True := trivial
theorem hd.tw12575139184659369484 : True := trivial
theorem hd.tw6482722132109649516 : True := trivial
theorem hd.tw5130813555471234732 : True := trivial
theorem hd.tw8004679753235328684 : True := trivial
theorem hd.tw17948085552500728524 : True := trivial
theorem hd.tw18185175575083235020 : True := trivial
theorem hd.tw12588582704262371052 : True := trivial
theorem hd.tw7270182246851987180 : True := trivial
theorem hd.tw13131943244659133196 : True := trivial
theorem hd.tw15368132723985388332 : True := trivial
theorem hd.tw6819123309680001836 : True := trivial
theorem hd.tw12023040214023829324 : True := trivial
theorem hd.tw16171809288044610508 : True := trivial
theorem hd.tw15837987909243819085 : True := trivial
theorem hd.tw1409312971732116557 : True := trivial
theorem hd.tw1013155817946168525 : True := trivial
theorem hd.tw16332348944364537037 : True := trivial
theorem hd.tw13321331477185743149 : True := trivial
theorem hd.tw16345102440705955213 : True := trivial
theorem hd.tw8457440626546761165 : True := trivial
theorem hd.tw4377701919642642989 : True := trivial
theorem hd.tw16828841361933241965 : True := trivial
theorem hd.tw5036846961687405229 : True := trivial
theorem hd.tw17606422857730326317 : True := trivial
theorem hd.tw10404513684093684653 : True := trivial
theorem hd.tw10614716105012338702 : True := trivial
theorem hd.tw9398405308114057262 : True := trivial
theorem hd.tw14980023328507725902 : True := trivial
theorem hd.tw7880807054014371918 : True := trivial
theorem hd.tw14294001040229213422 : True := trivial
theorem hd.tw5373751490086994478 : True := trivial
theorem hd.tw3429492842335990350 : True := trivial
theorem hd.tw16722109127936396110 : True := trivial
theorem hd.tw10112999265790385998 : True := trivial
theorem hd.tw14553816603554493358 : True := trivial
theorem hd.tw9345929723534960622 : True := trivial
theorem hd.tw6818987989461384207 : True := trivial
theorem hd.tw1452849714261714991 : True := trivial
theorem hd.tw17493908284791518351 : True := trivial
theorem hd.tw8096613928993691855 : True := trivial
theorem hd.tw2442259710966052079 : True := trivial
theorem hd.tw6082411064634330575 : True := trivial
theorem hd.tw3493717111155160527 : True := trivial
theorem hd.tw3759623122121258479 : True := trivial
theorem hd.tw12631932088317031055 : True := trivial
theorem hd.tw10012880186880212623 : True := trivial
theorem hd.tw11709330566771433103 : True := trivial
theorem hd.tw5987830557187376847 : True := trivial
theorem hd.tw6990203504111849199 : True := trivial
theorem hd.tw2101469004524951375 : True := trivial
theorem hd.tw11319892378374348655 : True := trivial
theorem hd.tw9657781627882305391 : True := trivial
theorem hd.tw13315533130655954831 : True := trivial
theorem hd.tw8879563391730754479 : True := trivial
theorem hd.tw16649331688326792143 : True := trivial
theorem hd.tw1197925565968671727 : True := trivial
theorem hd.tw10111801491309104144 : True := trivial
theorem hd.tw402640490398009360 : True := trivial
theorem hd.tw16011055738799735888 : True := trivial
theorem hd.tw10216474801634566288 : True := trivial
theorem hd.tw7891253978561527248 : True := trivial
theorem hd.tw16853341256802265648 : True := trivial
theorem hd.tw4856431653887292112 : True := trivial
theorem hd.tw13518370688599389936 : True := trivial
theorem hd.tw10340054900329768720 : True := trivial
theorem hd.tw11551083187376567056 : True := trivial
theorem hd.tw15595854959937240912 : True := trivial
theorem hd.tw12614811148066621264 : True := trivial
theorem hd.tw13790719812936386609 : True := trivial
theorem hd.tw17213754286329925777 : True := trivial
theorem hd.tw432457690288141553 : True := trivial
theorem hd.tw14705683404202351889 : True := trivial
theorem hd.tw17903497710992402801 : True := trivial
theorem hd.tw16634568088961857937 : True := trivial
theorem hd.tw15852365999677673905 : True := trivial
theorem hd.tw16056359734778111409 : True := trivial
theorem hd.tw7082855905992002993 : True := trivial
theorem hd.tw14246236162039180721 : True := trivial
theorem hd.tw3828038474966422129 : True := trivial
theorem hd.tw12113243949977362033 : True := trivial
theorem hd.tw5961118342813265553 : True := trivial
theorem hd.tw8117029840178788049 : True := trivial
theorem hd.tw6545403380812914513 : True := trivial
theorem hd.tw5716766192118558609 : True := trivial
theorem hd.tw2391449824757734642 : True := trivial
theorem hd.tw8025032847418708242 : True := trivial
theorem hd.tw9641152695372364146 : True := trivial
theorem hd.tw15166520500009309586 : True := trivial
theorem hd.tw9499510787657705874 : True := trivial
theorem hd.tw5366084841770067474 : True := trivial
theorem hd.tw17157681369570327122 : True := trivial
theorem hd.tw5282504435634884242 : True := trivial
theorem hd.tw17377529257436501650 : True := trivial
theorem hd.tw1580110805410547442 : True := trivial
theorem hd.tw14560493823538711346 : True := trivial
theorem hd.tw10525666975642140466 : True := trivial
theorem hd.tw9298403506768410418 : True := trivial
theorem hd.tw6293948785866598258 : True := trivial
theorem hd.tw12629568148972539762 : True := trivial
theorem hd.tw7296583596125217682 : True := trivial
theorem hd.tw1097998534492414930 : True := trivial
theorem hd.tw8112040973832200146 : True := trivial
theorem hd.tw15083628210047938546 : True := trivial
theorem hd.tw10601615944963115059 : True := trivial
theorem hd.tw5567388512258382067 : True := trivial
theorem hd.tw5657824000916062451 : True := trivial
theorem hd.tw5238241317806426387 : True := trivial
theorem hd.tw7289634563603522867 : True := trivial
theorem hd.tw14168552714766633299 : True := trivial
theorem hd.tw16945582573551092051 : True := trivial
theorem hd.tw16006246977917349235 : True := trivial
theorem hd.tw1382963296337349011 : True := trivial
theorem hd.tw16432713993328977331 : True := trivial
theorem hd.tw7609441296619081235 : True := trivial
theorem hd.tw5363564295841288755 : True := trivial
theorem hd.tw11151547217846952531 : True := trivial
theorem hd.tw18103342009636024947 : True := trivial
theorem hd.tw4115565904173853331 : True := trivial
theorem hd.tw3008623586974134963 : True := trivial
theorem hd.tw920214292312260371 : True := trivial
theorem hd.tw16640546478005224243 : True := trivial
theorem hd.tw4015398097383911347 : True := trivial
theorem hd.tw13409441903868389331 : True := trivial
theorem hd.tw8789358453043137523 : True := trivial
theorem hd.tw18103420901670897651 : True := trivial
theorem hd.tw4851647983119433812 : True := trivial
theorem hd.tw15529170255622000948 : True := trivial
theorem hd.tw6164396464334811476 : True := trivial
theorem hd.tw7540655947842036084 : True := trivial
theorem hd.tw6547078798241139092 : True := trivial
theorem hd.tw15422856539912107476 : True := trivial
theorem hd.tw7366208706002141716 : True := trivial
theorem hd.tw4014540891139286612 : True := trivial
theorem hd.tw7540741092611519060 : True := trivial
theorem hd.tw18293732401869909652 : True := trivial
theorem hd.tw697623264460660564 : True := trivial
theorem hd.tw1997569388931296116 : True := trivial
theorem hd.tw226724450230711188 : True := trivial
theorem hd.tw5629675986466331604 : True := trivial
theorem hd.tw1439246655266547700 : True := trivial
theorem hd.tw6598312636042714100 : True := trivial
theorem hd.tw11162318198679636149 : True := trivial
theorem hd.tw9496365245306024149 : True := trivial
theorem hd.tw13225837485096350037 : True := trivial
theorem hd.tw14103535550066685397 : True := trivial
theorem hd.tw2608437505485318709 : True := trivial
theorem hd.tw12173100003817136821 : True := trivial
theorem hd.tw7494724483528729301 : True := trivial
theorem hd.tw15508949281206285077 : True := trivial
theorem hd.tw13609717118414637909 : True := trivial
theorem hd.tw16302227732802510677 : True := trivial
theorem hd.tw13483081372092288885 : True := trivial
theorem hd.tw9427301549700849589 : True := trivial
theorem hd.tw6820862383352777685 : True := trivial
theorem hd.tw1102719854795613173 : True := trivial
theorem hd.tw10919297434634762262 : True := trivial
theorem hd.tw8343274005884668182 : True := trivial
theorem hd.tw1848646778235469078 : True := trivial
theorem hd.tw1413172679324656950 : True := trivial
theorem hd.tw16473244170626142550 : True := trivial
theorem hd.tw16713699803418581334 : True := trivial
theorem hd.tw3452082135128663414 : True := trivial
theorem hd.tw11449282263905321334 : True := trivial
theorem hd.tw11213053971927718326 : True := trivial
theorem hd.tw16155205043701107222 : True := trivial
theorem hd.tw17420951861521290806 : True := trivial
theorem hd.tw1011335219593555734 : True := trivial
theorem hd.tw8428860471423672150 : True := trivial
theorem hd.tw6184460063843016694 : True := trivial
theorem hd.tw15367242080415987702 : True := trivial
theorem hd.tw15615537253650120727 : True := trivial
theorem hd.tw2216850387143573719 : True := trivial
theorem hd.tw16970440968685349367 : True := trivial
theorem hd.tw3442329435671937591 : True := trivial
theorem hd.tw13783031573616600631 : True := trivial
theorem hd.tw16064382804478563927 : True := trivial
theorem hd.tw15416985209724490359 : True := trivial
theorem hd.tw11402939732021071671 : True := trivial
theorem hd.tw307737655149646647 : True := trivial
theorem hd.tw3381375190539634487 : True := trivial
theorem hd.tw10879034167726328663 : True := trivial
theorem hd.tw12598724348716800887 : True := trivial
theorem hd.tw11389486352061984695 : True := trivial
theorem hd.tw2788664435532181463 : True := trivial
theorem hd.tw15627493991649845272 : True := trivial
theorem hd.tw9345676750909349944 : True := trivial
theorem hd.tw18300207936620678264 : True := trivial
theorem hd.tw5562173858411828344 : True := trivial
theorem hd.tw17650839729002327288 : True := trivial
theorem hd.tw2799067240506288376 : True := trivial
theorem hd.tw18093812233618175256 : True := trivial
theorem hd.tw2274498078352570744 : True := trivial
theorem hd.tw15759970867653108152 : True := trivial
theorem hd.tw14768889098011018680 : True := trivial
theorem hd.tw5511420028821071320 : True := trivial
theorem hd.tw13866372431405929976 : True := trivial
theorem hd.tw13267510147771200024 : True := trivial
theorem hd.tw14176624398918483544 : True := trivial
theorem hd.tw8770205317985620760 : True := trivial
theorem hd.tw10860895700388868024 : True := trivial
theorem hd.tw4065347644161347641 : True := trivial
theorem hd.tw728884934406724761 : True := trivial
theorem hd.tw2603259988358896889 : True := trivial
theorem hd.tw18291419657060728153 : True := trivial
theorem hd.tw2845679848157327705 : True := trivial
theorem hd.tw1222794163293265305 : True := trivial
theorem hd.tw15411387601460861337 : True := trivial
theorem hd.tw11054480109507316185 : True := trivial
theorem hd.tw3953601041324332601 : True := trivial
theorem hd.tw16772102934027710169 : True := trivial
theorem hd.tw1673930711015175961 : True := trivial
theorem hd.tw17574625026820762457 : True := trivial
theorem hd.tw17330945745186091897 : True := trivial
theorem hd.tw8081886968326746073 : True := trivial
theorem hd.tw22551697357593593 : True := trivial
theorem hd.tw6982297934935202809 : True := trivial
theorem hd.tw17047115858639842297 : True := trivial
theorem hd.tw13047593935725612058 : True := trivial
theorem hd.tw921402611603131450 : True := trivial
theorem hd.tw5902613922787404954 : True := trivial
theorem hd.tw11953376511379268794 : True := trivial
theorem hd.tw15673258824015622330 : True := trivial
theorem hd.tw541196102884509978 : True := trivial
theorem hd.tw13753220567063992666 : True := trivial
theorem hd.tw12050417470231563642 : True := trivial
theorem hd.tw2114630138375439770 : True := trivial
theorem hd.tw6868836192036940282 : True := trivial
theorem hd.tw9421340871869096474 : True := trivial
theorem hd.tw1600037746751723098 : True := trivial
theorem hd.tw7526368328331116154 : True := trivial
theorem hd.tw5373601922739893978 : True := trivial
theorem hd.tw14960593345356199642 : True := trivial
theorem hd.tw16157073509204512506 : True := trivial
theorem hd.tw5722635216874485530 : True := trivial
theorem hd.tw11232374478483605306 : True := trivial
theorem hd.tw11652457597714270106 : True := trivial
theorem hd.tw4867347097404171291 : True := trivial
theorem hd.tw1610171440888473627 : True := trivial
theorem hd.tw13372043803930879067 : True := trivial
theorem hd.tw11032806212648032379 : True := trivial
theorem hd.tw15103106377680225435 : True := trivial
theorem hd.tw14353793391729792155 : True := trivial
theorem hd.tw11079593142295127227 : True := trivial
theorem hd.tw14478148883734587675 : True := trivial
theorem hd.tw6067372596601214235 : True := trivial
theorem hd.tw6767318904944593275 : True := trivial
theorem hd.tw13828106393651249627 : True := trivial
theorem hd.tw16007149819294483003 : True := trivial
theorem hd.tw3085183777334472315 : True := trivial
theorem hd.tw2068664650715991707 : True := trivial
theorem hd.tw9719896912496429819 : True := trivial
theorem hd.tw17177331786930743035 : True := trivial
theorem hd.tw6965799899956892507 : True := trivial
theorem hd.tw461538923250603899 : True := trivial
theorem hd.tw15153279154761372571 : True := trivial
theorem hd.tw15642763164714097627 : True := trivial
theorem hd.tw13770079208771991547 : True := trivial
theorem hd.tw395138700845864316 : True := trivial
theorem hd.tw16091413853298234908 : True := trivial
theorem hd.tw2887051446865420828 : True := trivial
theorem hd.tw7085514621470718492 : True := trivial
theorem hd.tw3451239065008710300 : True := trivial
theorem hd.tw17599816209265215132 : True := trivial
theorem hd.tw2327210489368252092 : True := trivial
theorem hd.tw2252305205657439004 : True := trivial
theorem hd.tw6019021122589006684 : True := trivial
theorem hd.tw4402725079659364252 : True := trivial
theorem hd.tw11117797201346649052 : True := trivial
theorem hd.tw17986969038992634876 : True := trivial
theorem hd.tw18219297243305740317 : True := trivial
theorem hd.tw922143313871775805 : True := trivial
theorem hd.tw17714235663813219645 : True := trivial
theorem hd.tw2457190517430149469 : True := trivial
theorem hd.tw16868993833207775613 : True := trivial
theorem hd.tw6924109203229866365 : True := trivial
theorem hd.tw10792051664901133789 : True := trivial
theorem hd.tw5608270528595127837 : True := trivial
theorem hd.tw6231332230080974397 : True := trivial
theorem hd.tw4218054939716304509 : True := trivial
theorem hd.tw7763873220885509757 : True := trivial
theorem hd.tw3646829019195819677 : True := trivial
theorem hd.tw3704167492566942397 : True := trivial
theorem hd.tw15967140613478806237 : True := trivial
theorem hd.tw15833661619300960221 : True := trivial
theorem hd.tw9277588360372424766 : True := trivial
theorem hd.tw3182187488490625086 : True := trivial
theorem hd.tw16194383521188589630 : True := trivial
theorem hd.tw11631869004601391166 : True := trivial
theorem hd.tw7746578258024575070 : True := trivial
theorem hd.tw9673543361469618366 : True := trivial
theorem hd.tw6123773746684550334 : True := trivial
theorem hd.tw6838551448383532254 : True := trivial
theorem hd.tw16259696140248634718 : True := trivial
theorem hd.tw17681399029576232318 : True := trivial
theorem hd.tw13431754692932380062 : True := trivial
theorem hd.tw17901334829092211166 : True := trivial
theorem hd.tw17739348878880393726 : True := trivial
theorem hd.tw2329189449893159454 : True := trivial
theorem hd.tw9533747618267967006 : True := trivial
theorem hd.tw3480954088277226078 : True := trivial
theorem hd.tw9763420282994701918 : True := trivial
theorem hd.tw7510230149288206974 : True := trivial
theorem hd.tw8047900516022102942 : True := trivial
theorem hd.tw14620637471214046174 : True := trivial
theorem hd.tw6423634429210846174 : True := trivial
theorem hd.tw14955159897011116063 : True := trivial
theorem hd.tw6931407450589930559 : True := trivial
theorem hd.tw12070051907170230399 : True := trivial
theorem hd.tw3530705653197291679 : True := trivial
theorem hd.tw4478166936697009375 : True := trivial
theorem hd.tw17843416644853070463 : True := trivial
theorem hd.tw14400467628812073631 : True := trivial
theorem hd.tw442638132926106271 : True := trivial
theorem hd.tw3309697970292668127 : True := trivial
theorem hd.tw7519716089354478335 : True := trivial
theorem hd.tw15109547482715301763 : True := trivial
set_option Elab.async true in
theorem hd : PySem.Challenge.rw_wc0025_01.Holds := by
  w_on
  o_law
  o_head (kHook kk.heap_1 as0 as0_eq)
  (case hw => w_witness2)
  k_go0
  all_goals try k_fold
  repeat walk_at "k_one"

  unfold Hold
  k_dflt (refine' kmk_slice_ints ?qF ?qN ?ql (IsPart.int _ _) IsPart.none ?qi ?qm ?qc ?_ ?qs ?qt ?qz; (case qF => k_asm); (case qN => k_asm); (case ql => exact News.isList (by k_asm) (by k_mem)); (case qi => exact .cons _ _ (.cons _ _ (.cons _ _ (.cons _ _ (.cons _ _ (.cons _ _ (.cons _ _ (.nil)))))))); (case qm => exact kmk_from (.cons _ _ (.cons _ _ (.cons _ _ (.cons _ _ (.cons _ _ (.cons _ _ (.cons _ _ (.nil)))))))) (Int.natCast_nonneg _)); (case qc => exact List.length_drop ..); (case qs => with_unfolding_all rfl); (case qt => kmk_pure); (case qz => exact Nat.le_of_ble_eq_true rfl)); intro D' ws' h' F' N' l1 hI' hC' hL'; (try k_lt l1)
  repeat walk_at "k_one"
  unfold Hold
  (rename IntsAre _ (_ ++ _) => hIn)
  have hi7 : _ = 7 := hIn.length.trans (by rw [List.length_append, List.length_map, List.length_take, List.length_drop]; simp; omega)
  (k_dflt refine' call_it (drawn_spec hIn hi7) ?k9 ?_)
  (case k9 => exact trivial)
  intro r7 h7 tk7 hp7
  obtain ⟨⟨u, hu, hL, hS⟩, hk7⟩ := hp7
  (rename Fr _ _ _ _ => lF9); (rename News _ _ _ _ => lN9)
  have F' := Kp.fr hk7 lF9
  have N' := News.sub (hid := []) (Kp.news hk7 lN9) (fun p hp => nomatch hp)
  clear lF9 lN9 hk7 hIn hi7
  obtain ⟨rw1, hrw1, hru1, hrg1⟩ := regrowT F' hu
  have N2 := addtail N' hrw1
  rw [List.nil_append] at N2
  clear N' hu hrw1
  repeat walk_at "k_one"
  unfold Hold
  (try dsimp only [List.append_nil])
  (k_dflt refine' call_it hdr_make ?k9 ?_)
  (case k9 => exact trivial)
  intro r8 h8 tk8 hp8
  obtain ⟨tb, td, hl, hsh, t, n, rfl, gtb, gtd, ghl, hlt1, hlt2, ntb, ntd, nhl, hk8⟩ := hp8
  (rename Fr _ _ _ _ => lF9); (rename News _ _ _ _ => lN9)
  have F' := Kp.fr hk8 lF9
  have q1 := fresh_new lF9 ntb gtb
  have q2 := fresh_new lF9 ntd gtd
  have q3 := fresh_new lF9 nhl ghl
  have N' := News.cons (News.cons (News.cons (Kp.news hk8 lN9) q3) q2) q1
  clear lF9 lN9 hk8 q1 q2 q3 gtb gtd ghl ntb ntd nhl
  repeat walk_at "k_one"
  unfold Hold
  (rename Fr _ _ _ _ => lF8); (rename News _ _ _ _ => lN8)
  (k_dflt refine' call_it (text_spec u r7 (by omega)) ?k9 ?_)
  (case k9 => exact hrg1.at lF8 lN8 (by walk_at "mine_tl"))
  intro r6 h6 tk6 hp6
  obtain ⟨⟨tkt, rfl⟩, hk6⟩ := hp6
  have F' := Kp.fr hk6 lF8
  have N' := Kp.news hk6 lN8
  clear lF8 lN8 hk6
  repeat walk_at "k_one"
  (rename Fr _ _ _ _ => lF8); (rename News _ _ _ _ => lN8)
  have htl := txt_len u
  refine call_list_str rfl (txt u) tkt (hn := by rw [sizeLine_eq]; show (txt u).length ≤ _; omega) fun h5 tk5 acc c5 hk5 hS5 hacc => ?_
  have F' := Kp.fr hk5 lF8
  have hts := toks_of hacc
  have o1 := news_lt lN8 (a := hl) (by k_mem) (Nat.le_refl _)
  obtain ⟨sg, hsg, N'⟩ := list_news lF8 lN8 hk5 hS5
  have o2 : @LT.lt Nat _ hl sg := by rw [hsg]; exact o1
  have hacl : acc.toList.length < 2 * T.L u := hts.len
  have hmu : T.mu u ≤ 14 := by
    rcases T.mu_or u with ⟨_, e⟩ | ⟨_, e⟩ <;> omega
  clear hk5 lF8 lN8 hacc o1 hS5
  rw [← hsg]
  clear hsg
  repeat walk_at "k_one"
  unfold Hold
  (k_dflt refine' call_it (stored_spec hlt1 hlt2 o2 u acc.toList [] [] n c5 [] hts (by rw [hL]; decide) (by rw [List.append_nil]; omega) ⟨(fun e he => nomatch he), List.nodup_nil⟩) ?k9 ?_)
  (case k9 => exact .nil)
  intro r4 h4 tk4 hp4
  obtain ⟨k, tkk, its', n', m', tab', rfl, hk10, hT4, hx4, wf4, hl4, hu4, hc4⟩ := hp4
  (rename Fr _ _ _ _ => lF9); (rename News _ _ _ _ => lN9)
  have F' := Chg2.fr hc4 lF9 (News.ne lN9 (by k_mem)) (News.fresh lN9 (by k_mem)) (News.ne lN9 (by k_mem)) (News.fresh lN9 (by k_mem))
  have N' := Chg2.news hc4 lN9 (by k_upd) (by k_upd) (Nat.ne_of_lt o2)
  clear lF9 lN9 hc4
  obtain ⟨rwx4, hrw4, hxu4, hg4⟩ := regrow F' hT4
  have N2 := addtail N' hrw4
  simp only [List.cons_append] at N2
  have hG4 := hg4.mono (rw2 := rw1 ++ rwx4) (fun p hp => List.mem_append_right _ hp)
  have hR4 := TermG.mono (rw2 := rw1 ++ rwx4) (fun p hp => List.mem_append_left _ hp) hrg1
  have hU4 : TupAll (rw1 ++ rwx4) := fun p hp => (List.mem_append.mp hp).elim (hru1 p) (hxu4 p)
  clear N' hrw4 hg4 hxu4 hru1 hrg1 hT4
  generalize rw1 ++ rwx4 = rw4 at N2 hG4 hR4 hU4
  repeat walk_at "k_one"
  unfold Hold
  (k_dflt refine' call_it (run_spec hlt1 hlt2 14 u k tkk its' n' tab' (by decide) hmu hS wf4 hu4 (by rw [hL] at hl4; simp at hl4; omega)) ?k9 ?_)
  (case k9 => ((rename Fr _ _ _ _ => lF9); (rename News _ _ _ _ => lN9); exact hG4.at lF9 lN9 (by walk_at "mine_tl")))
  intro r3 h3 tk3 hp3
  obtain ⟨A, its3, n3, tab3, ⟨tk9, rfl⟩, hRA, hNA, _, _, _, _, hc3⟩ := hp3
  (rename Fr _ _ _ _ => lF9); (rename News _ _ _ _ => lN9)
  have F' := Chg.fr hc3 lF9 (News.ne lN9 (by k_mem)) (News.fresh lN9 (by k_mem))
  have N' := Chg.news hc3 lN9 (by k_upd)
  clear lF9 lN9 hc3
  repeat walk_at "k_one"
  unfold Hold
  (k_dflt refine' call_it (worked_spec 14 u r7 (by decide) hmu hS) ?k9 ?_)
  (case k9 => ((rename Fr _ _ _ _ => lF9); (rename News _ _ _ _ => lN9); exact hR4.at lF9 lN9 (by walk_at "mine_tl")))
  intro r2 h2 tk2 hp2
  obtain ⟨⟨B, htB, hRB, hNB⟩, hk2⟩ := hp2
  obtain rfl := T.nf_same hRA hRB hNA hNB
  have hAL : T.L A ≤ 14 := by
    have e1 := (T.mu_r hRA hS).2
    have e2 := T.L_mu A
    omega
  (rename Fr _ _ _ _ => lF9); (rename News _ _ _ _ => lN9)
  have F' := Kp.fr hk2 lF9
  have N' := Kp.news hk2 lN9
  clear lF9 lN9 hk2
  repeat walk_at "k_one"
  unfold Hold
  (k_dflt refine' call_it (text_spec A r2 (by omega)) ?k9 ?_)
  (case k9 => exact htB)
  intro r1 h1 tk1 hp1
  obtain ⟨⟨tkb, rfl⟩, hk1⟩ := hp1
  (rename Fr _ _ _ _ => lF9); (rename News _ _ _ _ => lN9)
  have F' := Kp.fr hk1 lF9
  have N' := Kp.news hk1 lN9
  clear lF9 lN9 hk1
  repeat walk_at "k_one"
end
end Mine
theorem PySem.Challenge.cw_wc0025_01_holds : PySem.Challenge.rw_wc0025_01.Holds :=
  Mine.hd
