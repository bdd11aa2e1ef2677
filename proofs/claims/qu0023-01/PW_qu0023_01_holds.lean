import PyProof.Rows.All
import Wide.All
import OpenK.AllK
import Wide.FinOn
import Lean
import PySem.Challenge.RW_qu0023_01
open PySem PySem.W PyProof.Rows
set_option Elab.async false
set_option maxRecDepth 100000
namespace Mine
/-! Top1 -/
section
set_option maxHeartbeats 8000000
open_top hd for PySem.Challenge.rw_qu0023_01
end
/-! Base1 -/
section
noncomputable abbrev KK (w : World) : Frag := hd.heap_39 w.params
noncomputable abbrev LS : List Str := looseW hd.view_39 [Str.ofString "bisect_right", Str.ofString "insort_left", Str.ofString "bisect_left"]
noncomputable abbrev PG : Program := Challenge.rw_qu0023_01.row.prog
/-- a contract of one of the text's defs -/
abbrev Ctr (w : World) (mean : ExcName → Option Value) (mg mb : Str → Option Value) (k : Nat) (f : Addr) (vs : List Value) (kw : List (Str × Value)) (news : List (Addr × Obj)) (R : Value → List (Addr × Obj) → Prop) : Prop :=
  ∀ (dp un : Nat) (gd : Option (List Code)) (cn : Str) (cs : Scope) (a : Addr) (ccd : Value) (cl : List (Str × Addr)) (outer : List Env) (A₀ : Around) (base h₀ : Heap) (L : Addr) (m : Str → Option Value) (s : Shared) (Q E : Value → Shared → Prop),
    Below A₀ base outer h₀ → Fr h₀ L s.heap m → (KK w).In h₀ → News h₀ L s.heap news → Top hd.view_39 LS mean mg mb h₀ → cs.kind = .function →
    dp + 4 * k < recursionLimit → un + 40 * k < cLine →
    (∀ v news' h' tk', R v news' → Fr h₀ L h' m → News h₀ L h' news' → Q v { s with heap := h', toks := tk' }) →
    wpAny (model PG w) (ktrTop dp un gd cn cs L a ccd cl outer) (call (.ref f) vs kw) Q E s
theorem ctr_use {w : World} {mean : ExcName → Option Value} {mg mb : Str → Option Value} {k : Nat} {f : Addr} {vs : List Value} {kw : List (Str × Value)} {news : List (Addr × Obj)} {R : Value → List (Addr × Obj) → Prop}
    (C : Ctr w mean mg mb k f vs kw news R) {dp un : Nat} {gd : Option (List Code)} {cn : Str} {cs : Scope} {a : Addr} {ccd : Value} {cl : List (Str × Addr)} {outer : List Env} {A₀ : Around} {base h₀ : Heap} {L : Addr} {m : Str → Option Value} {s : Shared} {Q E : Value → Shared → Prop}
    (B : Below A₀ base outer h₀) (F : Fr h₀ L s.heap m) (X : (KK w).In h₀) (N : News h₀ L s.heap news) (T : Top hd.view_39 LS mean mg mb h₀) (hk : cs.kind = .function) (hd : dp + 4 * k < recursionLimit) (hu : un + 40 * k < cLine)
    (ret : ∀ v news' h' tk', R v news' → Fr h₀ L h' m → News h₀ L h' news' → Q v { s with heap := h', toks := tk' }) :
    wpAny (model PG w) (ktrTop dp un gd cn cs L a ccd cl outer) (call (.ref f) vs kw) Q E s := C _ _ _ _ _ _ _ _ _ _ _ _ _ _ _ _ _ B F X N T hk hd hu ret
end
local macro_rules | `(tactic| walk_at "m_enter") => `(tactic| (refine' code_def ?k1 ?k2 ?k3 ?k4 ?k5 ?kA ?kF ?kK ?k6 ?k7 ?k8 ?k9 ?kB ?_ ?c2 ?c3 ?c4 ?c5; (case kA => exact rfl); (case kF => exact rfl); (case kK => assumption); (case k1 => k_asm); (case k2 => k_asm); (case k3 => k_asm); (case k4 => k_asm); (case k5 => k_asm); (case k6 => k_is); (case k7 => k_is); (case k8 => ktr_room); (case k9 => (refine' kp_binds ?kx ?ke; (case kx => k_in); (case ke => exact fun _ => rfl))); (case c5 => decide); (case kB => exact locs rfl); (case c2 => exact rfl); (case c3 => exact rfl); (case c4 => exact rfl); k_whole))
local macro_rules | `(tactic| walk_at "m_steps") => `(tactic| repeat' (walk_at "m_halt"; first | (k_unfold; (try dsimp only)) | (k_end; wrow_close) | walk1 | (dsimp only; walk1) | (leave1; walk_say "STEP leave1"; try dsimp only) | fail "no step"))
local macro_rules | `(tactic| walk_at "m_same") => `(tactic| (intro z h2 h3; (simp only [List.forall_mem_cons, List.not_mem_nil, false_implies, implies_true, and_true, ne_eq] at h2); (simp only [List.contains_cons, List.contains_nil, Bool.or_false, Bool.or_eq_false_iff, beq_eq_false_iff_ne, ne_eq] at h3); simp [kstB, h2, h3]))
local macro_rules | `(tactic| walk_at "m_enterC") => `(tactic| (refine' code_defC ?k1 ?k2 ?k3 ?k4 ?k5 ?kA ?kF ?kK ?k6 ?k7 ?k8 ?k9 ?kB ?kD ?_ ?c2 ?c3 ?c4; (case kA => exact rfl); (case kF => exact rfl); (case kK => assumption); (case k1 => k_asm); (case k2 => k_asm); (case k3 => k_asm); (case k4 => k_asm); (case k5 => k_asm); (case k6 => k_is); (case k7 => k_is); (case k8 => ktr_room); (case k9 => (refine' kp_binds ?kx ?ke; (case kx => k_in); (case ke => exact fun _ => rfl))); (case kB => exact rfl); (case kD => decide +kernel); (case c2 => exact rfl); (case c3 => exact rfl); (case c4 => exact rfl); k_whole))
/-! P0 -/
section
/-- got.find(w, st, en): the first place, if any -/
def fnd (got w : Str) (st en : Nat) : Int := match Builtin.Str.occurrences got w st en 1 with | k :: _ => (k : Int) | [] => -1
theorem gives_find4 (x y : Str) (i j : Nat) (t u v v2 : Tok) (hj : j ≤ x.length) : Gives (Builtin.«str.find» ⟨[.str x t, .str y u, .int i v, .int j v2], []⟩) (.int (fnd x y i j)) := by
  have e1 : ∀ k : Nat, (max 0 (if (k : Int) < 0 then (k : Int) + x.length else k)).toNat = k := fun k => by rw [if_neg (by omega)]; omega
  show Gives (match Builtin.Str.occurrences x y (max 0 (if (i : Int) < 0 then (i : Int) + x.length else i)).toNat (min (max 0 (if (j : Int) < 0 then (j : Int) + x.length else j)).toNat x.length) 1 with | k :: _ => retInt k | [] => (do rule "str.find.not-found"; retInt (-1))) _
  rw [e1, e1, Nat.min_eq_left hj]
  unfold fnd
  cases Builtin.Str.occurrences x y i j 1 with
  | nil => exact .rule (.of_eq rfl)
  | cons k _ => exact .of_eq rfl
theorem call_find4 {prog : Program} {w : World} {A : Around} {E : Value → Shared → Prop} {s : Shared} {Q : Value → Shared → Prop} {x y : Str} {t u v v2 : Tok} {i j : Nat} (hj : j ≤ x.length)
    (hq : Q (.int (fnd x y i j) s.toks) { s with toks := s.toks + 1 }) : wpAny (model prog w) A (call (.builtin "str.find") [.str x t, .str y u, .int i v, .int j v2]) Q E s :=
  call_gives F.slot_str_find (typeIs_str _ _ _) F.entry_str_find (F.args_str_find_4 _ _ _ _) (gives_find4 x y i j t u v v2 hj) hq
theorem getD_some {α : Type} {xs : List α} {i : Nat} {d : α} (h : i < xs.length) : xs[i]? = some (xs.getD i d) := by
  rw [List.getD_eq_getElem?_getD, List.getElem?_eq_getElem h]; rfl
theorem range_sz {a b : Int} {k : Nat} (h : b - a = k) : Builtin.Range.rangeSize a b 1 = ((k : Nat) : Int) := by
  unfold Builtin.Range.rangeSize; rw [if_pos (by decide)]; split <;> omega
end
/-! P2 -/
section
open PySem PySem.W PyProof.Rows PySem.Calls
/-- the iterator of bytes, at place i -/
abbrev bIter (b : Array UInt8) (t : Tok) (i : Nat) : Obj := { cls := .type "bytes_iterator", data := .fields #[.bytes b t, .int i 0] }
section
variable {prog : Program} {w : World} {A : Around} {E : Value → Shared → Prop} {s : Shared} {h₀ : Heap} {L it : Addr} {m : Str → Option Value} {news : List (Addr × Obj)} {b : Array UInt8} {t : Tok} {i : Nat} {c : UInt8}
theorem special_bytes {Q : Option Value → Shared → Prop} (ho : s.heap.get? it = some (bIter b t i)) (hx : b[i]? = some c)
    (hQ : ∀ h', h'.get? it = some (bIter b t (i + 1)) → Heap.SameBut it s.heap h' → Q (some (.int (c.toNat : Int) s.toks)) { s with heap := h', toks := s.toks + 1 }) :
    wpAny (model prog w) A (callSpecial? (.ref it) (Str.ofString "__next__")) Q E s := by
  have hit : KBw.IsBytesIter s.heap it b t i := ⟨_, ho, rfl, rfl⟩
  refine wpAny_callSpecial?_slot (name := Str.ofString "__next__") (KBw.iter_typeIs hit) KBw.slot_next
    (wpAny_call_entry KBw.slot_next (KBw.iter_typeIs hit) KBw.entry_next ?_ (KBw.args_next _))
  show wpAny _ _ (field (.ref it) 0 >>= _) _ _ s
  refine wpAny_bind (wpAny_field ho rfl (x := .bytes b t) rfl ?_)
  show wpAny _ _ (if (Value.bytes b t == Value.none) = true then _ else _) _ _ s
  rw [if_neg (show ¬ ((Value.bytes b t == Value.none) = true) from Bool.false_ne_true)]
  show wpAny _ _ (field (.ref it) 1 >>= _) _ _ s
  refine wpAny_bind (wpAny_field ho rfl (x := .int i 0) rfl ?_)
  refine wpAny_bind (wpAny_of_eq (a := b) rfl ?_)
  simp only [Int.toNat_natCast, hx]
  refine wpAny_bind (wpAny_setField ho rfl (by simp) (wpAny_bind (wpAny_mkInt (wpAny_pure ⟨_, rfl, hQ _ ?_ (Heap.SameBut.update ..)⟩))))
  refine (Heap.get?_update_self _ ho (Obj.isFreed_of_fields (Obj.data_mapFields rfl _))).trans (congrArg some ?_)
  show ({ cls := _, data := .fields (#[Value.bytes b t, .int i 0].setIfInBounds 1 (rawInt ((i : Int) + 1))) } : Obj) = _
  simp [rawInt]
theorem next_bytes {Q : Value → Shared → Prop} (F : Fr h₀ L s.heap m) (N : News h₀ L s.heap ((it, bIter b t i) :: news)) (hne : ∀ p ∈ news, p.1 ≠ it) (hx : b[i]? = some c)
    (h : ∀ h', Fr h₀ L h' m → News h₀ L h' ((it, bIter b t (i + 1)) :: news) → Q (.int (c.toNat : Int) s.toks) { s with heap := h', toks := s.toks + 1 }) :
    wpAny (model prog w) A (call (.builtin "next") [.ref it]) Q E s := by
  have hm := N _ (.head _)
  have hit : KBw.IsBytesIter s.heap it b t i := ⟨_, hm.1, rfl, rfl⟩
  refine call_function_entry (by decide +kernel) (by decide +kernel) kdk_entry_next (kdk_args_next _) ?_
  unfold Builtin.«next»
  refine wpAny_bind (m := someArgs "next" 1 2 _) (wpAny_of_eq (a := [Value.ref it]) (by first | rfl | kernel_rfl!) ?_)
  dsimp only
  refine wpAny_bind (wpAny_specialOf (name := Str.ofString "__next__") (KBw.iter_typeIs hit) KBw.slot_next.lookup ?_)
  refine wpAny_ite_split (fun hab => absurd hab (by decide)) (fun _ => ?_)
  refine wpAny_bind (special_bytes hm.1 hx fun h' ho' hs => ?_)
  refine wpAny_pure ⟨_, rfl, h h' (F.change hs hm.2.1 hm.2.2) fun p hp => ?_⟩
  rcases List.mem_cons.mp hp with rfl | hp
  · exact ⟨ho', hm.2⟩
  · exact ⟨hs.extBut _ _ (hne p hp) (N p (.tail _ hp)).1, (N p (.tail _ hp)).2⟩
theorem iter_bytes {Q : Value → Shared → Prop} (F : Fr h₀ L s.heap m) (N : News h₀ L s.heap news)
    (h : ∀ I h', Fr h₀ L h' m → News h₀ L h' ((I, bIter b t 0) :: news) → (∀ p ∈ news, p.1 < I) → Q (.ref I) { s with heap := h' }) :
    wpAny (model prog w) A (call (.builtin "iter") [.bytes b t]) Q E s := by
  refine call_function_entry (by decide +kernel) (by decide +kernel) kdk_entry_iter (kdk_args_iter _) ?_
  unfold Builtin.«iter»
  refine wpAny_bind (m := someArgs "iter" 1 2 _) (wpAny_of_eq (a := [Value.bytes b t]) (by first | rfl | kernel_rfl!) ?_)
  show wpAny _ _ (pyIter (.bytes b t) >>= _) _ _ _
  refine wpAny_bind (KBw.pyIter_bytes ?_)
  exact wpAny_pure ⟨_, rfl, h _ _ (F.push _) (News.push F N _ rfl) (fun q hq => Heap.lt_size (N q hq).1)⟩
end
end
/-! P5 -/
section
open PySem PySem.W PyProof.Rows PyProof.V PySem.Spec PySem.SeqAt
theorem reads_of_strs {h : Heap} {a : Addr} {vs : List Value} {ns : List Str} (hl : h.IsList a vs.toArray) (hi : StrsAre vs ns) : Reads h (.ref a) (.list (ns.map PyData.str)) [a] := by
  obtain ⟨o, ho, hc, n, hd⟩ := hl
  exact Reads.list ho hc hd (by simpa using StrsAre.reads _ hi)
theorem canLayAll0_strs : ∀ ns : List Str, (∀ n ∈ ns, PyData.strOk n = true) → PyData.canLayAll0 (ns.map PyData.str) = true
  | [], _ => by simp [PyData.canLayAll0]
  | n :: r, h => by simp [PyData.canLayAll0, PyData.canLay0, h n (.head _), canLayAll0_strs r fun m hm => h m (.tail _ hm)]
theorem depthAll_strs : ∀ ns : List Str, PyData.depthAll (ns.map PyData.str) ≤ 1
  | [] => by simp [PyData.depthAll]
  | n :: r => by
    have := depthAll_strs r
    simp only [List.map_cons, PyData.depthAll, PyData.depth]
    omega
theorem shaped_strs (ns : List Str) (h : ∀ n ∈ ns, PyData.strOk n = true) : shaped (.list (ns.map PyData.str)) = true := by
  have h1 := depthAll_strs ns
  have h2 : PyData.depth (.list (ns.map PyData.str)) ≤ 64 := by simp only [PyData.depth]; omega
  show (PyData.canLay0 (.list (ns.map PyData.str)) && decide (PyData.depth (.list (ns.map PyData.str)) ≤ 64)) = true
  rw [Bool.and_eq_true]
  exact ⟨by simp only [PyData.canLay0]; exact canLayAll0_strs ns h, decide_eq_true h2⟩
theorem noMix_strs : ∀ ns ms : List Str, noMixAll (ns.map PyData.str) (ms.map PyData.str) = true
  | [], [] => by simp [noMixAll]
  | [], _ :: _ => by simp [noMixAll]
  | _ :: _, [] => by simp [noMixAll]
  | _ :: r, _ :: q => by simp [noMixAll, noMix, noMix_strs r q]
theorem same_strs : ∀ ns : List Str, PySem.Spec.sameAll (ns.map PyData.str) (ns.map PyData.str) = true
  | [] => by simp [PySem.Spec.sameAll]
  | n :: r => by simp [PySem.Spec.sameAll, PySem.Spec.same, same_strs r]
theorem ne_strs_same {prog : Program} {w : World} {A : Around} {E : Value → Shared → Prop} {s : Shared} {a b : Addr} {vs us : List Value} {ns : List Str} {Q : Value → Shared → Prop} (hl : s.heap.IsList a vs.toArray) (hi : StrsAre vs ns) (hl' : s.heap.IsList b us.toArray) (hi' : StrsAre us ns) (hu : A.units + 64 < cLine) (hok : ∀ n ∈ ns, PyData.strOk n = true)
    (h : Q (.bool false) s) : wpAny (model prog w) A (compareOp .NotEq (.ref a) (.ref b)) Q E s :=
  ne_dataH_same (reads_of_strs hl hi) (reads_of_strs hl' hi') (shaped_strs ns hok) (shaped_strs ns hok) hu (by simp only [noMix]; exact noMix_strs ns ns) (by simp only [PySem.Spec.same]; rw [same_strs]; exact h)
end
/-! Loops -/
section
section
variable {prog : Program} {w : World} {A : Around} {E : Value → Shared → Prop} {s : Shared} {env : Env} {h₀ : Heap} {x : Str} {body : List Stmt} {Q : Flow → Shared → Prop}
/-- how a turn ends: it goes on with J of the names and the ledger; the iterator I stands -/
def TurnEnd (h₀ : Heap) (L : Addr) (J : (Str → Option Value) → List (Addr × Obj) → Prop) (I : Addr) (oI : Obj) (s₁ s₂ : Shared) : Prop :=
  ∃ h' tk m' news', s₂ = { s₁ with heap := h', toks := tk } ∧ Fr h₀ L h' m' ∧ News h₀ L h' ((I, oI) :: news') ∧ (∀ p ∈ news', p.1 ≠ I) ∧ J m' news'
def TurnPost (h₀ : Heap) (L : Addr) (J : (Str → Option Value) → List (Addr × Obj) → Prop) (I : Addr) (oI : Obj) (s₁ : Shared) (Q : Flow → Shared → Prop) (f : Flow) (s₂ : Shared) : Prop :=
  match f with
  | .ret v => Q (.ret v) s₂
  | .brk => Q .next s₂
  | _ => TurnEnd h₀ L J I oI s₁ s₂
theorem turn_end {L : Addr} {J : (Str → Option Value) → List (Addr × Obj) → Prop} {I : Addr} {oI : Obj} {s₁ : Shared} {h' : Heap} {tk : Nat} {m' : Str → Option Value} (news' : List (Addr × Obj))
    (F : Fr h₀ L h' m') (N : News h₀ L h' ((I, oI) :: news')) (hI : ∀ p ∈ news', p.1 ≠ I) (hj : J m' news') : TurnEnd h₀ L J I oI s₁ { s₁ with heap := h', toks := tk } := ⟨h', tk, m', news', rfl, F, N, hI, hj⟩
theorem loop_gen {I : Addr} {fp : List Addr} {k : Nat} {P : Nat → Value → Prop} {St : Nat → Heap → Prop} {m₀ : Str → Option Value} {news : List (Addr × Obj)} (J : Nat → (Str → Option Value) → List (Addr × Obj) → Prop)
    (W : Walks prog w A I fp [I] k P St) (hLf : env.locals ∉ fp) (hI₀ : h₀.get? I = none) (hnI : ∀ p ∈ news, p.1 ≠ I) (hst : St 0 s.heap)
    (hIo : ∀ i h, St i h → ∃ o, h.get? I = some o) (F : Fr h₀ env.locals s.heap m₀) (N : News h₀ env.locals s.heap news) (hj : J 0 m₀ news)
    (hfp : ∀ i m nx, J i m nx → ∀ b ∈ fp, b ≠ I → (∃ o, h₀.get? b = some o) ∨ ∃ o, (b, o) ∈ nx ∧ ∀ j m' nx', J j m' nx' → (b, o) ∈ nx')
    (turn : ∀ i v m₁ news₁ h tk oI, i < k → P i v → J i m₁ news₁ → (∀ p ∈ news₁, p.1 ≠ I) → Fr h₀ env.locals h (fun y => if y = x then some v else m₁ y) → News h₀ env.locals h ((I, oI) :: news₁) →
      wpAny (model prog w) A (execs body env) (TurnPost h₀ env.locals (J (i + 1)) I oI { s with heap := h, toks := tk } Q) E { s with heap := h, toks := tk })
    (done : ∀ m₁ news₁ h tk, J k m₁ news₁ → Fr h₀ env.locals h m₁ → News h₀ env.locals h news₁ → Q .next { s with heap := h, toks := tk }) :
    LoopAtV prog w A h₀ env x body Q E (.ref I) s := by
  refine ⟨I, fp, [I], k, P, St, m₀, news, J, rfl, W, hLf, fun b hb => (List.mem_singleton.mp hb) ▸ hI₀, fun p hp hb => hnI p hp (List.mem_singleton.mp hb), hst, F, N, hj, ?_, fun h' tk m' news' F' N' _ hJ => done m' news' h' tk hJ F' N'⟩
  rintro i v m₁ news₁ s₁ own ⟨hh, tk, rfl⟩ hi hP hJ hoff hsub hget hall hst₁ F₁ N₁
  have hI := W.sub I (.head _)
  obtain ⟨oI, heI⟩ := hIo _ _ hst₁
  have hown : (I, oI) ∈ own := hall I hI hI₀ oI heI
  refine wpAny_mono (turn i v m₁ news₁ hh tk oI hi hP hJ (fun p hp e => hoff p hp (List.mem_singleton.mpr e)) F₁ (fun p hp => ?_)) (fun f s₂ p => ?_) fun _ _ e => e
  · rcases List.mem_cons.mp hp with rfl | hp
    · exact N₁ _ (List.mem_append_left _ hown)
    · exact N₁ _ (List.mem_append_right _ hp)
  · have fin : TurnEnd h₀ env.locals (J (i + 1)) I oI { s with heap := hh, toks := tk } s₂ → LoopStepU h₀ env.locals [I] own (J (i + 1)) { s with heap := hh, toks := tk } .next s₂ := by
      rintro ⟨h', tk', m', news', e, F', N', hn, hm⟩
      refine ⟨rfl, h', tk', m', news', e, F', fun p hp => ?_, fun p hp hq => hn p hp (List.mem_singleton.mp hq), hm⟩
      rcases List.mem_append.mp hp with hp | hp
      · have g1 := hget p hp
        by_cases hb : p.1 = I
        · rw [hb, heI] at g1
          have e2 : p = (I, oI) := Prod.ext hb (Option.some.inj g1).symm
          exact e2 ▸ N' _ (.head _)
        · rcases hfp i m₁ news₁ hJ p.1 (hsub p hp) hb with ⟨o, ho⟩ | ⟨o, ho, hst⟩
          · exact absurd ho (by rw [(N₁ p (List.mem_append_left _ hp)).2.2]; exact fun e => nomatch e)
          · have g2 := (N₁ _ (List.mem_append_right _ ho)).1
            rw [g1] at g2
            have e2 : p = (p.1, o) := Prod.ext rfl (Option.some.inj g2)
            rw [e2]
            exact N' _ (.tail _ (hst _ _ _ hm))
      · exact N' p (.tail _ hp)
    cases f with
    | ret v => exact .ret p
    | brk => exact .brk p
    | next => exact .next (fin p)
    | cont => exact .cont (fin p)
/-- a for over a list of the ledger that the turns leave alone -/
theorem iter_ledger {D : Addr} {vs : List Value} {n : Nat} {m₀ : Str → Option Value} {news : List (Addr × Obj)} (J : Nat → (Str → Option Value) → List (Addr × Obj) → Prop)
    (hh : A.handled = none) (F : Fr h₀ env.locals s.heap m₀) (N : News h₀ env.locals s.heap news) (hj : J 0 m₀ news) (hD : ∀ i m nx, J i m nx → (D, W.listOf vs.toArray n) ∈ nx)
    (turn : ∀ i v m₁ news₁ h tk I oI, vs[i]? = some v → J i m₁ news₁ → (∀ p ∈ news₁, p.1 ≠ I) → Fr h₀ env.locals h (fun y => if y = x then some v else m₁ y) → News h₀ env.locals h ((I, oI) :: news₁) →
      wpAny (model prog w) A (execs body env) (TurnPost h₀ env.locals (J (i + 1)) I oI { s with heap := h, toks := tk } Q) E { s with heap := h, toks := tk })
    (done : ∀ m₁ news₁ h tk, J vs.length m₁ news₁ → Fr h₀ env.locals h m₁ → News h₀ env.locals h news₁ → Q .next { s with heap := h, toks := tk }) :
    wpAny (model prog w) A (pyIter (.ref D)) (fun it s₂ => LoopAtV prog w A h₀ env x body Q E it s₂) E s := by
  have hm := hD _ _ _ hj
  have hl : s.heap.IsList D vs.toArray := News.isList N hm
  have hlt : D < s.heap.objs.size := Heap.lt_size (N _ hm).1
  have hne : D ≠ s.heap.objs.size := Nat.ne_of_lt hlt
  refine wpAny_pyIter_list hl ?_
  have W := Walks.list (prog := prog) (w := w) hh s.heap.objs.size D hne vs.toArray
  rw [List.size_toArray] at W
  refine loop_gen (fp := [s.heap.objs.size, D]) (k := vs.length) J W ?_ (next_is_new F) (fun p hp => Nat.ne_of_lt (Heap.lt_size (N p hp).1)) ⟨⟨_, Heap.get?_push_size _ rfl, rfl, rfl⟩, hl.push _⟩ (fun i h st => by obtain ⟨o, e, _⟩ := st.1; exact ⟨o, e⟩)
    (F.push _) (fun p hp => ⟨Heap.get?_push_of_some _ (N p hp).1, (N p hp).2⟩) hj ?_ ?_ done
  · intro hm'
    rcases List.mem_cons.mp hm' with e | hm'
    · exact absurd F.ns.lt (e ▸ Nat.lt_irrefl _)
    · exact (N _ hm).2.1 (List.mem_singleton.mp hm').symm
  · intro i m nx hJ b hb hbI
    rcases List.mem_cons.mp hb with e | hb
    · exact absurd e hbI
    · rw [List.mem_singleton.mp hb]
      exact .inr ⟨_, hD _ _ _ hJ, fun j m' nx' hJ' => hD _ _ _ hJ'⟩
  · intro i v m₁ news₁ h tk oI hi hP hJ hoff F₁ N₁
    exact turn i v m₁ news₁ h tk _ oI (by simpa using hP) hJ hoff F₁ N₁
/-- a for over a range by ones -/
theorem iter_range1 {r : Addr} {a b : Int} {t u v : Tok} {k : Nat} {m₀ : Str → Option Value} {news : List (Addr × Obj)} (J : Nat → (Str → Option Value) → List (Addr × Obj) → Prop)
    (hh : A.handled = none) (hr : IsRange s.heap r a b 1 t u v) (hsm : Builtin.Range.small a b 1 = true) (hk : Builtin.Range.rangeSize a b 1 = ((k : Nat) : Int)) (F : Fr h₀ env.locals s.heap m₀) (N : News h₀ env.locals s.heap news) (hj : J 0 m₀ news)
    (turn : ∀ i t m₁ news₁ h tk I oI, i < k → J i m₁ news₁ → (∀ p ∈ news₁, p.1 ≠ I) → Fr h₀ env.locals h (fun y => if y = x then some (.int (a + (i : Nat)) t) else m₁ y) → News h₀ env.locals h ((I, oI) :: news₁) →
      wpAny (model prog w) A (execs body env) (TurnPost h₀ env.locals (J (i + 1)) I oI { s with heap := h, toks := tk } Q) E { s with heap := h, toks := tk })
    (done : ∀ m₁ news₁ h tk, J k m₁ news₁ → Fr h₀ env.locals h m₁ → News h₀ env.locals h news₁ → Q .next { s with heap := h, toks := tk }) :
    wpAny (model prog w) A (pyIter (.ref r)) (fun it s₂ => LoopAtV prog w A h₀ env x body Q E it s₂) E s := by
  refine wpAny_pyIter_range hr hsm ?_
  refine loop_gen (fp := [s.heap.objs.size]) (k := k) J (LCg.range_walks hh a k) ?_ (next_is_new F) (fun p hp => Nat.ne_of_lt (Heap.lt_size (N p hp).1)) (by show IsRangeIter _ _ _ _ _; rw [hk]; simpa using Heap.get?_push_size _ rfl) (fun i h st => ⟨_, st⟩)
    (F.push _) (fun p hp => ⟨Heap.get?_push_of_some _ (N p hp).1, (N p hp).2⟩) hj ?_ ?_ done
  · intro hm'
    exact absurd F.ns.lt ((List.mem_singleton.mp hm') ▸ Nat.lt_irrefl _)
  · intro i m nx hJ b hb hbI
    exact absurd (List.mem_singleton.mp hb) hbI
  · rintro i v m₁ news₁ h tk oI hi ⟨t, rfl⟩ hJ hoff F₁ N₁
    exact turn i t m₁ news₁ h tk _ oI hi hJ hoff F₁ N₁
/-- a turn's end, told by a state of one's own -/
def StEnd {σ : Type} (h₀ : Heap) (L : Addr) (m₀ : Str → Option Value) (Led : σ → List (Addr × Obj)) (ps : σ → List (Str × Value)) (stored : List Str) (P : σ → Prop) (I : Addr) (oI : Obj) (s₁ s₂ : Shared) : Prop :=
  ∃ c' h' tk m' news', s₂ = { s₁ with heap := h', toks := tk } ∧ Fr h₀ L h' m' ∧ News h₀ L h' news' ∧ (I, oI) ∈ news' ∧ (∀ p ∈ Led c', p ∈ news') ∧ (∀ p ∈ Led c', p.1 ≠ I) ∧ (∀ p ∈ ps c', m' p.1 = some p.2) ∧ (∀ z, (∀ p ∈ ps c', z ≠ p.1) → stored.contains z = false → m' z = m₀ z) ∧ P c'
def StPost {σ : Type} (h₀ : Heap) (L : Addr) (m₀ : Str → Option Value) (Led : σ → List (Addr × Obj)) (ps : σ → List (Str × Value)) (stored : List Str) (P : σ → Prop) (I : Addr) (oI : Obj) (s₁ : Shared) (Q : Flow → Shared → Prop) (f : Flow) (s₂ : Shared) : Prop :=
  match f with
  | .ret v => Q (.ret v) s₂
  | .brk => Q .next s₂
  | _ => StEnd h₀ L m₀ Led ps stored P I oI s₁ s₂
theorem st_end {σ : Type} {L : Addr} {m₀ m' : Str → Option Value} {Led : σ → List (Addr × Obj)} {ps : σ → List (Str × Value)} {stored : List Str} {P : σ → Prop} {I : Addr} {oI : Obj} {s₁ : Shared} {h' : Heap} {tk : Nat} {news' : List (Addr × Obj)} (c' : σ)
    (F : Fr h₀ L h' m') (N : News h₀ L h' news') (hI : (I, oI) ∈ news') (hL : ∀ p ∈ Led c', p ∈ news') (hn : ∀ p ∈ Led c', p.1 ≠ I) (hk : ∀ p ∈ ps c', m' p.1 = some p.2) (hr : ∀ z, (∀ p ∈ ps c', z ≠ p.1) → stored.contains z = false → m' z = m₀ z) (hp : P c') :
    StEnd h₀ L m₀ Led ps stored P I oI s₁ { s₁ with heap := h', toks := tk } := ⟨c', h', tk, m', news', rfl, F, N, hI, hL, hn, hk, hr, hp⟩
theorem st_map {ps : List (Str × Value)} {stored : List Str} {m₀ m₁ : Str → Option Value} (h1 : ∀ p ∈ ps, m₁ p.1 = some p.2) (h2 : ∀ z, (∀ p ∈ ps, z ≠ p.1) → stored.contains z = false → m₁ z = m₀ z) :
    kstB (fun z => if stored.contains z then m₁ z else m₀ z) ps = m₁ := by
  funext y
  refine kstB_eq h1 fun hn => ?_
  show (if stored.contains y = true then m₁ y else m₀ y) = m₁ y
  cases h3 : stored.contains y with
  | true => simp
  | false => simp only [Bool.false_eq_true, if_false]; exact (h2 y hn h3).symm
theorem st_post {σ : Type} {L : Addr} {m₀ : Str → Option Value} {Led : σ → List (Addr × Obj)} {ps : σ → List (Str × Value)} {stored : List Str} {P : σ → Prop} {I : Addr} {oI : Obj} {s₁ s₂ : Shared} {f : Flow}
    (h : StPost h₀ L m₀ Led ps stored P I oI s₁ Q f s₂) : TurnPost h₀ L (fun m nx => ∃ c, nx = Led c ∧ (∀ p ∈ ps c, m p.1 = some p.2) ∧ (∀ z, (∀ p ∈ ps c, z ≠ p.1) → stored.contains z = false → m z = m₀ z) ∧ P c) I oI s₁ Q f s₂ := by
  have fin : StEnd h₀ L m₀ Led ps stored P I oI s₁ s₂ → TurnEnd h₀ L (fun m nx => ∃ c, nx = Led c ∧ (∀ p ∈ ps c, m p.1 = some p.2) ∧ (∀ z, (∀ p ∈ ps c, z ≠ p.1) → stored.contains z = false → m z = m₀ z) ∧ P c) I oI s₁ s₂ := by
    rintro ⟨c', h', tk, m', news', e, F, N, hI, hL, hn, hk, hr, hp⟩
    exact ⟨h', tk, m', Led c', e, F, fun p hp => (List.mem_cons.mp hp).elim (fun e => N p (e ▸ hI)) fun hp => N p (hL p hp), hn, c', rfl, hk, hr, hp⟩
  cases f with
  | ret v => exact h
  | brk => exact h
  | next => exact fin h
  | cont => exact fin h
theorem for_list {σ : Type} {D : Addr} {vs : List Value} {n : Nat} {m₀ : Str → Option Value} (Led : σ → List (Addr × Obj)) (ps : σ → List (Str × Value)) (stored : List Str) (P : Nat → σ → Prop) (c₀ : σ)
    (hh : A.handled = none) (F : Fr h₀ env.locals s.heap m₀) (N : News h₀ env.locals s.heap (Led c₀)) (hk : ∀ p ∈ ps c₀, m₀ p.1 = some p.2) (hp : P 0 c₀) (hD : ∀ c, (D, W.listOf vs.toArray n) ∈ Led c)
    (turn : ∀ i v c (u : Str → Option Value) h tk I oI, vs[i]? = some v → P i c → (∀ p ∈ Led c, p.1 ≠ I) → Fr h₀ env.locals h (fun y => if y = x then some v else kstB (fun z => if stored.contains z then u z else m₀ z) (ps c) y) → News h₀ env.locals h ((I, oI) :: Led c) →
      wpAny (model prog w) A (execs body env) (StPost h₀ env.locals m₀ Led ps stored (P (i + 1)) I oI { s with heap := h, toks := tk } Q) E { s with heap := h, toks := tk })
    (done : ∀ c (u : Str → Option Value) h tk, P vs.length c → Fr h₀ env.locals h (kstB (fun z => if stored.contains z then u z else m₀ z) (ps c)) → News h₀ env.locals h (Led c) → Q .next { s with heap := h, toks := tk }) :
    wpAny (model prog w) A (pyIter (.ref D)) (fun it s₂ => LoopAtV prog w A h₀ env x body Q E it s₂) E s := by
  refine iter_ledger (vs := vs) (n := n) (fun i m nx => ∃ c, nx = Led c ∧ (∀ p ∈ ps c, m p.1 = some p.2) ∧ (∀ z, (∀ p ∈ ps c, z ≠ p.1) → stored.contains z = false → m z = m₀ z) ∧ P i c) hh F N ⟨c₀, rfl, hk, fun _ _ _ => rfl, hp⟩ ?_ ?_ ?_
  · rintro i m nx ⟨c, rfl, _⟩; exact hD c
  · rintro i v m₁ nx h tk I oI hv ⟨c, rfl, hk', hr', hp'⟩ hn F₁ N₁
    refine wpAny_mono (turn i v c m₁ h tk I oI hv hp' hn ?_ N₁) (fun f s₂ q => st_post q) fun _ _ e => e
    rw [st_map hk' hr']; exact F₁
  · rintro m₁ nx h tk ⟨c, rfl, hk', hr', hp'⟩ F₁ N₁
    exact done c m₁ h tk hp' (by rw [st_map hk' hr']; exact F₁) N₁
theorem for_range {σ : Type} {r : Addr} {a b : Int} {t u v : Tok} {k : Nat} {m₀ : Str → Option Value} (Led : σ → List (Addr × Obj)) (ps : σ → List (Str × Value)) (stored : List Str) (P : Nat → σ → Prop) (c₀ : σ)
    (hh : A.handled = none) (hr : IsRange s.heap r a b 1 t u v) (hsm : Builtin.Range.small a b 1 = true) (hkk : Builtin.Range.rangeSize a b 1 = ((k : Nat) : Int)) (F : Fr h₀ env.locals s.heap m₀) (N : News h₀ env.locals s.heap (Led c₀)) (hk : ∀ p ∈ ps c₀, m₀ p.1 = some p.2) (hp : P 0 c₀)
    (turn : ∀ i t c (u : Str → Option Value) h tk I oI, i < k → P i c → (∀ p ∈ Led c, p.1 ≠ I) → Fr h₀ env.locals h (fun y => if y = x then some (.int (a + (i : Nat)) t) else kstB (fun z => if stored.contains z then u z else m₀ z) (ps c) y) → News h₀ env.locals h ((I, oI) :: Led c) →
      wpAny (model prog w) A (execs body env) (StPost h₀ env.locals m₀ Led ps stored (P (i + 1)) I oI { s with heap := h, toks := tk } Q) E { s with heap := h, toks := tk })
    (done : ∀ c (u : Str → Option Value) h tk, P k c → Fr h₀ env.locals h (kstB (fun z => if stored.contains z then u z else m₀ z) (ps c)) → News h₀ env.locals h (Led c) → Q .next { s with heap := h, toks := tk }) :
    wpAny (model prog w) A (pyIter (.ref r)) (fun it s₂ => LoopAtV prog w A h₀ env x body Q E it s₂) E s := by
  refine iter_range1 (fun i m nx => ∃ c, nx = Led c ∧ (∀ p ∈ ps c, m p.1 = some p.2) ∧ (∀ z, (∀ p ∈ ps c, z ≠ p.1) → stored.contains z = false → m z = m₀ z) ∧ P i c) hh hr hsm hkk F N ⟨c₀, rfl, hk, fun _ _ _ => rfl, hp⟩ ?_ ?_
  · rintro i t m₁ nx h tk I oI hi ⟨c, rfl, hk', hr', hp'⟩ hn F₁ N₁
    refine wpAny_mono (turn i t c m₁ h tk I oI hi hp' hn ?_ N₁) (fun f s₂ q => st_post q) fun _ _ e => e
    rw [st_map hk' hr']; exact F₁
  · rintro m₁ nx h tk ⟨c, rfl, hk', hr', hp'⟩ F₁ N₁
    exact done c m₁ h tk hp' (by rw [st_map hk' hr']; exact F₁) N₁
end
theorem news_swap {h₀ h : Heap} {L : Addr} {a b : Addr × Obj} {l : List (Addr × Obj)} (N : News h₀ L h (a :: b :: l)) : News h₀ L h (b :: a :: l) := fun p hp => by
  rcases List.mem_cons.mp hp with rfl | hp
  · exact N _ (.tail _ (.head _))
  · rcases List.mem_cons.mp hp with rfl | hp
    · exact N _ (.head _)
    · exact N _ (.tail _ (.tail _ hp))
end
/-! Comps -/
section
open PySem PySem.W PyProof.Rows PyProof.Rows.LCg PyProof.Rows.LCt
inductive RowRel (Rel : Nat → Value → Prop) : List Nat → List Value → Prop
  | nil : RowRel Rel [] []
  | cons {i : Nat} {y : Value} {is : List Nat} {ys : List Value} : Rel i y → RowRel Rel is ys → RowRel Rel (i :: is) (y :: ys)
theorem RowRel.snoc {Rel : Nat → Value → Prop} {i : Nat} {y : Value} : ∀ {is : List Nat} {ys : List Value}, RowRel Rel is ys → Rel i y → RowRel Rel (is ++ [i]) (ys ++ [y])
  | _, _, .nil, h => .cons h .nil
  | _, _, .cons a r, h => .cons a (r.snoc h)
theorem RowRel.strs {f : Nat → Str} : ∀ {is : List Nat} {ys : List Value}, RowRel (fun i y => ∃ t, y = .str (f i) t) is ys → StrsAre ys (is.map f)
  | _, _, .nil => .nil
  | _, _, .cons ⟨t, e⟩ r => e ▸ .cons _ t r.strs
theorem RowRel.ints {f : Nat → Int} : ∀ {is : List Nat} {ys : List Value}, RowRel (fun i y => ∃ t, y = .int (f i) t) is ys → IntsAre ys (is.map f)
  | _, _, .nil => .nil
  | _, _, .cons ⟨t, e⟩ r => e ▸ .cons _ t r.ints
/-- the ledger led stands at s' -/
def Stands (h₀ : Heap) (L : Addr) (m : Str → Option Value) (s : Shared) (led : List (Addr × Obj)) (s' : Shared) : Prop :=
  ∃ h' tk' nw, s' = { s with heap := h', toks := tk' } ∧ Fr h₀ L h' m ∧ News h₀ L h' nw ∧ ∀ p ∈ led, p ∈ nw
theorem Stands.intro {h₀ : Heap} {L : Addr} {m : Str → Option Value} {s : Shared} {led nw : List (Addr × Obj)} {h' : Heap} {tk' : Nat} (F : Fr h₀ L h' m) (N : News h₀ L h' nw) (hs : ∀ p ∈ led, p ∈ nw) :
    Stands h₀ L m s led { s with heap := h', toks := tk' } := ⟨h', tk', nw, rfl, F, N, hs⟩
/-- how an element's evaluation ends -/
def EltEnd (Rel : Value → Prop) (h₀ : Heap) (L : Addr) (m : Str → Option Value) (s : Shared) (led : List (Addr × Obj)) (y : Value) (s' : Shared) : Prop := Rel y ∧ Stands h₀ L m s led s'
/-- how a test's evaluation ends -/
def TestEnd (b : Bool) (h₀ : Heap) (L : Addr) (m : Str → Option Value) (s : Shared) (led : List (Addr × Obj)) (ok : Bool) (s' : Shared) : Prop := ok = b ∧ Stands h₀ L m s led s'
theorem elt_end {Rel : Value → Prop} {h₀ : Heap} {L : Addr} {m : Str → Option Value} {s : Shared} {led nw : List (Addr × Obj)} {y : Value} {h' : Heap} {tk' : Nat} (hR : Rel y) (F : Fr h₀ L h' m) (N : News h₀ L h' nw) (hs : ∀ p ∈ led, p ∈ nw) :
    EltEnd Rel h₀ L m s led y { s with heap := h', toks := tk' } := ⟨hR, h', tk', nw, rfl, F, N, hs⟩
theorem test_end {b ok : Bool} {h₀ : Heap} {L : Addr} {m : Str → Option Value} {s : Shared} {led nw : List (Addr × Obj)} {h' : Heap} {tk' : Nat} (hR : ok = b) (F : Fr h₀ L h' m) (N : News h₀ L h' nw) (hs : ∀ p ∈ led, p ∈ nw) :
    TestEnd b h₀ L m s led ok { s with heap := h', toks := tk' } := ⟨hR, h', tk', nw, rfl, F, N, hs⟩
section
variable {prog : Program} {w : World} {A : Around} {E : Value → Shared → Prop} {s : Shared} {h₀ : Heap} {L : Addr} {m : Str → Option Value} {env : Env}
theorem comp_rest {elt : Expr} {x : Str} {scope : Scope} {cl : List (Str × Addr)} {S : List (Addr × Obj) → Prop} {P : Nat → Value → Prop} {Fin : List Value → List (Addr × Obj) → Prop} {news : List (Addr × Obj)} (n : Nat) (Rel : Nat → Value → Prop) (hS : S news)
    (step : ∀ i ys v I oI C oC D m₂ h tk (E' : Value → Shared → Prop), i < n → P i v → NsObj oC m₂ → m₂ x = some v → Fr h₀ L h m → News h₀ L h ((I, oI) :: (C, oC) :: (D, lst ys) :: news) → Off3 I C D news → ((@Ne Nat I C) ∧ (@Ne Nat I D) ∧ (@Ne Nat C D)) →
      wpAny (model prog w) A (eval elt (compEnvC scope cl C env)) (EltEnd (Rel i) h₀ L m { s with heap := h, toks := tk } ((I, oI) :: (C, oC) :: (D, lst ys) :: news)) E' { s with heap := h, toks := tk })
    (fin : ∀ ys, RowRel Rel (List.range n) ys → Fin ys news) :
    ∀ k i ys, i + k = n → RowRel Rel (List.range i) ys → CompRest prog w A h₀ L m env elt x scope cl s S P Fin k i ys news
  | 0, i, ys, hi, hr => fin ys (by rw [← hi]; exact hr)
  | k + 1, i, ys, hi, hr => by
    intro v I oI C oC D m₂ h tk E' hP hC hx F N off ne
    refine wpAny_mono (step i ys v I oI C oC D m₂ h tk E' (by omega) hP hC hx F N off ne) (fun y s' q => ?_) fun _ _ e => e
    obtain ⟨hR, h', tk', nw, rfl, F', N', hs⟩ := q
    exact ⟨h', tk', news, rfl, F', fun p hp => N' p (hs p hp), off, hS, comp_rest n Rel hS step fin k (i + 1) (ys ++ [y]) (by omega) (by rw [List.range_succ]; exact hr.snoc hR)⟩
theorem comp_restT {ct elt : Expr} {x : Str} {scope : Scope} {cl : List (Str × Addr)} {S : List (Addr × Obj) → Prop} {P : Nat → Value → Prop} {Fin : List Value → List (Addr × Obj) → Prop} {news : List (Addr × Obj)} (n : Nat) (pz : Nat → Bool) (Rel : Nat → Value → Prop) (hS : S news)
    (test : ∀ i ys v I oI C oC D m₂ h tk (E' : Value → Shared → Prop), i < n → P i v → NsObj oC m₂ → m₂ x = some v → Fr h₀ L h m → News h₀ L h ((I, oI) :: (C, oC) :: (D, lst ys) :: news) → Off3 I C D news → ((@Ne Nat I C) ∧ (@Ne Nat I D) ∧ (@Ne Nat C D)) →
      wpAny (model prog w) A (isTrue ct (compEnvC scope cl C env) (eval ct (compEnvC scope cl C env))) (TestEnd (pz i) h₀ L m { s with heap := h, toks := tk } ((I, oI) :: (C, oC) :: (D, lst ys) :: news)) E' { s with heap := h, toks := tk })
    (step : ∀ i ys v I oI C oC D m₂ h tk (E' : Value → Shared → Prop), i < n → pz i = true → P i v → NsObj oC m₂ → m₂ x = some v → Fr h₀ L h m → News h₀ L h ((I, oI) :: (C, oC) :: (D, lst ys) :: news) → Off3 I C D news → ((@Ne Nat I C) ∧ (@Ne Nat I D) ∧ (@Ne Nat C D)) →
      wpAny (model prog w) A (eval elt (compEnvC scope cl C env)) (EltEnd (Rel i) h₀ L m { s with heap := h, toks := tk } ((I, oI) :: (C, oC) :: (D, lst ys) :: news)) E' { s with heap := h, toks := tk })
    (fin : ∀ ys, RowRel Rel ((List.range n).filter pz) ys → Fin ys news) :
    ∀ k i ys, i + k = n → RowRel Rel ((List.range i).filter pz) ys → CompRestT prog w A h₀ L m env ct elt x scope cl s S P Fin k i ys news
  | 0, i, ys, hi, hr => fin ys (by rw [← hi]; exact hr)
  | k + 1, i, ys, hi, hr => by
    intro v I oI C oC D m₂ h tk E' hP hC hx F N off ne
    refine wpAny_mono (test i ys v I oI C oC D m₂ h tk E' (by omega) hP hC hx F N off ne) (fun ok s' q => ?_) fun _ _ e => e
    obtain ⟨rfl, h', tk', nw, rfl, F', N', hs⟩ := q
    have N₁ : News h₀ L h' ((I, oI) :: (C, oC) :: (D, lst ys) :: news) := fun p hp => N' p (hs p hp)
    cases hz : pz i with
    | true =>
      simp only [if_true]
      refine wpAny_mono (step i ys v I oI C oC D m₂ h' tk' E' (by omega) hz hP hC hx F' N₁ off ne) (fun y s' q => ?_) fun _ _ e => e
      obtain ⟨hR, h₂, tk₂, nw₂, rfl, F₂, N₂, hs₂⟩ := q
      exact ⟨h₂, tk₂, news, rfl, F₂, fun p hp => N₂ p (hs₂ p hp), off, hS, comp_restT n pz Rel hS test step fin k (i + 1) (ys ++ [y]) (by omega) (by rw [List.range_succ, List.filter_append]; simp only [List.filter, hz]; exact hr.snoc hR)⟩
    | false =>
      simp only [Bool.false_eq_true, if_false]
      exact ⟨h', tk', news, rfl, F', N₁, off, hS, comp_restT n pz Rel hS test step fin k (i + 1) ys (by omega) (by rw [List.range_succ, List.filter_append]; simp only [List.filter, hz, List.append_nil]; exact hr)⟩
/-- a comprehension over a text of plain signs -/
def SrcS (prog : Program) (w : World) (A : Around) (h₀ : Heap) (L : Addr) (m : Str → Option Value) (env : Env) (elt : Expr) (x : Str) (scope : Scope) (cl : List (Str × Addr)) (Fin : Shared → List Value → List (Addr × Obj) → Prop) (xv : Value) (s₁ : Shared) : Prop :=
  ∃ y t news, xv = .str y t ∧ A.handled = none ∧ Fr h₀ L s₁.heap m ∧ News h₀ L s₁.heap news ∧ y.cps.all (· < 128) = true ∧ y.cps.size ≤ sizeLine ∧
    ∀ s₂ : Shared, (∃ h, s₂ = { s₁ with heap := h }) → CompRest prog w A h₀ L m env elt x scope cl s₂ (fun _ => True) (SignAt y) (Fin s₂) y.cps.size 0 [] news
theorem ListComp_S {elt iter : Expr} {x : Str} {px : Pos} {scope : Scope} {cl : List (Str × Addr)} {pos : Pos} {Q : Value → Shared → Prop} (F₀ : Fr h₀ L s.heap m)
    (hclos : closureFor scope env = pure cl) (hcell : ∀ y ∈ scope.names, y.2 ≠ .cell) (hkind : scope.kind = .function)
    (hnames : ∀ y ∈ scope.names, y.2 = .local → scope.names.lookup y.1 = some .local) (hx : scope.names.lookup x = some .local)
    (h : wpAny (model prog w) A (eval iter env) (SrcS prog w A h₀ L m env elt x scope cl (fun s₂ => FinE h₀ L m s₂ Q)) E s)
    (hs : ∀ x, foldedSetIterable iter env x = pure x := by intro _; rfl) :
    wpAny (model prog w) A (eval (.ListComp elt [⟨.Name x px, iter, [], 0⟩] scope pos) env) Q E s := by
  rw [eval_ListComp]
  refine wpAny_comprehension_free (use := none) rfl hs hclos hkind hnames (wpAny_mono h (fun xv s₁ h₁ => ?_) fun _ _ e => e)
  obtain ⟨y, t, news, rfl, hh, F, N, hall, hsz, R⟩ := h₁
  refine wpAny_pyIter_ascii hall ?_
  refine block_U (Walks.strAscii hh s₁.heap.objs.size y t) hsz (fun i h st => by obtain ⟨o, e, _⟩ := st; exact ⟨o, e⟩)
    (fun i h h' o nw st e e' _ _ _ => (Walks.strAscii (prog := prog) (w := w) hh s₁.heap.objs.size y t).frame i h h' st fun b hb o' eo => by rw [List.mem_singleton.mp hb] at eo ⊢; rw [e] at eo; rw [e']; exact eo)
    hcell hkind hx ⟨_, Heap.get?_push_size _ rfl, rfl, rfl⟩ (fun b hb => ?_)
    (F.keeps fun _ _ e => Heap.get?_push_of_some _ e) (N.grown fun _ _ e => Heap.get?_push_of_some _ e) (Nat.ne_of_lt F.ns.lt) (next_is_new F) (fun p hp => Nat.ne_of_lt (Heap.lt_size (N p hp).1)) trivial (R _ ⟨_, rfl⟩) ?_
  · rw [List.mem_singleton.mp hb]
    show s₁.heap.objs.size < (s₁.heap.push _).objs.size
    rw [Heap.size_push]; exact Nat.lt_succ_self _
  · intro D C h tk m' ys news' F' N' o1 hn hC₀ hD₀ hCL hDL hCD offC fin
    refine ⟨m', hn, fun h'' hs'' => fin D h'' tk (F'.change hs'' hCL hC₀) (fun p hp => ?_) o1⟩
    refine ⟨hs''.extBut _ _ ?_ (N' p hp).1, (N' p hp).2⟩
    rcases List.mem_cons.mp hp with rfl | hp
    · exact Ne.symm hCD
    · exact offC p hp
end
end
/-! Nest -/
section
open PySem PySem.W PyProof.Rows PyProof.Rows.LCg PyProof.Rows.LCt
/-- the rows of a comprehension with two clauses -/
def rows2 (f : Nat → Nat → Str) (k i : Nat) : List Str := (List.range i).flatMap fun a => (List.range k).map (f a)
theorem rows2_succ (f : Nat → Nat → Str) (k i : Nat) : rows2 f k (i + 1) = rows2 f k i ++ (List.range k).map (f i) := by
  unfold rows2; rw [List.range_succ, List.flatMap_append]; simp
theorem rows2_len (f : Nat → Nat → Str) (k : Nat) : ∀ i, (rows2 f k i).length = i * k
  | 0 => by simp [rows2]
  | i + 1 => by rw [rows2_succ, List.length_append, rows2_len f k i, List.length_map, List.length_range, Nat.succ_mul]
section
variable {prog : Program} {w : World} {A : Around} {E : Value → Shared → Prop} {s : Shared} {h₀ : Heap} {L : Addr} {m : Str → Option Value} {env : Env} {R : Result → Shared → Prop}
theorem turn2_0 (elt t1 t2 i1 i2 : Expr) (scope : Scope) (pos : Pos) (it acc : Value) (cenv : Env) :
    compTurn (.ListComp elt [⟨t1, i1, [], 0⟩, ⟨t2, i2, [], 0⟩] scope pos) 0 it acc cenv = (standAt i1.pos >>= fun _ => pyNext it >>= fun r => match r with
      | none => pure (.done .next)
      | some v => letOwnedTupleGo t1 it v >>= fun _ => assign t1 cenv v >>= fun _ =>
        eval i2 cenv >>= fun x => standAt i2.pos >>= fun _ => foldedSetIterable i2 cenv x >>= fun x => holding [x] (pyIter x) >>= fun it2 =>
          runOwn (.compStart (.ListComp elt [⟨t1, i1, [], 0⟩, ⟨t2, i2, [], 0⟩] scope pos) 1 it2 acc cenv) cenv >>= fun _ =>
          again (.compLoop (.ListComp elt [⟨t1, i1, [], 0⟩, ⟨t2, i2, [], 0⟩] scope pos) 0 it acc cenv)) := by rfl
theorem turn2_1 (elt t1 t2 i1 i2 : Expr) (scope : Scope) (pos : Pos) (it acc : Value) (cenv : Env) :
    compTurn (.ListComp elt [⟨t1, i1, [], 0⟩, ⟨t2, i2, [], 0⟩] scope pos) 1 it acc cenv = (standAt i2.pos >>= fun _ => pyNext it >>= fun r => match r with
      | none => pure (.done .next)
      | some v => letOwnedTupleGo t2 it v >>= fun _ => assign t2 cenv v >>= fun _ =>
        (eval elt cenv >>= fun x => call (.builtin "list.append") [acc, x] >>= fun _ => pure ()) >>= fun _ =>
          again (.compLoop (.ListComp elt [⟨t1, i1, [], 0⟩, ⟨t2, i2, [], 0⟩] scope pos) 1 it acc cenv)) := by rfl
theorem start2_1 {elt t1 t2 i1 i2 : Expr} {scope : Scope} {pos : Pos} {it acc : Value} {cenv : Env}
    (h0 : codeAny (model prog w) A (.compLoop (.ListComp elt [⟨t1, i1, [], 0⟩, ⟨t2, i2, [], 0⟩] scope pos) 1 it acc cenv) R s)
    (h : wpAny (model prog w) A (pyIter it) (fun it' s' => codeAny (model prog w) A (.compLoop (.ListComp elt [⟨t1, i1, [], 0⟩, ⟨t2, i2, [], 0⟩] scope pos) 1 it' acc cenv) R s')
      (notedBy (model prog w) A cenv fun x s' => R (.error x) s') s) :
    codeAny (model prog w) A (.compStart (.ListComp elt [⟨t1, i1, [], 0⟩, ⟨t2, i2, [], 0⟩] scope pos) 1 it acc cenv) R s := by
  refine codeAny_of_tree ?_
  show wpAny _ _ ((compStart (.ListComp elt [⟨t1, i1, [], 0⟩, ⟨t2, i2, [], 0⟩] scope pos) 1 it acc cenv).onRaise (fun x => do noteFrame x cenv; standAt theWindowsPlace)) _ _ s
  refine wpAny_notedAt ?_
  unfold compStart
  show wpAny _ _ (ask >>= _) _ _ s
  refine wpAny_bind (wpAny_askSetting (wpAny_ite ?_))
  split
  · first
      | exact wpAny_bind (wpAny_pure (wpAny_pure (And.intro rfl h0)))
      | exact wpAny_pure (And.intro rfl h0)
  · first
      | exact wpAny_bind (wpAny_rule (wpAny_bind (wpAny_standAt (wpAny_bind (wpAny_mono h (fun it' s' h' => wpAny_pure (And.intro rfl h')) fun _ _ x => x)))))
      | (refine wpAny_bind (wpAny_rule ?_); show wpAny _ _ (standAt i2.pos >>= _) _ _ s; exact wpAny_bind (wpAny_standAt (wpAny_bind (wpAny_mono h (fun it' s' h' => wpAny_pure (And.intro rfl h')) fun _ _ x => x))))
/-- the inner clause, over the signs of a text: f i j for the j-th sign -/
theorem inner2 {elt i1 i2 : Expr} {x z : Str} {px pz : Pos} {scope : Scope} {cl : List (Str × Addr)} {pos : Pos} {I2 C D : Addr} {y : Str} {ty : Tok} {g : Nat → Str} {v : Value} {news : List (Addr × Obj)} {St : Heap → Prop} {s₂ : Shared} {xs : List Str} {R : Result → Shared → Prop}
    (hh : A.handled = none) (hkind : scope.kind = .function) (hz : scope.names.lookup z = some .local) (hxz : x ≠ z)
    (hsz : xs.length + y.cps.size ≤ sizeLine)
    (hI2L : L ≠ I2) (hI2₀ : h₀.get? I2 = none) (hCL : C ≠ L) (hC₀ : h₀.get? C = none) (hDL : D ≠ L) (hD₀ : h₀.get? D = none) (hIC : I2 ≠ C) (hID : I2 ≠ D) (hCD : C ≠ D) (offI : ∀ p ∈ news, p.1 ≠ I2) (offC : ∀ p ∈ news, p.1 ≠ C) (offD : ∀ p ∈ news, p.1 ≠ D)
    (hSt : ∀ h h', St h → (∀ b o, b ≠ I2 → b ≠ C → b ≠ D → h.get? b = some o → h'.get? b = some o) → St h')
    (helt : ∀ j u m₂ (s₃ : Shared) (E' : Value → Shared → Prop), SignAt y j u → s₃.heap.Ns C m₂ → m₂ x = some v → m₂ z = some u →
      wpAny (model prog w) A (eval elt (compEnvC scope cl C env)) (fun r s₄ => (∃ t, r = .str (g j) t) ∧ ∃ tk', s₄ = { s₃ with toks := tk' }) E' s₃)
    (fin : ∀ h tk m' ys, St h → Fr h₀ L h m → h.Ns C m' → News h₀ L h ((D, lst ys) :: news) → StrsAre ys (xs ++ (List.range y.cps.size).map g) → R (.ok .next) { s₂ with heap := h, toks := tk }) :
    ∀ (h : Heap) (tk : Nat) m' ys, h.IsStrIter I2 "str_ascii_iterator" y ty 0 → St h → Fr h₀ L h m → h.Ns C m' → m' x = some v → News h₀ L h ((D, lst ys) :: news) → StrsAre ys xs →
      codeAny (model prog w) A (.compLoop (.ListComp elt [⟨.Name x px, i1, [], 0⟩, ⟨.Name z pz, i2, [], 0⟩] scope pos) 1 (.ref I2) (.ref D) (compEnvC scope cl C env)) R { s₂ with heap := h, toks := tk } := by
  intro h tk m' ys hit hst F hn hmx N hys
  have W := Walks.strAscii (prog := prog) (w := w) (A := A) hh I2 y ty
  refine codeAny_loop rfl (fun k s' => ∃ h' tk' j ys' m', s' = { s₂ with heap := h', toks := tk' } ∧ j ≤ y.cps.size ∧ k = y.cps.size + 1 - j ∧ h'.IsStrIter I2 "str_ascii_iterator" y ty j ∧ St h' ∧ Fr h₀ L h' m ∧ h'.Ns C m' ∧ m' x = some v ∧ News h₀ L h' ((D, lst ys') :: news) ∧ StrsAre ys' (xs ++ (List.range j).map g)) ?_ (y.cps.size + 1)
    ⟨h, tk, 0, ys, m', rfl, Nat.zero_le _, rfl, hit, hst, F, hn, hmx, N, by simpa using hys⟩
  rintro k s' ⟨h', tk', j, ys', m'', rfl, hj, rfl, hit', hst', F', hn', hmx', N', hys'⟩
  show wpAny _ A ((compTurn (.ListComp elt [⟨.Name x px, i1, [], 0⟩, ⟨.Name z pz, i2, [], 0⟩] scope pos) 1 (.ref I2) (.ref D) (compEnvC scope cl C env)).onRaise (fun x => do noteFrame x (compEnvC scope cl C env); theTreesLotGoes x)) _ _ _
  refine wpAny_noted (wpAny_noRaise ?_)
  rw [turn2_1]
  refine wpAny_bind (wpAny_standAt (wpAny_bind ?_))
  by_cases hlt : j < y.cps.size
  · refine W.item j _ _ _ hlt hit' fun u h₂ tk₂ hP hit₂ hk₂ => ?_
    dsimp only at hk₂ ⊢
    refine wpAny_bind (wpAny_of_eq (a := ()) rfl ?_)
    refine wpAny_bind (wpAny_assign_Name (wpAny_storeName_local (lookup_relabel_local hz) (hn'.at' fun o e => hk₂ _ o (by simpa using Ne.symm hIC) e) (fun h₃ hn₃ hs₃ => ?_) (by simp [compEnvC, relabel, hkind])))
    have F₃ : Fr h₀ L h₃ m := (fr_but F' hk₂ hI2L hI2₀).change hs₃ hCL hC₀
    have N₂ : News h₀ L h₂ ((D, lst ys') :: news) := news_but N' hk₂ fun p hp => by
      rcases List.mem_cons.mp hp with rfl | hp
      · exact Ne.symm hID
      · exact offI p hp
    have N₃ : News h₀ L h₃ ((D, lst ys') :: news) := fun p hp => by
      have zz := N₂ p hp
      refine ⟨hs₃.extBut _ _ ?_ zz.1, zz.2⟩
      rcases List.mem_cons.mp hp with rfl | hp
      · exact Ne.symm hCD
      · exact offC p hp
    have hst₃ : St h₃ := hSt _ _ hst' fun b o b1 b2 _ e => hs₃.extBut b o b2 (hk₂ b o (by simpa using b1) e)
    refine wpAny_bind (wpAny_bind (wpAny_mono (helt j u _ _ _ hP hn₃ (by simp only [hxz, if_false]; exact hmx') (by simp)) (fun r s₄ q => ?_) fun _ _ e => e))
    obtain ⟨⟨t, rfl⟩, tk₄, rfl⟩ := q
    have hyl := hys'.length
    rw [List.length_append, List.length_map, List.length_range] at hyl
    refine wpAny_bind (append_at (hsz := by show ys'.toArray.size ≤ sizeLine; rw [List.size_toArray]; omega) (N₃ _ (.head _)).1 fun h₅ hs₅ hD₅ => ?_)
    refine wpAny_pure (wpAny_pure ⟨rfl, y.cps.size + 1 - (j + 1), by omega, h₅, tk₄, j + 1, ys' ++ [.str (g j) t], _, rfl, hlt, rfl, ?_, hSt _ _ hst₃ fun b o _ _ b3 e => hs₅.extBut b o b3 e, F₃.change hs₅ hDL hD₀, hn₃.sameBut hs₅ hCD, (by simp only [hxz, if_false]; exact hmx'), fun p hp => ?_, ?_⟩)
    · exact ((hit₂.extBut hs₃.extBut hIC)).extBut hs₅.extBut hID
    · rcases List.mem_cons.mp hp with rfl | hp
      · exact ⟨hD₅.trans (congrArg some (lst_snoc ys' _)), hDL, hD₀⟩
      · exact ⟨hs₅.extBut _ _ (offD p hp) (N₃ p (.tail _ hp)).1, (N₃ p (.tail _ hp)).2⟩
    · rw [List.range_succ, List.map_append, ← List.append_assoc]
      exact kct_snoc hys'
  · obtain rfl : j = y.cps.size := Nat.le_antisymm hj (Nat.not_lt.mp hlt)
    refine W.done _ _ _ hit' fun h₂ tk₂ hk₂ => wpAny_pure ?_
    dsimp only at hk₂ ⊢
    exact fin h₂ tk₂ _ ys' (hSt _ _ hst' fun b o b1 _ _ e => hk₂ b o (by simpa using b1) e) (fr_but F' hk₂ hI2L hI2₀) (hn'.at' fun o e => hk₂ _ o (by simpa using Ne.symm hIC) e) (news_but N' hk₂ fun p hp => by
      rcases List.mem_cons.mp hp with rfl | hp
      · exact Ne.symm hID
      · exact offI p hp) hys'
theorem off1_of {D : Addr} : ∀ {l : List (Addr × Obj)}, (∀ p ∈ l, p.1 ≠ D) → Off1 D l
  | [], _ => trivial
  | _ :: _, h => ⟨h _ (.head _), off1_of fun p hp => h p (.tail _ hp)⟩
/-- y = [elt for x in <a list of the ledger> for z in <a text>] -/
theorem Assign_nest {elt iter i2 : Expr} {x z y : Str} {px pz py : Pos} {scope : Scope} {cl : List (Str × Addr)} {pos spos : Pos} {Q : Flow → Shared → Prop} {ax : Addr} {its : List Value} {nn : Nat} {news : List (Addr × Obj)} {yt : Str} {f : Nat → Nat → Str}
    (hsw : swapsWith (.ListComp elt [⟨.Name x px, iter, [], 0⟩, ⟨.Name z pz, i2, [], 0⟩] scope pos) (some (.Name y py)) spos.line env = pure true)
    (hh : A.handled = none) (hclos : closureFor scope env = pure cl) (hcell : ∀ q ∈ scope.names, q.2 ≠ .cell) (hkind : scope.kind = .function)
    (hnames : ∀ q ∈ scope.names, q.2 = .local → scope.names.lookup q.1 = some .local) (hx : scope.names.lookup x = some .local) (hz : scope.names.lookup z = some .local) (hxz : x ≠ z)
    (hy : env.kindOf y = some .local) (hp : (env.scope.kind == .class || (env.scope.kind == .module && env.locals != env.globals)) = false)
    (F : Fr h₀ env.locals s.heap m) (N : News h₀ env.locals s.heap news) (hax : (ax, W.listOf its.toArray nn) ∈ news) (hall : yt.cps.all (· < 128) = true) (hsz : its.length * yt.cps.size ≤ sizeLine)
    (hiter : ∀ (Q' : Value → Shared → Prop) (E' : Value → Shared → Prop), Q' (.ref ax) s → wpAny (model prog w) A (eval iter env) Q' E' s)
    (hi2 : ∀ C (s' : Shared) (Q' : Value → Shared → Prop) (E' : Value → Shared → Prop), (∀ t tk', Q' (.str yt t) { s' with toks := tk' }) → wpAny (model prog w) A (eval i2 (compEnvC scope cl C env)) Q' E' s')
    (helt : ∀ i j v u C m₂ (s₃ : Shared) (E' : Value → Shared → Prop), its[i]? = some v → SignAt yt j u → s₃.heap.Ns C m₂ → m₂ x = some v → m₂ z = some u →
      wpAny (model prog w) A (eval elt (compEnvC scope cl C env)) (fun r s₄ => (∃ t, r = .str (f i j) t) ∧ ∃ tk', s₄ = { s₃ with toks := tk' }) E' s₃)
    (fin : ∀ D h tk ys, Fr h₀ env.locals h (fun q => if q = y then some (.ref D) else m q) → News h₀ env.locals h ((D, lst ys) :: news) → Off1 D news → StrsAre ys (rows2 f yt.cps.size its.length) → Q .next { s with heap := h, toks := tk })
    (hs : ∀ x, foldedSetIterable iter env x = pure x := by intro _; rfl)
    (hs2 : ∀ C x, foldedSetIterable i2 (compEnvC scope cl C env) x = pure x := by intro _ _; rfl) :
    wpAny (model prog w) A (exec (.Assign [.Name y py] (.ListComp elt [⟨.Name x px, iter, [], 0⟩, ⟨.Name z pz, i2, [], 0⟩] scope pos) spos) env) Q E s := by
  rw [exec_Assign_Name_used _ _ _ _ hsw]
  refine wpAny_bind (wpAny_standAt (wpAny_bind ?_))
  show wpAny _ A (do let _ ← comprehension (.ListComp elt [⟨.Name x px, iter, [], 0⟩, ⟨.Name z pz, i2, [], 0⟩] scope pos) scope env _ (newList []) false (eval iter env) (some (assign (.Name y py) env))) _ _ s
  refine wpAny_bind (wpAny_mono (wpAny_comprehension_free (use := some (assign (.Name y py) env)) (Q := fun _ s' => Q .next s') rfl hs hclos hkind hnames
    (hiter _ _ ?_)) (fun _ s' hq => wpAny_pure (wpAny_pure hq)) fun _ _ e => e)
  have hl : s.heap.IsList ax its.toArray := News.isList N hax
  have hlt : ax < s.heap.objs.size := Heap.lt_size (N _ hax).1
  have hLlt : env.locals < s.heap.objs.size := F.ns.lt
  refine wpAny_pyIter_list hl ?_
  have W := Walks.list (prog := prog) (w := w) (A := A) hh s.heap.objs.size ax (Nat.ne_of_lt hlt) its.toArray
  have hsz9 : its.toArray.size = its.length := List.size_toArray ..
  rw [hsz9] at W
  refine wpAny_newObj_type (wpAny_newFunctionEnv hcell (by intro y hy; simp at hy) (fun h₁ hns₁ hsb₁ => ?_) hkind)
  dsimp only at hns₁ hsb₁ ⊢
  generalize hI : s.heap.objs.size = I at W hsb₁ hns₁ ⊢
  generalize hH1 : s.heap.push { cls := .type "list_iterator", data := .fields #[.ref ax, .int 0 0] } = H1 at hns₁ hsb₁ ⊢
  generalize hH2 : H1.push { cls := .type "list", dict := none, data := .seq ([] : List Value).toArray } = H2 at hns₁ hsb₁ ⊢
  have hs1 : H1.objs.size = I + 1 := by rw [← hH1, Heap.size_push, hI]
  have hs2' : H2.objs.size = I + 1 + 1 := by rw [← hH2, Heap.size_push, hs1]
  rw [hs2'] at hns₁ hsb₁
  rw [hs1, hs2']
  have lt0 : ∀ b, b < I → b ≠ I ∧ b ≠ I + 1 ∧ b ≠ I + 1 + 1 := fun b hb => ⟨Nat.ne_of_lt hb, Nat.ne_of_lt (Nat.lt_succ_of_lt hb), Nat.ne_of_lt (Nat.lt_succ_of_lt (Nat.lt_succ_of_lt hb))⟩
  have up : ∀ b o, s.heap.get? b = some o → h₁.get? b = some o := fun b o e => by
    have hb := Heap.lt_size e
    rw [hI] at hb
    refine hsb₁.extBut b o (lt0 b hb).2.2 (Heap.get?_push_of_some _ ?_)
    rw [← hH2]; refine Heap.get?_push_of_some _ ?_
    rw [← hH1]; exact Heap.get?_push_of_some _ e
  have hIo : h₁.get? I = some { cls := .type "list_iterator", data := .fields #[.ref ax, .int 0 0] } := by
    refine hsb₁.extBut I _ (Nat.ne_of_lt (Nat.lt_succ_of_lt (Nat.lt_succ_self _))) (Heap.get?_push_of_some _ ?_)
    rw [← hH2]; refine Heap.get?_push_of_some _ ?_
    rw [← hH1, ← hI]; exact Heap.get?_push_size _ rfl
  have hDo : h₁.get? (I + 1) = some (lst []) := by
    refine hsb₁.extBut _ _ (Nat.ne_of_lt (Nat.lt_succ_self _)) (Heap.get?_push_of_some _ ?_)
    rw [← hH2, ← hs1]; exact Heap.get?_push_size _ rfl
  have fresh₀ : ∀ a, I ≤ a → h₀.get? a = none := fun a ha => by
    cases e : h₀.get? a with
    | none => rfl
    | some o' => exact absurd (Heap.lt_size (F.keep a o' e)) (Nat.not_lt.mpr (hI ▸ ha))
  have hLI : env.locals < I := hI ▸ hLlt
  have hL3 := lt0 _ hLI
  have off : ∀ p ∈ news, p.1 ≠ I ∧ p.1 ≠ I + 1 ∧ p.1 ≠ I + 1 + 1 := fun p hp => lt0 _ (hI ▸ Heap.lt_size (N p hp).1)
  have hax3 := off _ hax
  have nC : I + 1 + 1 ∉ [I] := fun h => Nat.ne_of_gt (Nat.lt_succ_of_lt (Nat.lt_succ_self I)) (List.mem_singleton.mp h)
  have nD : I + 1 ∉ [I] := fun h => Nat.ne_of_gt (Nat.lt_succ_self I) (List.mem_singleton.mp h)
  have loop : ∀ s₃ : Shared, (∃ tk, s₃ = { s with heap := h₁, toks := tk }) →
      codeAny (model prog w) A (.compLoop (.ListComp elt [⟨.Name x px, iter, [], 0⟩, ⟨.Name z pz, i2, [], 0⟩] scope pos) 0 (.ref I) (.ref (I + 1)) (compEnvC scope cl (I + 1 + 1) env))
        (compPost (model prog w) A E (some (assign (.Name y py) env)) (fun _ s' => Q .next s') (.ref (I + 1)) (I + 1 + 1)) s₃ := by
    rintro s₃ ⟨tk₀, rfl⟩
    refine codeAny_loop rfl (fun k s' => ∃ h' tk' i ys' m', s' = { s with heap := h', toks := tk' } ∧ i ≤ its.length ∧ k = its.length + 1 - i ∧ (h'.IsListIter I ax i ∧ h'.IsList ax its.toArray) ∧ Fr h₀ env.locals h' m ∧ h'.Ns (I + 1 + 1) m' ∧ News h₀ env.locals h' ((I + 1, lst ys') :: news) ∧ StrsAre ys' (rows2 f yt.cps.size i)) ?_ (its.length + 1)
      ⟨h₁, tk₀, 0, [], _, rfl, Nat.zero_le _, rfl, ⟨⟨_, hIo, rfl, rfl⟩, by obtain ⟨o, e, r⟩ := hl; exact ⟨o, up _ _ e, r⟩⟩, F.keeps up, hns₁, fun p hp => ?_, .nil⟩
    · rintro k s' ⟨h', tk', i, ys', m', rfl, hi, rfl, hst', F', hn', N', hys'⟩
      show wpAny _ A ((compTurn (.ListComp elt [⟨.Name x px, iter, [], 0⟩, ⟨.Name z pz, i2, [], 0⟩] scope pos) 0 (.ref I) (.ref (I + 1)) (compEnvC scope cl (I + 1 + 1) env)).onRaise (fun x => do noteFrame x (compEnvC scope cl (I + 1 + 1) env); theTreesLotGoes x)) _ _ _
      refine wpAny_noted (wpAny_noRaise ?_)
      rw [turn2_0]
      refine wpAny_bind (wpAny_standAt (wpAny_bind ?_))
      by_cases hlt' : i < its.length
      · refine W.item i _ _ _ hlt' hst' fun v h₂ tk₂ hP hst₂ hk₂ => ?_
        dsimp only at hk₂ ⊢
        refine wpAny_bind (wpAny_of_eq (a := ()) rfl ?_)
        refine wpAny_bind (wpAny_assign_Name (wpAny_storeName_local (lookup_relabel_local hx) (hn'.at' fun o e => hk₂ _ o nC e) (fun h₃ hn₃ hs₃ => ?_) (by simp [compEnvC, relabel, hkind])))
        have hn₃' : h₃.Ns (I + 1 + 1) _ := hn₃
        have F₃ : Fr h₀ env.locals h₃ m := (fr_but F' hk₂ hL3.1 (fresh₀ _ (Nat.le_refl _))).change hs₃ (Ne.symm hL3.2.2) (fresh₀ _ (Nat.le_succ_of_le (Nat.le_succ _)))
        have N₃ : News h₀ env.locals h₃ ((I + 1, lst ys') :: news) := fun p hp => by
          have zz := N' p hp
          rcases List.mem_cons.mp hp with rfl | hp
          · exact ⟨hs₃.extBut _ _ (Nat.ne_of_lt (Nat.lt_succ_self _)) (hk₂ _ _ nD zz.1), zz.2⟩
          · exact ⟨hs₃.extBut _ _ (off p hp).2.2 (hk₂ _ _ (by simpa using (off p hp).1) zz.1), zz.2⟩
        have hst₃ : h₃.IsListIter I ax (i + 1) ∧ h₃.IsList ax its.toArray := W.frame _ _ _ hst₂ fun b hb o e => hs₃.extBut b o (by
          rcases List.mem_cons.mp hb with rfl | hb
          · exact Nat.ne_of_lt (Nat.lt_succ_of_lt (Nat.lt_succ_self _))
          · rw [List.mem_singleton.mp hb]; exact hax3.2.2) e
        refine wpAny_bind (hi2 _ _ _ _ fun ty tk₄ => ?_)
        refine wpAny_bind (wpAny_standAt (wpAny_bind (wpAny_of_eq (hs2 _ _) (wpAny_bind (wpAny_holding (wpAny_pyIter_ascii hall ?_))))))
        dsimp only
        have live : ∀ b o, h₃.get? b = some o → b ≠ h₃.objs.size := fun b o e => Nat.ne_of_lt (Heap.lt_size e)
        obtain ⟨oL, _, _, hoL, _⟩ := F₃.ns
        obtain ⟨oC, _, _, hoC, _⟩ := id hn₃'
        have hDlive := (N₃ _ (.head _)).1
        obtain ⟨oI, hoI, _⟩ := id hst₃.1
        have hI2le : I ≤ h₃.objs.size := Nat.le_of_lt (Heap.lt_size hoI)
        have upI : ∀ b o, h₃.get? b = some o → (h₃.push { cls := .type "str_ascii_iterator", data := .fields #[.str yt ty, .int 0 0] }).get? b = some o := fun b o e => Heap.get?_push_of_some _ e
        have hit0 : (h₃.push { cls := .type "str_ascii_iterator", data := .fields #[.str yt ty, .int 0 0] }).IsStrIter h₃.objs.size "str_ascii_iterator" yt ty 0 := ⟨_, Heap.get?_push_size _ rfl, rfl, rfl⟩
        refine wpAny_bind (wpAny_runOwn ?_)
        change codeAny _ A _ _ _
        refine start2_1 ?go ((Walks.strAscii (prog := prog) (w := w) (A := A) hh _ yt ty).self 0 _ _ _ hit0 ?go)
        exact inner2 (prog := prog) (w := w) (A := A) (env := env) (elt := elt) (i1 := iter) (i2 := i2) (x := x) (z := z) (px := px) (pz := pz) (scope := scope) (cl := cl) (pos := pos) (I2 := h₃.objs.size) (C := I + 1 + 1) (D := I + 1) (y := yt) (ty := ty) (g := f i) (v := v) (news := news)
          (St := fun h => h.IsListIter I ax (i + 1) ∧ h.IsList ax its.toArray) (s₂ := s) (xs := rows2 f yt.cps.size i) (h₀ := h₀) (L := env.locals) (m := m)
          hh hkind hz hxz (by
            rw [rows2_len]
            have : (i + 1) * yt.cps.size ≤ its.length * yt.cps.size := Nat.mul_le_mul_right _ hlt'
            rw [Nat.succ_mul] at this
            exact Nat.le_trans this hsz)
          (live _ _ hoL) (fresh₀ _ hI2le) (Ne.symm hL3.2.2) (fresh₀ _ (Nat.le_succ_of_le (Nat.le_succ _))) (Ne.symm hL3.2.1) (fresh₀ _ (Nat.le_succ _)) (Ne.symm (live _ _ hoC)) (Ne.symm (live _ _ hDlive)) (Nat.ne_of_gt (Nat.lt_succ_self _))
          (fun p hp => live _ _ (N₃ p (.tail _ hp)).1) (fun p hp => (off p hp).2.2) (fun p hp => (off p hp).2.1)
          (fun h h' st k => by
            refine ⟨?_, ?_⟩
            · obtain ⟨o, e, r⟩ := st.1
              exact ⟨o, k _ _ (live _ _ hoI) (Nat.ne_of_lt (Nat.lt_succ_of_lt (Nat.lt_succ_self _))) (Nat.ne_of_lt (Nat.lt_succ_self _)) e, r⟩
            · obtain ⟨o, e, r⟩ := st.2
              obtain ⟨o3, e3, _⟩ := hst₃.2
              exact ⟨o, k _ _ (live _ _ e3) hax3.2.2 hax3.2.1 e, r⟩)
          (fun j u m₂ s₃ E' hS hn hmx hmz => helt i j v u _ m₂ s₃ E' (by simpa using hP) hS hn hmx hmz)
          (fun h tk m'' ys hst F hn N hys => wpAny_pure ⟨rfl, its.length + 1 - (i + 1), by omega, h, tk, i + 1, ys, m'', rfl, hlt', rfl, hst, F, hn, N, by rw [rows2_succ]; exact hys⟩)
          (h₃.push { cls := .type "str_ascii_iterator", data := .fields #[.str yt ty, .int 0 0] }) tk₄ _ ys' hit0
          ⟨by obtain ⟨o, e, r⟩ := hst₃.1; exact ⟨o, upI _ _ e, r⟩, by obtain ⟨o, e, r⟩ := hst₃.2; exact ⟨o, upI _ _ e, r⟩⟩ (F₃.keeps upI) (hn₃'.keeps upI) (by simp) (N₃.grown upI) hys'
      · obtain rfl : i = its.length := Nat.le_antisymm hi (Nat.not_lt.mp hlt')
        refine W.done _ _ _ hst' fun h₂ tk₂ hk₂ => wpAny_pure ?_
        dsimp only at hk₂ ⊢
        have F₂ : Fr h₀ env.locals h₂ m := fr_but F' hk₂ hL3.1 (fresh₀ _ (Nat.le_refl _))
        have N₂ : News h₀ env.locals h₂ ((I + 1, lst ys') :: news) := fun p hp => by
          have zz := N' p hp
          rcases List.mem_cons.mp hp with rfl | hp
          · exact ⟨hk₂ _ _ nD zz.1, zz.2⟩
          · exact ⟨hk₂ _ _ (by simpa using (off p hp).1) zz.1, zz.2⟩
        have hn₂ : h₂.Ns (I + 1 + 1) m' := hn'.at' fun o e => hk₂ _ o nC e
        show wpAny _ A (assign (.Name y py) env (.ref (I + 1))) _ _ _
        refine wpAny_assign_Name (wpAny_storeName_local hy F₂.ns (fun h₄ hn₄ hs₄ => ?_) hp)
        have F₄ : Fr h₀ env.locals h₄ (fun q => if q = y then some (.ref (I + 1)) else m q) := F₂.set hn₄ hs₄
        refine ⟨m', hn₂.sameBut hs₄ (Ne.symm hL3.2.2), fun h'' hs'' => fin (I + 1) h'' _ ys' (F₄.change hs'' (Ne.symm hL3.2.2) (fresh₀ _ (Nat.le_succ_of_le (Nat.le_succ _)))) (fun p hp => ?_) ?_ hys'⟩
        · have zz := N₂ p hp
          refine ⟨hs''.extBut _ _ ?_ (hs₄.extBut _ _ zz.2.1 zz.1), zz.2⟩
          rcases List.mem_cons.mp hp with rfl | hp
          · exact Nat.ne_of_lt (Nat.lt_succ_self _)
          · exact (off p hp).2.2
        · exact off1_of fun p hp => (off p hp).2.1
    · rcases List.mem_cons.mp hp with rfl | hp
      · exact ⟨hDo, Ne.symm hL3.2.1, fresh₀ _ (Nat.le_succ _)⟩
      · exact ⟨up _ _ (N p hp).1, (N p hp).2⟩
  have hst0 : h₁.IsListIter I ax 0 ∧ h₁.IsList ax its.toArray := ⟨⟨_, hIo, rfl, rfl⟩, by obtain ⟨o, e, r⟩ := hl; exact ⟨o, up _ _ e, r⟩⟩
  exact codeAny_compStart_list (loop _ ⟨_, rfl⟩) (W.self 0 _ _ _ hst0 (loop _ ⟨_, rfl⟩))
end
end
/-! D1 -/
section
set_option maxHeartbeats 8000000
local macro_rules | `(tactic| walk_at "m_halt") => `(tactic| (
  (fail_if_success (with_reducible show wpAny _ _ (exec (PySem.Stmt.While _ _ _ _) _) _ _ _));
  (fail_if_success (with_reducible show wpAny _ _ (exec (PySem.Stmt.For _ _ _ _ _) _) _ _ _));
  (fail_if_success (with_reducible show wpAny _ _ (eval (PySem.Expr.ListComp _ _ _ _) _) _ _ _));
  (fail_if_success (with_reducible show wpAny _ _ (exec (PySem.Stmt.Assign _ (PySem.Expr.ListComp _ _ _ _) _) _) _ _ _));
  (fail_if_success (with_reducible show wpAny _ _ (pyIter (Value.ref _)) _ _ _));
  (fail_if_success (with_reducible show wpAny _ _ (call (Value.ref _) _ _) _ _ _))))
local macro_rules | `(tactic| walk_at "m_halt1") => `(tactic| (
  (walk_at "m_halt");
  (fail_if_success (with_reducible show wpAny _ _ (call (Value.builtin "str.join") _) _ _ _))))
local macro_rules | `(tactic| walk_at "m_steps1") => `(tactic| repeat' (walk_at "m_halt1"; first | (k_unfold; (try dsimp only)) | (k_end; wrow_close) | walk1 | (dsimp only; walk1) | (leave1; walk_say "STEP leave1"; try dsimp only) | fail "no step"))
/-- a text by its signs' codes -/
abbrev Tx (l : List Nat) : Str := ⟨l.toArray⟩
def dotted (l : List Nat) : List Nat := l.flatMap fun c => [c, 46, 46, 46]
theorem dots3 : Str.ofString "..." = Tx [46, 46, 46] := by decide +kernel
theorem nosign : Str.ofString "" = Tx [] := by decide +kernel
theorem join_none : ∀ ts : List Str, (Txt.join (Tx []) ts).cps.toList = ts.flatMap (·.cps.toList) := by
  intro ts
  show (Builtin.Str.glued _ ts).cps.toList = _
  rw [StrLaws.glued_eq_join]
  induction ts with
  | nil => rfl
  | cons x r ih => cases r with
    | nil => show x.cps.toList = _; simp
    | cons y r =>
      show (x ++ Tx [] ++ Str.join (Tx []) (y :: r)).cps.toList = _
      rw [PySem.Str.cps_append, PySem.Str.cps_append]
      simp only [Array.toList_append, List.flatMap_cons] at ih ⊢
      rw [ih]; simp
theorem range_getD {α β : Type} (d : α) (f : α → List β) (l : List α) : (List.range l.length).flatMap (fun i => f (l.getD i d)) = l.flatMap f := by
  have h : (List.range l.length).map (fun i => l.getD i d) = l := by
    apply List.ext_getElem
    · simp
    · intro i h1 h2; simp only [List.getElem_map, List.getElem_range]; rw [List.getD_eq_getElem?_getD, List.getElem?_eq_getElem h2]; rfl
  rw [← List.flatMap_map (f := fun i => l.getD i d), h]
theorem dots_ctr {w : World} {mean : ExcName → Option Value} {mg mb : Str → Option Value} (news : List (Addr × Obj)) (l : List Nat) (t : Tok) (hl : l.length ≤ 100) (ha : ∀ c ∈ l, c < 128) :
    Ctr w mean mg mb 1 74 [.str (Tx l) t] [] news (fun v n' => n' = news ∧ ∃ t', v = .str (Tx ([46, 46, 46] ++ dotted l)) t') := by
  w_top off
  unfold Ctr KK PG LS
  k_fill
  intro dp un gd cn cs a ccd cl outer A₀ base h₀ L m s Q E B F X N T hk hd hu hret
  refine wpAny_call ?_
  k_dflt walk_at "m_enter"
  intro g1 L1 hp1 FG1 F1 N1 B1 X1 T1
  try dsimp only
  try k_fold
  walk_at "m_steps1"
  k_dflt refine ListComp_S (F₀ := F1) (by rfl) (by decide) (by rfl) (by decide) (by rfl) ?_
  walk_at "m_steps1"
  refine ⟨_, _, news, rfl, rfl, F1, N1, ?_, ?_, ?_⟩
  · simpa using ha
  · show l.toArray.size ≤ sizeLine; rw [List.size_toArray, sizeLine_eq]; omega
  · rintro s₂ ⟨h2, rfl⟩
    refine comp_rest l.length (fun i y => ∃ t, y = .str (Tx [l.getD i 0, 46, 46, 46]) t) trivial ?_ ?_ _ 0 [] ?_ .nil
    · intro i ys v I oI C oC D m₂ h tk E' hi hP hC hx F2 N2 off ne
      obtain ⟨c, u, hc, rfl⟩ := hP
      walk_at "m_steps1"
      refine elt_end ⟨_, congrArg (Value.str · _) ?_⟩ (by assumption) (by assumption) (fun _ h => h)
      have hc' : l.getD i 0 = c := by rw [List.getD_eq_getElem?_getD]; exact congrArg (Option.getD · 0) (by simpa using hc)
      rw [hc', dots3]
      exact str_of_list rfl
    · intro ys hr
      unfold LCg.FinE
      intro D h tk F2 N2 off
      dsimp only at F2 N2 ⊢
      have hS := hr.strs
      have hlen := hS.length
      walk_at "m_steps1"
      k_dflt refine' join_list ?j1 ?j2 ?j3 ?_
      case j1 => exact News.isList (by assumption) (.head _)
      case j2 => exact hS
      case j3 =>
        rw [List.map_map]
        have e4 : ∀ k : Nat, ((List.range k).map (Str.length ∘ fun i => Tx [l.getD i 0, 46, 46, 46])).sum = k * 4 := by
          intro k
          induction k with
          | zero => rfl
          | succ k ih => rw [List.range_succ, List.map_append, List.sum_append, ih]; show k * 4 + (4 + 0) = _; omega
        rw [e4]
        simp only [List.length_map, List.length_range]
        show l.length * 4 + l.length * 0 ≤ _
        omega
      intro t3 k3
      have ej : Txt.join (Str.ofString "") (List.map (fun i => Tx [l.getD i 0, 46, 46, 46]) (List.range l.length)) = Tx (dotted l) := by
        refine str_of_list ?_
        rw [nosign, join_none, List.flatMap_map]
        exact range_getD 0 (fun c => [c, 46, 46, 46]) l
      have hlb : (Tx (dotted l)).length ≤ 400 := by
        show (dotted l).toArray.size ≤ 400
        rw [List.size_toArray]
        have : ∀ l : List Nat, (dotted l).length = 4 * l.length := fun l => by
          induction l with
          | nil => rfl
          | cons c r ih => show (c :: 46 :: 46 :: 46 :: dotted r).length = _; simp only [List.length_cons, ih]; omega
        rw [this]; omega
      rw [ej]
      walk_at "m_steps1"
      exact hret _ _ _ _ ⟨rfl, _, by rw [dots3]; exact congrArg (Value.str · _) (str_of_list (by simp [PySem.Str.cps_append]))⟩ (by assumption) (fun p hp => (by assumption : News _ _ _ (_ :: news)) p (.tail _ hp))
    · simp
end
/-! D2 -/
section
set_option maxHeartbeats 8000000
local macro_rules | `(tactic| walk_at "m_halt") => `(tactic| (
  (fail_if_success (with_reducible show wpAny _ _ (exec (PySem.Stmt.While _ _ _ _) _) _ _ _));
  (fail_if_success (with_reducible show wpAny _ _ (exec (PySem.Stmt.For _ _ _ _ _) _) _ _ _));
  (fail_if_success (with_reducible show wpAny _ _ (eval (PySem.Expr.ListComp _ _ _ _) _) _ _ _));
  (fail_if_success (with_reducible show wpAny _ _ (exec (PySem.Stmt.Assign _ (PySem.Expr.ListComp _ _ _ _) _) _) _ _ _));
  (fail_if_success (with_reducible show wpAny _ _ (call (Value.ref _) _ _) _ _ _))))
theorem bisr_ctr {w : World} {mean : ExcName → Option Value} {mg mb : Str → Option Value} (news : List (Addr × Obj)) (l : Addr) (n : Nat) (vs : List Value) (xs : List Int) (hI : IntsAre vs xs) (hlen : xs.length < 1000)
    (hS : ∀ (i j : Nat) (a b : Int), i ≤ j → xs[i]? = some a → xs[j]? = some b → a ≤ b) (x : Int) (t : Tok) :
    Ctr w mean mg mb 1 30 [.ref l, .int x t] [] ((l, W.listOf vs.toArray n) :: news) (fun v n' => n' = (l, W.listOf vs.toArray n) :: news ∧ ∃ (r : Nat) (t' : Tok), v = .int r t' ∧ r ≤ xs.length ∧ ∀ (i : Nat) (v : Int), xs[i]? = some v → (i < r → v ≤ x) ∧ (r ≤ i → x < v)) := by
  w_top off
  unfold Ctr KK PG LS
  k_fill
  intro dp un gd cn cs a ccd cl outer A₀ base h₀ L m s Q E B F X N T hk hd hu hret
  refine wpAny_call ?_
  k_dflt walk_at "m_enter"
  intro g1 L1 hp1 FG1 F1 N1 B1 X1 T1
  try dsimp only
  try k_fold
  walk_at "m_steps"
  refine ksw_while (σ := Nat × Nat × Tok × Tok) (fun _ => (l, W.listOf vs.toArray n) :: news) (fun c => [(Str.ofString "lo", .int (c.1 : Nat) c.2.2.1), (Str.ofString "hi", .int (c.2.1 : Nat) c.2.2.2)]) (fun _ => True) [Str.ofString "mid"]
    (fun c => c.1 ≤ c.2.1 ∧ c.2.1 ≤ xs.length ∧ ∀ (i : Nat) (v : Int), xs[i]? = some v → (i < c.1 → v ≤ x) ∧ (c.2.1 ≤ i → x < v)) (fun c => c.2.1 - c.1) (0, xs.length, _, _) (by assumption) (by assumption) trivial
    (List.forall_mem_cons.mpr ⟨rfl, List.forall_mem_cons.mpr ⟨rfl, List.forall_mem_nil _⟩⟩) ?_ ?_
  · refine ⟨Nat.zero_le _, Nat.le_refl _, fun i v hv => ⟨fun h => absurd h (Nat.not_lt_zero _), fun h => ?_⟩⟩
    rw [List.getElem?_eq_none h] at hv; cases hv
  · rintro ⟨lo, hi, tlo, thi⟩ u h tk - ⟨h1, h2, h3⟩ kF kN
    dsimp only at h1 h2 h3 kF kN ⊢
    have e1 : ((lo : Int) + (hi : Int)).fdiv 2 = (((lo + hi) / 2 : Nat) : Int) := by
      rw [Int.fdiv_eq_ediv_of_nonneg _ (by omega)]; omega
    have e2 : lo < hi → xs[(lo + hi) / 2]? = some (xs.getD ((lo + hi) / 2) 0) := fun hlt => by
      rw [List.getD_eq_getElem?_getD, List.getElem?_eq_getElem (by omega)]; rfl
    try k_fold
    walk_at "m_steps"
    · rename (_ < List.getD _ _ _) => hc
      have hlt' : lo < hi := by omega
      rw [e1, Int.toNat_natCast] at hc
      refine ksw_end (lo, (lo + hi) / 2, tlo, _) (by assumption) (by assumption) (fun _ h => h) trivial (List.forall_mem_cons.mpr ⟨rfl, List.forall_mem_cons.mpr ⟨congrArg (fun z => some (Value.int z _)) e1, List.forall_mem_nil _⟩⟩) (by walk_at "m_same") ?_ (by dsimp only; omega)
      refine ⟨by dsimp only; omega, by dsimp only; omega, fun i v hv => ⟨(h3 i v hv).1, fun h => ?_⟩⟩
      have := hS _ _ _ _ h (e2 hlt') hv
      omega
    · rename (¬ _ < List.getD _ _ _) => hc
      have hlt' : lo < hi := by omega
      rw [e1, Int.toNat_natCast] at hc
      refine ksw_end ((lo + hi) / 2 + 1, hi, _, thi) (by assumption) (by assumption) (fun _ h => h) trivial (List.forall_mem_cons.mpr ⟨congrArg (fun z => some (Value.int (z + 1) _)) e1, List.forall_mem_cons.mpr ⟨rfl, List.forall_mem_nil _⟩⟩) (by walk_at "m_same") ?_ (by dsimp only; omega)
      refine ⟨by dsimp only; omega, by dsimp only; omega, fun i v hv => ⟨fun h => ?_, (h3 i v hv).2⟩⟩
      have := hS _ _ _ _ (Nat.le_of_lt_succ h) hv (e2 hlt')
      omega
    · have hle : hi ≤ lo := by omega
      refine hret _ _ _ _ ⟨rfl, lo, tlo, rfl, by omega, fun i v hv => ⟨(h3 i v hv).1, fun h => (h3 i v hv).2 (by omega)⟩⟩ (by assumption) (by assumption)
end
/-! D3 -/
section
set_option maxHeartbeats 8000000
local macro_rules | `(tactic| walk_at "m_halt") => `(tactic| (
  (fail_if_success (with_reducible show wpAny _ _ (exec (PySem.Stmt.While _ _ _ _) _) _ _ _));
  (fail_if_success (with_reducible show wpAny _ _ (exec (PySem.Stmt.For _ _ _ _ _) _) _ _ _));
  (fail_if_success (with_reducible show wpAny _ _ (eval (PySem.Expr.ListComp _ _ _ _) _) _ _ _));
  (fail_if_success (with_reducible show wpAny _ _ (exec (PySem.Stmt.Assign _ (PySem.Expr.ListComp _ _ _ _) _) _) _ _ _));
  (fail_if_success (with_reducible show wpAny _ _ (call (Value.ref _) _ _) _ _ _))))
/-- the order of texts, as the model's < has it -/
abbrev slt (a b : Str) : Prop := a.cps.toList < b.cps.toList
/-- a row of texts in order -/
def Sorted (xs : List Str) : Prop := ∀ (i j : Nat) (a b : Str), i ≤ j → xs[i]? = some a → xs[j]? = some b → ¬ slt b a
/-- r is the place of x in xs, from the left -/
def PlaceL (xs : List Str) (x : Str) (r : Nat) : Prop := r ≤ xs.length ∧ ∀ (i : Nat) (v : Str), xs[i]? = some v → (i < r → slt v x) ∧ (r ≤ i → ¬ slt v x)
theorem slt_of_nlt_lt {a b c : Str} (h1 : ¬ slt b a) (h2 : slt b c) : slt a c := List.lt_of_le_of_lt (List.not_lt.mp h1) h2
theorem nlt_of_nlt_nlt {a b c : Str} (h1 : ¬ slt b a) (h2 : ¬ slt a c) : ¬ slt b c := fun h => h2 (slt_of_nlt_lt h1 h)
theorem bisl_ctr {w : World} {mean : ExcName → Option Value} {mg mb : Str → Option Value} (news : List (Addr × Obj)) (l : Addr) (n : Nat) (vs : List Value) (xs : List Str) (hI : StrsAre vs xs) (hlen : xs.length < 1000)
    (hS : Sorted xs) (x : Str) (t t0 : Tok) :
    Ctr w mean mg mb 1 48 [.ref l, .str x t] [] ((l, W.listOf vs.toArray n) :: news) (fun v n' => n' = (l, W.listOf vs.toArray n) :: news ∧ ∃ (r : Nat) (t' : Tok), v = .int r t' ∧ PlaceL xs x r) := by
  w_top off
  unfold Ctr KK PG LS
  k_fill
  have hget := hI.get
  have hvl := hI.length
  intro dp un gd cn cs a ccd cl outer A₀ base h₀ L m s Q E B F X N T hk hd hu hret
  refine wpAny_call ?_
  k_dflt walk_at "m_enter"
  intro g1 L1 hp1 FG1 F1 N1 B1 X1 T1
  try dsimp only
  try k_fold
  walk_at "m_steps"
  refine ksw_while (σ := Nat × Nat × Tok × Tok) (fun _ => (l, W.listOf vs.toArray n) :: news) (fun c => [(Str.ofString "lo", .int (c.1 : Nat) c.2.2.1), (Str.ofString "hi", .int (c.2.1 : Nat) c.2.2.2)]) (fun _ => True) [Str.ofString "mid"]
    (fun c => c.1 ≤ c.2.1 ∧ c.2.1 ≤ xs.length ∧ ∀ (i : Nat) (v : Str), xs[i]? = some v → (i < c.1 → slt v x) ∧ (c.2.1 ≤ i → ¬ slt v x)) (fun c => c.2.1 - c.1) (0, xs.length, _, _) (by assumption) (by assumption) trivial
    (List.forall_mem_cons.mpr ⟨rfl, List.forall_mem_cons.mpr ⟨rfl, List.forall_mem_nil _⟩⟩) ?_ ?_
  · refine ⟨Nat.zero_le _, Nat.le_refl _, fun i v hv => ⟨fun h => absurd h (Nat.not_lt_zero _), fun h => ?_⟩⟩
    rw [List.getElem?_eq_none h] at hv; cases hv
  · rintro ⟨lo, hi, tlo, thi⟩ u h tk - ⟨h1, h2, h3⟩ kF kN
    dsimp only at h1 h2 h3 kF kN ⊢
    have e1 : ((lo : Int) + (hi : Int)).fdiv 2 = (((lo + hi) / 2 : Nat) : Int) := by
      rw [Int.fdiv_eq_ediv_of_nonneg _ (by omega)]; omega
    try k_fold
    walk_at "m_steps"
    · rename (PySem.Str.cps (List.getD _ _ _)).toList < _ => hc
      have hlt : lo < hi := by omega
      rw [e1, Int.toNat_natCast] at hc
      have e2 := getD_some (xs := xs) (i := (lo + hi) / 2) (d := Str.empty) (by omega)
      refine ksw_end ((lo + hi) / 2 + 1, hi, _, thi) (by assumption) (by assumption) (fun _ h => h) trivial (List.forall_mem_cons.mpr ⟨congrArg (fun z => some (Value.int (z + 1) _)) e1, List.forall_mem_cons.mpr ⟨rfl, List.forall_mem_nil _⟩⟩) (by walk_at "m_same") ?_ (by dsimp only; omega)
      exact ⟨by dsimp only; omega, by dsimp only; omega, fun i v hv => ⟨fun h => slt_of_nlt_lt (hS _ _ _ _ (Nat.le_of_lt_succ h) hv e2) hc, (h3 i v hv).2⟩⟩
    · rename (¬ (PySem.Str.cps (List.getD _ _ _)).toList < _) => hc
      have hlt : lo < hi := by omega
      rw [e1, Int.toNat_natCast] at hc
      have e2 := getD_some (xs := xs) (i := (lo + hi) / 2) (d := Str.empty) (by omega)
      refine ksw_end (lo, (lo + hi) / 2, tlo, _) (by assumption) (by assumption) (fun _ h => h) trivial (List.forall_mem_cons.mpr ⟨rfl, List.forall_mem_cons.mpr ⟨congrArg (fun z => some (Value.int z _)) e1, List.forall_mem_nil _⟩⟩) (by walk_at "m_same") ?_ (by dsimp only; omega)
      exact ⟨by dsimp only; omega, by dsimp only; omega, fun i v hv => ⟨(h3 i v hv).1, fun h => nlt_of_nlt_nlt (hS _ _ _ _ h e2 hv) hc⟩⟩
    · have hle : hi ≤ lo := by omega
      refine hret _ _ _ _ ⟨rfl, lo, tlo, rfl, by omega, fun i v hv => ⟨(h3 i v hv).1, fun h => (h3 i v hv).2 (by omega)⟩⟩ (by assumption) (by assumption)
theorem bisl4_ctr {w : World} {mean : ExcName → Option Value} {mg mb : Str → Option Value} (news : List (Addr × Obj)) (l : Addr) (n : Nat) (vs : List Value) (xs : List Str) (hI : StrsAre vs xs) (hlen : xs.length < 1000)
    (hS : Sorted xs) (x : Str) (t t0 : Tok) :
    Ctr w mean mg mb 1 48 [.ref l, .str x t, .int 0 t0, .none] [] ((l, W.listOf vs.toArray n) :: news) (fun v n' => n' = (l, W.listOf vs.toArray n) :: news ∧ ∃ (r : Nat) (t' : Tok), v = .int r t' ∧ PlaceL xs x r) := by
  w_top off
  unfold Ctr KK PG LS
  k_fill
  have hget := hI.get
  have hvl := hI.length
  intro dp un gd cn cs a ccd cl outer A₀ base h₀ L m s Q E B F X N T hk hd hu hret
  refine wpAny_call ?_
  k_dflt walk_at "m_enter"
  intro g1 L1 hp1 FG1 F1 N1 B1 X1 T1
  try dsimp only
  try k_fold
  walk_at "m_steps"
  refine ksw_while (σ := Nat × Nat × Tok × Tok) (fun _ => (l, W.listOf vs.toArray n) :: news) (fun c => [(Str.ofString "lo", .int (c.1 : Nat) c.2.2.1), (Str.ofString "hi", .int (c.2.1 : Nat) c.2.2.2)]) (fun _ => True) [Str.ofString "mid"]
    (fun c => c.1 ≤ c.2.1 ∧ c.2.1 ≤ xs.length ∧ ∀ (i : Nat) (v : Str), xs[i]? = some v → (i < c.1 → slt v x) ∧ (c.2.1 ≤ i → ¬ slt v x)) (fun c => c.2.1 - c.1) (0, xs.length, _, _) (by assumption) (by assumption) trivial
    (List.forall_mem_cons.mpr ⟨rfl, List.forall_mem_cons.mpr ⟨rfl, List.forall_mem_nil _⟩⟩) ?_ ?_
  · refine ⟨Nat.zero_le _, Nat.le_refl _, fun i v hv => ⟨fun h => absurd h (Nat.not_lt_zero _), fun h => ?_⟩⟩
    rw [List.getElem?_eq_none h] at hv; cases hv
  · rintro ⟨lo, hi, tlo, thi⟩ u h tk - ⟨h1, h2, h3⟩ kF kN
    dsimp only at h1 h2 h3 kF kN ⊢
    have e1 : ((lo : Int) + (hi : Int)).fdiv 2 = (((lo + hi) / 2 : Nat) : Int) := by
      rw [Int.fdiv_eq_ediv_of_nonneg _ (by omega)]; omega
    try k_fold
    walk_at "m_steps"
    · rename (PySem.Str.cps (List.getD _ _ _)).toList < _ => hc
      have hlt : lo < hi := by omega
      rw [e1, Int.toNat_natCast] at hc
      have e2 := getD_some (xs := xs) (i := (lo + hi) / 2) (d := Str.empty) (by omega)
      refine ksw_end ((lo + hi) / 2 + 1, hi, _, thi) (by assumption) (by assumption) (fun _ h => h) trivial (List.forall_mem_cons.mpr ⟨congrArg (fun z => some (Value.int (z + 1) _)) e1, List.forall_mem_cons.mpr ⟨rfl, List.forall_mem_nil _⟩⟩) (by walk_at "m_same") ?_ (by dsimp only; omega)
      exact ⟨by dsimp only; omega, by dsimp only; omega, fun i v hv => ⟨fun h => slt_of_nlt_lt (hS _ _ _ _ (Nat.le_of_lt_succ h) hv e2) hc, (h3 i v hv).2⟩⟩
    · rename (¬ (PySem.Str.cps (List.getD _ _ _)).toList < _) => hc
      have hlt : lo < hi := by omega
      rw [e1, Int.toNat_natCast] at hc
      have e2 := getD_some (xs := xs) (i := (lo + hi) / 2) (d := Str.empty) (by omega)
      refine ksw_end (lo, (lo + hi) / 2, tlo, _) (by assumption) (by assumption) (fun _ h => h) trivial (List.forall_mem_cons.mpr ⟨rfl, List.forall_mem_cons.mpr ⟨congrArg (fun z => some (Value.int z _)) e1, List.forall_mem_nil _⟩⟩) (by walk_at "m_same") ?_ (by dsimp only; omega)
      exact ⟨by dsimp only; omega, by dsimp only; omega, fun i v hv => ⟨(h3 i v hv).1, fun h => nlt_of_nlt_nlt (hS _ _ _ _ h e2 hv) hc⟩⟩
    · have hle : hi ≤ lo := by omega
      refine hret _ _ _ _ ⟨rfl, lo, tlo, rfl, by omega, fun i v hv => ⟨(h3 i v hv).1, fun h => (h3 i v hv).2 (by omega)⟩⟩ (by assumption) (by assumption)
end
/-! D4 -/
section
set_option maxHeartbeats 8000000
local macro_rules | `(tactic| walk_at "m_halt") => `(tactic| (
  (fail_if_success (with_reducible show wpAny _ _ (exec (PySem.Stmt.While _ _ _ _) _) _ _ _));
  (fail_if_success (with_reducible show wpAny _ _ (exec (PySem.Stmt.For _ _ _ _ _) _) _ _ _));
  (fail_if_success (with_reducible show wpAny _ _ (eval (PySem.Expr.ListComp _ _ _ _) _) _ _ _));
  (fail_if_success (with_reducible show wpAny _ _ (exec (PySem.Stmt.Assign _ (PySem.Expr.ListComp _ _ _ _) _) _) _ _ _));
  (fail_if_success (with_reducible show wpAny _ _ (call (Value.ref _) _ _) _ _ _))))
theorem strsAre_ins {x : Str} {t : Tok} : ∀ {vs : List Value} {xs : List Str}, StrsAre vs xs → ∀ (r : Nat), StrsAre (vs.take r ++ .str x t :: vs.drop r) (xs.take r ++ x :: xs.drop r)
  | _, _, h, 0 => .cons x t h
  | _, _, .nil, _ + 1 => .cons x t .nil
  | _, _, .cons y u h, r + 1 => .cons y u (strsAre_ins h r)
theorem insl_ctr {w : World} {mean : ExcName → Option Value} {mg mb : Str → Option Value} (news : List (Addr × Obj)) (l : Addr) (n : Nat) (vs : List Value) (xs : List Str) (hI : StrsAre vs xs) (hlen : xs.length < 900)
    (hS : Sorted xs) (x : Str) (t : Tok) (hne : ∀ p ∈ news, p.1 ≠ l) :
    Ctr w mean mg mb 2 39 [.ref l, .str x t] [] ((l, W.listOf vs.toArray n) :: news) (fun v n' => v = .none ∧ ∃ n2 vs' r, n' = (l, W.listOf vs'.toArray n2) :: news ∧ PlaceL xs x r ∧ StrsAre vs' (xs.take r ++ x :: xs.drop r)) := by
  w_top off
  unfold Ctr KK PG LS
  k_fill
  have hget := hI.get
  have hvl := hI.length
  have hC := fun t0 => bisl4_ctr (w := w) (mean := mean) (mg := mg) (mb := mb) news l n vs xs hI (by omega) hS x t t0
  intro dp un gd cn cs a ccd cl outer A₀ base h₀ L m s Q E B F X N T hk hd hu hret
  refine wpAny_call ?_
  k_dflt walk_at "m_enter"
  intro g1 L1 hp1 FG1 F1 N1 B1 X1 T1
  try dsimp only
  try k_fold
  walk_at "m_steps"
  k_dflt refine' ctr_use (hC _) ?k1 ?k2 ?k3 ?k4 ?k5 ?k6 ?k7 ?k8 ?_
  case k1 => k_asm
  case k2 => k_asm
  case k3 => k_asm
  case k4 => k_asm
  case k5 => k_asm
  case k6 => rfl
  case k7 => ktr_room
  case k8 => ktr_units
  rintro v news' h' tk' ⟨rfl, r, t', rfl, hr⟩ F' N'
  walk_at "m_steps"
  have hr1 : r ≤ xs.length := hr.1
  k_dflt refine' kl_insert (its := vs.toArray) (n := n) (l := vs.take r ++ .str x t :: vs.drop r) ?F ?N ?f ?e (Upd.head hne) ?z ?_
  case F => k_asm
  case N => k_asm
  case f => simp [Builtin.List.listFitsIndex]; omega
  case e =>
    have h0 : ¬ ((r : Int) < 0) := by omega
    have h1 : min r vs.length = r := by omega
    simp only [kl_ins, h0, if_false, Int.toNat_natCast, h1]
  case z => simp; rw [sizeLine_eq]; omega
  intro h' F' N'
  walk_at "m_steps"
  exact hret _ _ _ _ ⟨rfl, _, _, r, rfl, hr, strsAre_ins hI r⟩ (by assumption) (by assumption)
end
/-! D5 -/
section
set_option maxHeartbeats 8000000
local macro_rules | `(tactic| walk_at "m_halt") => `(tactic| (
  (fail_if_success (with_reducible show wpAny _ _ (exec (PySem.Stmt.While _ _ _ _) _) _ _ _));
  (fail_if_success (with_reducible show wpAny _ _ (exec (PySem.Stmt.For _ _ _ _ _) _) _ _ _));
  (fail_if_success (with_reducible show wpAny _ _ (eval (PySem.Expr.ListComp _ _ _ _) _) _ _ _));
  (fail_if_success (with_reducible show wpAny _ _ (exec (PySem.Stmt.Assign _ (PySem.Expr.ListComp _ _ _ _) _) _) _ _ _));
  (fail_if_success (with_reducible show wpAny _ _ (pyIter (Value.ref _)) _ _ _));
  (fail_if_success (with_reducible show wpAny _ _ (call (Value.ref _) _ _) _ _ _))))
local macro_rules | `(tactic| walk_at "m_halt5") => `(tactic| (
  (walk_at "m_halt");
  (fail_if_success (with_reducible show wpAny _ _ (call (Value.builtin "str.split") _) _ _ _));
  (fail_if_success (with_reducible show wpAny _ _ (call (Value.builtin "str.find") _) _ _ _));
  (fail_if_success (with_reducible show wpAny _ _ (truthy (Value.str _ _)) _ _ _));
  (fail_if_success (with_reducible show wpAny _ _ (delItem _ _) _ _ _))))
local macro_rules | `(tactic| walk_at "m_steps5") => `(tactic| repeat' (walk_at "m_halt5"; first | (k_unfold; (try dsimp only)) | (k_end; wrow_close) | walk1 | (dsimp only; walk1) | (leave1; walk_say "STEP leave1"; try dsimp only) | fail "no step"))
theorem strsAre_tail : ∀ {vs : List Value} {ws : List Str}, StrsAre vs ws → StrsAre vs.tail ws.tail
  | _, _, .nil => .nil
  | _, _, .cons _ _ h => h
theorem delL_zero : ∀ {vs : List Value}, 1 ≤ vs.length → ki_delL vs 0 = some vs.tail
  | _ :: _, _ => rfl
theorem delL_last : ∀ {vs : List Value}, 1 ≤ vs.length → ki_delL vs (vs.length - 1) = some vs.dropLast
  | [_], _ => rfl
  | x :: y :: r, _ => by
    show ki_delL (x :: y :: r) (r.length + 1) = _
    unfold ki_delL
    have := delL_last (vs := y :: r) (by simp)
    rw [List.length_cons, Nat.add_sub_cancel] at this
    rw [this]; rfl
/-- the search of the parts, one behind the other -/
def efind (got : Str) (en : Nat) : List Str → Nat → Bool
  | [], _ => true
  | w :: r, st => match Builtin.Str.occurrences got w st en 1 with
    | i :: _ => efind got en r (i + w.length)
    | [] => false
def ematch3 (us : List Str) (got : Str) (st en : Nat) : Bool := if en < st then false else efind got en us st
def ematch2 (us : List Str) (got : Str) (st : Nat) : Bool :=
  let w1 := us.getD (us.length - 1) Str.empty
  if w1.length = 0 then ematch3 us got st got.length else if Txt.endswith got w1 = true then ematch3 us.dropLast got st (got.length - w1.length) else false
/-- what _ellipsis_match gives for the parts ws -/
def ematch (ws : List Str) (got : Str) : Bool :=
  let w0 := ws.getD 0 Str.empty
  if w0.length = 0 then ematch2 ws got 0 else if Txt.startswith got w0 = true then ematch2 ws.tail got w0.length else false
theorem efind_cons_none {got w : Str} {en st : Nat} {r : List Str} (h : fnd got w st en < 0) : efind got en (w :: r) st = false := by
  unfold efind; unfold fnd at h
  split
  · rename_i i _ e; rw [e] at h; dsimp only at h; omega
  · rfl
theorem efind_cons_some {got w : Str} {en st : Nat} {r : List Str} (h : ¬ fnd got w st en < 0) : ∃ k : Nat, fnd got w st en = k ∧ efind got en (w :: r) st = efind got en r (k + w.length) := by
  unfold fnd at h ⊢
  rw [efind]
  cases e : Builtin.Str.occurrences got w st en 1 with
  | cons i _ => exact ⟨i, rfl, rfl⟩
  | nil => rw [e] at h; dsimp only at h; omega
theorem ell_ctr {w : World} {mean : ExcName → Option Value} {mg mb : Str → Option Value} (news : List (Addr × Obj)) (want got : Str) (hw : want.length ≤ 1000) (hg : got.length ≤ 1000) (t u : Tok)
    (hin : (Builtin.Str.occurrences want (Str.ofString "...") 0 want.length 1).isEmpty = false) (ws : List Str) (hws : Txt.split want (Str.ofString "...") = ws) (h2 : 2 ≤ ws.length) (hwl : ws.length < 1000) :
    Ctr w mean mg mb 1 21 [.str want t, .str got u] [] news (fun v n' => n' = news ∧ v = .bool (ematch ws got)) := by
  w_top off
  unfold Ctr KK PG LS
  k_fill
  intro dp un gd cn cs a ccd cl outer A₀ base h₀ L m s Q E B F X N T hk hd hu hret
  refine wpAny_call ?_
  k_dflt walk_at "m_enter"
  intro g1 L1 hp1 FG1 F1 N1 B1 X1 T1
  try dsimp only
  try k_fold
  walk_at "m_steps5"
  have hD : ∀ p ∈ news, p.1 ≠ hp1.objs.size := fun p hp => Nat.ne_of_lt (Heap.lt_size (N1 p hp).1)
  refine splitN1A (by assumption) N1 (by decide +kernel) ?_ (by rw [sizeLine_eq]; omega)
  intro l hp2 k hl hS hsh hL F2 N2
  rw [hl, hws] at hS hsh
  generalize strValues l = vs at hS hL N2
  dsimp only at hL F2 N2 ⊢
  clear hL hl
  have hSs := hS.get
  have hS0 : StrsAre vs ws ∧ True := ⟨hS, trivial⟩
  have hvl := hS.length
  have hsh8 : ∀ a ∈ ws, a.length ≤ 1000 := fun a ha => Nat.le_trans (hsh a ha) hw
  walk_at "m_steps5"
  rename Fr g1 L1 _ _ => F3
  rename News g1 L1 _ _ => N3
  rename_i ty h3
  have N4 : News g1 L1 h3 ((hp1.objs.size, W.listOf vs.toArray 0) :: news) := fun p hp => N3 p (.tail _ hp)
  clear N3
  obtain ⟨y, hy0⟩ : ∃ y, ws.getD (Int.toNat 0) Str.empty = y := ⟨_, rfl⟩
  rw [hy0] at F3 ⊢
  have hym : ws[0]? = some y := hy0 ▸ getD_some (by omega)
  have hyl : y.length ≤ 1000 := hsh8 y (List.mem_of_getElem? hym)
  refine SBL.truthy (by omega) ?_
  walk_at "m_steps5"
  · rename Fr g1 L1 _ _ => F6
    rename News g1 L1 _ _ => N6
    have he : ematch ws got = ematch2 ws.tail got y.length := by
      unfold ematch; dsimp only
      rw [show ws.getD 0 Str.empty = y from hy0, if_neg (by omega), if_pos (by assumption)]
    k_dflt refine' ki_del (its := vs.toArray) (n := 0) (k := 0) (q := vs.tail) F6 N6 ?f ?k ?e (Upd.head hD) ?z ?_
    case f => rfl
    case k => rw [List.size_toArray, StrLaws.seqIndex_nonneg (by omega) (by omega)]; rfl
    case e => exact delL_zero (vs := vs) (by omega)
    case z => show vs.length ≤ sizeLine; rw [sizeLine_eq]; omega
    intro h6 F7 N7
    have hSu := strsAre_tail hS0.1
    have hvu := hSu.length
    have hul : ws.tail.length = ws.length - 1 := List.length_tail
    have hsh9 : ∀ a ∈ ws.tail, a.length ≤ 1000 := fun a ha => hsh8 a (List.mem_of_mem_tail ha)
    generalize ws.tail = us at hSu hvu hul hsh9 he
    generalize vs.tail = ut at hSu hvu N7
    have hSw : StrsAre ut us ∧ True := ⟨hSu, trivial⟩
    walk_at "m_steps5"
    rename Fr g1 L1 _ _ => F5
    rename News g1 L1 _ _ => N5
    obtain ⟨z, hz0⟩ : ∃ z, (us).getD (-1 + ((us).length : Int)).toNat Str.empty = z := ⟨_, rfl⟩
    rw [hz0] at F5 ⊢
    rw [show (-1 + ((us).length : Int)).toNat = (us).length - 1 by omega] at hz0
    have hzm : (us)[(us).length - 1]? = some z := hz0 ▸ getD_some (by omega)
    have hzl : z.length ≤ 1000 := hsh9 z (List.mem_of_getElem? hzm)
    unfold ematch2 at he
    dsimp only at he
    rw [hz0] at he
    refine SBL.truthy (by omega) ?_
    walk_at "m_steps5"
    · rename Fr g1 L1 _ _ => F6
      rename News g1 L1 _ _ => N6
      rename (Txt.endswith _ _ = true) => hew
      have hzg : z.length ≤ got.length := by
        have h9 := hew
        unfold Txt.endswith at h9
        simp only [Bool.and_eq_true, decide_eq_true_eq] at h9
        omega
      have hen : (got.length : Int) - (z.length : Int) = ((got.length - z.length : Nat) : Int) := by omega
      rw [hen] at F6
      rw [if_neg (by omega), if_pos hew] at he
      k_dflt refine' ki_del (its := (ut).toArray) (n := 1) (k := (us).length - 1) (q := (ut).dropLast) F6 N6 ?f ?k ?e (Upd.head hD) ?z ?_
      case f => rfl
      case k =>
        rw [List.size_toArray, hvu, StrLaws.seqIndex_neg (by omega) (by omega)]
        exact congrArg some (by omega)
      case e => show ki_delL (ut) _ = _; rw [← hvu]; exact delL_last (vs := ut) (by omega)
      case z => show (ut).length ≤ sizeLine; rw [sizeLine_eq]; omega
      intro h6 F7 N7
      have hSd := strsAre_dropLast hSw.1
      have hdl := hSd.length
      have hsh7 : ∀ a ∈ (us).dropLast, a.length ≤ 1000 := fun a ha => hsh9 a (List.dropLast_subset _ ha)
      by_cases hse : got.length - z.length < y.length
      · unfold ematch3 at he
        rw [if_pos hse] at he
        walk_at "m_steps5"
        exact hret _ _ _ _ ⟨rfl, by rw [he]⟩ (by assumption) (fun p hp => (by assumption : News _ _ _ (_ :: news)) p (.tail _ hp))
      · unfold ematch3 at he
        rw [if_neg hse] at he
        walk_at "m_steps5"
        refine For_invV g1 rfl rfl ?_
        walk_at "m_steps5"
        rename Fr g1 L1 _ _ => F8
        rename News g1 L1 _ _ => N8
        have hS8 := hSd
        have hlen8 := hS8.length
        k_dflt refine for_list (σ := Nat × Tok) (D := hp1.objs.size) (vs := (ut).dropLast) (n := (1 + 1)) (fun _ => (hp1.objs.size, W.listOf ((ut).dropLast).toArray (1 + 1)) :: news) (fun c => [(Str.ofString "startpos", .int (c.1 : Nat) c.2)]) [Str.ofString "w"] (fun i c => efind got (got.length - z.length) (((us).dropLast).drop i) c.1 = ematch ws got) (y.length, _) rfl F8 N8 (List.forall_mem_cons.mpr ⟨rfl, List.forall_mem_nil _⟩) ?a3 (fun _ => .head _) ?a4 ?a5
        case a3 => exact (by rw [List.drop_zero]; exact he.symm)
        case a4 =>
          rintro i v ⟨sp, tsp⟩ u8 h8 tk8 I oI hv hP hnI F9 N9
          dsimp only at hP F9 N9 ⊢
          obtain ⟨y8, hy8⟩ : ∃ y8, ((us).dropLast)[i]? = some y8 := ⟨_, List.getElem?_eq_getElem (by have := (List.getElem?_eq_some_iff.mp hv).1; omega)⟩
          obtain ⟨ty8, hv8⟩ := hS8.get i y8 hy8
          rw [hv] at hv8
          cases hv8
          have hdr : ((us).dropLast).drop i = y8 :: ((us).dropLast).drop (i + 1) := by
            obtain ⟨hi, he⟩ := List.getElem?_eq_some_iff.mp hy8
            rw [← he]; exact List.drop_eq_getElem_cons hi
          have hyl8 : y8.length ≤ 1000 := hsh7 y8 (List.mem_of_getElem? hy8)
          rw [hdr] at hP
          try k_fold
          walk_at "m_steps5"
          refine call_find4 (j := got.length - z.length) (by omega) ?_
          walk_at "m_steps5"
          · rename (fnd _ _ _ _ < 0) => hc8
            rw [efind_cons_none hc8] at hP
            unfold StPost
            dsimp only
            walk_at "m_steps5"
            exact hret _ _ _ _ ⟨rfl, by rw [← hP]⟩ (by assumption) (fun p hp => (by assumption : News _ _ _ (_ :: _ :: news)) p (.tail _ (.tail _ hp)))
          · rename (¬ fnd _ _ _ _ < 0) => hc8
            obtain ⟨k8, hk8, he8⟩ := efind_cons_some (r := ((us).dropLast).drop (i + 1)) hc8
            rw [he8] at hP
            refine st_end (k8 + y8.length, _) (by assumption) (by assumption) (.head _) (fun p hp => .tail _ hp) hnI (List.forall_mem_cons.mpr ⟨congrArg (fun z => some (Value.int (z + (y8.length : Int)) _)) hk8, List.forall_mem_nil _⟩) (by walk_at "m_same") hP
        case a5 =>
          rintro ⟨sp, tsp⟩ u8 h8 tk8 hP F9 N9
          dsimp only at hP F9 N9 ⊢
          rw [hlen8, List.drop_length] at hP
          walk_at "m_steps5"
          exact hret _ _ _ _ ⟨rfl, by rw [← hP]; rfl⟩ (by assumption) (fun p hp => (by assumption : News _ _ _ (_ :: news)) p (.tail _ hp))
    · rename (Txt.endswith _ _ = false) => hew
      rw [if_neg (by omega), if_neg (by rw [hew]; exact Bool.false_ne_true)] at he
      exact hret _ _ _ _ ⟨rfl, by rw [he]⟩ (by assumption) (fun p hp => (by assumption : News _ _ _ (_ :: news)) p (.tail _ hp))
    · rw [if_pos (by omega)] at he
      unfold ematch3 at he
      rw [if_pos (by omega)] at he
      exact hret _ _ _ _ ⟨rfl, by rw [he]⟩ (by assumption) (fun p hp => (by assumption : News _ _ _ (_ :: news)) p (.tail _ hp))
    · rw [if_pos (by omega)] at he
      unfold ematch3 at he
      rw [if_neg (by omega)] at he
      refine For_invV g1 rfl rfl ?_
      walk_at "m_steps5"
      rename Fr g1 L1 _ _ => F8
      rename News g1 L1 _ _ => N8
      have hS8 := hSw.1
      have hlen8 := hS8.length
      k_dflt refine for_list (σ := Nat × Tok) (D := hp1.objs.size) (vs := ut) (n := 1) (fun _ => (hp1.objs.size, W.listOf (ut).toArray 1) :: news) (fun c => [(Str.ofString "startpos", .int (c.1 : Nat) c.2)]) [Str.ofString "w"] (fun i c => efind got (got.length) ((us).drop i) c.1 = ematch ws got) (y.length, _) rfl F8 N8 (List.forall_mem_cons.mpr ⟨rfl, List.forall_mem_nil _⟩) ?a3 (fun _ => .head _) ?a4 ?a5
      case a3 => exact (by rw [List.drop_zero]; exact he.symm)
      case a4 =>
        rintro i v ⟨sp, tsp⟩ u8 h8 tk8 I oI hv hP hnI F9 N9
        dsimp only at hP F9 N9 ⊢
        obtain ⟨y8, hy8⟩ : ∃ y8, (us)[i]? = some y8 := ⟨_, List.getElem?_eq_getElem (by have := (List.getElem?_eq_some_iff.mp hv).1; omega)⟩
        obtain ⟨ty8, hv8⟩ := hS8.get i y8 hy8
        rw [hv] at hv8
        cases hv8
        have hdr : (us).drop i = y8 :: (us).drop (i + 1) := by
          obtain ⟨hi, he⟩ := List.getElem?_eq_some_iff.mp hy8
          rw [← he]; exact List.drop_eq_getElem_cons hi
        have hyl8 : y8.length ≤ 1000 := hsh9 y8 (List.mem_of_getElem? hy8)
        rw [hdr] at hP
        try k_fold
        walk_at "m_steps5"
        refine call_find4 (j := got.length) (by omega) ?_
        walk_at "m_steps5"
        · rename (fnd _ _ _ _ < 0) => hc8
          rw [efind_cons_none hc8] at hP
          unfold StPost
          dsimp only
          walk_at "m_steps5"
          exact hret _ _ _ _ ⟨rfl, by rw [← hP]⟩ (by assumption) (fun p hp => (by assumption : News _ _ _ (_ :: _ :: news)) p (.tail _ (.tail _ hp)))
        · rename (¬ fnd _ _ _ _ < 0) => hc8
          obtain ⟨k8, hk8, he8⟩ := efind_cons_some (r := (us).drop (i + 1)) hc8
          rw [he8] at hP
          refine st_end (k8 + y8.length, _) (by assumption) (by assumption) (.head _) (fun p hp => .tail _ hp) hnI (List.forall_mem_cons.mpr ⟨congrArg (fun z => some (Value.int (z + (y8.length : Int)) _)) hk8, List.forall_mem_nil _⟩) (by walk_at "m_same") hP
      case a5 =>
        rintro ⟨sp, tsp⟩ u8 h8 tk8 hP F9 N9
        dsimp only at hP F9 N9 ⊢
        rw [hlen8, List.drop_length] at hP
        walk_at "m_steps5"
        exact hret _ _ _ _ ⟨rfl, by rw [← hP]; rfl⟩ (by assumption) (fun p hp => (by assumption : News _ _ _ (_ :: news)) p (.tail _ hp))
  · have he : ematch ws got = false := by
      unfold ematch; dsimp only
      rw [show ws.getD 0 Str.empty = y from hy0, if_neg (by omega), if_neg (by simp_all)]
    exact hret _ _ _ _ ⟨rfl, by rw [he]⟩ (by assumption) (fun p hp => (by assumption : News _ _ _ (_ :: news)) p (.tail _ hp))
  · have he : ematch ws got = ematch2 ws got 0 := by
      unfold ematch; dsimp only
      rw [show ws.getD 0 Str.empty = y from hy0, if_pos (by omega)]
    have hvu := hvl
    have hsh9 := hsh8
    rename Fr g1 L1 _ _ => F5
    rename News g1 L1 _ _ => N5
    obtain ⟨z, hz0⟩ : ∃ z, (ws).getD (-1 + ((ws).length : Int)).toNat Str.empty = z := ⟨_, rfl⟩
    rw [hz0] at F5 ⊢
    rw [show (-1 + ((ws).length : Int)).toNat = (ws).length - 1 by omega] at hz0
    have hzm : (ws)[(ws).length - 1]? = some z := hz0 ▸ getD_some (by omega)
    have hzl : z.length ≤ 1000 := hsh9 z (List.mem_of_getElem? hzm)
    unfold ematch2 at he
    dsimp only at he
    rw [hz0] at he
    refine SBL.truthy (by omega) ?_
    walk_at "m_steps5"
    · rename Fr g1 L1 _ _ => F6
      rename News g1 L1 _ _ => N6
      rename (Txt.endswith _ _ = true) => hew
      have hzg : z.length ≤ got.length := by
        have h9 := hew
        unfold Txt.endswith at h9
        simp only [Bool.and_eq_true, decide_eq_true_eq] at h9
        omega
      have hen : (got.length : Int) - (z.length : Int) = ((got.length - z.length : Nat) : Int) := by omega
      rw [hen] at F6
      rw [if_neg (by omega), if_pos hew] at he
      k_dflt refine' ki_del (its := (vs).toArray) (n := 0) (k := (ws).length - 1) (q := (vs).dropLast) F6 N6 ?f ?k ?e (Upd.head hD) ?z ?_
      case f => rfl
      case k =>
        rw [List.size_toArray, hvu, StrLaws.seqIndex_neg (by omega) (by omega)]
        exact congrArg some (by omega)
      case e => show ki_delL (vs) _ = _; rw [← hvu]; exact delL_last (vs := vs) (by omega)
      case z => show (vs).length ≤ sizeLine; rw [sizeLine_eq]; omega
      intro h6 F7 N7
      have hSd := strsAre_dropLast hS0.1
      have hdl := hSd.length
      have hsh7 : ∀ a ∈ (ws).dropLast, a.length ≤ 1000 := fun a ha => hsh9 a (List.dropLast_subset _ ha)
      unfold ematch3 at he
      rw [if_neg (by omega)] at he
      walk_at "m_steps5"
      refine For_invV g1 rfl rfl ?_
      walk_at "m_steps5"
      rename Fr g1 L1 _ _ => F8
      rename News g1 L1 _ _ => N8
      have hS8 := hSd
      have hlen8 := hS8.length
      k_dflt refine for_list (σ := Nat × Tok) (D := hp1.objs.size) (vs := (vs).dropLast) (n := (0 + 1)) (fun _ => (hp1.objs.size, W.listOf ((vs).dropLast).toArray (0 + 1)) :: news) (fun c => [(Str.ofString "startpos", .int (c.1 : Nat) c.2)]) [Str.ofString "w"] (fun i c => efind got (got.length - z.length) (((ws).dropLast).drop i) c.1 = ematch ws got) (0, _) rfl F8 N8 (List.forall_mem_cons.mpr ⟨rfl, List.forall_mem_nil _⟩) ?a3 (fun _ => .head _) ?a4 ?a5
      case a3 => exact (by rw [List.drop_zero]; exact he.symm)
      case a4 =>
        rintro i v ⟨sp, tsp⟩ u8 h8 tk8 I oI hv hP hnI F9 N9
        dsimp only at hP F9 N9 ⊢
        obtain ⟨y8, hy8⟩ : ∃ y8, ((ws).dropLast)[i]? = some y8 := ⟨_, List.getElem?_eq_getElem (by have := (List.getElem?_eq_some_iff.mp hv).1; omega)⟩
        obtain ⟨ty8, hv8⟩ := hS8.get i y8 hy8
        rw [hv] at hv8
        cases hv8
        have hdr : ((ws).dropLast).drop i = y8 :: ((ws).dropLast).drop (i + 1) := by
          obtain ⟨hi, he⟩ := List.getElem?_eq_some_iff.mp hy8
          rw [← he]; exact List.drop_eq_getElem_cons hi
        have hyl8 : y8.length ≤ 1000 := hsh7 y8 (List.mem_of_getElem? hy8)
        rw [hdr] at hP
        try k_fold
        walk_at "m_steps5"
        refine call_find4 (j := got.length - z.length) (by omega) ?_
        walk_at "m_steps5"
        · rename (fnd _ _ _ _ < 0) => hc8
          rw [efind_cons_none hc8] at hP
          unfold StPost
          dsimp only
          walk_at "m_steps5"
          exact hret _ _ _ _ ⟨rfl, by rw [← hP]⟩ (by assumption) (fun p hp => (by assumption : News _ _ _ (_ :: _ :: news)) p (.tail _ (.tail _ hp)))
        · rename (¬ fnd _ _ _ _ < 0) => hc8
          obtain ⟨k8, hk8, he8⟩ := efind_cons_some (r := ((ws).dropLast).drop (i + 1)) hc8
          rw [he8] at hP
          refine st_end (k8 + y8.length, _) (by assumption) (by assumption) (.head _) (fun p hp => .tail _ hp) hnI (List.forall_mem_cons.mpr ⟨congrArg (fun z => some (Value.int (z + (y8.length : Int)) _)) hk8, List.forall_mem_nil _⟩) (by walk_at "m_same") hP
      case a5 =>
        rintro ⟨sp, tsp⟩ u8 h8 tk8 hP F9 N9
        dsimp only at hP F9 N9 ⊢
        rw [hlen8, List.drop_length] at hP
        walk_at "m_steps5"
        exact hret _ _ _ _ ⟨rfl, by rw [← hP]; rfl⟩ (by assumption) (fun p hp => (by assumption : News _ _ _ (_ :: news)) p (.tail _ hp))
    · rename (Txt.endswith _ _ = false) => hew
      rw [if_neg (by omega), if_neg (by rw [hew]; exact Bool.false_ne_true)] at he
      exact hret _ _ _ _ ⟨rfl, by rw [he]⟩ (by assumption) (fun p hp => (by assumption : News _ _ _ (_ :: news)) p (.tail _ hp))
    · rw [if_pos (by omega)] at he
      unfold ematch3 at he
      rw [if_neg (by omega)] at he
      walk_at "m_steps5"
      refine For_invV g1 rfl rfl ?_
      walk_at "m_steps5"
      rename Fr g1 L1 _ _ => F8
      rename News g1 L1 _ _ => N8
      have hS8 := hS0.1
      have hlen8 := hS8.length
      k_dflt refine for_list (σ := Nat × Tok) (D := hp1.objs.size) (vs := vs) (n := 0) (fun _ => (hp1.objs.size, W.listOf (vs).toArray 0) :: news) (fun c => [(Str.ofString "startpos", .int (c.1 : Nat) c.2)]) [Str.ofString "w"] (fun i c => efind got (got.length) ((ws).drop i) c.1 = ematch ws got) (0, _) rfl F8 N8 (List.forall_mem_cons.mpr ⟨rfl, List.forall_mem_nil _⟩) ?a3 (fun _ => .head _) ?a4 ?a5
      case a3 => exact (by rw [List.drop_zero]; exact he.symm)
      case a4 =>
        rintro i v ⟨sp, tsp⟩ u8 h8 tk8 I oI hv hP hnI F9 N9
        dsimp only at hP F9 N9 ⊢
        obtain ⟨y8, hy8⟩ : ∃ y8, (ws)[i]? = some y8 := ⟨_, List.getElem?_eq_getElem (by have := (List.getElem?_eq_some_iff.mp hv).1; omega)⟩
        obtain ⟨ty8, hv8⟩ := hS8.get i y8 hy8
        rw [hv] at hv8
        cases hv8
        have hdr : (ws).drop i = y8 :: (ws).drop (i + 1) := by
          obtain ⟨hi, he⟩ := List.getElem?_eq_some_iff.mp hy8
          rw [← he]; exact List.drop_eq_getElem_cons hi
        have hyl8 : y8.length ≤ 1000 := hsh9 y8 (List.mem_of_getElem? hy8)
        rw [hdr] at hP
        try k_fold
        walk_at "m_steps5"
        refine call_find4 (j := got.length) (by omega) ?_
        walk_at "m_steps5"
        · rename (fnd _ _ _ _ < 0) => hc8
          rw [efind_cons_none hc8] at hP
          unfold StPost
          dsimp only
          walk_at "m_steps5"
          exact hret _ _ _ _ ⟨rfl, by rw [← hP]⟩ (by assumption) (fun p hp => (by assumption : News _ _ _ (_ :: _ :: news)) p (.tail _ (.tail _ hp)))
        · rename (¬ fnd _ _ _ _ < 0) => hc8
          obtain ⟨k8, hk8, he8⟩ := efind_cons_some (r := (ws).drop (i + 1)) hc8
          rw [he8] at hP
          refine st_end (k8 + y8.length, _) (by assumption) (by assumption) (.head _) (fun p hp => .tail _ hp) hnI (List.forall_mem_cons.mpr ⟨congrArg (fun z => some (Value.int (z + (y8.length : Int)) _)) hk8, List.forall_mem_nil _⟩) (by walk_at "m_same") hP
      case a5 =>
        rintro ⟨sp, tsp⟩ u8 h8 tk8 hP F9 N9
        dsimp only at hP F9 N9 ⊢
        rw [hlen8, List.drop_length] at hP
        walk_at "m_steps5"
        exact hret _ _ _ _ ⟨rfl, by rw [← hP]; rfl⟩ (by assumption) (fun p hp => (by assumption : News _ _ _ (_ :: news)) p (.tail _ hp))
end
/-! D6 -/
section
set_option maxHeartbeats 8000000
local macro_rules | `(tactic| walk_at "m_halt") => `(tactic| (
  (fail_if_success (with_reducible show wpAny _ _ (exec (PySem.Stmt.While _ _ _ _) _) _ _ _));
  (fail_if_success (with_reducible show wpAny _ _ (exec (PySem.Stmt.For _ _ _ _ _) _) _ _ _));
  (fail_if_success (with_reducible show wpAny _ _ (eval (PySem.Expr.ListComp _ _ _ _) _) _ _ _));
  (fail_if_success (with_reducible show wpAny _ _ (exec (PySem.Stmt.Assign _ (PySem.Expr.ListComp _ _ _ _) _) _) _ _ _));
  (fail_if_success (with_reducible show wpAny _ _ (pyIter (Value.ref _)) _ _ _));
  (fail_if_success (with_reducible show LCt.CompSrcT _ _ _ _ _ _ _ _ _ _ _ _ _ _ _));
  (fail_if_success (with_reducible show LCg.CompSrc _ _ _ _ _ _ _ _ _ _ _ _ _ _));
  (fail_if_success (with_reducible show wpAny _ _ (call (Value.ref _) _ _) _ _ _))))
def falls (cs : List Nat) (k : Nat) : Nat := ((List.range k).filter fun j => decide (cs.getD (j + 1) 0 < cs.getD j 0)).length
def place (cs : List Nat) (k : Nat) : Nat := if k + 1 = cs.length ∨ cs.getD (k + 1) 0 < cs.getD k 0 then falls cs k else cs.length - 1 - (k - falls cs k)
theorem falls_le (cs : List Nat) (k : Nat) : falls cs k ≤ k := Nat.le_trans (List.length_filter_le _ _) (by simp)
theorem range_size (k : Nat) : Builtin.Range.rangeSize 0 (k : Int) 1 = ((k : Nat) : Int) := by
  unfold Builtin.Range.rangeSize; rw [if_pos (by decide)]; split <;> omega
theorem letter_at {ks : List Nat} {i : Nat} (h : i < ks.length) : (ks.map fun c => Tx [c]).getD i Str.empty = Tx [ks.getD i 0] := by
  rw [List.getD_eq_getElem?_getD, List.getElem?_map, List.getElem?_eq_getElem h, List.getD_eq_getElem?_getD, List.getElem?_eq_getElem h]; rfl
theorem letter_lt {a b : Nat} : (Tx [a]).cps.toList < (Tx [b]).cps.toList ↔ a < b := by
  show [a] < [b] ↔ a < b
  constructor
  · intro h
    have := StrLaws.lt_cons_cons a b [] []
    simp only [h, decide_true] at this
    simpa using this.symm
  · intro h
    exact List.cons_lt_cons_iff.mpr (.inl h)
theorem place_ctr {w : World} {mean : ExcName → Option Value} {mg mb : Str → Option Value} (news : List (Addr × Obj)) (l : Addr) (n : Nat) (vs : List Value) (ks : List Nat) (hI : StrsAre vs (ks.map fun c => Tx [c])) (hlen : ks.length < 1000)
    (k : Nat) (hk9 : k < ks.length) (t : Tok) :
    Ctr w mean mg mb 1 79 [.ref l, .int (k : Nat) t] [] ((l, W.listOf vs.toArray n) :: news) (fun v n' => n' = (l, W.listOf vs.toArray n) :: news ∧ ∃ t', v = .int (place ks k : Nat) t') := by
  w_top off
  unfold Ctr KK PG LS
  k_fill
  have hml : (ks.map fun c => Tx [c]).length = ks.length := List.length_map _
  intro dp un gd cn cs a ccd cl outer A₀ base h₀ L m s Q E B F X N T hk hd hu hret
  refine wpAny_call ?_
  k_dflt walk_at "m_enterC"
  intro g1 L1 hp1 tk1 cells1 FG1 F1 N1 Y1 B1 X1 T1 hlt1
  obtain ⟨oc, hE, hdc⟩ := CellsAre.one Y1
  subst hE
  clear Y1
  simp only [List.cons_append, List.nil_append] at N1
  try dsimp only
  try k_fold
  walk_at "m_steps"
  k_dflt refine LCt.ListComp_T (F₀ := F1) (by with_unfolding_all rfl) (by decide) (by rfl) (by decide) (by rfl) ?_
  walk_at "m_steps"
  rename Fr g1 L1 _ _ => F2
  rename News g1 L1 _ _ => N2
  rename IsRange _ _ _ _ _ _ _ _ => hR
  refine LCt.CompSrcT.range (n := k) rfl F2 N2 hR (small_one (by omega) (by omega) (by omega) (by omega)) (range_size k) (by rw [sizeLine_eq]; omega) ?_
  intro h3
  refine comp_restT k (fun j => decide (ks.getD (j + 1) 0 < ks.getD j 0)) (fun j y => ∃ t, y = .int ((fun j : Nat => (j : Int)) j) t) trivial ?_ ?_ ?_ _ 0 [] (by omega) .nil
  · rintro j ys v I oI C oC D m₂ h4 tk4 E' hj ⟨tj, rfl⟩ hC hx F4 N4 off ne
    rw [Int.zero_add] at hx
    try k_fold
    walk_at "m_steps"
    refine test_end ?_ (by assumption) (by assumption) (fun _ h => h)
    rw [show ((j : Int) + 1).toNat = j + 1 by omega, Int.toNat_natCast, letter_at (by omega), letter_at (by omega)]
    exact decide_eq_decide.mpr letter_lt
  · rintro j ys v I oI C oC D m₂ h4 tk4 E' hj hz ⟨tj, rfl⟩ hC hx F4 N4 off ne
    rw [Int.zero_add] at hx
    walk_at "m_steps"
    exact elt_end ⟨_, rfl⟩ (by assumption) (by assumption) (fun _ h => h)
  · intro ys hr
    have hS := hr.ints
    have hfl : (List.map (fun j : Nat => (j : Int)) (List.filter (fun j => decide (ks.getD (j + 1) 0 < ks.getD j 0)) (List.range k))).length = falls ks k := by rw [List.length_map]; rfl
    have hfk := falls_le ks k
    generalize List.map (fun j : Nat => (j : Int)) (List.filter (fun j => decide (ks.getD (j + 1) 0 < ks.getD j 0)) (List.range k)) = zs at hS hfl
    unfold LCg.FinE
    intro D h5 tk5 F5 N5 off5
    dsimp only at F5 N5 ⊢
    walk_at "m_steps"
    · rename (_ = _) => hc9
      rw [hml] at hc9
      have hp9 : place ks k = falls ks k := if_pos (.inl (by omega))
      exact hret _ _ _ _ ⟨rfl, _, by rw [hp9, ← hfl]⟩ (by assumption) (fun p hp => (by assumption : News _ _ _ (_ :: _ :: _ :: news)) p (.tail _ (.tail _ hp)))
    · rename (_ ≠ _) => hn9
      rename (_ < _) => hc9
      rw [hml] at hn9
      rw [show ((k : Int) + 1).toNat = k + 1 by omega, Int.toNat_natCast, letter_at (by omega), letter_at (by omega), letter_lt] at hc9
      have hp9 : place ks k = falls ks k := if_pos (.inr hc9)
      exact hret _ _ _ _ ⟨rfl, _, by rw [hp9, ← hfl]⟩ (by assumption) (fun p hp => (by assumption : News _ _ _ (_ :: _ :: _ :: news)) p (.tail _ (.tail _ hp)))
    · rename (_ ≠ _) => hn9
      rename (¬ _ < _) => hc9
      rw [hml] at hn9
      rw [show ((k : Int) + 1).toNat = k + 1 by omega, Int.toNat_natCast, letter_at (by omega), letter_at (by omega), letter_lt] at hc9
      have hp9 : place ks k = ks.length - 1 - (k - falls ks k) := if_neg (fun h => h.elim (fun h => hn9 (by omega)) hc9)
      have he9 : ((ks.map fun c => Tx [c]).length : Int) - 1 - ((k : Int) - (zs.length : Int)) = ((place ks k : Nat) : Int) := by rw [hp9, hml, hfl]; omega
      exact hret _ _ _ _ ⟨rfl, _, by rw [he9]⟩ (by assumption) (fun p hp => (by assumption : News _ _ _ (_ :: _ :: _ :: news)) p (.tail _ (.tail _ hp)))
end
/-! D7 -/
section
set_option maxHeartbeats 8000000
local macro_rules | `(tactic| walk_at "m_halt") => `(tactic| (
  (fail_if_success (with_reducible show wpAny _ _ (exec (PySem.Stmt.While _ _ _ _) _) _ _ _));
  (fail_if_success (with_reducible show wpAny _ _ (exec (PySem.Stmt.For _ _ _ _ _) _) _ _ _));
  (fail_if_success (with_reducible show wpAny _ _ (eval (PySem.Expr.ListComp _ _ _ _) _) _ _ _));
  (fail_if_success (with_reducible show wpAny _ _ (exec (PySem.Stmt.Assign _ (PySem.Expr.ListComp _ _ _ _) _) _) _ _ _));
  (fail_if_success (with_reducible show wpAny _ _ (pyIter (Value.ref _)) _ _ _));
  (fail_if_success (with_reducible show LCt.CompSrcT _ _ _ _ _ _ _ _ _ _ _ _ _ _ _));
  (fail_if_success (with_reducible show LCg.CompSrc _ _ _ _ _ _ _ _ _ _ _ _ _ _));
  (fail_if_success (with_reducible show wpAny _ _ (call (Value.ref _) _ _) _ _ _))))
/-- n stands in the bytes b at place i, up to j -/
def Enc (b : Array UInt8) (i n j : Nat) : Prop :=
  (n < 64 ∧ (∃ c : UInt8, b[i]? = some c ∧ c.toNat = n) ∧ j = i + 1) ∨ (64 ≤ n ∧ n < 4096 ∧ (∃ c : UInt8, b[i]? = some c ∧ c.toNat = n / 64 + 64) ∧ (∃ c : UInt8, b[i + 1]? = some c ∧ c.toNat = n % 64) ∧ j = i + 2)
theorem band63 : ∀ n : Nat, n < 128 → Builtin.bitAnd (n : Int) 63 = ((n % 64 : Nat) : Int) := by decide +kernel
theorem band64 : ∀ n : Nat, n < 128 → Builtin.bitAnd (n : Int) 64 = if n < 64 then 0 else 64 := by decide +kernel
theorem bor64 : ∀ a : Nat, a < 64 → ∀ b : Nat, b < 64 → Builtin.bitOr ((a * 64 : Nat) : Int) (b : Int) = ((a * 64 + b : Nat) : Int) := by decide +kernel
theorem varint_ctr {w : World} {mean : ExcName → Option Value} {mg mb : Str → Option Value} (news : List (Addr × Obj)) (it : Addr) (b : Array UInt8) (tb : Tok) (i n j : Nat) (hE : Enc b i n j) (hne : ∀ p ∈ news, p.1 ≠ it) :
    Ctr w mean mg mb 1 55 [.ref it] [] ((it, bIter b tb i) :: news) (fun v n' => n' = (it, bIter b tb j) :: news ∧ ∃ t', v = .int (n : Nat) t') := by
  w_top off
  unfold Ctr KK PG LS
  k_fill
  intro dp un gd cn cs a ccd cl outer A₀ base h₀ L m s Q E B F X N T hk hd hu hret
  refine wpAny_call ?_
  k_dflt walk_at "m_enter"
  intro g1 L1 hp1 FG1 F1 N1 B1 X1 T1
  try dsimp only
  try k_fold
  walk_at "m_steps"
  obtain ⟨c, hc, hc7, hcase⟩ : ∃ c : UInt8, b[i]? = some c ∧ c.toNat < 128 ∧ ((c.toNat < 64 ∧ c.toNat % 64 = n ∧ i + 1 = j) ∨ (64 ≤ n ∧ n < 4096 ∧ c.toNat = n / 64 + 64 ∧ c.toNat % 64 = n / 64 ∧ (∃ c2 : UInt8, b[i + 1]? = some c2 ∧ c2.toNat = n % 64) ∧ j = i + 2)) := by
    rcases hE with ⟨h1, ⟨c, hc, hcn⟩, hj⟩ | ⟨h1, h2, ⟨c, hc, hcn⟩, hc2, hj⟩
    · exact ⟨c, hc, by omega, .inl ⟨by omega, by omega, hj.symm⟩⟩
    · exact ⟨c, hc, by omega, .inr ⟨h1, h2, hcn, by omega, hc2, hj⟩⟩
  refine next_bytes F1 N1 hne hc ?_
  intro h2 F2 N2
  generalize c.toNat = bv at hc7 hcase
  dsimp only
  walk_at "m_steps"
  rename Fr g1 L1 _ _ => F3
  rename News g1 L1 _ _ => N3
  rw [band63 _ hc7] at F3
  refine ksw_while (σ := Nat × Nat × Nat × Tok × Tok) (fun c => (it, bIter b tb c.2.2.1) :: news) (fun c => [(Str.ofString "b", .int (c.1 : Nat) c.2.2.2.1), (Str.ofString "val", .int (c.2.1 : Nat) c.2.2.2.2)]) (fun _ => True) []
    (fun c => (c.1 < 64 ∧ c.2.1 = n ∧ c.2.2.1 = j) ∨ (64 ≤ n ∧ n < 4096 ∧ c.1 = n / 64 + 64 ∧ c.2.1 = n / 64 ∧ c.2.2.1 = i + 1 ∧ (∃ c2 : UInt8, b[i + 1]? = some c2 ∧ c2.toNat = n % 64) ∧ j = i + 2))
    (fun c => if c.1 < 64 then 0 else 1) (bv, bv % 64, i + 1, _, _) F3 N3 trivial
    (List.forall_mem_cons.mpr ⟨rfl, List.forall_mem_cons.mpr ⟨rfl, List.forall_mem_nil _⟩⟩) ?_ ?_
  · rcases hcase with ⟨a1, a2, a3⟩ | ⟨a1, a2, a3, a4, a5, a6⟩
    · exact .inl ⟨a1, a2, a3⟩
    · exact .inr ⟨a1, a2, a3, a4, rfl, a5, a6⟩
  · rintro ⟨b1, v1, p1, t1, t2⟩ u h tk - hP kF kN
    dsimp only at hP kF kN ⊢
    try k_fold
    rcases hP with ⟨a1, a2, a3⟩ | ⟨a1, a2, a3, a4, a5, ⟨c2, hc2, hcn2⟩, a6⟩
    · have hb := band64 b1 (by omega)
      rw [if_pos a1] at hb
      walk_at "m_steps"
      · exact absurd hb (by assumption)
      · subst a2 a3
        exact hret _ _ _ _ ⟨rfl, _, rfl⟩ (by assumption) (by assumption)
    · have hb := band64 b1 (by omega)
      rw [if_neg (by omega)] at hb
      subst a5
      walk_at "m_steps"
      · rename Fr g1 L1 _ _ => F5
        rename News g1 L1 _ _ => N5
        have e5 : (v1 : Int) * 2 ^ Int.toNat 6 = ((v1 * 64 : Nat) : Int) := by
          rw [show (2 : Int) ^ Int.toNat 6 = 64 from rfl]; omega
        rw [e5] at F5
        refine next_bytes F5 N5 hne hc2 ?_
        intro h6 F6 N6
        rw [hcn2]
        dsimp only
        walk_at "m_steps"
        rename Fr g1 L1 _ _ => F7
        rename News g1 L1 _ _ => N7
        rw [band63 (n % 64) (by omega), Nat.mod_mod, bor64 v1 (by omega) (n % 64) (by omega)] at F7
        refine ksw_end (n % 64, v1 * 64 + n % 64, i + 1 + 1, _, _) F7 N7 (fun _ h => h) trivial (List.forall_mem_cons.mpr ⟨rfl, List.forall_mem_cons.mpr ⟨rfl, List.forall_mem_nil _⟩⟩) (by walk_at "m_same") (.inl ⟨by dsimp only; omega, by dsimp only; omega, by dsimp only; omega⟩) ?_
        dsimp only
        rw [if_pos (by omega), if_neg (by omega)]
        exact Nat.zero_lt_one
      · exact absurd (by assumption : Builtin.bitAnd (b1 : Int) 64 = 0) (by rw [hb]; decide)
end
/-! D8 -/
section
set_option maxHeartbeats 8000000
local macro_rules | `(tactic| walk_at "m_halt") => `(tactic| (
  (fail_if_success (with_reducible show wpAny _ _ (exec (PySem.Stmt.While _ _ _ _) _) _ _ _));
  (fail_if_success (with_reducible show wpAny _ _ (exec (PySem.Stmt.For _ _ _ _ _) _) _ _ _));
  (fail_if_success (with_reducible show wpAny _ _ (eval (PySem.Expr.ListComp _ _ _ _) _) _ _ _));
  (fail_if_success (with_reducible show wpAny _ _ (exec (PySem.Stmt.Assign _ (PySem.Expr.ListComp _ _ _ _) _) _) _ _ _));
  (fail_if_success (with_reducible show wpAny _ _ (pyIter (Value.ref _)) _ _ _));
  (fail_if_success (with_reducible show LCt.CompSrcT _ _ _ _ _ _ _ _ _ _ _ _ _ _ _));
  (fail_if_success (with_reducible show LCg.CompSrc _ _ _ _ _ _ _ _ _ _ _ _ _ _));
  (fail_if_success (with_reducible show wpAny _ _ (call (Value.ref _) _ _) _ _ _))))
local macro_rules | `(tactic| walk_at "m_halt8") => `(tactic| (
  (walk_at "m_halt");
  (fail_if_success (with_reducible show wpAny _ _ (call (Value.builtin "list.insert") _) _ _ _));
  (fail_if_success (with_reducible show wpAny _ _ (call (Value.builtin "list.extend") _) _ _ _));
  (fail_if_success (with_reducible show wpAny _ _ (call (Value.type "bytes") _) _ _ _))))
local macro_rules | `(tactic| walk_at "m_steps8") => `(tactic| repeat' (walk_at "m_halt8"; first | (k_unfold; (try dsimp only)) | (k_end; wrow_close) | walk1 | (dsimp only; walk1) | (leave1; walk_say "STEP leave1"; try dsimp only) | fail "no step"))
def enc1 (n : Nat) : List Int := if n < 64 then [(n : Int)] else [((n / 64 + 64 : Nat) : Int), ((n % 64 : Nat) : Int)]
def tapeOf (ns : List Nat) : List Int := ns.flatMap enc1
theorem tapeOf_len : ∀ ns : List Nat, (tapeOf ns).length ≤ 2 * ns.length
  | [] => Nat.le_refl _
  | k :: r => by
    have h := tapeOf_len r
    have h1 : (enc1 k).length ≤ 2 := by unfold enc1; split <;> simp
    show (enc1 k ++ tapeOf r).length ≤ _
    rw [List.length_append, List.length_cons]; omega
theorem tapeOf_snoc {ns : List Nat} {i k : Nat} (h : ns[i]? = some k) : tapeOf (ns.take (i + 1)) = tapeOf (ns.take i) ++ enc1 k := by
  rw [List.take_add_one, h]; simp [tapeOf]
theorem tapeOf_in {ns : List Nat} (h : ∀ k ∈ ns, k < 4096) : ∀ n ∈ tapeOf ns, 0 ≤ n ∧ n < 256 := by
  intro n hn
  obtain ⟨k, hk, hn⟩ := List.mem_flatMap.mp hn
  have := h k hk
  unfold enc1 at hn
  split at hn
  · rw [List.mem_singleton.mp hn]; omega
  · rcases List.mem_cons.mp hn with rfl | hn
    · omega
    · rw [List.mem_singleton.mp hn]; omega
theorem tape_ctr {w : World} {mean : ExcName → Option Value} {mg mb : Str → Option Value} (news : List (Addr × Obj)) (l : Addr) (n : Nat) (vs : List Value) (ns : List Nat) (hI : IntsAre vs (ns.map fun k : Nat => (k : Int))) (hlen : ns.length < 1000) (hlt : ∀ k ∈ ns, k < 4096) :
    Ctr w mean mg mb 1 69 [.ref l] [] ((l, W.listOf vs.toArray n) :: news) (fun v n' => n' = (l, W.listOf vs.toArray n) :: news ∧ ∃ t', v = .bytes (byteArr (tapeOf ns)) t') := by
  w_top off
  unfold Ctr KK PG LS
  k_fill
  intro dp un gd cn cs a ccd cl outer A₀ base h₀ L m s Q E B F X N T hk hd hu hret
  refine wpAny_call ?_
  k_dflt walk_at "m_enter"
  intro g1 L1 hp1 FG1 F1 N1 B1 X1 T1
  try dsimp only
  try k_fold
  have hget := hI.get
  have hvl := hI.length
  walk_at "m_steps8"
  rename Fr g1 L1 _ _ => F2
  rename News g1 L1 _ _ => N2
  rename_i T9 h9 hl9 h10
  have hT : ∀ p ∈ (l, W.listOf vs.toArray n) :: news, p.1 ≠ T9 := by
    intro p hp
    rcases List.mem_cons.mp hp with rfl | hp
    · exact Nat.ne_of_lt hl9.1
    · exact Nat.ne_of_lt (tb_ltOf hl9.2 p hp)
  refine For_invV g1 rfl rfl ?_
  walk_at "m_steps8"
  k_dflt refine for_list (σ := List Value × Nat) (D := l) (vs := vs) (n := n) (fun c => (T9, W.listOf c.1.toArray c.2) :: (l, W.listOf vs.toArray n) :: news) (fun _ => []) [Str.ofString "number", Str.ofString "digits"] (fun i c => IntsAre c.1 (tapeOf (ns.take i))) ([], 0) rfl F2 N2 (List.forall_mem_nil _) ?a3 (fun _ => .tail _ (.head _)) ?a4 ?a5
  case a3 => exact .nil
  case a4 =>
    rintro i v ⟨tv, tn⟩ u8 h8 tk8 I oI hv hP hnI F9 N9
    dsimp only at hP F9 N9 ⊢
    change Fr g1 L1 h8 _ at F9
    change News g1 L1 h8 _ at N9
    obtain ⟨k, hk⟩ : ∃ k, ns[i]? = some k := ⟨_, List.getElem?_eq_getElem (by have := (List.getElem?_eq_some_iff.mp hv).1; rw [List.length_map] at hvl; omega)⟩
    obtain ⟨tk9', hv9⟩ := hget i k (by rw [List.getElem?_map, hk]; rfl)
    rw [hv] at hv9
    cases hv9
    have hk4 : k < 4096 := hlt k (List.mem_of_getElem? hk)
    have htl := hP.length
    try k_fold
    walk_at "m_steps8"
    rename Fr g1 L1 _ _ => F3
    rename News g1 L1 _ _ => N3
    rename_i D9 h11 hl11 h12
    have ek : (k : Int).fmod 64 = ((k % 64 : Nat) : Int) := by rw [Int.fmod_eq_emod_of_nonneg _ (by omega)]; omega
    rw [ek] at N3
    obtain ⟨a1, a2, a3, a4⟩ := hl11
    have hIT : I ≠ T9 := fun e => hnI _ (.head _) e.symm
    have hD : ∀ p ∈ (I, oI) :: (T9, W.listOf tv.toArray tn) :: (l, W.listOf vs.toArray n) :: news, p.1 ≠ D9 := by
      intro p hp
      rcases List.mem_cons.mp hp with rfl | hp
      · exact Nat.ne_of_lt a1
      · rcases List.mem_cons.mp hp with rfl | hp
        · exact Nat.ne_of_lt a2
        · rcases List.mem_cons.mp hp with rfl | hp
          · exact Nat.ne_of_lt a3
          · exact Nat.ne_of_lt (tb_ltOf a4 p hp)
    have htb := tapeOf_len (ns.take i)
    have htb2 : (ns.take i).length ≤ ns.length := by rw [List.length_take]; omega
    refine ksw_while (σ := Nat × List Value × Nat × Tok) (fun c => (D9, W.listOf c.2.1.toArray c.2.2.1) :: (I, oI) :: (T9, W.listOf tv.toArray tn) :: (l, W.listOf vs.toArray n) :: news) (fun c => [(Str.ofString "number", .int (c.1 : Nat) c.2.2.2)]) (fun _ => True) []
      (fun c => (c.1 = k ∧ IntsAre c.2.1 [((k % 64 : Nat) : Int)]) ∨ (64 ≤ k ∧ c.1 = k / 64 ∧ IntsAre c.2.1 [((k / 64 + 64 : Nat) : Int), ((k % 64 : Nat) : Int)])) (fun c => c.1) (k, [_], _, _) F3 N3 trivial
      (List.forall_mem_cons.mpr ⟨rfl, List.forall_mem_nil _⟩) (.inl ⟨rfl, .cons _ _ .nil⟩) ?_
    rintro ⟨num, dv, dn, tn9⟩ u h tk - hQ kF kN
    dsimp only at hQ kF kN ⊢
    try k_fold
    walk_at "m_steps8"
    · rename Fr g1 L1 _ _ => F4
      rename News g1 L1 _ _ => N4
      have hnum : num = k ∧ IntsAre dv [((k % 64 : Nat) : Int)] := by
        rcases hQ with h | h
        · exact h
        · omega
      obtain ⟨rfl, hdv⟩ := hnum
      have hdl := hdv.length
      have e7 : (num : Int).fdiv 64 = ((num / 64 : Nat) : Int) := by rw [Int.fdiv_eq_ediv_of_nonneg _ (by omega)]; omega
      have e8 : (((num : Int).fdiv 64).fmod 64 + 64) = ((num / 64 + 64 : Nat) : Int) := by rw [e7, Int.fmod_eq_emod_of_nonneg _ (by omega)]; omega
      rw [e8]
      rw [e7] at F4
      k_dflt refine' kl_insert (its := dv.toArray) (n := dn) (l := _ :: dv) F4 N4 ?f ?e (Upd.head hD) ?z ?_
      case f => rfl
      case e => rfl
      case z => show dv.length ≤ sizeLine; rw [sizeLine_eq, hdl, List.length_singleton]; omega
      intro h13 F5 N5
      walk_at "m_steps8"
      refine ksw_end (num / 64, _ :: dv, dn + 1, _) (by assumption) (by assumption) (fun _ h => h) trivial (List.forall_mem_cons.mpr ⟨rfl, List.forall_mem_nil _⟩) (by walk_at "m_same") (.inr ⟨by omega, rfl, .cons _ _ hdv⟩) (by dsimp only; omega)
    · rename Fr g1 L1 _ _ => F4
      rename News g1 L1 _ _ => N4
      have hdv : IntsAre dv (enc1 k) := by
        unfold enc1
        rcases hQ with ⟨h, h9⟩ | ⟨h, h8, h9⟩
        · rw [if_pos (by omega)]
          rw [Nat.mod_eq_of_lt (by omega)] at h9
          exact h9
        · rw [if_neg (by omega)]; exact h9
      have hdl := hdv.length
      have hel : (enc1 k).length ≤ 2 ∧ 1 ≤ (enc1 k).length := by unfold enc1; split <;> simp
      k_dflt refine' kl_extend (its := tv.toArray) (n := tn) (its2 := dv.toArray) (n2 := dn) (l := tv ++ dv) F4 N4 (.head _) ?e ?hn (Upd.tail (Nat.ne_of_gt a2) (Upd.tail hIT (Upd.head hT))) ?hd ?hz ?hz2 ?_
      case e => rfl
      case hn => show dv.length ≠ 0; omega
      case hd =>
        have : Builtin.List.listTooLong (tv.toArray.size + dv.toArray.size) = false := by
          unfold Builtin.List.listTooLong
          rw [sizeLine_eq, List.size_toArray, List.size_toArray]
          simp only [gt_iff_lt, decide_eq_false_iff_not]; omega
        rw [this, Bool.and_false]; exact Bool.false_ne_true
      case hz => show tv.length ≤ sizeLine; rw [sizeLine_eq]; omega
      case hz2 => rw [List.size_toArray, List.size_toArray, sizeLine_eq]; omega
      intro h13 F5 N5
      walk_at "m_steps8"
      refine st_end (tv ++ dv, tn + 1) (by assumption) (by assumption) (.tail _ (.head _)) (fun p hp => .tail _ (.tail _ hp)) ?_ (List.forall_mem_nil _) (by walk_at "m_same") ?_
      · intro p hp
        rcases List.mem_cons.mp hp with rfl | hp
        · exact Ne.symm hIT
        · exact hnI p (.tail _ hp)
      · dsimp only; rw [tapeOf_snoc hk]; exact IntsAre.append hP hdv
  case a5 =>
    rintro ⟨tv, tn⟩ u8 h8 tk8 hP F9 N9
    dsimp only at hP F9 N9 ⊢
    change Fr g1 L1 h8 _ at F9
    change News g1 L1 h8 _ at N9
    rw [hvl, List.length_map, List.take_length] at hP
    have htl := hP.length
    have htb := tapeOf_len ns
    walk_at "m_steps8"
    k_dflt refine' bytes_K F9 N9 (News.isList N9 (.head _)) hP (tapeOf_in hlt) ?z rfl ?_
    case z => rw [sizeLine_eq]; omega
    intro h14 t14 k14 F14 N14 _
    walk_at "m_steps8"
    exact hret _ _ _ _ ⟨rfl, _, rfl⟩ (by assumption) (fun p hp => (by assumption : News _ _ _ (_ :: _ :: news)) p (.tail _ hp))
end
/-! D9 -/
section
set_option maxHeartbeats 8000000
local macro_rules | `(tactic| walk_at "m_halt") => `(tactic| (
  (fail_if_success (with_reducible show wpAny _ _ (exec (PySem.Stmt.While _ _ _ _) _) _ _ _));
  (fail_if_success (with_reducible show wpAny _ _ (exec (PySem.Stmt.For _ _ _ _ _) _) _ _ _));
  (fail_if_success (with_reducible show wpAny _ _ (eval (PySem.Expr.ListComp _ _ _ _) _) _ _ _));
  (fail_if_success (with_reducible show wpAny _ _ (exec (PySem.Stmt.Assign _ (PySem.Expr.ListComp _ _ _ _) _) _) _ _ _));
  (fail_if_success (with_reducible show wpAny _ _ (pyIter (Value.ref _)) _ _ _));
  (fail_if_success (with_reducible show LCt.CompSrcT _ _ _ _ _ _ _ _ _ _ _ _ _ _ _));
  (fail_if_success (with_reducible show LCg.CompSrc _ _ _ _ _ _ _ _ _ _ _ _ _ _));
  (fail_if_success (with_reducible show wpAny _ _ (call (Value.ref _) _ _) _ _ _))))
local macro_rules | `(tactic| walk_at "m_halt9") => `(tactic| (
  (walk_at "m_halt");
  (fail_if_success (with_reducible show wpAny _ _ (setItem _ _ _) _ _ _));
  (fail_if_success (with_reducible show wpAny _ _ (call (Value.type "list") _) _ _ _))))
local macro_rules | `(tactic| walk_at "m_steps9") => `(tactic| repeat' (walk_at "m_halt9"; first | (k_unfold; (try dsimp only)) | (k_end; wrow_close) | walk1 | (dsimp only; walk1) | (leave1; walk_say "STEP leave1"; try dsimp only) | fail "no step"))
theorem setL_at : ∀ {vs : List Value} {k : Nat} {v : Value}, k < vs.length → ki_setL vs k v = some (vs.set k v)
  | _ :: _, 0, _, _ => rfl
  | x :: r, k + 1, v, h => by
    unfold ki_setL
    rw [setL_at (vs := r) (k := k) (by simpa using h)]
    rfl
theorem intsAre_set : ∀ {vs : List Value} {xs : List Int} {k : Nat} {y : Int} {t : Tok}, IntsAre vs xs → IntsAre (vs.set k (.int y t)) (xs.set k y)
  | _, _, _, _, _, .nil => .nil
  | _, _, 0, _, _, .cons _ _ h => .cons _ _ h
  | _, _, _ + 1, _, _, .cons _ _ h => .cons _ _ (intsAre_set h)
theorem drawn_ctr {w : World} {mean : ExcName → Option Value} {mg mb : Str → Option Value} (news : List (Addr × Obj)) (ls lb : Addr) (n : Nat) (svs bvs : List Value) (ss bs : List Int) (hSs : IntsAre svs ss) (hBs : IntsAre bvs bs) (hs63 : ss.length ≤ 63) (hb5 : bs.length = 5) :
    ∀ (dp un : Nat) (gd : Option (List Code)) (cn : Str) (cs : Scope) (a : Addr) (ccd : Value) (cl : List (Str × Addr)) (outer : List Env) (A₀ : Around) (base h₀ : Heap) (L : Addr) (m : Str → Option Value) (s : Shared) (Q E : Value → Shared → Prop),
    Below A₀ base outer h₀ → Fr h₀ L s.heap m → (KK w).In h₀ → News h₀ L s.heap ((lb, W.listOf bvs.toArray n) :: news) → Top hd.view_39 LS mean mg mb h₀ → cs.kind = .function →
    dp + 4 * 1 < recursionLimit → un + 40 * 1 < cLine → h₀.IsList ls svs.toArray →
    (∀ D dvs ds nd h' tk', IntsAre dvs ds → ds.length = 5 → (∀ p ∈ (lb, W.listOf bvs.toArray n) :: news, p.1 < D) → Fr h₀ L h' m → News h₀ L h' ((D, W.listOf dvs.toArray nd) :: (lb, W.listOf bvs.toArray n) :: news) → Q (.ref D) { s with heap := h', toks := tk' }) →
    wpAny (model PG w) (ktrTop dp un gd cn cs L a ccd cl outer) (call (.ref 62) [.ref ls, .ref lb] []) Q E s := by
  w_top off
  unfold KK PG LS
  k_fill
  intro dp un gd cn cs a ccd cl outer A₀ base h₀ L m s Q E B F X N T hk hd hu hsl hret
  refine wpAny_call ?_
  k_dflt walk_at "m_enter"
  intro g1 L1 hp1 FG1 F1 N1 B1 X1 T1
  try dsimp only
  try k_fold
  have hsl1 : g1.IsList ls svs.toArray := stays_list FG1.keep hsl
  have hsv := hSs.length
  have hbv := hBs.length
  walk_at "m_steps9"
  k_dflt refine' list_copyK F1 N1 ?l ?_ ?z
  case l => exact News.isList N1 (.head _)
  case z => rw [List.size_toArray, sizeLine_eq]; omega
  intro D c9 h9 F2 N2 hlD
  walk_at "m_steps9"
  refine For_invV g1 rfl rfl ?_
  walk_at "m_steps9"
  rename IsRange _ _ _ _ _ _ _ _ => hR
  rename Fr g1 L1 _ _ => F3
  rename News g1 L1 _ _ => N3
  have er : (if 60 < (ss.length : Int) then 60 else (ss.length : Int)) = ((min 60 ss.length : Nat) : Int) := by split <;> omega
  rw [er] at hR
  have hlD0 : ∀ p ∈ (lb, W.listOf bvs.toArray n) :: news, p.1 ≠ D := fun p hp => Nat.ne_of_lt (hlD p hp)
  k_dflt refine for_range (σ := List Value × List Int) (k := min 60 ss.length) (fun c => (D, W.listOf c.1.toArray c9) :: (lb, W.listOf bvs.toArray n) :: news) (fun _ => []) [Str.ofString "k"] (fun i c => IntsAre c.1 c.2 ∧ c.2.length = 5) (bvs, bs) rfl hR (small_one (by omega) (by omega) (by omega) (by omega)) (range_sz (by omega)) F3 N3 (List.forall_mem_nil _) ⟨hBs, hb5⟩ ?a4 ?a5
  case a4 =>
    rintro i t ⟨dv, ds⟩ u8 h8 tk8 I oI hi ⟨hP, hP5⟩ hnI F9 N9
    dsimp only at hP hP5 F9 N9 ⊢
    rw [Int.zero_add] at F9
    change Fr g1 L1 h8 _ at F9
    change News g1 L1 h8 _ at N9
    have hdl := hP.length
    have hid : I ≠ D := fun e => hnI _ (.head _) e.symm
    have hP9 : IntsAre dv ds ∧ True := ⟨hP, trivial⟩
    have em : (i : Int).fmod (bs.length : Int) = ((i % 5 : Nat) : Int) := by rw [hb5, Int.fmod_eq_emod_of_nonneg _ (by omega)]; omega
    try k_fold
    walk_at "m_steps9"
    rw [em]
    generalize (ds.getD ((i % 5 : Nat) : Int).toNat 0 + (ss.getD (i : Int).toNat 0).fmod 1000000) = y9
    k_dflt refine ki_set (its := dv.toArray) (n := c9) (by assumption) (by assumption) (by omega) (by omega) ((congrArg (ki_setL dv · _) (Int.toNat_natCast _)).trans (setL_at (vs := dv) (k := i % 5) (by omega))) (Upd.tail hid (Upd.head hlD0)) ?_
    intro h10 F10 N10
    walk_at "m_steps9"
    refine st_end (dv.set (i % 5) (.int y9 _), ds.set (i % 5) y9) (by assumption) (by assumption) (.head _) (fun p hp => .tail _ hp) ?_ (List.forall_mem_nil _) (by walk_at "m_same") ⟨intsAre_set hP9.1, by rw [List.length_set]; exact hP5⟩
    intro p hp
    rcases List.mem_cons.mp hp with rfl | hp
    · exact Ne.symm hid
    · exact hnI p (.tail _ hp)
  case a5 =>
    rintro ⟨dv, ds⟩ u8 h8 tk8 ⟨hP, hP5⟩ F9 N9
    dsimp only at hP hP5 F9 N9 ⊢
    walk_at "m_steps9"
    exact hret _ _ _ _ _ _ hP hP5 hlD (by assumption) (by assumption)
end
/-! L0 -/
section
def bodyOf : List Stmt → List Stmt
  | [.FunctionDef _ _ b _ _ _ _ _ _ _] => b
  | _ :: r => bodyOf r
  | [] => []
def scopeOf : List Stmt → Scope
  | [.FunctionDef _ _ _ _ _ _ sc _ _ _] => sc
  | _ :: r => scopeOf r
  | [] => default
def behind6 : List Stmt → List Stmt
  | _ :: _ :: _ :: _ :: _ :: r => r
  | _ => []
noncomputable def lawRest : List Stmt := behind6 (bodyOf PG.main.body)
noncomputable def lawScope : Scope := scopeOf PG.main.body
end
/-! P3d -/
section
/-- the front without the letter at p -/
def del (fr : List Nat) (p : Nat) : List Nat := fr.take p ++ fr.drop (p + 1)
def isBegin (fr : List Nat) (p : Nat) : Bool := p == 0 || fr.getD p 0 != fr.getD (p - 1) 0
def begins (fr : List Nat) : List Nat := (List.range fr.length).filter (isBegin fr)
def lets (fr : List Nat) : List Nat := (begins fr).map fun p => fr.getD p 0
def insL (x : List Nat) : List (List Nat) → List (List Nat)
  | [] => [x]
  | y :: r => if y < x then y :: insL x r else x :: y :: r
/-- the words with one letter less, in order -/
def rowR : List Nat → List (List Nat)
  | [] => []
  | [_] => [[]]
  | a :: b :: t => if a = b then (rowR (b :: t)).map (a :: ·) else if b < a then (b :: t) :: (rowR (b :: t)).map (a :: ·) else (rowR (b :: t)).map (a :: ·) ++ [b :: t]
def grow (ws : List (List Nat)) : List (List Nat) := ws.flatMap fun w => [w ++ [97], w ++ [98], w ++ [99]]
def isSub : List Nat → List Nat → Bool
  | [], _ => true
  | _ :: _, [] => false
  | a :: w, b :: t => if a = b then isSub w t else isSub (a :: w) t
def rowTo (fr : List Nat) (i : Nat) : List (List Nat) := ((begins fr).take i).foldl (fun row p => insL (del fr p) row) []
def abc (l : List Nat) : Prop := ∀ c ∈ l, c = 97 ∨ c = 98 ∨ c = 99
/-- parts with three dots between -/
def joinD : List (List Nat) → List Nat
  | [] => []
  | [w] => w
  | w :: v :: r => w ++ [46, 46, 46] ++ joinD (v :: r)
def ones (w : List Nat) : List (List Nat) := w.map fun c => [c]
def noDot (ws : List (List Nat)) : Prop := ∀ w ∈ ws, 46 ∉ w
def pat (ah be : Bool) (w : List Nat) : List (List Nat) := (if ah then [[]] else []) ++ ones w ++ (if be then [[]] else [])
def over (g : List Nat) (p : Nat) : List (List Nat) := [[], g.take (p + 1), g.drop p, []]
/-- the parts of a pattern with dots ahead, between and behind -/
def parts0 (w : List Nat) : List Str := Tx [] :: (w.map fun c => Tx [c]) ++ [Tx []]
end
/-! Q1 -/
section
theorem del_zero (a : Nat) (t : List Nat) : del (a :: t) 0 = t := by simp [del]
theorem del_succ (a : Nat) (t : List Nat) (p : Nat) : del (a :: t) (p + 1) = a :: del t p := by simp [del]
theorem isBegin_zero (l : List Nat) : isBegin l 0 = true := by simp [isBegin]
theorem isBegin_one (a b : Nat) (t : List Nat) : isBegin (a :: b :: t) 1 = decide (a ≠ b) := by
  simp only [isBegin]; by_cases h : a = b <;> simp [h]; omega
theorem isBegin_two (a b : Nat) (t : List Nat) (p : Nat) : isBegin (a :: b :: t) (p + 2) = isBegin (b :: t) (p + 1) := by
  simp [isBegin]
theorem begins_one (a : Nat) : begins [a] = [0] := by simp [begins, isBegin]
/-- the begins of a text are those of its rest, one on, the first of them fallen out if it goes on -/
theorem begins_cons (a b : Nat) (t : List Nat) : begins (a :: b :: t) = 0 :: (if a = b then (begins (b :: t)).tail else begins (b :: t)).map (· + 1) := by
  have hb : begins (b :: t) = 0 :: ((List.range t.length).map (· + 1)).filter (isBegin (b :: t)) := by
    unfold begins
    rw [List.length_cons, List.range_succ_eq_map, List.filter_cons, if_pos (isBegin_zero _)]
  have ha : begins (a :: b :: t) = 0 :: ((List.range (b :: t).length).map (· + 1)).filter (isBegin (a :: b :: t)) := by
    unfold begins
    rw [List.length_cons, List.range_succ_eq_map, List.filter_cons, if_pos (isBegin_zero _)]
  rw [ha, hb]
  congr 1
  rw [List.length_cons, List.range_succ_eq_map, List.map_cons, List.filter_cons]
  have e : (List.map (· + 1) (List.map Nat.succ (List.range t.length))).filter (isBegin (a :: b :: t)) = (((List.range t.length).map (· + 1)).filter (isBegin (b :: t))).map (· + 1) := by
    rw [List.filter_map]
    congr 1
    rw [List.filter_map, List.filter_map]
    congr 1
  rw [show (0 + 1) = 1 from rfl, isBegin_one, e]
  by_cases h : a = b <;> simp [h]
theorem begins_head (a : Nat) (t : List Nat) : ∃ r, begins (a :: t) = 0 :: r := by
  cases t with
  | nil => exact ⟨[], begins_one a⟩
  | cons b t => exact ⟨_, begins_cons a b t⟩
theorem begins_pos (a : Nat) (t : List Nat) : 0 < (begins (a :: t)).length := by
  obtain ⟨r, e⟩ := begins_head a t; rw [e]; simp
theorem begins_pw (fr : List Nat) : (begins fr).Pairwise (· < ·) := by
  unfold begins
  exact List.Pairwise.filter _ List.pairwise_lt_range
theorem begins_mono' (fr : List Nat) : ∀ (i j : Nat) (a b : Int), i ≤ j → ((begins fr).map fun j : Nat => (j : Int))[i]? = some a → ((begins fr).map fun j : Nat => (j : Int))[j]? = some b → a ≤ b := by
  intro i j a b hij ha hb
  rw [List.getElem?_map, Option.map_eq_some_iff] at ha hb
  obtain ⟨x, hx, rfl⟩ := ha
  obtain ⟨y, hy, rfl⟩ := hb
  rcases Nat.lt_or_eq_of_le hij with h | h
  · obtain ⟨hi, e1⟩ := List.getElem?_eq_some_iff.mp hx
    obtain ⟨hj, e2⟩ := List.getElem?_eq_some_iff.mp hy
    have := List.pairwise_iff_getElem.mp (begins_pw fr) i j hi hj h
    omega
  · subst h; rw [hx] at hy; cases hy; exact Int.le_refl _
theorem rowR_cons (a b : Nat) (t : List Nat) : rowR (a :: b :: t) = if a = b then (rowR (b :: t)).map (a :: ·) else if b < a then (b :: t) :: (rowR (b :: t)).map (a :: ·) else (rowR (b :: t)).map (a :: ·) ++ [b :: t] := by
  rw [rowR]
theorem rowR_length : ∀ fr : List Nat, (rowR fr).length = (begins fr).length
  | [] => rfl
  | [a] => by rw [begins_one]; rfl
  | a :: b :: t => by
    have ih := rowR_length (b :: t)
    rw [rowR_cons, begins_cons]
    obtain ⟨r, e⟩ := begins_head b t
    rw [e] at ih ⊢
    split
    · simp [ih]
    · split <;> simp [ih]
theorem begins_le (fr : List Nat) : (begins fr).length ≤ fr.length := by
  unfold begins; exact Nat.le_trans (List.length_filter_le _ _) (by simp)
theorem rowR_len_le' (fr : List Nat) : (rowR fr).length ≤ fr.length := by rw [rowR_length]; exact begins_le fr
theorem rowR_mem' : ∀ {fr w : List Nat}, w ∈ rowR fr → w.length + 1 = fr.length ∧ w.Sublist fr
  | [], w, h => by simp [rowR] at h
  | [a], w, h => by simp [rowR] at h; subst h; simp
  | a :: b :: t, w, h => by
    rw [rowR_cons] at h
    have ihm : ∀ v ∈ (rowR (b :: t)).map (a :: ·), v.length + 1 = (a :: b :: t).length ∧ v.Sublist (a :: b :: t) := by
      intro v hv
      obtain ⟨u, hu, rfl⟩ := List.mem_map.mp hv
      have := rowR_mem' hu
      exact ⟨by simp only [List.length_cons] at this ⊢; omega, this.2.cons_cons a⟩
    have ihb : (b :: t).length + 1 = (a :: b :: t).length ∧ (b :: t).Sublist (a :: b :: t) := ⟨rfl, List.sublist_cons_self _ _⟩
    split at h
    · exact ihm w h
    · split at h
      · rcases List.mem_cons.mp h with rfl | h
        · exact ihb
        · exact ihm w h
      · rcases List.mem_append.mp h with h | h
        · exact ihm w h
        · rw [List.mem_singleton] at h; subst h; exact ihb
theorem rowTo_succ' (fr : List Nat) {i p : Nat} (h : (begins fr)[i]? = some p) : rowTo fr (i + 1) = insL (del fr p) (rowTo fr i) := by
  unfold rowTo
  rw [List.take_add_one, h, List.foldl_append]; rfl
theorem insL_len (x : List Nat) : ∀ row, (insL x row).length = row.length + 1
  | [] => rfl
  | y :: r => by rw [insL]; split <;> simp [insL_len x r]
theorem rowTo_len' (fr : List Nat) : ∀ i : Nat, (rowTo fr i).length ≤ i
  | 0 => by simp [rowTo]
  | i + 1 => by
    have ih := rowTo_len' fr i
    cases h : (begins fr)[i]? with
    | some p => rw [rowTo_succ' fr h, insL_len]; omega
    | none =>
      unfold rowTo at ih ⊢
      rw [List.take_add_one, h]; simp only [Option.toList_none, List.append_nil]; omega
theorem grow_len' (prev : List (List Nat)) : (grow prev).length = 3 * prev.length := by
  induction prev with
  | nil => rfl
  | cons w r ih => unfold grow at ih ⊢; rw [List.flatMap_cons, List.length_append, ih]; simp; omega
theorem grow_mem' {prev : List (List Nat)} {k : Nat} (h : ∀ w ∈ prev, w.length ≤ k ∧ abc w) : ∀ w ∈ grow prev, w.length ≤ k + 1 ∧ abc w := by
  intro w hw
  unfold grow at hw
  obtain ⟨v, hv, hw⟩ := List.mem_flatMap.mp hw
  have := h v hv
  have key : ∀ c, (c = 97 ∨ c = 98 ∨ c = 99) → (v ++ [c]).length ≤ k + 1 ∧ abc (v ++ [c]) := by
    intro c hc
    refine ⟨by rw [List.length_append]; simp; omega, ?_⟩
    intro d hd
    rcases List.mem_append.mp hd with hd | hd
    · exact this.2 d hd
    · rw [List.mem_singleton] at hd; subst hd; exact hc
  simp only [List.mem_cons, List.not_mem_nil, or_false] at hw
  rcases hw with rfl | rfl | rfl
  · exact key 97 (.inl rfl)
  · exact key 98 (.inr (.inl rfl))
  · exact key 99 (.inr (.inr rfl))
theorem filter_range' {α : Type} (d : α) (p : α → Bool) (f : α → Str) (l : List α) : ((List.range l.length).filter fun i => p (l.getD i d)).map (fun i => f (l.getD i d)) = (l.filter p).map f := by
  have e : l = (List.range l.length).map (fun i => l.getD i d) := by
    apply List.ext_getElem
    · simp
    · intro i h1 h2
      rw [List.getElem_map, List.getElem_range, List.getD_eq_getElem?_getD, List.getElem?_eq_getElem h1]; rfl
  conv => rhs; rw [e, List.filter_map, List.map_map]
  rfl
theorem grown_rows' (ws : List (List Nat)) : rows2 (fun i j => Tx (ws.getD i [] ++ [97 + j])) 3 ws.length = (grow ws).map Tx := by
  unfold rows2 grow
  have e : ws = (List.range ws.length).map (fun i => ws.getD i []) := by
    apply List.ext_getElem
    · simp
    · intro i h1 h2
      rw [List.getElem_map, List.getElem_range, List.getD_eq_getElem?_getD, List.getElem?_eq_getElem h1]; rfl
  conv => rhs; rw [e, List.flatMap_map, List.map_flatMap]
  rfl
end
/-! Q2 -/
section
abbrev PW (l : List (List Nat)) : Prop := l.Pairwise (fun a b => a < b)
abbrev PWle (l : List (List Nat)) : Prop := l.Pairwise (fun a b => ¬ b < a)
theorem ll_irrefl (a : List Nat) : ¬ a < a := List.lt_irrefl a
theorem ll_asymm {a b : List Nat} (h : a < b) : ¬ b < a := fun h2 => ll_irrefl a (List.lt_trans h h2)
theorem ll_anti {a b : List Nat} (h1 : ¬ b < a) (h2 : ¬ a < b) : a = b := List.le_antisymm (List.not_lt.mp h1) (List.not_lt.mp h2)
theorem PW_map (a : Nat) {l : List (List Nat)} (h : PW l) : PW (l.map (a :: ·)) := by
  refine List.pairwise_map.mpr ?_
  exact h.imp fun h => List.cons_lt_cons_iff.mpr (.inr ⟨rfl, h⟩)
theorem rowR_pw : ∀ fr : List Nat, PW (rowR fr)
  | [] => List.Pairwise.nil
  | [a] => by simp [rowR]
  | a :: b :: t => by
    have ih := PW_map a (rowR_pw (b :: t))
    rw [rowR_cons]
    split
    · exact ih
    · rename_i hab
      split
      · rename_i hba
        refine List.pairwise_cons.mpr ⟨?_, ih⟩
        intro v hv
        obtain ⟨u, _, rfl⟩ := List.mem_map.mp hv
        exact List.cons_lt_cons_iff.mpr (.inl hba)
      · rename_i hba
        refine List.pairwise_append.mpr ⟨ih, by simp, ?_⟩
        intro v hv x hx
        obtain ⟨u, _, rfl⟩ := List.mem_map.mp hv
        rw [List.mem_singleton] at hx; subst hx
        exact List.cons_lt_cons_iff.mpr (.inl (by omega))
theorem insL_mem {x : List Nat} : ∀ {row : List (List Nat)} {y}, y ∈ insL x row → y = x ∨ y ∈ row
  | [], y, h => by rw [insL, List.mem_singleton] at h; exact .inl h
  | z :: r, y, h => by
    rw [insL] at h
    split at h
    · rcases List.mem_cons.mp h with h | h
      · exact .inr (by rw [h]; exact List.mem_cons_self)
      · rcases insL_mem h with h | h
        · exact .inl h
        · exact .inr (List.mem_cons_of_mem _ h)
    · exact List.mem_cons.mp h
theorem insL_le {x : List Nat} : ∀ {row : List (List Nat)}, PWle row → PWle (insL x row)
  | [], _ => by simp [insL]
  | y :: r, h => by
    rw [insL]
    have h' := List.pairwise_cons.mp h
    split
    · rename_i hy
      refine List.pairwise_cons.mpr ⟨?_, insL_le h'.2⟩
      intro z hz
      rcases insL_mem hz with rfl | hz
      · exact ll_asymm hy
      · exact h'.1 z hz
    · rename_i hy
      refine List.pairwise_cons.mpr ⟨?_, h⟩
      intro z hz
      rcases List.mem_cons.mp hz with rfl | hz
      · exact hy
      · exact fun hzx => hy (List.lt_of_le_of_lt (List.not_lt.mp (h'.1 z hz)) hzx)
theorem insL_perm (x : List Nat) : ∀ row : List (List Nat), (insL x row).Perm (x :: row)
  | [] => List.Perm.refl _
  | y :: r => by
    rw [insL]
    split
    · exact ((insL_perm x r).cons y).trans (List.Perm.swap _ _ _)
    · exact List.Perm.refl _
theorem foldl_le (f : Nat → List Nat) : ∀ (l : List Nat) (row : List (List Nat)), PWle row → PWle (l.foldl (fun row p => insL (f p) row) row)
  | [], _, h => h
  | _ :: l, _, h => foldl_le f l _ (insL_le h)
theorem foldl_perm (f : Nat → List Nat) : ∀ (l : List Nat) (row : List (List Nat)), (l.foldl (fun row p => insL (f p) row) row).Perm (l.map f ++ row)
  | [], _ => List.Perm.refl _
  | p :: l, row => by
    rw [List.foldl_cons]
    refine (foldl_perm f l _).trans ?_
    refine ((insL_perm (f p) row).append_left (l.map f)).trans ?_
    rw [List.map_cons, List.cons_append]
    exact List.perm_middle
theorem rowTo_le (fr : List Nat) (i : Nat) : PWle (rowTo fr i) := foldl_le _ _ _ List.Pairwise.nil
theorem rowR_perm : ∀ fr : List Nat, (rowR fr).Perm ((begins fr).map (del fr))
  | [] => List.Perm.refl _
  | [a] => by rw [begins_one]; simp [rowR, del]
  | a :: b :: t => by
    have ih := (rowR_perm (b :: t)).map (a :: ·)
    rw [List.map_map] at ih
    rw [rowR_cons, begins_cons, List.map_cons, List.map_map, del_zero]
    have e : (del (a :: b :: t) ∘ fun x => x + 1) = ((fun x => a :: x) ∘ del (b :: t)) := by
      funext p; exact del_succ _ _ _
    rw [e]
    split
    · rename_i hab
      refine ih.trans ?_
      obtain ⟨r, er⟩ := begins_head b t
      rw [er, List.map_cons, List.tail_cons]
      simp only [Function.comp, del_zero, hab]
      exact List.Perm.refl _
    · split
      · exact ih.cons _
      · exact (List.perm_append_comm).trans (ih.cons _)
theorem rowTo_all' (fr : List Nat) : rowTo fr (begins fr).length = rowR fr := by
  refine List.Perm.eq_of_pairwise (le := fun a b => ¬ b < a) (fun a b _ _ h1 h2 => ll_anti h1 h2) (rowTo_le _ _) ((rowR_pw fr).imp ll_asymm) ?_
  unfold rowTo
  rw [List.take_length]
  refine (foldl_perm (del fr) (begins fr) []).trans ?_
  rw [List.append_nil]
  exact (rowR_perm fr).symm
theorem rowTo_sorted' (fr : List Nat) (i : Nat) : Sorted ((rowTo fr i).map Tx) := by
  intro m n a b hmn ha hb
  rw [List.getElem?_map, Option.map_eq_some_iff] at ha hb
  obtain ⟨x, hx, rfl⟩ := ha
  obtain ⟨y, hy, rfl⟩ := hb
  show ¬ y < x
  obtain ⟨hm, e1⟩ := List.getElem?_eq_some_iff.mp hx
  obtain ⟨hn, e2⟩ := List.getElem?_eq_some_iff.mp hy
  rcases Nat.lt_or_eq_of_le hmn with h | h
  · have := List.pairwise_iff_getElem.mp (rowTo_le fr i) m n hm hn h
    rw [e1, e2] at this; exact this
  · subst h; rw [hx] at hy; cases hy; exact ll_irrefl _
theorem place_ins' {x : List Nat} : ∀ {row : List (List Nat)} {r : Nat}, PlaceL (row.map Tx) (Tx x) r → (row.map Tx).take r ++ Tx x :: (row.map Tx).drop r = (insL x row).map Tx
  | [], r, h => by simp [insL]
  | y :: row, r, h => by
    rw [insL]
    cases r with
    | zero =>
      have := (h.2 0 (Tx y) (by simp)).2 (Nat.le_refl _)
      rw [if_neg (show ¬ y < x from this)]; simp
    | succ r =>
      have := (h.2 0 (Tx y) (by simp)).1 (by omega)
      rw [if_pos (show y < x from this)]
      have ih := place_ins' (x := x) (row := row) (r := r) ⟨by have := h.1; simp at this ⊢; omega, fun i v hv => by
        have := h.2 (i + 1) v (by simpa using hv)
        exact ⟨fun hi => this.1 (by omega), fun hi => this.2 (by omega)⟩⟩
      simp only [List.map_cons, List.take_succ_cons, List.drop_succ_cons, List.cons_append]
      rw [ih]
theorem rowR_mem_of : ∀ {fr w : List Nat}, w.length + 1 = fr.length → w.Sublist fr → w ∈ rowR fr
  | [], w, h, _ => by simp at h
  | [a], w, h, _ => by
    have : w = [] := by cases w with | nil => rfl | cons => simp at h
    subst this; simp [rowR]
  | a :: b :: t, w, h, hs => by
    have hm : ∀ u ∈ rowR (b :: t), a :: u ∈ (rowR (b :: t)).map (a :: ·) := fun u hu => List.mem_map.mpr ⟨u, hu, rfl⟩
    rw [rowR_cons]
    cases hs with
    | cons _ hs =>
      have e := hs.eq_of_length (by simp at h ⊢; omega)
      subst e
      split
      · rename_i hab
        subst hab
        exact hm t (rowR_mem_of (by simp) (List.sublist_cons_self _ _))
      · split
        · exact List.mem_cons_self
        · exact List.mem_append.mpr (.inr (by simp))
    | cons_cons _ hs =>
      rename_i u
      have ih := hm u (rowR_mem_of (by simp at h ⊢; omega) hs)
      split
      · exact ih
      · split
        · exact List.mem_cons_of_mem _ ih
        · exact List.mem_append.mpr (.inl ih)
theorem pw_nodup {l : List (List Nat)} (h : PW l) : l.Nodup := h.imp (fun {a b} (h : a < b) (e : a = b) => ll_irrefl b (e ▸ h))
theorem pw_ext {l₁ l₂ : List (List Nat)} (h1 : PW l₁) (h2 : PW l₂) (h : ∀ x, x ∈ l₁ ↔ x ∈ l₂) : l₁ = l₂ := by
  refine List.Perm.eq_of_pairwise (le := fun a b => ¬ b < a) (fun a b _ _ h1 h2 => ll_anti h1 h2) (h1.imp ll_asymm) (h2.imp ll_asymm) ?_
  exact (List.perm_ext_iff_of_nodup (pw_nodup h1) (pw_nodup h2)).mpr h
theorem isSub_iff : ∀ {w t : List Nat}, isSub w t = true ↔ w.Sublist t
  | [], t => by simp [isSub]
  | a :: w, [] => by simp [isSub]
  | a :: w, b :: t => by
    rw [isSub]
    split
    · rename_i h; subst h
      rw [isSub_iff, List.cons_sublist_cons]
    · rename_i h
      rw [isSub_iff]
      constructor
      · exact fun h => h.cons _
      · intro hs
        cases hs with
        | cons _ h => exact h
        | cons_cons _ _ => exact absurd rfl h
theorem lt_app : ∀ {a b : List Nat} (c d : Nat), a.length = b.length → a < b → a ++ [c] < b ++ [d]
  | [], [], _, _, _, h => absurd h (ll_irrefl _)
  | [], _ :: _, _, _, h, _ => by simp at h
  | _ :: _, [], _, _, h, _ => by simp at h
  | x :: a, y :: b, c, d, hl, h => by
    rcases List.cons_lt_cons_iff.mp h with h | ⟨e, h⟩
    · exact List.cons_lt_cons_iff.mpr (.inl h)
    · exact List.cons_lt_cons_iff.mpr (.inr ⟨e, lt_app c d (by simpa using hl) h⟩)
theorem lt_last (w : List Nat) {c d : Nat} (h : c < d) : w ++ [c] < w ++ [d] := List.append_left_lt (List.cons_lt_cons_iff.mpr (.inl h))
theorem mem_grow {ws : List (List Nat)} {x : List Nat} : x ∈ grow ws ↔ ∃ w ∈ ws, ∃ c, (c = 97 ∨ c = 98 ∨ c = 99) ∧ x = w ++ [c] := by
  unfold grow
  rw [List.mem_flatMap]
  constructor
  · rintro ⟨w, hw, hx⟩
    simp only [List.mem_cons, List.not_mem_nil, or_false] at hx
    rcases hx with rfl | rfl | rfl
    · exact ⟨w, hw, 97, .inl rfl, rfl⟩
    · exact ⟨w, hw, 98, .inr (.inl rfl), rfl⟩
    · exact ⟨w, hw, 99, .inr (.inr rfl), rfl⟩
  · rintro ⟨w, hw, c, hc, rfl⟩
    refine ⟨w, hw, ?_⟩
    rcases hc with rfl | rfl | rfl <;> simp
theorem grow_pw {ws : List (List Nat)} {n : Nat} (hl : ∀ w ∈ ws, w.length = n) (h : PW ws) : PW (grow ws) := by
  unfold grow
  refine List.pairwise_flatMap.mpr ⟨?_, ?_⟩
  · intro w hw
    simp only [List.pairwise_cons, List.mem_cons, List.not_mem_nil, or_false, forall_eq_or_imp, forall_eq, false_implies, implies_true, List.Pairwise.nil, and_true]
    exact ⟨⟨lt_last w (by decide), lt_last w (by decide)⟩, lt_last w (by decide)⟩
  · refine List.Pairwise.imp_of_mem ?_ h
    intro u v hu hv huv x hx y hy
    have e : u.length = v.length := by rw [hl u hu, hl v hv]
    simp only [List.mem_cons, List.not_mem_nil, or_false] at hx hy
    rcases hx with rfl | rfl | rfl <;> rcases hy with rfl | rfl | rfl <;> exact lt_app _ _ e huv
theorem snoc_sub {w f : List Nat} {c l : Nat} (h : (w ++ [c]).Sublist (f ++ [l])) : w.Sublist f := by
  rw [← List.reverse_sublist] at h
  simp only [List.reverse_append, List.reverse_cons, List.reverse_nil, List.nil_append, List.cons_append] at h
  rw [← List.reverse_sublist]
  cases h with
  | cons _ h => exact (List.sublist_cons_self _ _).trans h
  | cons_cons _ h => exact h
theorem words_step' (fr : List Nat) (h2 : 2 ≤ fr.length) (ha : abc fr) : (grow (rowR (fr.take (fr.length - 1)))).filter (fun w => isSub w fr) = rowR fr := by
  have hl : (fr.take (fr.length - 1)).length = fr.length - 1 := by rw [List.length_take]; omega
  have hw : ∀ w ∈ rowR (fr.take (fr.length - 1)), w.length = fr.length - 2 := by
    intro w hw
    have := (rowR_mem' hw).1
    rw [hl] at this; omega
  refine pw_ext ((grow_pw hw (rowR_pw _)).filter _) (rowR_pw _) ?_
  intro x
  rw [List.mem_filter, mem_grow, isSub_iff]
  constructor
  · rintro ⟨⟨w, hw', c, hc, rfl⟩, hs⟩
    refine rowR_mem_of ?_ hs
    rw [List.length_append, hw w hw']; simp; omega
  · intro hx
    have hx' := rowR_mem' hx
    refine ⟨?_, hx'.2⟩
    have hne : x ≠ [] := by intro e; rw [e] at hx'; simp at hx'; omega
    have hfne : fr ≠ [] := by intro e; rw [e] at h2; simp at h2
    have ex := List.dropLast_concat_getLast hne
    have ef := List.dropLast_concat_getLast hfne
    refine ⟨x.dropLast, ?_, x.getLast hne, ha _ (hx'.2.subset (List.getLast_mem hne)), ex.symm⟩
    refine rowR_mem_of ?_ ?_
    · rw [hl, List.length_dropLast]; omega
    · rw [← List.dropLast_eq_take]
      refine snoc_sub (c := x.getLast hne) (l := fr.getLast hfne) ?_
      rw [ex, ef]; exact hx'.2
end
/-! Q3 -/
section
theorem lets_one (a : Nat) : lets [a] = [a] := by simp [lets, begins_one]
theorem lets_cons (a b : Nat) (t : List Nat) : lets (a :: b :: t) = if a = b then lets (b :: t) else a :: lets (b :: t) := by
  unfold lets
  rw [begins_cons, List.map_cons, List.map_map]
  have e : ((fun p => (a :: b :: t).getD p 0) ∘ fun x => x + 1) = fun p => (b :: t).getD p 0 := by
    funext p; simp
  rw [e]
  obtain ⟨r, er⟩ := begins_head b t
  split
  · rename_i hab; rw [er]; simp [hab]
  · simp
theorem lets_head (b : Nat) (t : List Nat) : (lets (b :: t)).getD 0 0 = b := by
  obtain ⟨r, er⟩ := begins_head b t
  unfold lets; rw [er]; simp
theorem lets_len (fr : List Nat) : (lets fr).length = (begins fr).length := by simp [lets]
theorem falls_cons (a : Nat) (cs : List Nat) (k : Nat) : falls (a :: cs) (k + 1) = falls cs k + if cs.getD 0 0 < a then 1 else 0 := by
  unfold falls
  rw [List.range_succ_eq_map, List.filter_cons, List.filter_map]
  have e : ((fun j => decide ((a :: cs).getD (j + 1) 0 < (a :: cs).getD j 0)) ∘ Nat.succ) = fun j => decide (cs.getD (j + 1) 0 < cs.getD j 0) := by
    funext j; simp [Function.comp]
  rw [e]
  simp only [List.getD_cons_succ, List.getD_cons_zero, Nat.zero_add, decide_eq_true_eq]
  split <;> simp
theorem place_at : ∀ (fr : List Nat) (k p : Nat), (begins fr)[k]? = some p → (rowR fr)[place (lets fr) k]? = some (del fr p)
  | [], k, p, h => by simp [begins] at h
  | [a], k, p, h => by
    rw [begins_one] at h
    have hk : k = 0 := by
      cases k with
      | zero => rfl
      | succ k => simp at h
    subst hk
    simp at h; subst h
    rw [lets_one]; simp [place, falls, rowR, del]
  | a :: b :: t, k, p, h => by
    have ih := place_at (b :: t)
    have hlen : (lets (b :: t)).length = (rowR (b :: t)).length := by rw [lets_len, rowR_length]
    have hpos : 0 < (lets (b :: t)).length := by rw [lets_len]; exact begins_pos b t
    have hh := lets_head b t
    obtain ⟨r, er⟩ := begins_head b t
    rw [begins_cons] at h
    rw [rowR_cons, lets_cons]
    by_cases hab : a = b
    · rw [if_pos hab] at h ⊢
      rw [if_pos hab]
      rw [List.getElem?_map]
      cases k with
      | zero =>
        simp at h; subst h
        rw [ih 0 0 (by rw [er]; rfl), del_zero, del_zero, hab]; rfl
      | succ k =>
        rw [List.getElem?_cons_succ, List.getElem?_map, Option.map_eq_some_iff] at h
        obtain ⟨q, hq, rfl⟩ := h
        rw [er, List.tail_cons] at hq
        rw [ih (k + 1) q (by rw [er]; exact hq), del_succ]; rfl
    · rw [if_neg hab] at h ⊢
      rw [if_neg hab]
      generalize hcs : lets (b :: t) = cs at *
      by_cases hba : b < a
      · rw [if_pos hba]
        cases k with
        | zero =>
          simp at h; subst h
          have e : place (a :: cs) 0 = 0 := by
            unfold place
            rw [if_pos (.inr (show cs.getD 0 0 < a by rw [hh]; exact hba))]; rfl
          rw [e, del_zero]; rfl
        | succ k =>
          rw [List.getElem?_cons_succ, List.getElem?_map, Option.map_eq_some_iff] at h
          obtain ⟨q, hq, rfl⟩ := h
          have hk : k < cs.length := by
            have := (List.getElem?_eq_some_iff.mp hq).1
            rw [← hcs, lets_len]; exact this
          have e : place (a :: cs) (k + 1) = place cs k + 1 := by
            have hf := falls_le cs k
            unfold place
            rw [falls_cons, hh, if_pos hba]
            simp only [List.length_cons, List.getD_cons_succ]
            by_cases hc : k + 1 = cs.length ∨ cs.getD (k + 1) 0 < cs.getD k 0
            · rw [if_pos hc, if_pos (by rcases hc with hc | hc; exact .inl (by omega); exact .inr hc)]
            · rw [if_neg hc, if_neg (by intro hc'; rcases hc' with hc' | hc'; exact hc (.inl (by omega)); exact hc (.inr hc'))]
              omega
          rw [e, List.getElem?_cons_succ, List.getElem?_map, ih k q hq, del_succ]; rfl
      · rw [if_neg hba]
        cases k with
        | zero =>
          simp at h; subst h
          have e : place (a :: cs) 0 = cs.length := by
            unfold place
            rw [if_neg (by simp only [List.length_cons, List.getD_cons_succ, List.getD_cons_zero, hh]; omega)]
            simp
          rw [e, del_zero, List.getElem?_append_right (by simp [hlen])]
          simp [hlen]
        | succ k =>
          rw [List.getElem?_cons_succ, List.getElem?_map, Option.map_eq_some_iff] at h
          obtain ⟨q, hq, rfl⟩ := h
          have e : place (a :: cs) (k + 1) = place cs k := by
            have hf := falls_le cs k
            unfold place
            rw [falls_cons, hh, if_neg hba]
            simp only [List.length_cons, List.getD_cons_succ]
            by_cases hc : k + 1 = cs.length ∨ cs.getD (k + 1) 0 < cs.getD k 0
            · rw [if_pos hc, if_pos (by rcases hc with hc | hc; exact .inl (by omega); exact .inr hc)]; rfl
            · rw [if_neg hc, if_neg (by intro hc'; rcases hc' with hc' | hc'; exact hc (.inl (by omega)); exact hc (.inr hc'))]
              omega
          have hih := ih k q hq
          have hb := (List.getElem?_eq_some_iff.mp hih).1
          rw [e, List.getElem?_append_left (by simpa using hb), List.getElem?_map, hih, del_succ]; rfl
/-- within a run every letter taken out leaves the same -/
theorem del_run (fr : List Nat) {p q : Nat} (hqp : q ≤ p) (hp : p < fr.length) (h : ∀ i, q < i → i ≤ p → isBegin fr i = false) : del fr p = del fr q := by
  induction p with
  | zero => have : q = 0 := by omega
            rw [this]
  | succ p ih =>
    rcases Nat.lt_or_eq_of_le hqp with hlt | heq
    · rw [← ih (by omega) (by omega) (fun i h1 h2 => h i h1 (by omega))]
      have hb := h (p + 1) hlt (Nat.le_refl _)
      have e : fr[p + 1] = fr[p] := by
        unfold isBegin at hb
        simp only [Bool.or_eq_false_iff, bne_eq_false_iff_eq, Nat.add_sub_cancel, List.getD_eq_getElem?_getD] at hb
        have := hb.2
        rw [List.getElem?_eq_getElem hp, List.getElem?_eq_getElem (by omega : p < fr.length)] at this
        exact this
      unfold del
      rw [List.take_add_one, List.getElem?_eq_getElem (by omega : p < fr.length), List.drop_eq_getElem_cons hp, e, List.append_assoc]
      rfl
    · rw [heq]
theorem place_is' (fr : List Nat) {p r k : Nat} (hp : p < fr.length) (hr : k ≤ (begins fr).length ∧ ∀ (i : Nat) (v : Nat), (begins fr)[i]? = some v → (i < k → v ≤ p) ∧ (k ≤ i → p < v)) (h : PlaceL ((rowR fr).map Tx) (Tx (del fr p)) r) :
    1 ≤ k ∧ k - 1 < (lets fr).length ∧ r = place (lets fr) (k - 1) := by
  have h0 : (begins fr)[0]? = some 0 := by
    cases fr with
    | nil => simp at hp
    | cons a t => obtain ⟨r, e⟩ := begins_head a t; rw [e]; rfl
  have hk : 1 ≤ k := by
    rcases Nat.eq_zero_or_pos k with hk | hk
    · have := (hr.2 0 0 h0).2 (by omega); omega
    · exact hk
  have hkl : k - 1 < (begins fr).length := by have := hr.1; omega
  refine ⟨hk, by rw [lets_len]; exact hkl, ?_⟩
  have hb : (begins fr)[k - 1]? = some (begins fr)[k - 1] := List.getElem?_eq_getElem hkl
  generalize (begins fr)[k - 1] = q at hb
  have hqp := (hr.2 _ _ hb).1 (by omega)
  have hd : del fr p = del fr q := del_run fr hqp hp (by
    intro i h1 h2
    cases hi : isBegin fr i with
    | false => rfl
    | true =>
      exfalso
      have hm : i ∈ begins fr := List.mem_filter.mpr ⟨List.mem_range.mpr (by omega), hi⟩
      obtain ⟨m, hm⟩ := List.mem_iff_getElem?.mp hm
      by_cases hmk : m < k
      · -- i stands at m ≤ k - 1, so i ≤ q
        have hl1 := (List.getElem?_eq_some_iff.mp hm)
        have hl2 := (List.getElem?_eq_some_iff.mp hb)
        rcases Nat.lt_or_eq_of_le (show m ≤ k - 1 by omega) with hlt | heq
        · have := List.pairwise_iff_getElem.mp (begins_pw fr) m (k - 1) hl1.1 hl2.1 hlt
          rw [hl1.2, hl2.2] at this; omega
        · subst heq; rw [hm] at hb; cases hb; omega
      · have := (hr.2 m i hm).2 (by omega); omega)
  have ha := place_at fr (k - 1) q hb
  rw [← hd] at ha
  generalize place (lets fr) (k - 1) = j at ha
  have ha' : ((rowR fr).map Tx)[j]? = some (Tx (del fr p)) := by rw [List.getElem?_map, ha]; rfl
  have hj := (List.getElem?_eq_some_iff.mp ha)
  rcases Nat.lt_trichotomy j r with hlt | heq | hgt
  · exact absurd ((h.2 j _ ha').1 hlt) (ll_irrefl _)
  · exact heq.symm
  · exfalso
    have hrl : r < (rowR fr).length := by have := hj.1; omega
    have h1 := (h.2 r (Tx (rowR fr)[r]) (by rw [List.getElem?_map, List.getElem?_eq_getElem hrl]; rfl)).2 (Nat.le_refl _)
    have h2 := List.pairwise_iff_getElem.mp (rowR_pw fr) r j hrl hj.1 hgt
    rw [hj.2] at h2
    exact h1 h2
end
/-! Q4 -/
section
open PySem.StrLaws (At ChainG partsFrom)
theorem tx_len (l : List Nat) : (Tx l).length = l.length := by show l.toArray.size = _; simp
theorem tx_app (a b : List Nat) : Tx a ++ Tx b = Tx (a ++ b) := by
  apply str_of_list; simp [Str.cps_append]
theorem at_iff {l y : List Nat} {hi i : Nat} : At (Tx l) (Tx y) hi i ↔ i + y.length ≤ hi ∧ (l.drop i).take y.length = y := by
  unfold At
  rw [StrLaws.subAt_eq, beq_iff_eq, tx_len]
theorem at_dot {l : List Nat} {hi i : Nat} (h : At (Tx l) (Str.ofString "...") hi i) : l[i]? = some 46 := by
  rw [dots3, at_iff] at h
  have := congrArg (·[0]?) h.2
  simpa using this
theorem at_dots (a b : List Nat) : At (Tx (a ++ [46, 46, 46] ++ b)) (Str.ofString "...") (Tx (a ++ [46, 46, 46] ++ b)).length a.length := by
  rw [dots3, at_iff, tx_len]
  simp
theorem sub_tx (a b c : List Nat) : Builtin.Str.strSub (Tx (a ++ b ++ c)) a.length (a.length + b.length) = Tx b := by
  apply str_of_list
  rw [StrLaws.strSub_toList]
  simp
theorem sub_end (a b : List Nat) : Builtin.Str.strSub (Tx (a ++ b)) a.length (Tx (a ++ b)).length = Tx b := by
  rw [tx_len, List.length_append]
  have := sub_tx a b []
  rwa [List.append_nil] at this
theorem parts_joinD : ∀ (ws : List (List Nat)) (pre : List Nat) (cuts : List Nat) (f : Nat), ws ≠ [] → noDot ws →
    ChainG (Tx (pre ++ joinD ws)) (Str.ofString "...") (Tx (pre ++ joinD ws)).length pre.length cuts f →
    (∀ k, f ≤ k → ¬ At (Tx (pre ++ joinD ws)) (Str.ofString "...") (Tx (pre ++ joinD ws)).length k) →
    partsFrom (Tx (pre ++ joinD ws)) 3 pre.length cuts = ws.map Tx
  | [], _, _, _, h, _, _, _ => absurd rfl h
  | [w], pre, cuts, f, _, hd, hc, hn => by
    have hw : 46 ∉ w := hd w (by simp)
    cases cuts with
    | nil => simp only [partsFrom, joinD, List.map_cons, List.map_nil]; rw [sub_end]
    | cons c r =>
      exfalso
      have h1 := hc.1
      have h2 := at_dot hc.2.1
      simp only [joinD] at h2
      rw [List.getElem?_append_right h1] at h2
      exact hw (List.mem_of_getElem? h2)
  | w :: v :: r, pre, cuts, f, _, hd, hc, hn => by
    have hw : 46 ∉ w := hd w (by simp)
    have ej : pre ++ joinD (w :: v :: r) = pre ++ w ++ [46, 46, 46] ++ joinD (v :: r) := by simp [joinD]
    have ha := at_dots (pre ++ w) (joinD (v :: r))
    rw [ej] at hc hn ⊢
    rw [List.length_append] at ha
    cases cuts with
    | nil => exact absurd ha (hn _ (by have : f = pre.length := hc
                                       omega))
    | cons c r' =>
      have h1 := hc.1
      have hle : c ≤ pre.length + w.length := by
        rcases Nat.lt_or_ge (pre.length + w.length) c with h | h
        · exact absurd ha (hc.2.2.1 _ (by omega) h)
        · exact h
      have he : c = pre.length + w.length := by
        rcases Nat.lt_or_eq_of_le hle with h | h
        · exfalso
          have h2 := at_dot hc.2.1
          rw [List.append_assoc, List.append_assoc, List.getElem?_append_right h1, List.getElem?_append_left (by omega)] at h2
          exact hw (List.mem_of_getElem? h2)
        · exact h
      subst he
      have hd' : noDot (v :: r) := fun u hu => hd u (List.mem_cons_of_mem _ hu)
      have e3 : (pre ++ w ++ [46, 46, 46]).length = pre.length + w.length + (Str.ofString "...").length := by
        rw [dots3, tx_len]; simp; omega
      have ih := parts_joinD (v :: r) (pre ++ w ++ [46, 46, 46]) r' f (by simp) hd' (by rw [e3]; exact hc.2.2.2) hn
      rw [e3] at ih
      rw [partsFrom, List.map_cons]
      congr 1
      rw [List.append_assoc (pre ++ w)]
      exact sub_tx pre w _
theorem joinD_len : ∀ ws : List (List Nat), 2 ≤ ws.length → ∃ a b, joinD ws = a ++ [46, 46, 46] ++ b
  | [], h => by simp at h
  | [_], h => by simp at h
  | w :: v :: r, _ => ⟨w, joinD (v :: r), rfl⟩
theorem in_joinD' {ws : List (List Nat)} (h2 : 2 ≤ ws.length) : (Builtin.Str.occurrences (Tx (joinD ws)) (Str.ofString "...") 0 (Tx (joinD ws)).length 1).isEmpty = false := by
  obtain ⟨a, b, e⟩ := joinD_len ws h2
  rw [e]
  rcases StrLaws.occ_head (Tx (a ++ [46, 46, 46] ++ b)) (Str.ofString "...") 1 (Nat.le_refl _) with ⟨_, h⟩ | ⟨i, r, e, _⟩
  · exact absurd (at_dots a b) (h _)
  · rw [e]; rfl
theorem split_joinD' {ws : List (List Nat)} (h : noDot ws) (h2 : 2 ≤ ws.length) : Txt.split (Tx (joinD ws)) (Str.ofString "...") = ws.map Tx := by
  have hne : ws ≠ [] := by intro e; rw [e] at h2; simp at h2
  unfold Txt.split
  obtain ⟨a, b, e⟩ := joinD_len ws h2
  rw [if_neg (by
    rw [dots3, tx_len]
    simp only [Bool.or_eq_true, decide_eq_true_eq, not_or]
    refine ⟨by rw [e, tx_len]; simp; omega, ?_⟩
    have : Builtin.Str.strKind (Tx [46, 46, 46]) = 1 := by decide +kernel
    rw [this]
    unfold Builtin.Str.strKind
    split
    · omega
    · split <;> omega)]
  rw [if_neg (by
    intro hE
    rcases StrLaws.occ_head (Tx (joinD ws)) (Str.ofString "...") ((Tx (joinD ws)).length + 1) (by omega) with ⟨_, h⟩ | ⟨i, r, e, _⟩
    · rw [e] at h; exact absurd (at_dots a b) (h _)
    · rw [e] at hE; cases hE)]
  rw [StrLaws.partsBetween_eq]
  obtain ⟨f, hG, hn⟩ := StrLaws.occ_tight (Tx (joinD ws)) (Str.ofString "...") (by rw [dots3, tx_len]; simp)
  have := parts_joinD ws [] _ f hne h (by simpa using hG) (by simpa using hn)
  have e3 : (Str.ofString "...").length = 3 := by rw [dots3, tx_len]; rfl
  rw [e3]
  simpa using this
theorem joinD_cons (w : List Nat) {ws : List (List Nat)} (h : ws ≠ []) : joinD (w :: ws) = w ++ [46, 46, 46] ++ joinD ws := by
  cases ws with
  | nil => exact absurd rfl h
  | cons v r => rfl
theorem joinD_snoc : ∀ {ws : List (List Nat)} (v : List Nat), ws ≠ [] → joinD (ws ++ [v]) = joinD ws ++ [46, 46, 46] ++ v
  | [], _, h => absurd rfl h
  | [w], v, _ => by simp [joinD]
  | w :: u :: r, v, _ => by
    have ih := joinD_snoc (ws := u :: r) v (by simp)
    rw [List.cons_append, joinD_cons w (by simp), ih, joinD_cons w (by simp)]
    simp only [List.append_assoc]
theorem ones_ne {w : List Nat} (h : w ≠ []) : ones w ≠ [] := by
  cases w with
  | nil => exact absurd rfl h
  | cons => simp [ones]
theorem dots_join (w : List Nat) : [46, 46, 46] ++ dotted w = joinD ([] :: (ones w ++ [[]])) := by
  rw [joinD_cons _ (by simp), List.nil_append]
  congr 1
  induction w with
  | nil => rfl
  | cons c w ih =>
    show dotted (c :: w) = joinD ([c] :: (ones w ++ [[]]))
    rw [joinD_cons _ (by simp), ← ih]
    simp [dotted]
theorem parts0_eq (w : List Nat) : parts0 w = ([] :: (ones w ++ [[]])).map Tx := by
  simp [parts0, ones]
theorem ones_noDot {w : List Nat} (h : abc w) : noDot (ones w) := by
  intro u hu hd
  obtain ⟨c, hc, rfl⟩ := List.mem_map.mp hu
  rw [List.mem_singleton] at hd
  have := h c hc; omega
theorem noDot_app {a b : List (List Nat)} (ha : noDot a) (hb : noDot b) : noDot (a ++ b) := fun u hu => by
  rcases List.mem_append.mp hu with h | h
  · exact ha u h
  · exact hb u h
theorem noDot_e : noDot [[]] := fun u hu => by rw [List.mem_singleton] at hu; subst hu; simp
theorem noDot_n : noDot [] := fun u hu => by simp at hu
theorem dots_split' {w : List Nat} (h : abc w) : Txt.split (Tx ([46, 46, 46] ++ dotted w)) (Str.ofString "...") = parts0 w := by
  rw [dots_join, parts0_eq]
  exact split_joinD' (noDot_app (a := [[]]) noDot_e (noDot_app (ones_noDot h) noDot_e)) (by simp)
theorem dots_in' (w : List Nat) : (Builtin.Str.occurrences (Tx ([46, 46, 46] ++ dotted w)) (Str.ofString "...") 0 (Tx ([46, 46, 46] ++ dotted w)).length 1).isEmpty = false := by
  rw [dots_join]; exact in_joinD' (by simp)
theorem dotted_len (w : List Nat) : (dotted w).length = 4 * w.length := by
  induction w with
  | nil => rfl
  | cons c w ih => unfold dotted at ih ⊢; rw [List.flatMap_cons, List.length_append, ih]; simp; omega
theorem dots_len' (w : List Nat) : (Tx ([46, 46, 46] ++ dotted w)).length = 3 + 4 * w.length := by
  rw [tx_len, List.length_append, dotted_len]; simp
theorem joinD_ones_len' : ∀ w : List Nat, (joinD (ones w)).length ≤ 4 * w.length
  | [] => by simp [ones, joinD]
  | [c] => by simp [ones, joinD]
  | c :: d :: w => by
    have ih := joinD_ones_len' (d :: w)
    show (joinD ([c] :: ones (d :: w))).length ≤ _
    rw [joinD_cons _ (ones_ne (by simp))]
    simp only [List.length_append, List.length_cons, List.length_nil] at ih ⊢; omega
theorem pat_eq' (ah be : Bool) {w : List Nat} (h : w ≠ []) : (if ah then Str.ofString "..." else Str.ofString "") ++ Tx (joinD (ones w)) ++ (if be then Str.ofString "..." else Str.ofString "") = Tx (joinD (pat ah be w)) := by
  have ho := ones_ne h
  rw [dots3, nosign]
  unfold pat
  cases ah <;> cases be <;> simp only [Bool.false_eq_true, if_true, if_false, tx_app, List.nil_append, List.append_nil]
  · rw [joinD_snoc _ ho]; simp
  · rw [show [[]] ++ ones w = [] :: ones w from rfl, joinD_cons _ ho]; simp
  · rw [joinD_snoc _ (by simp), show [[]] ++ ones w = [] :: ones w from rfl, joinD_cons _ ho]; simp
theorem pat_noDot' (ah be : Bool) {w : List Nat} (h : abc w) : noDot (pat ah be w) := by
  unfold pat
  refine noDot_app (noDot_app ?_ (ones_noDot h)) ?_
  · cases ah
    · exact noDot_n
    · exact noDot_e
  · cases be
    · exact noDot_n
    · exact noDot_e
theorem pat_len' (ah be : Bool) (w : List Nat) : w.length ≤ (pat ah be w).length ∧ (pat ah be w).length ≤ w.length + 2 := by
  unfold pat ones
  cases ah <;> cases be <;> simp <;> omega
theorem joinD_room : ∀ ws : List (List Nat), (joinD ws).length ≤ (ws.map (·.length)).sum + 3 * ws.length
  | [] => by simp [joinD]
  | [w] => by simp [joinD]
  | w :: v :: r => by
    have ih := joinD_room (v :: r)
    rw [joinD_cons _ (by simp)]
    simp only [List.length_append, List.length_cons, List.length_nil, List.map_cons, List.sum_cons] at ih ⊢; omega
theorem ones_sum (w : List Nat) : ((ones w).map (·.length)).sum = w.length := by
  induction w with
  | nil => rfl
  | cons c w ih => unfold ones at ih ⊢; simp only [List.map_cons, List.sum_cons, ih, List.length_cons, List.length_nil]; omega
theorem pat_room' (ah be : Bool) {w : List Nat} (h : w.length ≤ 100) : (Tx (joinD (pat ah be w))).length ≤ 1000 := by
  rw [tx_len]
  refine Nat.le_trans (joinD_room _) ?_
  have := (pat_len' ah be w).2
  have e : ((pat ah be w).map (·.length)).sum = w.length := by
    unfold pat
    rw [List.map_append, List.map_append, List.sum_append, List.sum_append, ones_sum]
    cases ah <;> cases be <;> simp
  rw [e]; omega
theorem signs_tx (w : List Nat) : signs (Tx w) = (ones w).map Tx := by simp [signs, ones]
theorem signs_room' {w : List Nat} (h : w.length ≤ 100) : ((signs (Tx w)).map (·.length)).sum + (signs (Tx w)).length * (Str.ofString "...").length ≤ 16777216 := by
  rw [signs_tx, List.map_map, show ((fun x : Str => x.length) ∘ Tx) = (fun l : List Nat => l.length) from funext tx_len, ones_sum, dots3, tx_len]
  simp only [List.length_map, ones, List.length_cons, List.length_nil]; omega
theorem join_tx : ∀ ws : List (List Nat), Str.join (Str.ofString "...") (ws.map Tx) = Tx (joinD ws)
  | [] => rfl
  | [w] => rfl
  | w :: v :: r => by
    have ih := join_tx (v :: r)
    show Tx w ++ Str.ofString "..." ++ Str.join (Str.ofString "...") ((v :: r).map Tx) = _
    rw [ih, dots3, tx_app, tx_app]; rfl
theorem join_ones' (w : List Nat) : Txt.join (Str.ofString "...") (signs (Tx w)) = Tx (joinD (ones w)) := by
  show Builtin.Str.glued _ _ = _
  rw [StrLaws.glued_eq_join, signs_tx, join_tx]
theorem over_eq' (g : List Nat) (p : Nat) : Str.ofString "..." ++ Tx (g.take (p + 1)) ++ Str.ofString "..." ++ Tx (g.drop p) ++ Str.ofString "..." = Tx (joinD (over g p)) := by
  rw [dots3]
  simp only [tx_app, over, joinD]
  simp
theorem over_noDot' {g : List Nat} (h : abc g) (p : Nat) : noDot (over g p) := by
  intro u hu hd
  unfold over at hu
  simp only [List.mem_cons, List.not_mem_nil, or_false] at hu
  rcases hu with rfl | rfl | rfl | rfl
  · simp at hd
  · have := h _ (List.mem_of_mem_take hd); omega
  · have := h _ (List.mem_of_mem_drop hd); omega
  · simp at hd
theorem over_room' {g : List Nat} (h : g.length ≤ 100) (p : Nat) : (Tx (joinD (over g p))).length ≤ 1000 := by
  rw [tx_len]
  refine Nat.le_trans (joinD_room _) ?_
  simp only [over, List.map_cons, List.map_nil, List.sum_cons, List.sum_nil, List.length_cons, List.length_nil, List.length_take, List.length_drop]
  omega
end
/-! Q5 -/
section
open PySem.StrLaws (At ChainG partsFrom)
theorem occ1 (x y : Str) (lo hi : Nat) :
    (Builtin.Str.occurrences x y lo hi 1 = [] ∧ ∀ i, lo ≤ i → ¬ At x y hi i) ∨ ∃ i r, Builtin.Str.occurrences x y lo hi 1 = i :: r ∧ lo ≤ i ∧ At x y hi i ∧ ∀ k, lo ≤ k → k < i → ¬ At x y hi k := by
  rw [StrLaws.occ_eq]
  rcases StrLaws.occ_first x y hi 1 (Nat.le_refl _) (List.range' lo (hi + 1 - lo)) lo (fun i h => by simp [List.mem_range'] at h; omega) with ⟨h0, hn⟩ | ⟨pre, a, post, e, h0, ha, hn⟩
  · refine .inl ⟨by rw [h0], fun i hl hi' => hn i ?_ hi'⟩
    have := hi'.1
    rw [List.mem_range'_1]; omega
  · have hma : a ∈ List.range' lo (hi + 1 - lo) := by rw [e]; simp
    rw [List.mem_range'_1] at hma
    refine .inr ⟨a, ((forIn (List.range' lo (hi + 1 - lo)) ((#[] : Array Nat), lo) (StrLaws.occBody x y hi 1)).run.fst.toList).tail, ?_, hma.1, ha, fun k hl hk => hn k ?_⟩
    · generalize (forIn (List.range' lo (hi + 1 - lo)) ((#[] : Array Nat), lo) (StrLaws.occBody x y hi 1)).run.fst = arr at h0
      have h1 : arr.toList[0]? = some a := by simpa using h0
      cases hL : arr.toList with
      | nil => rw [hL] at h1; cases h1
      | cons b t => rw [hL] at h1; simp at h1; rw [h1]; rfl
    · have hmk : k ∈ List.range' lo (hi + 1 - lo) := by rw [List.mem_range'_1]; omega
      have hp : (List.range' lo (hi + 1 - lo)).Pairwise (· < ·) := List.pairwise_lt_range'
      rw [e] at hmk hp
      rcases List.mem_append.mp hmk with h | h
      · exact h
      · exfalso
        rcases List.mem_cons.mp h with h | h
        · omega
        · have := (List.pairwise_cons.mp (List.pairwise_append.mp hp).2.1).1 k h
          omega
theorem isSub_no {a : Nat} {w : List Nat} : ∀ {l : List Nat}, (∀ k : Nat, l[k]? ≠ some a) → isSub (a :: w) l = false
  | [], _ => rfl
  | b :: t, h => by
    rw [isSub, if_neg (by intro e; exact h 0 (by simp [e]))]
    exact isSub_no fun k hk => h (k + 1) (by simpa using hk)
theorem isSub_at {a : Nat} {w : List Nat} : ∀ {l : List Nat} {i : Nat}, l[i]? = some a → (∀ k, k < i → l[k]? ≠ some a) → isSub (a :: w) l = isSub w (l.drop (i + 1))
  | [], _, h, _ => by simp at h
  | b :: t, 0, h, _ => by
    simp at h; subst h
    rw [isSub, if_pos rfl]; rfl
  | b :: t, i + 1, h, hn => by
    rw [isSub, if_neg (by intro e; exact hn 0 (by omega) (by simp [e]))]
    rw [isSub_at (l := t) (i := i) (by simpa using h) (fun k hk hk' => hn (k + 1) (by omega) (by simpa using hk'))]
    rfl
theorem at_one {g : List Nat} {a en i : Nat} (hen : en ≤ g.length) : At (Tx g) (Tx [a]) en i ↔ (g.take en)[i]? = some a := by
  rw [at_iff]
  simp only [List.length_cons, List.length_nil, Nat.zero_add]
  constructor
  · rintro ⟨h1, h2⟩
    have := congrArg (·[0]?) h2
    rw [List.getElem?_take_of_lt (by omega)]
    simpa using this
  · intro h
    have hi : i < (g.take en).length := (List.getElem?_eq_some_iff.mp h).1
    rw [List.length_take] at hi
    rw [List.getElem?_take_of_lt (by omega)] at h
    refine ⟨by omega, ?_⟩
    have hl : i < g.length := by omega
    rw [List.drop_eq_getElem_cons hl, List.take_succ_cons]
    rw [List.getElem?_eq_getElem hl] at h
    cases h; rfl
theorem efind_e {g : List Nat} {en st : Nat} {r : List Str} (h : st ≤ en) : efind (Tx g) en (Tx [] :: r) st = efind (Tx g) en r st := by
  have h0 : At (Tx g) (Tx []) en st := by rw [at_iff]; simp [h]
  rw [efind]
  rcases occ1 (Tx g) (Tx []) st en with ⟨_, hn⟩ | ⟨i, r', e, hl, _, hn⟩
  · exact absurd h0 (hn st (Nat.le_refl _))
  · rw [e]
    have : i = st := by
      rcases Nat.lt_or_eq_of_le hl with h | h
      · exact absurd h0 (hn st (Nat.le_refl _) h)
      · exact h.symm
    subst this; rfl
theorem efind_letters {g : List Nat} {en : Nat} (hen : en ≤ g.length) {tail : List Str} (ht : ∀ st, st ≤ en → efind (Tx g) en tail st = true) :
    ∀ (w : List Nat) (st : Nat), st ≤ en → efind (Tx g) en (w.map (fun c => Tx [c]) ++ tail) st = isSub w ((g.take en).drop st)
  | [], st, h => by rw [isSub]; exact ht st h
  | a :: w, st, h => by
    rw [List.map_cons, List.cons_append, efind]
    rcases occ1 (Tx g) (Tx [a]) st en with ⟨e, hn⟩ | ⟨i, r', e, hl, hi, hn⟩
    · rw [e]
      exact (isSub_no fun k hk => hn (st + k) (by omega) ((at_one hen).mpr (by rw [List.getElem?_drop] at hk; exact hk))).symm
    · rw [e]
      have hi' := hi.1
      rw [tx_len] at hi'
      simp only [List.length_cons, List.length_nil, Nat.zero_add] at hi'
      show efind (Tx g) en (w.map (fun c => Tx [c]) ++ tail) (i + (Tx [a]).length) = _
      rw [efind_letters hen ht w (i + (Tx [a]).length) (by rw [tx_len]; simpa using hi'), tx_len]
      rw [isSub_at (i := i - st) (by rw [List.getElem?_drop, show st + (i - st) = i by omega]; exact (at_one hen).mp hi) (fun k hk hk' => hn (st + k) (by omega) (by omega) ((at_one hen).mpr (by rw [List.getElem?_drop] at hk'; exact hk'))),
        List.drop_drop]
      congr 2
      simp only [List.length_cons, List.length_nil]; omega
theorem tail_n {g : List Nat} {en : Nat} : ∀ st, st ≤ en → efind (Tx g) en [] st = true := fun _ _ => rfl
theorem tail_e {g : List Nat} {en : Nat} : ∀ st, st ≤ en → efind (Tx g) en [Tx []] st = true := fun st h => by rw [efind_e h]; rfl
theorem ematch_parts0' {w g : List Nat} : ematch (parts0 w) (Tx g) = isSub w g := by
  unfold ematch
  have e0 : (parts0 w).getD 0 Str.empty = Tx [] := rfl
  rw [e0]
  simp only [tx_len, List.length_nil, if_true]
  unfold ematch2
  have e1 : (parts0 w).getD ((parts0 w).length - 1) Str.empty = Tx [] := by simp [parts0]
  rw [e1]
  simp only [tx_len, List.length_nil, if_true]
  unfold ematch3
  rw [if_neg (by omega)]
  unfold parts0
  rw [List.cons_append, efind_e (Nat.zero_le _), efind_letters (Nat.le_refl _) tail_e w 0 (Nat.zero_le _)]
  simp
theorem starts_tx {a : Nat} {g : List Nat} : Txt.startswith (Tx g) (Tx [a]) = (decide (g[0]? = some a)) := by
  unfold Txt.startswith
  rw [StrLaws.subAt_eq, tx_len, tx_len]
  cases g with
  | nil => simp
  | cons b t => rw [Bool.eq_iff_iff]; simp
theorem ends_tx {a : Nat} {g : List Nat} : Txt.endswith (Tx g) (Tx [a]) = (decide (g ≠ [] ∧ g[g.length - 1]? = some a)) := by
  unfold Txt.endswith
  rw [StrLaws.subAt_eq, tx_len, tx_len]
  simp only [List.length_cons, List.length_nil, Nat.zero_add]
  by_cases h : g = []
  · subst h; simp
  · have hl : 0 < g.length := List.length_pos_iff.mpr h
    rw [List.drop_eq_getElem_cons (show g.length - 1 < g.length by omega), List.getElem?_eq_getElem (show g.length - 1 < g.length by omega)]
    simp only [List.take_succ_cons, List.take_zero, Option.some.injEq, h, ne_eq, not_false_eq_true, true_and]
    rw [decide_eq_true (by omega : 1 ≤ g.length), Bool.true_and, Bool.eq_iff_iff]
    simp
abbrev LT1 (w : List Nat) : List Str := w.map fun c => Tx [c]
/-- the rest of the match, the dots behind -/
theorem ematch2_be (us : List Str) {w g : List Nat} {st : Nat} (h : st ≤ g.length) (hu : us = [] ∨ us = [Tx []]) :
    ematch2 (us ++ LT1 w ++ [Tx []]) (Tx g) st = isSub w (g.drop st) := by
  unfold ematch2
  have e1 : (us ++ LT1 w ++ [Tx []]).getD ((us ++ LT1 w ++ [Tx []]).length - 1) Str.empty = Tx [] := by simp
  rw [e1]
  simp only [tx_len, List.length_nil, if_true]
  unfold ematch3
  rw [if_neg (by omega)]
  have key : efind (Tx g) g.length (LT1 w ++ [Tx []]) st = isSub w (g.drop st) := by
    rw [efind_letters (Nat.le_refl _) tail_e w st h]; simp
  rcases hu with rfl | rfl
  · exact key
  · rw [List.append_assoc, List.cons_append, List.nil_append, efind_e h]; exact key
/-- the rest of the match, a letter at the end -/
theorem ematch2_ne (us : List Str) {w g : List Nat} {c st : Nat} (hu : us = [] ∨ us = [Tx []]) :
    ematch2 (us ++ LT1 (w ++ [c])) (Tx g) st = (decide (g ≠ [] ∧ g[g.length - 1]? = some c) && (decide (st ≤ g.length - 1) && isSub w ((g.take (g.length - 1)).drop st))) := by
  unfold ematch2
  have e0 : us ++ LT1 (w ++ [c]) = us ++ LT1 w ++ [Tx [c]] := by simp [LT1]
  rw [e0]
  have e1 : (us ++ LT1 w ++ [Tx [c]]).getD ((us ++ LT1 w ++ [Tx [c]]).length - 1) Str.empty = Tx [c] := by simp
  rw [e1]
  simp only [tx_len, List.length_cons, List.length_nil, Nat.zero_add, Nat.one_ne_zero, if_false, List.dropLast_concat]
  rw [ends_tx]
  by_cases hE : g ≠ [] ∧ g[g.length - 1]? = some c
  · rw [decide_eq_true hE, if_pos rfl, Bool.true_and]
    unfold ematch3
    by_cases hs : st ≤ g.length - 1
    · rw [if_neg (by omega), decide_eq_true hs, Bool.true_and]
      have key : efind (Tx g) (g.length - 1) (LT1 w) st = isSub w ((g.take (g.length - 1)).drop st) := by
        have := efind_letters (g := g) (en := g.length - 1) (by omega) tail_n w st hs
        rwa [List.append_nil] at this
      rcases hu with rfl | rfl
      · exact key
      · rw [List.cons_append, List.nil_append, efind_e hs]; exact key
    · rw [if_pos (by omega), decide_eq_false hs, Bool.false_and]
  · rw [decide_eq_false hE, if_neg (by decide), Bool.false_and]
theorem ematch_ah (us : List Str) (got : Str) : ematch (Tx [] :: us) got = ematch2 (Tx [] :: us) got 0 := by
  unfold ematch
  simp only [List.getD_cons_zero, tx_len, List.length_nil, if_true]
theorem ematch_let (c : Nat) (us : List Str) (g : List Nat) : ematch (Tx [c] :: us) (Tx g) = (decide (g[0]? = some c) && ematch2 us (Tx g) 1) := by
  unfold ematch
  simp only [List.getD_cons_zero, tx_len, List.length_cons, List.length_nil, Nat.zero_add, Nat.one_ne_zero, if_false, starts_tx, List.tail_cons, decide_eq_true_eq]
  split
  · rename_i h; rw [decide_eq_true h, Bool.true_and]
  · rename_i h; rw [decide_eq_false h, Bool.false_and]
theorem pat_map (ah be : Bool) (w : List Nat) : (pat ah be w).map Tx = (if ah then [Tx []] else []) ++ LT1 w ++ (if be then [Tx []] else []) := by
  unfold pat ones
  cases ah <;> cases be <;> simp
theorem two_ends {w : List Nat} (h : 2 ≤ w.length) : ∃ a m z, w = a :: (m ++ [z]) := by
  cases w with
  | nil => simp at h
  | cons a t =>
    have ht : t ≠ [] := by intro e; rw [e] at h; simp at h
    exact ⟨a, t.dropLast, t.getLast ht, by rw [List.dropLast_concat_getLast ht]⟩
theorem sub_tail {a : Nat} {w g : List Nat} (h : (a :: w).Sublist g) : w.Sublist (g.drop 1) := by
  cases g with
  | nil => cases h
  | cons b t =>
    cases h with
    | cons _ h => exact (List.sublist_cons_self _ _).trans h
    | cons_cons _ h => exact h
theorem sub_last {c : Nat} {w g : List Nat} (h : (w ++ [c]).Sublist g) : w.Sublist (g.take (g.length - 1)) := by
  have hg : g ≠ [] := by
    intro e; rw [e] at h
    have := h.length_le
    simp at this
  rw [← List.dropLast_eq_take]
  refine snoc_sub (c := c) (l := g.getLast hg) ?_
  rw [List.dropLast_concat_getLast hg]; exact h
theorem ematch_pat' (ah be : Bool) {w g : List Nat} (h2 : 2 ≤ w.length) (hs : w.Sublist g) : ematch ((pat ah be w).map Tx) (Tx g) = ((ah || w.getD 0 0 == g.getD 0 0) && (be || w.getD (w.length - 1) 0 == g.getD (g.length - 1) 0)) := by
  have hl := hs.length_le
  obtain ⟨a, m, z, rfl⟩ := two_ends h2
  have hg : g ≠ [] := by intro e; rw [e] at hl; simp at hl
  have hgl : 2 ≤ g.length := by omega
  have hA : decide (g[0]? = some a) = ((a :: (m ++ [z])).getD 0 0 == g.getD 0 0) := by
    rw [Bool.eq_iff_iff, List.getElem?_eq_getElem (show 0 < g.length by omega), List.getD_eq_getElem?_getD (l := g), List.getElem?_eq_getElem (show 0 < g.length by omega)]
    simp only [List.getD_cons_zero, Option.getD_some, decide_eq_true_eq, Option.some.injEq, beq_iff_eq]
    exact ⟨fun h => h.symm, fun h => h.symm⟩
  have hZ : decide (g ≠ [] ∧ g[g.length - 1]? = some z) = ((a :: (m ++ [z])).getD ((a :: (m ++ [z])).length - 1) 0 == g.getD (g.length - 1) 0) := by
    have ez : (a :: (m ++ [z])).getD ((a :: (m ++ [z])).length - 1) 0 = z := by
      rw [show a :: (m ++ [z]) = (a :: m) ++ [z] from rfl]; simp
    rw [ez, Bool.eq_iff_iff, List.getElem?_eq_getElem (show g.length - 1 < g.length by omega), List.getD_eq_getElem?_getD, List.getElem?_eq_getElem (show g.length - 1 < g.length by omega)]
    simp only [Option.getD_some, decide_eq_true_eq, Option.some.injEq, beq_iff_eq]
    exact ⟨fun h => h.2.symm, fun h => ⟨hg, h.symm⟩⟩
  rw [pat_map, ← hA, ← hZ]
  have hcons : LT1 (a :: (m ++ [z])) = Tx [a] :: LT1 (m ++ [z]) := rfl
  cases ah <;> cases be <;> simp only [Bool.false_eq_true, if_true, if_false, List.append_nil, List.nil_append, Bool.true_or, Bool.false_or, Bool.true_and, Bool.and_true]
  · rw [hcons, ematch_let]
    have := ematch2_ne [] (w := m) (g := g) (c := z) (st := 1) (.inl rfl)
    rw [List.nil_append] at this
    rw [this, decide_eq_true (show 1 ≤ g.length - 1 by omega), Bool.true_and]
    have : isSub m ((g.take (g.length - 1)).drop 1) = true := isSub_iff.mpr (sub_tail (sub_last (w := a :: m) hs))
    rw [this, Bool.and_true]
  · rw [hcons, List.cons_append, ematch_let]
    have := ematch2_be [] (w := m ++ [z]) (g := g) (st := 1) (by omega) (.inl rfl)
    rw [List.nil_append] at this
    rw [this, isSub_iff.mpr (sub_tail hs), Bool.and_true]
  · rw [List.cons_append, List.nil_append, ematch_ah]
    have := ematch2_ne [Tx []] (w := a :: m) (g := g) (c := z) (st := 0) (.inr rfl)
    rw [List.cons_append, List.nil_append] at this
    rw [show a :: (m ++ [z]) = (a :: m) ++ [z] from rfl, this, decide_eq_true (Nat.zero_le _), Bool.true_and, List.drop_zero, isSub_iff.mpr (sub_last (w := a :: m) hs), Bool.and_true]
  · rw [List.cons_append, List.nil_append, List.cons_append, ematch_ah]
    have := ematch2_be [Tx []] (w := a :: (m ++ [z])) (g := g) (st := 0) (by omega) (.inr rfl)
    rw [List.cons_append, List.nil_append, List.cons_append] at this
    rw [this, List.drop_zero, isSub_iff.mpr hs]
theorem ematch_more' {g : List Nat} (h2 : 2 ≤ g.length) : ematch ((pat false false (g ++ [g.getD (g.length - 1) 0])).map Tx) (Tx g) = false := by
  rw [pat_map]
  simp only [Bool.false_eq_true, if_false, List.append_nil, List.nil_append]
  generalize g.getD (g.length - 1) 0 = z
  obtain ⟨a, m, y, rfl⟩ := two_ends h2
  show ematch (Tx [a] :: LT1 ((m ++ [y]) ++ [z])) _ = false
  rw [ematch_let]
  have := ematch2_ne [] (w := m ++ [y]) (g := a :: (m ++ [y])) (c := z) (st := 1) (.inl rfl)
  rw [List.nil_append] at this
  rw [this]
  have : isSub (m ++ [y]) (((a :: (m ++ [y])).take ((a :: (m ++ [y])).length - 1)).drop 1) = false := by
    cases h : isSub (m ++ [y]) (((a :: (m ++ [y])).take ((a :: (m ++ [y])).length - 1)).drop 1) with
    | false => rfl
    | true =>
      exfalso
      have := (isSub_iff.mp h).length_le
      simp at this; omega
  rw [this]; simp
theorem ematch_over' {g : List Nat} {p : Nat} (h : p + 1 < g.length) : ematch ((over g p).map Tx) (Tx g) = false := by
  show ematch [Tx [], Tx (g.take (p + 1)), Tx (g.drop p), Tx []] (Tx g) = false
  rw [ematch_ah]
  unfold ematch2
  simp only [List.length_cons, List.length_nil, Nat.zero_add, Nat.reduceAdd, Nat.add_one_sub_one, List.getD_cons_succ, List.getD_cons_zero, tx_len, if_true]
  unfold ematch3
  rw [if_neg (by omega), efind_e (Nat.zero_le _), efind]
  rcases occ1 (Tx g) (Tx (g.take (p + 1))) 0 g.length with ⟨e, hn⟩ | ⟨i, r', e, hl, hi, hn⟩
  · rw [e]
  · rw [e]
    show efind _ _ (Tx (g.drop p) :: _) (i + (Tx (g.take (p + 1))).length) = false
    rw [efind]
    rcases occ1 (Tx g) (Tx (g.drop p)) (i + (Tx (g.take (p + 1))).length) g.length with ⟨e, hn⟩ | ⟨j, r', e, hl, hj, hn⟩
    · rw [e]
    · exfalso
      have h1 := hj.1
      rw [tx_len] at hl h1
      rw [List.length_take] at hl
      rw [List.length_drop] at h1
      omega
end
/-! P3 -/
section
theorem words_step (fr : List Nat) (h2 : 2 ≤ fr.length) (ha : abc fr) : (grow (rowR (fr.take (fr.length - 1)))).filter (fun w => isSub w fr) = rowR fr := words_step' fr h2 ha
theorem rowTo_all (fr : List Nat) : rowTo fr (begins fr).length = rowR fr := rowTo_all' fr
theorem rowTo_sorted (fr : List Nat) (i : Nat) : Sorted ((rowTo fr i).map Tx) := rowTo_sorted' fr i
theorem rowTo_succ (fr : List Nat) {i p : Nat} (h : (begins fr)[i]? = some p) : rowTo fr (i + 1) = insL (del fr p) (rowTo fr i) := rowTo_succ' fr h
theorem rowTo_len (fr : List Nat) (i : Nat) : (rowTo fr i).length ≤ i := rowTo_len' fr i
theorem place_ins {row : List (List Nat)} {x : List Nat} {r : Nat} (h : PlaceL (row.map Tx) (Tx x) r) : (row.map Tx).take r ++ Tx x :: (row.map Tx).drop r = (insL x row).map Tx := place_ins' h
theorem place_is (fr : List Nat) {p r k : Nat} (hp : p < fr.length) (hr : k ≤ (begins fr).length ∧ ∀ (i : Nat) (v : Nat), (begins fr)[i]? = some v → (i < k → v ≤ p) ∧ (k ≤ i → p < v)) (h : PlaceL ((rowR fr).map Tx) (Tx (del fr p)) r) :
    1 ≤ k ∧ k - 1 < (lets fr).length ∧ r = place (lets fr) (k - 1) := place_is' fr hp hr h
theorem rowR_mem {fr w : List Nat} (h : w ∈ rowR fr) : w.length + 1 = fr.length ∧ w.Sublist fr := rowR_mem' h
theorem slice_to (l : List Nat) {j : Nat} (h : j ≤ l.length) : Txt.slice (Tx l) none (some (j : Int)) = Tx (l.take j) := by
  have := StrLaws.sliceText_to (x := Tx l) (j := (j : Int)) (by simp; omega)
  refine Eq.trans ?_ (this.trans ?_)
  · rfl
  · simp
theorem slice_from (l : List Nat) {j : Nat} (h : j ≤ l.length) : Txt.slice (Tx l) (some (j : Int)) none = Tx (l.drop j) := by
  have := StrLaws.sliceText_from (x := Tx l) (i := (j : Int)) (by simp; omega)
  refine Eq.trans ?_ (this.trans ?_)
  · rfl
  · simp only [Int.toNat_natCast, List.toList_toArray]
    rw [List.take_of_length_le (by rw [List.length_drop]; omega)]
theorem abc_at {j c : Nat} (h : (Str.ofString "abc").cps[j]? = some c) : c = 97 + j := by
  have e : Str.ofString "abc" = Tx [97, 98, 99] := by decide +kernel
  rw [e] at h
  match j, h with
  | 0, h => cases h; rfl
  | 1, h => cases h; rfl
  | 2, h => cases h; rfl
  | j + 3, h => simp at h
theorem item_at {l : List Nat} {p : Nat} (h : p < l.length) : Txt.item (Tx l) (p : Int) = Tx [l.getD p 0] := by
  unfold Txt.item Txt.charAt
  rw [StrLaws.seqIndex_nonneg (by omega) (by show (p : Int) < ((l.toArray.size : Nat) : Int); rw [List.size_toArray]; omega)]
  simp [List.getD_eq_getElem?_getD, List.getElem?_eq_getElem h]
theorem item_last {l : List Nat} (h : 0 < l.length) : Txt.item (Tx l) (-1) = Tx [l.getD (l.length - 1) 0] := by
  unfold Txt.item Txt.charAt
  have hl : (Tx l).length = l.length := by show l.toArray.size = _; simp
  rw [StrLaws.seqIndex_neg (by omega) (by rw [hl]; omega), hl, show (-1 + (l.length : Int)).toNat = l.length - 1 by omega]
  simp [List.getD_eq_getElem?_getD, List.getElem?_eq_getElem (show l.length - 1 < l.length by omega)]
theorem tx1_beq (a b : Nat) : (Tx [a] == Tx [b]) = (a == b) := by
  rw [Bool.eq_iff_iff, beq_iff_eq, beq_iff_eq]
  exact ⟨fun h => by simpa using congrArg (fun z : Str => z.cps.toList) h, fun h => by rw [h]⟩
theorem begins_lt {fr : List Nat} {p : Nat} (h : p ∈ begins fr) : p < fr.length := List.mem_range.mp (List.mem_filter.mp h).1
theorem lets_rows (fr : List Nat) : (List.range (begins fr).length).map (fun i => Tx [fr.getD ((begins fr).getD i 0) 0]) = (lets fr).map fun c => Tx [c] := by
  apply List.ext_getElem
  · simp [lets]
  · intro i h1 h2
    simp only [lets, List.getElem_map, List.getElem_range]
    have h3 : i < (begins fr).length := by simpa using h1
    have e : (begins fr).getD i 0 = (begins fr)[i] := by rw [List.getD_eq_getElem?_getD, List.getElem?_eq_getElem h3]; rfl
    rw [e]
theorem begins_mono (fr : List Nat) : ∀ (i j : Nat) (a b : Int), i ≤ j → ((begins fr).map fun j : Nat => (j : Int))[i]? = some a → ((begins fr).map fun j : Nat => (j : Int))[j]? = some b → a ≤ b := begins_mono' fr
theorem strOk_tx {w : List Nat} (h : abc w) : PyData.strOk (Tx w) = true := by
  unfold PyData.strOk
  rw [Array.all_eq_true']
  intro c hc
  have := h c (by simpa using hc)
  simp only [decide_eq_true_eq]; omega
theorem rowR_sorted (fr : List Nat) : Sorted ((rowR fr).map Tx) := by rw [← rowTo_all]; exact rowTo_sorted _ _
theorem news_dup {h₀ h : Heap} {L : Addr} {q : Addr × Obj} {l : List (Addr × Obj)} (N : News h₀ L h l) (hm : q ∈ l) : News h₀ L h (q :: l) := fun p hp => by
  rcases List.mem_cons.mp hp with rfl | hp
  · exact N _ hm
  · exact N _ hp
theorem rowR_len_le (fr : List Nat) : (rowR fr).length ≤ fr.length := rowR_len_le' fr
theorem grown_rows (ws : List (List Nat)) : rows2 (fun i j => Tx (ws.getD i [] ++ [97 + j])) 3 ws.length = (grow ws).map Tx := grown_rows' ws
theorem joinD_ones_len (w : List Nat) : (joinD (ones w)).length ≤ 4 * w.length := joinD_ones_len' w
theorem pat_eq (ah be : Bool) {w : List Nat} (h : w ≠ []) : (if ah then Str.ofString "..." else Str.ofString "") ++ Tx (joinD (ones w)) ++ (if be then Str.ofString "..." else Str.ofString "") = Tx (joinD (pat ah be w)) := pat_eq' ah be h
theorem pat_noDot (ah be : Bool) {w : List Nat} (h : abc w) : noDot (pat ah be w) := pat_noDot' ah be h
theorem pat_len (ah be : Bool) (w : List Nat) : w.length ≤ (pat ah be w).length ∧ (pat ah be w).length ≤ w.length + 2 := pat_len' ah be w
theorem ematch_pat (ah be : Bool) {w g : List Nat} (h2 : 2 ≤ w.length) (hs : w.Sublist g) : ematch ((pat ah be w).map Tx) (Tx g) = ((ah || w.getD 0 0 == g.getD 0 0) && (be || w.getD (w.length - 1) 0 == g.getD (g.length - 1) 0)) := ematch_pat' ah be h2 hs
theorem signs_room {w : List Nat} (h : w.length ≤ 100) : ((signs (Tx w)).map (·.length)).sum + (signs (Tx w)).length * (Str.ofString "...").length ≤ 16777216 := signs_room' h
theorem pat_room (ah be : Bool) {w : List Nat} (h : w.length ≤ 100) : (Tx (joinD (pat ah be w))).length ≤ 1000 := pat_room' ah be h
theorem ones_pat (w : List Nat) : joinD (ones w) = joinD (pat false false w) := by simp [pat]
theorem ematch_more {g : List Nat} (h2 : 2 ≤ g.length) : ematch ((pat false false (g ++ [g.getD (g.length - 1) 0])).map Tx) (Tx g) = false := ematch_more' h2
theorem over_eq (g : List Nat) (p : Nat) : Str.ofString "..." ++ Tx (g.take (p + 1)) ++ Str.ofString "..." ++ Tx (g.drop p) ++ Str.ofString "..." = Tx (joinD (over g p)) := over_eq' g p
theorem over_noDot {g : List Nat} (h : abc g) (p : Nat) : noDot (over g p) := over_noDot' h p
theorem over_room {g : List Nat} (h : g.length ≤ 100) (p : Nat) : (Tx (joinD (over g p))).length ≤ 1000 := over_room' h p
theorem ematch_over {g : List Nat} {p : Nat} (h : p + 1 < g.length) : ematch ((over g p).map Tx) (Tx g) = false := ematch_over' h
theorem join_ones (w : List Nat) : Txt.join (Str.ofString "...") (signs (Tx w)) = Tx (joinD (ones w)) := join_ones' w
theorem split_joinD {ws : List (List Nat)} (h : noDot ws) (h2 : 2 ≤ ws.length) : Txt.split (Tx (joinD ws)) (Str.ofString "...") = ws.map Tx := split_joinD' h h2
theorem in_joinD {ws : List (List Nat)} (h2 : 2 ≤ ws.length) : (Builtin.Str.occurrences (Tx (joinD ws)) (Str.ofString "...") 0 (Tx (joinD ws)).length 1).isEmpty = false := in_joinD' h2
theorem dots_split {w : List Nat} (h : abc w) : Txt.split (Tx ([46, 46, 46] ++ dotted w)) (Str.ofString "...") = parts0 w := dots_split' h
theorem dots_in (w : List Nat) : (Builtin.Str.occurrences (Tx ([46, 46, 46] ++ dotted w)) (Str.ofString "...") 0 (Tx ([46, 46, 46] ++ dotted w)).length 1).isEmpty = false := dots_in' w
theorem dots_len (w : List Nat) : (Tx ([46, 46, 46] ++ dotted w)).length = 3 + 4 * w.length := dots_len' w
theorem ematch_parts0 {w g : List Nat} (hw : abc w) : ematch (parts0 w) (Tx g) = isSub w g := ematch_parts0'
theorem parts0_len (w : List Nat) : (parts0 w).length = w.length + 2 := by simp [parts0]
theorem grow_mem {prev : List (List Nat)} {k : Nat} (h : ∀ w ∈ prev, w.length ≤ k ∧ abc w) : ∀ w ∈ grow prev, w.length ≤ k + 1 ∧ abc w := grow_mem' h
theorem grow_len (prev : List (List Nat)) : (grow prev).length = 3 * prev.length := grow_len' prev
theorem rowR_abc {fr : List Nat} (h : abc fr) : ∀ w ∈ rowR fr, abc w := fun w hw c hc => h c ((rowR_mem hw).2.subset hc)
theorem filter_range {α : Type} (d : α) (p : α → Bool) (f : α → Str) (l : List α) : ((List.range l.length).filter fun i => p (l.getD i d)).map (fun i => f (l.getD i d)) = (l.filter p).map f := filter_range' d p f l
end
/-! L2 -/
section
set_option maxHeartbeats 8000000
local macro_rules | `(tactic| walk_at "m_halt") => `(tactic| (
  (fail_if_success (with_reducible show wpAny _ _ (exec (PySem.Stmt.While _ _ _ _) _) _ _ _));
  (fail_if_success (with_reducible show wpAny _ _ (exec (PySem.Stmt.For _ _ _ _ _) _) _ _ _));
  (fail_if_success (with_reducible show wpAny _ _ (eval (PySem.Expr.ListComp _ _ _ _) _) _ _ _));
  (fail_if_success (with_reducible show wpAny _ _ (exec (PySem.Stmt.Assign _ (PySem.Expr.ListComp _ _ _ _) _) _) _ _ _));
  (fail_if_success (with_reducible show wpAny _ _ (pyIter (Value.ref _)) _ _ _));
  (fail_if_success (with_reducible show wpAny _ _ (compareOp _ (Value.ref _) (Value.ref _)) _ _ _));
  (fail_if_success (with_reducible show LCt.CompSrcT _ _ _ _ _ _ _ _ _ _ _ _ _ _ _));
  (fail_if_success (with_reducible show LCg.CompSrc _ _ _ _ _ _ _ _ _ _ _ _ _ _));
  (fail_if_success (with_reducible show wpAny _ _ (call (Value.ref _) _ _) _ _ _))))
def turnOf : List Stmt → List Stmt
  | _ :: .For _ _ b _ _ :: _ => b
  | _ => []
noncomputable def turnBody : List Stmt := turnOf lawRest
theorem law_turn {w : World} {mean : ExcName → Option Value} {mg mb : Str → Option Value} (txt : List Nat) (h7 : txt.length ≤ 7) (habc : abc txt) (sz : Nat) (hs2 : 2 ≤ sz) (hsl : sz ≤ txt.length)
    {dp un : Nat} {gd : Option (List Code)} {outer : List Env} {A₀ : Around} {base h₀ : Heap} {L fa : Addr} {cd : Value} {m : Str → Option Value} {s : Shared} {Q : Flow → Shared → Prop} {o1 o2 oI : Obj} {t t2 : Tok} {c2 : Option Value} {Wd I : Addr} {wv : List Value} {wn : Nat}
    (B : Below A₀ base outer h₀) (F0 : Fr h₀ L s.heap m) (X : (KK w).In h₀) (T : Top hd.view_39 LS mean mg mb h₀) (N : News h₀ L s.heap [(I, oI), (Wd, W.listOf wv.toArray wn), (L + 1 + 1, o2), (L + 1, o1)]) (d2 : o2.data = .cell c2)
    (hd : dp + 20 < recursionLimit) (hu : un + 200 < cLine) (ht : m (Str.ofString "text") = some (.str (Tx txt) t)) (hsz : m (Str.ofString "size") = some (.int (sz : Nat) t2)) (hwo : m (Str.ofString "words") = some (.ref Wd))
    (hW : StrsAre wv ((rowR (txt.take (sz - 1))).map Tx)) (n1 : I ≠ Wd) (n2 : I ≠ L + 1 + 1) (n3 : I ≠ L + 1) (n4 : Wd ≠ L + 1 + 1) (n5 : Wd ≠ L + 1)
    (ret : ∀ h' tk' m' W' wv' wn' o2' c', StrsAre wv' ((rowR (txt.take sz)).map Tx) → o2'.data = .cell c' → W' ≠ I → W' ≠ L + 1 + 1 → W' ≠ L + 1 → m' (Str.ofString "words") = some (.ref W') →
      (∀ z, z ≠ Str.ofString "words" → [Str.ofString "grown", Str.ofString "begins", Str.ofString "letters", Str.ofString "row", Str.ofString "p", Str.ofString "k"].contains z = false → m' z = m z) →
      Fr h₀ L h' m' → News h₀ L h' [(W', W.listOf wv'.toArray wn'), (I, oI), (L + 1 + 1, o2'), (L + 1, o1)] → Q .next { s with heap := h', toks := tk' }) :
    wpAny (model PG w) (ktrTop dp un gd (Str.ofString "law") lawScope L fa cd (cellsFrom (L + 1) lawScope.names []) outer) (execs turnBody (envX (Str.ofString "law") lawScope L fa cd (cellsFrom (L + 1) lawScope.names []))) Q (fun _ _ => False) s := by
  w_top off
  conv in (occs := *) lawScope => all_goals whnf
  conv in turnBody => whnf
  unfold KK LS at *
  unfold PG
  revert X
  k_fill
  intro X
  have F : Fr h₀ L s.heap (kstB m [(Str.ofString "text", .str (Tx txt) t), (Str.ofString "size", .int (sz : Nat) t2), (Str.ofString "words", .ref Wd)]) := by
    have e : kstB m [(Str.ofString "text", .str (Tx txt) t), (Str.ofString "size", .int (sz : Nat) t2), (Str.ofString "words", .ref Wd)] = m := funext fun y => kstB_eq (List.forall_mem_cons.mpr ⟨ht, List.forall_mem_cons.mpr ⟨hsz, List.forall_mem_cons.mpr ⟨hwo, List.forall_mem_nil _⟩⟩⟩) fun _ => rfl
    rw [e]; exact F0
  have eK : kstB m [(Str.ofString "text", .str (Tx txt) t), (Str.ofString "size", .int (sz : Nat) t2), (Str.ofString "words", .ref Wd)] = m := funext fun y => kstB_eq (List.forall_mem_cons.mpr ⟨ht, List.forall_mem_cons.mpr ⟨hsz, List.forall_mem_cons.mpr ⟨hwo, List.forall_mem_nil _⟩⟩⟩) fun _ => rfl
  clear F0
  have htl : (Tx txt).length = txt.length := by show txt.toArray.size = _; simp
  walk_at "m_steps"
  rename Fr h₀ L _ _ => F3
  rename News h₀ L _ _ => N3
  rename (PySem.Obj.data _ = Data.cell (some _)) => d3
  rename_i tf k3 hk3 h3 o3
  rw [slice_to txt hsl] at d3
  have hwl := hW.length
  rw [List.length_map] at hwl
  have hrl := rowR_len_le (txt.take (sz - 1))
  have htk : (txt.take (sz - 1)).length = sz - 1 := by rw [List.length_take]; omega
  generalize hprev : rowR (txt.take (sz - 1)) = prev at hW hwl hrl
  k_dflt refine Assign_nest (ax := Wd) (its := wv) (nn := wn) (yt := Str.ofString "abc") (f := fun i j => Tx (prev.getD i [] ++ [97 + j])) (by with_unfolding_all rfl) rfl (by rfl) (by decide) (by rfl) (by decide) (by rfl) (by rfl) (by decide) (by rfl) (by rfl) F3 N3 (.tail _ (.head _)) (by decide +kernel) ?hz ?hi ?hi2 ?he ?hf
  case hz =>
    show wv.length * 3 ≤ sizeLine
    rw [sizeLine_eq]; omega
  case hi =>
    intro Q' E' hq
    walk_at "m_steps"
    exact hq
  case hi2 =>
    intro C s' Q' E' hq
    walk_at "m_steps"
    exact hq _ _
  case he =>
    intro i j v u C m₂ s₃ E' hv hS hn hmx hmz
    obtain ⟨c, tu, hc, rfl⟩ := hS
    have hvi : i < prev.length := by have := (List.getElem?_eq_some_iff.mp hv).1; omega
    obtain ⟨tv, hv'⟩ := hW.get i (Tx (prev.getD i [])) (by rw [List.getElem?_map, getD_some (d := []) hvi]; rfl)
    rw [hv] at hv'
    cases hv'
    have hcj : c = 97 + j := abc_at hc
    subst hcj
    have hpl : (Tx (prev.getD i [])).length ≤ 100 := by
      have hm : prev.getD i [] ∈ rowR (txt.take (sz - 1)) := by rw [hprev]; exact List.mem_of_getElem? (getD_some hvi)
      have := (rowR_mem hm).1
      show (prev.getD i []).toArray.size ≤ 100
      rw [List.size_toArray]; omega
    walk1
    try dsimp only
    refine ldVarK hn hmx ?_ (by rfl) (by rfl) (by decide)
    try dsimp only
    refine ldVarK hn hmz ?_ (by rfl) (by rfl) (by decide)
    try dsimp only
    have hone : ({ cps := #[97 + j] } : Str).length = 1 := rfl
    walk1
    all_goals try dsimp only
    exact ⟨⟨_, congrArg (Value.str · _) (str_of_list (by simp [PySem.Str.cps_append]))⟩, _, rfl⟩
  case hf =>
    intro D4 h4 tk4 ys4 F4 N4 off4 hS4
    have hS4' : StrsAre ys4 ((grow prev).map Tx) := by
      have := hS4
      rw [hwl] at this
      exact (grown_rows prev) ▸ this
    dsimp only at F4 N4
    change Fr h₀ L h4 _ at F4
    change News h₀ L h4 _ at N4
    try dsimp only
    walk_at "m_steps"
    have hgl := grow_len prev
    have hyl4 := hS4'.length
    rw [List.length_map] at hyl4
    have hgm : ∀ w ∈ grow prev, w.length ≤ 100 ∧ abc w := by
      have := grow_mem (prev := prev) (k := 99) (fun w hw => by
        rw [← hprev] at hw
        have h1 := (rowR_mem hw).1
        exact ⟨by omega, rowR_abc (fun c hc => habc c (List.mem_of_mem_take hc)) w hw⟩)
      exact this
    k_dflt refine LCt.Assign_ListComp_T (F₀ := F4) (by rfl) (by with_unfolding_all rfl) (by with_unfolding_all rfl) (by decide) (by rfl) (by decide) (by rfl) (by rfl) (by rfl) ?_
    walk_at "m_steps"
    refine LCt.CompSrcT.ledger (its := ys4.toArray) rfl F4 N4 (.head _) (by rw [List.size_toArray, sizeLine_eq]; omega) ?_
    intro h5
    refine comp_restT (grow prev).length (fun i => isSub ((grow prev).getD i []) (txt.take sz)) (fun i y => ∃ t, y = .str ((fun i => Tx ((grow prev).getD i [])) i) t) ?_ ?_ ?_ ?_ _ 0 [] (by rw [List.size_toArray]; omega) .nil
    · exact .inr ⟨_, .head _, rfl, _, rfl⟩
    · intro i ys v I5 oI5 C oC D m₂ h6 tk6 E' hi hv hC hx F6 N6 off ne
      obtain ⟨tv, hv'⟩ := hS4'.get i (Tx ((grow prev).getD i [])) (by rw [List.getElem?_map, getD_some (d := []) hi]; rfl)
      rw [List.getElem?_toArray, hv'] at hv
      cases hv
      obtain ⟨hwl5, hwa5⟩ := hgm _ (List.mem_of_getElem? (getD_some (d := []) hi))
      generalize (grow prev).getD i [] = wd at hwl5 hwa5 hx
      clear hv'
      have hw128 : ∀ c ∈ wd, c < 128 := fun c hc => by have := hwa5 c hc; omega
      have hdl := dots_len wd
      have hfl : (Tx (txt.take sz)).length ≤ 1000 := by show (txt.take sz).toArray.size ≤ 1000; rw [List.size_toArray, List.length_take]; omega
      try k_fold
      walk_at "m_steps"
      k_dflt refine' ctr_use (dots_ctr (w := w) (mean := mean) (mg := mg) (mb := mb) _ wd tv hwl5 hw128) ?k1 ?k2 ?k3 ?k4 ?k5 ?k6 ?k7 ?k8 ?_
      case k1 => k_asm
      case k2 => k_asm
      case k3 => k_asm
      case k4 => k_asm
      case k5 => k_asm
      case k6 => rfl
      case k7 => ktr_room
      case k8 => ktr_units
      rintro v7 n7 h7' tk7 ⟨rfl, t7, rfl⟩ F7 N7
      walk_at "m_steps"
      k_dflt refine' ctr_use (ell_ctr (w := w) (mean := mean) (mg := mg) (mb := mb) _ (Tx ([46, 46, 46] ++ dotted wd)) (Tx (txt.take sz)) (by omega) hfl _ _ (dots_in wd) (parts0 wd) (dots_split hwa5) (by rw [parts0_len]; omega) (by rw [parts0_len]; omega)) ?k1 ?k2 ?k3 ?k4 ?k5 ?k6 ?k7 ?k8 ?_
      case k1 => k_asm
      case k2 => k_asm
      case k3 => k_asm
      case k4 => k_asm
      case k5 => k_asm
      case k6 => rfl
      case k7 => ktr_room
      case k8 => ktr_units
      rintro v8 n8 h8' tk8 ⟨rfl, rfl⟩ F8 N8
      rw [ematch_parts0 hwa5]
      walk_at "m_steps"
      refine test_end ?_ (by assumption) (by assumption) (fun _ h => h)
      cases isSub wd (txt.take sz) <;> rfl
    · intro i ys v I5 oI5 C oC D m₂ h6 tk6 E' hi hz hv hC hx F6 N6 off ne
      obtain ⟨tv, hv'⟩ := hS4'.get i (Tx ((grow prev).getD i [])) (by rw [List.getElem?_map, getD_some (d := []) hi]; rfl)
      rw [List.getElem?_toArray, hv'] at hv
      cases hv
      walk_at "m_steps"
      exact elt_end ⟨_, rfl⟩ (by assumption) (by assumption) (fun _ h => h)
    · intro ys5 hr
      have hS5 := hr.strs
      rw [filter_range [] (fun w => isSub w (txt.take sz)) Tx (grow prev)] at hS5
      have hws := words_step (txt.take sz) (by rw [List.length_take]; omega) (fun c hc => habc c (List.mem_of_mem_take hc))
      have hts : (txt.take sz).length = sz := by rw [List.length_take]; omega
      rw [hts, List.take_take, Nat.min_eq_left (by omega), hprev] at hws
      rw [hws] at hS5
      unfold LCg.FinA
      intro D5 h5' tk5 F5 N5 off5
      dsimp only at F5 N5 ⊢
      walk_at "m_steps"
      generalize hfr : txt.take sz = fr at d3 hS5 hts ret
      k_dflt refine LCt.Assign_ListComp_T (F₀ := F5) (by rfl) (by with_unfolding_all rfl) (by with_unfolding_all rfl) (by decide) (by rfl) (by decide) (by rfl) (by rfl) (by rfl) ?_
      walk_at "m_steps"
      rename IsRange _ _ _ _ _ _ _ _ => hR6
      rename Fr h₀ L _ _ => F6
      rename News h₀ L _ _ => N6
      have hfl : (Tx fr).length = sz := by show fr.toArray.size = _; rw [List.size_toArray, hts]
      refine LCt.CompSrcT.range (n := sz) rfl F6 N6 hR6 (small_one (by omega) (by omega) (by omega) (by omega)) (range_sz (by omega)) (by rw [sizeLine_eq]; omega) ?_
      intro h6
      refine comp_restT sz (isBegin fr) (fun j y => ∃ t, y = .int ((fun j : Nat => (j : Int)) j) t) trivial ?_ ?_ ?_ _ 0 [] (by omega) .nil
      · rintro p ys v I6 oI6 C oC D m₂ h7 tk7 E' hp ⟨tp, rfl⟩ hC hx F7 N7 off ne
        rw [Int.zero_add] at hx
        try k_fold
        walk_at "m_steps"
        · refine test_end ?_ (by assumption) (by assumption) (fun _ h => h)
          have : p = 0 := by omega
          subst this; rfl
        · rename (_ != _) = true => hne
          refine test_end ?_ (by assumption) (by assumption) (fun _ h => h)
          have hp0 : p ≠ 0 := by omega
          rw [show (p : Int) - 1 = ((p - 1 : Nat) : Int) by omega, item_at (by omega), item_at (by omega)] at hne
          unfold isBegin
          have : fr.getD p 0 ≠ fr.getD (p - 1) 0 := fun e => by rw [e] at hne; simp at hne
          rw [bne_iff_ne.mpr this, Bool.or_true]
        · rename (_ != _) = false => hne
          refine test_end ?_ (by assumption) (by assumption) (fun _ h => h)
          have hp0 : p ≠ 0 := by omega
          rw [show (p : Int) - 1 = ((p - 1 : Nat) : Int) by omega, item_at (by omega), item_at (by omega)] at hne
          unfold isBegin
          have : fr.getD p 0 = fr.getD (p - 1) 0 := by
            by_cases e : fr.getD p 0 = fr.getD (p - 1) 0
            · exact e
            · exact absurd hne (by rw [bne_iff_ne.mpr (fun h => e (by simpa using congrArg (fun z : Str => z.cps.toList) h))]; exact fun h => nomatch h)
          rw [this, bne_self_eq_false, Bool.or_false]
          exact (beq_eq_false_iff_ne.mpr hp0).symm
      · rintro p ys v I6 oI6 C oC D m₂ h7 tk7 E' hp hz ⟨tp, rfl⟩ hC hx F7 N7 off ne
        rw [Int.zero_add] at hx
        walk_at "m_steps"
        exact elt_end ⟨_, rfl⟩ (by assumption) (by assumption) (fun _ h => h)
      · intro ys6 hr6
        have hI6 := hr6.ints
        unfold LCg.FinA
        intro D6 h6' tk6 F7 N7 off6
        dsimp only at F7 N7 ⊢
        rw [← hts] at hI6
        change IntsAre ys6 ((begins fr).map fun j : Nat => (j : Int)) at hI6
        have hbl : (begins fr).length ≤ sz := by unfold begins; exact Nat.le_trans (List.length_filter_le _ _) (by simp [hts])
        have hyl6 := hI6.length
        rw [List.length_map] at hyl6
        have hb_at : ∀ i, i < (begins fr).length → ∃ tb, ys6[i]? = some (.int ((begins fr).getD i 0 : Nat) tb) ∧ (begins fr).getD i 0 < sz := fun i hi => by
          obtain ⟨tb, hb⟩ := hI6.get i ((begins fr).getD i 0 : Nat) (by rw [List.getElem?_map, getD_some (d := 0) hi]; rfl)
          exact ⟨tb, hb, hts ▸ begins_lt (List.mem_of_getElem? (getD_some (d := 0) hi))⟩
        walk_at "m_steps"
        k_dflt refine LCg.Assign_ListComp_U (F₀ := F7) (by rfl) (by with_unfolding_all rfl) (by with_unfolding_all rfl) (by decide) (by rfl) (by decide) (by rfl) (by rfl) (by rfl) ?_
        walk_at "m_steps"
        refine LCg.CompSrc.ledger (its := ys6.toArray) rfl F7 N7 (.head _) (by rw [List.size_toArray, sizeLine_eq]; omega) ?_
        intro h8
        refine comp_rest (begins fr).length (fun i y => ∃ t, y = .str ((fun i => Tx [fr.getD ((begins fr).getD i 0) 0]) i) t) ?_ ?_ ?_ _ 0 [] (by rw [List.size_toArray]; omega) .nil
        · exact .inr ⟨_, .head _, rfl, _, rfl⟩
        · intro i ys v I8 oI8 C oC D m₂ h9 tk9 E' hi hv hC hx F9 N9 off ne
          obtain ⟨tb, hb, hbs⟩ := hb_at i hi
          rw [List.getElem?_toArray, hb] at hv
          cases hv
          obtain ⟨bb, hbb⟩ : ∃ bb, (begins fr).getD i 0 = bb := ⟨_, rfl⟩
          rw [hbb] at hx hbs
          walk_at "m_steps"
          refine elt_end ⟨_, congrArg (Value.str · _) ?_⟩ (by assumption) (by assumption) (fun _ h => h)
          dsimp only
          rw [item_at (by omega), hbb]
        · intro ys8 hr8
          have hS8 := hr8.strs
          rw [lets_rows] at hS8
          unfold LCg.FinA
          intro D8 h8' tk8 F8 N8 off8
          dsimp only at F8 N8 ⊢
          walk_at "m_steps"
          rename Fr h₀ L _ _ => F9
          rename News h₀ L _ _ => N9
          rename_i R9 h9 hl9 h10
          obtain ⟨r1, r2, r3, r4, r5, r6, r7, r8⟩ := hl9
          have N10 : News h₀ L h10 ((R9, W.listOf #[] 0) :: [(D8, LCg.lst ys8), (D6, LCg.lst ys6), (D5, LCg.lst ys5), (I, oI), (L + 1 + 1, o3), (L + 1, o1)]) := fun p hp => N9 p (by
            simp only [List.mem_cons, List.not_mem_nil, or_false] at hp ⊢
            rcases hp with h | h | h | h | h | h | h <;> simp only [h, true_or, or_true])
          clear N9
          have hne9 : ∀ p ∈ [(D8, LCg.lst ys8), (D6, LCg.lst ys6), (D5, LCg.lst ys5), (I, oI), (L + 1 + 1, o3), (L + 1, o1)], p.1 ≠ R9 := by
            intro p hp
            simp only [List.mem_cons, List.not_mem_nil, or_false] at hp
            rcases hp with h | h | h | h | h | h <;> subst h <;> (refine neN ?_; dsimp only; omega)
          have hbl2 : (begins fr).length ≤ 7 := by omega
          refine For_invV h₀ rfl rfl ?_ (hE := PassesOwn.never)
          walk_at "m_steps"
          k_dflt refine for_list (σ := List Value × Nat) (D := D6) (vs := ys6) (n := ys6.length) (fun c => (R9, W.listOf c.1.toArray c.2) :: [(D8, LCg.lst ys8), (D6, LCg.lst ys6), (D5, LCg.lst ys5), (I, oI), (L + 1 + 1, o3), (L + 1, o1)]) (fun _ => []) [Str.ofString "p"] (fun i c => StrsAre c.1 ((rowTo fr i).map Tx)) ([], 0) rfl F9 N10 (List.forall_mem_nil _) ?a3 (fun _ => .tail _ (.tail _ (.head _))) ?a4 ?a5
          case a3 => exact .nil
          case a4 =>
            rintro i v ⟨rv, rn⟩ u11 h11 tk11 Ip oIp hv hP hnI F11 N11
            dsimp only at hP F11 N11 ⊢
            have hi : i < (begins fr).length := by have := (List.getElem?_eq_some_iff.mp hv).1; omega
            obtain ⟨tb, hb, hbs⟩ := hb_at i hi
            rw [hb] at hv
            cases hv
            have hbi := getD_some (d := 0) hi
            obtain ⟨bb, hbb⟩ : ∃ bb, (begins fr).getD i 0 = bb := ⟨_, rfl⟩
            rw [hbb] at F11 hbs hbi
            have hrl := rowTo_len fr i
            have hPl := hP.length
            rw [List.length_map] at hPl
            change Fr h₀ L h11 _ at F11
            change News h₀ L h11 _ at N11
            try k_fold
            walk_at "m_steps"
            rename Fr h₀ L _ _ => F12
            rename News h₀ L _ _ => N12
            have N13 := news_swap N12
            have hneI : ∀ p ∈ (Ip, oIp) :: [(D8, LCg.lst ys8), (D6, LCg.lst ys6), (D5, LCg.lst ys5), (I, oI), (L + 1 + 1, o3), (L + 1, o1)], p.1 ≠ R9 := by
              intro p hp
              rcases List.mem_cons.mp hp with rfl | hp
              · exact fun e => hnI _ (.head _) e.symm
              · exact hne9 p hp
            clear N12
            rw [slice_to fr (by omega), show (bb : Int) + 1 = ((bb + 1 : Nat) : Int) by omega, slice_from fr (by omega), show Tx (fr.take bb) ++ Tx (fr.drop (bb + 1)) = Tx (del fr bb) from str_of_list (by simp [PySem.Str.cps_append, del])]
            k_dflt refine' ctr_use (insl_ctr (w := w) (mean := mean) (mg := mg) (mb := mb) _ R9 rn rv ((rowTo fr i).map Tx) hP (by rw [List.length_map]; omega) (rowTo_sorted fr i) (Tx (del fr bb)) _ hneI) ?k1 ?k2 ?k3 ?k4 ?k5 ?k6 ?k7 ?k8 ?_
            case k1 => k_asm
            case k2 => k_asm
            case k3 => k_asm
            case k4 => k_asm
            case k5 => k_asm
            case k6 => rfl
            case k7 => ktr_room
            case k8 => ktr_units
            rintro v14 n14 h14 tk14 ⟨rfl, rn2, rv2, r14, rfl, hpl, hS14⟩ F14 N14
            rw [place_ins hpl, ← rowTo_succ fr hbi] at hS14
            walk_at "m_steps"
            refine st_end (rv2, rn2) (by assumption) (by assumption) (.tail _ (.head _)) ?q1 ?q2 (List.forall_mem_nil _) (by walk_at "m_same") hS14
            case q1 =>
              intro p hp
              rcases List.mem_cons.mp hp with rfl | hp
              · exact .head _
              · exact .tail _ (.tail _ hp)
            case q2 =>
              intro p hp
              rcases List.mem_cons.mp hp with rfl | hp
              · exact hnI (R9, W.listOf rv.toArray rn) (.head _)
              · exact hnI p (.tail _ hp)
          case a5 =>
            rintro ⟨rv, rn⟩ u11 h11 tk11 hP F11 N11
            dsimp only at hP F11 N11 ⊢
            rw [hyl6, rowTo_all] at hP
            change Fr h₀ L h11 _ at F11
            change News h₀ L h11 _ at N11
            walk_at "m_steps"
            refine ne_strs_same (News.isList N11 (.tail _ (.tail _ (.tail _ (.head _))))) hS5 (News.isList N11 (.head _)) hP (by show un + 64 < cLine; omega) ?ok ?_
            case ok =>
              intro n hn
              obtain ⟨w9, hw9, rfl⟩ := List.mem_map.mp hn
              exact strOk_tx (rowR_abc (fun c hc => habc c (by rw [← hfr] at hc; exact List.mem_of_mem_take hc)) w9 hw9)
            walk_at "m_steps"
            refine For_invV h₀ rfl rfl ?_ (hE := PassesOwn.never)
            walk_at "m_steps"
            rename IsRange _ _ _ _ _ _ _ _ => hR15
            rename Fr h₀ L _ _ => F15
            rename News h₀ L _ _ => N15
            have hrl15 := rowR_len_le fr
            have hPl := hP.length
            rw [List.length_map] at hPl
            have hll : (lets fr).length = (begins fr).length := by simp [lets]
            k_dflt refine for_range (σ := Unit) (k := sz) (fun _ => [(R9, W.listOf rv.toArray rn), (D8, LCg.lst ys8), (D6, LCg.lst ys6), (D5, LCg.lst ys5), (I, oI), (L + 1 + 1, o3), (L + 1, o1)]) (fun _ => []) [Str.ofString "p", Str.ofString "k"] (fun _ _ => True) () rfl hR15 (small_one (by omega) (by omega) (by omega) (by omega)) (range_sz (by omega)) F15 N15 (List.forall_mem_nil _) trivial ?a6 ?a7
            case a6 =>
              rintro p tp - u16 h16 tk16 Iq oIq hp - hnI F16 N16
              dsimp only at F16 N16 ⊢
              rw [Int.zero_add] at F16
              change Fr h₀ L h16 _ at F16
              change News h₀ L h16 _ at N16
              try k_fold
              walk_at "m_steps"
              have N17 := news_dup N16 (q := (D6, LCg.lst ys6)) (.tail _ (.tail _ (.tail _ (.head _))))
              k_dflt refine' ctr_use (bisr_ctr (w := w) (mean := mean) (mg := mg) (mb := mb) _ D6 ys6.length ys6 ((begins fr).map fun j : Nat => (j : Int)) hI6 (by rw [List.length_map]; omega) (begins_mono fr) (p : Int) _) ?k1 ?k2 ?k3 ?k4 ?k5 ?k6 ?k7 ?k8 ?_
              case k1 => k_asm
              case k2 => k_asm
              case k3 => k_asm
              case k4 => k_asm
              case k5 => k_asm
              case k6 => rfl
              case k7 => ktr_room
              case k8 => ktr_units
              rintro v18 n18 h18 tk18 ⟨rfl, k18, t18, rfl, hkl, hk18⟩ F18 N18
              rw [List.length_map] at hkl
              have hk18' : k18 ≤ (begins fr).length ∧ ∀ (i : Nat) (v : Nat), (begins fr)[i]? = some v → (i < k18 → v ≤ p) ∧ (k18 ≤ i → p < v) := ⟨hkl, fun i v hv => by
                have := hk18 i (v : Int) (by rw [List.getElem?_map, hv]; rfl)
                exact ⟨fun h => by have := this.1 h; omega, fun h => by have := this.2 h; omega⟩⟩
              walk_at "m_steps"
              rename Fr h₀ L _ _ => F19
              rename News h₀ L _ _ => N19
              rw [slice_to fr (by omega), show (p : Int) + 1 = ((p + 1 : Nat) : Int) by omega, slice_from fr (by omega), show Tx (fr.take p) ++ Tx (fr.drop (p + 1)) = Tx (del fr p) from str_of_list (by simp [PySem.Str.cps_append, del])]
              have N20 := news_dup N19 (q := (R9, W.listOf rv.toArray rn)) (.tail _ (.tail _ (.head _)))
              k_dflt refine' ctr_use (bisl_ctr (w := w) (mean := mean) (mg := mg) (mb := mb) _ R9 rn rv ((rowR fr).map Tx) hP (by rw [List.length_map]; omega) (rowR_sorted fr) (Tx (del fr p)) _ 0) ?k1 ?k2 ?k3 ?k4 ?k5 ?k6 ?k7 ?k8 ?_
              case k1 => k_asm
              case k2 => k_asm
              case k3 => k_asm
              case k4 => k_asm
              case k5 => k_asm
              case k6 => rfl
              case k7 => ktr_room
              case k8 => ktr_units
              rintro v21 n21 h21 tk21 ⟨rfl, r21, t21, rfl, hpl21⟩ F21 N21
              obtain ⟨hk1, hk2, hr21⟩ := place_is fr (by omega) hk18' hpl21
              walk_at "m_steps"
              rename Fr h₀ L _ _ => F22
              rename News h₀ L _ _ => N22
              rw [show (k18 : Int) - 1 = ((k18 - 1 : Nat) : Int) by omega]
              have N23 := news_dup N22 (q := (D8, LCg.lst ys8)) (.tail _ (.tail _ (.tail _ (.tail _ (.head _)))))
              k_dflt refine' ctr_use (place_ctr (w := w) (mean := mean) (mg := mg) (mb := mb) _ D8 ys8.length ys8 (lets fr) hS8 (by omega) (k18 - 1) hk2 _) ?k1 ?k2 ?k3 ?k4 ?k5 ?k6 ?k7 ?k8 ?_
              case k1 => k_asm
              case k2 => k_asm
              case k3 => k_asm
              case k4 => k_asm
              case k5 => k_asm
              case k6 => rfl
              case k7 => ktr_room
              case k8 => ktr_units
              rintro v24 n24 h24 tk24 ⟨rfl, t24, rfl⟩ F24 N24
              rw [← hr21]
              walk_at "m_steps"
              · exact absurd rfl (by assumption)
              · exact st_end () F24 N24 (.tail _ (.tail _ (.tail _ (.head _)))) (fun p hp => .tail _ (.tail _ (.tail _ (.tail _ hp)))) hnI (List.forall_mem_nil _) (by walk_at "m_same") trivial
            case a7 =>
              rintro - u16 h16 tk16 - F16 N16
              dsimp only at F16 N16 ⊢
              change Fr h₀ L h16 _ at F16
              change News h₀ L h16 _ at N16
              walk_at "m_steps"
              refine ret _ _ _ D5 ys5 ys5.length o3 _ hS5 d3 (Ne.symm off5.2.1) (Ne.symm off5.2.2.2.1) (Ne.symm off5.2.2.2.2.1) ?b1 ?b2 F16 ?b3
              case b1 => rfl
              case b2 =>
                intro z hz hst
                simp only [List.contains_cons, List.contains_nil, Bool.or_false, Bool.or_eq_false_iff, beq_eq_false_iff_ne, ne_eq] at hst
                have e9 := congrFun eK z
                simp [kstB, hz, hst] at e9 ⊢
                exact e9
              case b3 =>
                intro p hp
                refine N16 p ?_
                simp only [List.mem_cons, List.not_mem_nil, or_false] at hp ⊢
                rcases hp with h | h | h | h <;> simp only [h, true_or, or_true]
end
/-! L1 -/
section
set_option maxHeartbeats 8000000
local macro_rules | `(tactic| walk_at "m_halt") => `(tactic| (
  (fail_if_success (with_reducible show wpAny _ _ (exec (PySem.Stmt.While _ _ _ _) _) _ _ _));
  (fail_if_success (with_reducible show wpAny _ _ (exec (PySem.Stmt.For _ _ _ _ _) _) _ _ _));
  (fail_if_success (with_reducible show wpAny _ _ (eval (PySem.Expr.ListComp _ _ _ _) _) _ _ _));
  (fail_if_success (with_reducible show wpAny _ _ (exec (PySem.Stmt.Assign _ (PySem.Expr.ListComp _ _ _ _) _) _) _ _ _));
  (fail_if_success (with_reducible show wpAny _ _ (pyIter (Value.ref _)) _ _ _));
  (fail_if_success (with_reducible show wpAny _ _ (compareOp _ (Value.ref _) (Value.ref _)) _ _ _));
  (fail_if_success (with_reducible show LCt.CompSrcT _ _ _ _ _ _ _ _ _ _ _ _ _ _ _));
  (fail_if_success (with_reducible show LCg.CompSrc _ _ _ _ _ _ _ _ _ _ _ _ _ _));
  (fail_if_success (with_reducible show wpAny _ _ (call (Value.ref _) _ _) _ _ _))))
def endOf : List Stmt → List Stmt
  | _ :: _ :: r => r
  | _ => []
noncomputable def lawEnd : List Stmt := endOf lawRest
/-- what stands behind the great loop gives True -/
def EndOk (w : World) (mean : ExcName → Option Value) (mg mb : Str → Option Value) (txt : List Nat) : Prop :=
  ∀ {dp un : Nat} {gd : Option (List Code)} {outer : List Env} {A₀ : Around} {base h₀ : Heap} {L fa : Addr} {cd : Value} {m : Str → Option Value} {s : Shared} {Q : Flow → Shared → Prop} {o1 o2 : Obj} {t : Tok} {Wd : Addr} {wv : List Value} {wn : Nat},
    Below A₀ base outer h₀ → Fr h₀ L s.heap m → (KK w).In h₀ → Top hd.view_39 LS mean mg mb h₀ → News h₀ L s.heap [(Wd, W.listOf wv.toArray wn), (L + 1 + 1, o2), (L + 1, o1)] →
    dp + 20 < recursionLimit → un + 200 < cLine → m (Str.ofString "text") = some (.str (Tx txt) t) → m (Str.ofString "words") = some (.ref Wd) → StrsAre wv ((rowR txt).map Tx) →
    (∀ h' tk' m', Fr h₀ L h' m' → Q (.ret (.bool true)) { s with heap := h', toks := tk' }) →
    wpAny (model PG w) (ktrTop dp un gd (Str.ofString "law") lawScope L fa cd (cellsFrom (L + 1) lawScope.names []) outer) (execs lawEnd (envX (Str.ofString "law") lawScope L fa cd (cellsFrom (L + 1) lawScope.names []))) Q (fun _ _ => False) s
theorem law_tail {w : World} {mean : ExcName → Option Value} {mg mb : Str → Option Value} (txt : List Nat) (h5 : 5 ≤ txt.length) (h7 : txt.length ≤ 7) (habc : abc txt) (hend : EndOk w mean mg mb txt)
    {dp un : Nat} {gd : Option (List Code)} {outer : List Env} {A₀ : Around} {base h₀ : Heap} {L fa : Addr} {cd : Value} {m : Str → Option Value} {s : Shared} {Q : Flow → Shared → Prop} {o1 o2 : Obj} {t : Tok} {c2 : Option Value}
    (B : Below A₀ base outer h₀) (F0 : Fr h₀ L s.heap m) (X : (KK w).In h₀) (T : Top hd.view_39 LS mean mg mb h₀) (N : News h₀ L s.heap [(L + 1 + 1, o2), (L + 1, o1)]) (d2 : o2.data = .cell c2)
    (hd : dp + 20 < recursionLimit) (hu : un + 200 < cLine) (ht : m (Str.ofString "text") = some (.str (Tx txt) t))
    (ret : ∀ h' tk' m', Fr h₀ L h' m' → Q (.ret (.bool true)) { s with heap := h', toks := tk' }) :
    wpAny (model PG w) (ktrTop dp un gd (Str.ofString "law") lawScope L fa cd (cellsFrom (L + 1) lawScope.names []) outer) (execs lawRest (envX (Str.ofString "law") lawScope L fa cd (cellsFrom (L + 1) lawScope.names []))) Q (fun _ _ => False) s := by
  w_top off
  conv in (occs := *) lawScope => all_goals whnf
  conv in lawRest => whnf
  revert X
  unfold KK PG
  k_fill
  intro X
  have F : Fr h₀ L s.heap (kstB m [(Str.ofString "text", .str (Tx txt) t)]) := by
    have e : kstB m [(Str.ofString "text", .str (Tx txt) t)] = m := funext fun y => kstB_eq (List.forall_mem_cons.mpr ⟨ht, List.forall_mem_nil _⟩) fun _ => rfl
    rw [e]; exact F0
  clear F0
  have htl : (Tx txt).length = txt.length := by show txt.toArray.size = _; simp
  walk_at "m_steps"
  rename Fr h₀ L _ _ => F2
  rename News h₀ L _ _ => N2
  rename_i W0 h2 hl2 h3
  refine For_invV h₀ rfl rfl ?_ (hE := PassesOwn.never)
  walk_at "m_steps"
  rename IsRange _ _ _ _ _ _ _ _ => hR3
  rename Fr h₀ L _ _ => F3
  rename News h₀ L _ _ => N3
  rw [htl] at hR3
  k_dflt refine for_range (σ := Addr × List Value × Nat × Obj × Option Value) (k := txt.length - 1) (fun c => [(c.1, W.listOf c.2.1.toArray c.2.2.1), (L + 1 + 1, c.2.2.2.1), (L + 1, o1)]) (fun c => [(Str.ofString "words", .ref c.1)]) [Str.ofString "size", Str.ofString "grown", Str.ofString "begins", Str.ofString "letters", Str.ofString "row", Str.ofString "p", Str.ofString "k"]
    (fun i c => StrsAre c.2.1 ((rowR (txt.take (i + 1))).map Tx) ∧ c.2.2.2.1.data = .cell c.2.2.2.2 ∧ c.1 ≠ L + 1 + 1 ∧ c.1 ≠ L + 1) (W0, [_], 0, o2, c2) rfl hR3 (small_one (by omega) (by omega) (by omega) (by omega)) (range_sz (by omega)) F3 N3 (List.forall_mem_cons.mpr ⟨rfl, List.forall_mem_nil _⟩) ?a3 ?a4 ?a5
  case a3 =>
    refine ⟨?_, d2, Nat.ne_of_gt hl2.1, Nat.ne_of_gt hl2.2⟩
    match txt, h5 with
    | a :: r, _ =>
      show StrsAre [_] [Tx []]
      rw [nosign]
      exact .cons _ _ .nil
  case a4 =>
    rintro i ti ⟨Wc, wv, wn, oc, cc⟩ u4 h4 tk4 I oI hi ⟨hP, hd4, hn1, hn2⟩ hnI F4 N4
    dsimp only at hP hd4 hn1 hn2 F4 N4 ⊢
    rw [show (2 : Int) + (i : Nat) = ((i + 2 : Nat) : Int) by omega] at F4
    change Fr h₀ L h4 _ at F4
    change News h₀ L h4 _ at N4
    k_dflt refine law_turn (w := w) (mean := mean) (mg := mg) (mb := mb) txt h7 habc (i + 2) (by omega) (by omega) (Wd := Wc) (wv := wv) (wn := wn) (I := I) (oI := oI) (o1 := o1) (o2 := oc) (c2 := cc) (t := t) (t2 := ti) B F4 X T N4 hd4 hd hu rfl rfl rfl hP (fun e => hnI _ (.head _) e.symm) (fun e => hnI _ (.tail _ (.head _)) e.symm) (fun e => hnI _ (.tail _ (.tail _ (.head _))) e.symm) hn1 hn2 ?_
    intro h5' tk5 m5 W5 wv5 wn5 o5 c5 hS5 hd5 q1 q2 q3 hw5 hm5 F5 N5
    refine st_end (W5, wv5, wn5, o5, c5) F5 N5 (.tail _ (.head _)) ?b1 ?b2 (List.forall_mem_cons.mpr ⟨hw5, List.forall_mem_nil _⟩) ?b3 ⟨hS5, hd5, q2, q3⟩
    case b1 =>
      intro p hp
      rcases List.mem_cons.mp hp with rfl | hp
      · exact .head _
      · exact .tail _ (.tail _ hp)
    case b2 =>
      intro p hp
      rcases List.mem_cons.mp hp with rfl | hp
      · exact q1
      · rcases List.mem_cons.mp hp with rfl | hp
        · exact hnI (L + 1 + 1, oc) (.tail _ (.head _))
        · exact hnI p (.tail _ (.tail _ hp))
    case b3 =>
      intro z h2 h3
      simp only [List.forall_mem_cons, List.not_mem_nil, false_implies, implies_true, and_true, ne_eq] at h2
      simp only [List.contains_cons, List.contains_nil, Bool.or_false, Bool.or_eq_false_iff, beq_eq_false_iff_ne, ne_eq] at h3
      rw [hm5 z h2 (by simp [h3])]
      simp [kstB, h2, h3]
  case a5 =>
    rintro ⟨Wc, wv, wn, oc, cc⟩ u4 h4 tk4 ⟨hP, hd4, hn1, hn2⟩ F4 N4
    dsimp only at hP hd4 hn1 hn2 F4 N4 ⊢
    change Fr h₀ L h4 _ at F4
    change News h₀ L h4 _ at N4
    rw [show txt.length - 1 + 1 = txt.length by omega, List.take_length] at hP
    k_dflt exact hend (Wd := Wc) (wv := wv) (wn := wn) (o1 := o1) (o2 := oc) (t := t) B F4 X T N4 hd hu rfl rfl hP ret
end
/-! L3 -/
section
set_option maxHeartbeats 8000000
local macro_rules | `(tactic| walk_at "m_halt") => `(tactic| (
  (fail_if_success (with_reducible show wpAny _ _ (exec (PySem.Stmt.While _ _ _ _) _) _ _ _));
  (fail_if_success (with_reducible show wpAny _ _ (exec (PySem.Stmt.For _ _ _ _ _) _) _ _ _));
  (fail_if_success (with_reducible show wpAny _ _ (eval (PySem.Expr.ListComp _ _ _ _) _) _ _ _));
  (fail_if_success (with_reducible show wpAny _ _ (exec (PySem.Stmt.Assign _ (PySem.Expr.ListComp _ _ _ _) _) _) _ _ _));
  (fail_if_success (with_reducible show wpAny _ _ (pyIter (Value.ref _)) _ _ _));
  (fail_if_success (with_reducible show wpAny _ _ (compareOp _ (Value.ref _) (Value.ref _)) _ _ _));
  (fail_if_success (with_reducible show LCt.CompSrcT _ _ _ _ _ _ _ _ _ _ _ _ _ _ _));
  (fail_if_success (with_reducible show LCg.CompSrc _ _ _ _ _ _ _ _ _ _ _ _ _ _));
  (fail_if_success (with_reducible show wpAny _ _ (call (Value.ref _) _ _) _ _ _))))
local macro_rules | `(tactic| walk_at "m_haltE") => `(tactic| (
  (walk_at "m_halt");
  (fail_if_success (with_reducible show wpAny _ _ (call (Value.type "list") _) _ _ _));
  (fail_if_success (with_reducible show wpAny _ _ (call (Value.builtin "str.join") _) _ _ _))))
local macro_rules | `(tactic| walk_at "m_stepsE") => `(tactic| repeat' (walk_at "m_haltE"; first | (k_unfold; (try dsimp only)) | (k_end; wrow_close) | walk1 | (dsimp only; walk1) | (leave1; walk_say "STEP leave1"; try dsimp only) | fail "no step"))
theorem law_end {w : World} {mean : ExcName → Option Value} {mg mb : Str → Option Value} (txt : List Nat) (h5 : 5 ≤ txt.length) (h7 : txt.length ≤ 7) (habc : abc txt) : EndOk w mean mg mb txt := by
  w_top off
  unfold EndOk
  intro dp un gd outer A₀ base h₀ L fa cd m s Q o1 o2 t Wd wv wn B F0 X T N hd hu ht hwo hS ret
  conv in (occs := *) lawScope => all_goals whnf
  conv in lawEnd => whnf
  revert X
  unfold KK PG
  k_fill
  intro X
  have F : Fr h₀ L s.heap (kstB m [(Str.ofString "text", .str (Tx txt) t), (Str.ofString "words", .ref Wd)]) := by
    have e : kstB m [(Str.ofString "text", .str (Tx txt) t), (Str.ofString "words", .ref Wd)] = m := funext fun y => kstB_eq (List.forall_mem_cons.mpr ⟨ht, List.forall_mem_cons.mpr ⟨hwo, List.forall_mem_nil _⟩⟩) fun _ => rfl
    rw [e]; exact F0
  clear F0
  have htl : (Tx txt).length = txt.length := by show txt.toArray.size = _; simp
  have hwl := hS.length
  rw [List.length_map] at hwl
  walk_at "m_stepsE"
  refine For_invV h₀ rfl rfl ?_ (hE := PassesOwn.never)
  walk_at "m_stepsE"
  k_dflt refine for_list (σ := Unit) (D := Wd) (vs := wv) (n := wn) (fun _ => [(Wd, W.listOf wv.toArray wn), (L + 1 + 1, o2), (L + 1, o1)]) (fun _ => []) [Str.ofString "word", Str.ofString "ahead", Str.ofString "behind", Str.ofString "pattern", Str.ofString "due"] (fun _ _ => True) () rfl F N (List.forall_mem_nil _) trivial (fun _ => .head _) ?a4 ?a5
  case a4 =>
    rintro i v - u1 h1 tk1 I1 oI1 hv - hn1 F1 N1
    dsimp only at F1 N1 ⊢
    have hi : i < (rowR txt).length := by have := (List.getElem?_eq_some_iff.mp hv).1; omega
    obtain ⟨tv, hv'⟩ := hS.get i (Tx ((rowR txt).getD i [])) (by rw [List.getElem?_map, getD_some (d := []) hi]; rfl)
    rw [hv] at hv'
    cases hv'
    have hwm : (rowR txt).getD i [] ∈ rowR txt := List.mem_of_getElem? (getD_some (d := []) hi)
    obtain ⟨hw1, hw2⟩ := rowR_mem hwm
    have hwa := rowR_abc habc _ hwm
    generalize (rowR txt).getD i [] = wd at hw1 hw2 hwa F1
    change Fr h₀ L h1 _ at F1
    change News h₀ L h1 _ at N1
    have hwdl : (Tx wd).length = wd.length := by show wd.toArray.size = _; simp
    have hw4 : 4 ≤ wd.length := by omega
    walk_at "m_stepsE"
    refine For_invV h₀ rfl rfl ?_ (hE := PassesOwn.never)
    walk_at "m_stepsE"
    rename Fr h₀ L _ _ => F2
    rename News h₀ L _ _ => N2
    rename_i DA h2 hlA
    k_dflt refine for_list (σ := Unit) (D := DA) (vs := [.bool true, .bool false]) (n := 0) (fun _ => (DA, W.listOf #[.bool true, .bool false] 0) :: [(I1, oI1), (Wd, W.listOf wv.toArray wn), (L + 1 + 1, o2), (L + 1, o1)]) (fun _ => []) [Str.ofString "ahead", Str.ofString "behind", Str.ofString "pattern", Str.ofString "due"] (fun _ _ => True) () rfl F2 N2 (List.forall_mem_nil _) trivial (fun _ => .head _) ?c4 ?c5
    case c4 =>
      rintro i3 v3 - u3 h3 tk3 I3 oI3 hv3 - hn3 F3 N3
      dsimp only at F3 N3 ⊢
      obtain ⟨ah, rfl⟩ : ∃ ah, v3 = .bool ah := by
        match i3, hv3 with
        | 0, h => cases h; exact ⟨_, rfl⟩
        | 1, h => cases h; exact ⟨_, rfl⟩
      change Fr h₀ L h3 _ at F3
      change News h₀ L h3 _ at N3
      walk_at "m_stepsE"
      refine For_invV h₀ rfl rfl ?_ (hE := PassesOwn.never)
      walk_at "m_stepsE"
      rename Fr h₀ L _ _ => F4
      rename News h₀ L _ _ => N4
      rename_i DB h4 hlB
      k_dflt refine for_list (σ := Unit) (D := DB) (vs := [.bool true, .bool false]) (n := 0) (fun _ => (DB, W.listOf #[.bool true, .bool false] 0) :: [(I3, oI3), (DA, W.listOf #[.bool true, .bool false] 0), (I1, oI1), (Wd, W.listOf wv.toArray wn), (L + 1 + 1, o2), (L + 1, o1)]) (fun _ => []) [Str.ofString "behind", Str.ofString "pattern", Str.ofString "due"] (fun _ _ => True) () rfl F4 N4 (List.forall_mem_nil _) trivial (fun _ => .head _) ?d4 ?d5
      case d4 =>
        rintro i5 v5 - u5 h5' tk5 I5 oI5 hv5 - hn5 F5 N5
        dsimp only at F5 N5 ⊢
        obtain ⟨be, rfl⟩ : ∃ be, v5 = .bool be := by
          match i5, hv5 with
          | 0, h => cases h; exact ⟨_, rfl⟩
          | 1, h => cases h; exact ⟨_, rfl⟩
        change Fr h₀ L h5' _ at F5
        change News h₀ L h5' _ at N5
        clear hv3 hv5 hv
        have hjl : (Tx (joinD (ones wd))).length ≤ 1000 := by
          have := joinD_ones_len wd
          show (joinD (ones wd)).toArray.size ≤ 1000
          rw [List.size_toArray]; omega
        have hne : wd ≠ [] := fun e => by rw [e] at hw4; simp at hw4
        have hI0 : (Txt.item (Tx wd) 0 == Txt.item (Tx txt) 0) = (wd.getD 0 0 == txt.getD 0 0) := by
          rw [show (0 : Int) = ((0 : Nat) : Int) from rfl, item_at (by omega), item_at (by omega), tx1_beq]
        have hI1 : (Txt.item (Tx wd) (-1) == Txt.item (Tx txt) (-1)) = (wd.getD (wd.length - 1) 0 == txt.getD (txt.length - 1) 0) := by
          rw [item_last (by omega), item_last (by omega), tx1_beq]
        cases ah <;> cases be
        · walk_at "m_stepsE"
          refine list_strD rfl (by assumption) (by assumption) ?_ (by rw [sizeLine_eq, hwdl]; omega)
          intro h6 tk6 ys6 F6 N6 hk6 hn6 hl6 hp6 hc6
          have hS6 : StrsAre ys6 (signs (Tx wd)) := by
            have := CarriedAll.strsOf (f := fun a : Str => a) hc6
            rwa [List.map_id'] at this
          clear hc6 hp6
          dsimp only at hl6 ⊢
          walk_at "m_stepsE"
          refine join_list hl6 hS6 (signs_room (by omega)) ?_
          intro t7 k7
          rw [join_ones]
          walk_at "m_stepsE"
          · rename Fr h₀ L _ _ => F8
            rename News h₀ L _ _ => N8
            rw [show Str.ofString "" ++ Tx (joinD (ones wd)) ++ Str.ofString "" = Tx (joinD (pat false false wd)) from pat_eq false false hne]
            k_dflt refine' ctr_use (ell_ctr (w := w) (mean := mean) (mg := mg) (mb := mb) _ (Tx (joinD (pat false false wd))) (Tx txt) (pat_room false false (by omega)) (by omega) _ _ (in_joinD (by have := pat_len false false wd; omega)) ((pat false false wd).map Tx) (split_joinD (pat_noDot false false hwa) (by have := pat_len false false wd; omega)) (by rw [List.length_map]; have := pat_len false false wd; omega) (by rw [List.length_map]; have := pat_len false false wd; omega)) ?k1 ?k2 ?k3 ?k4 ?k5 ?k6 ?k7 ?k8 ?_
            case k1 => k_asm
            case k2 => k_asm
            case k3 => k_asm
            case k4 => k_asm
            case k5 => k_asm
            case k6 => rfl
            case k7 => ktr_room
            case k8 => ktr_units
            rintro v9 n9 h9 tk9 ⟨rfl, rfl⟩ F9 N9
            rw [ematch_pat false false (by omega) hw2]
            walk_at "m_stepsE"
            · rename (_ != _) = true => hx
              (try rw [hI1] at hx); (try rw [hI0] at hx); rename ((Txt.item _ _ == Txt.item _ _) = true) => hb; rw [hI0] at hb; rw [hb] at hx
              simp at hx
            · exact st_end () (by assumption) (by assumption) (.head _) (fun p hp => .tail _ hp) hn5 (List.forall_mem_nil _) (by walk_at "m_same") trivial
          · rename Fr h₀ L _ _ => F8
            rename News h₀ L _ _ => N8
            rw [show Str.ofString "" ++ Tx (joinD (ones wd)) ++ Str.ofString "" = Tx (joinD (pat false false wd)) from pat_eq false false hne]
            k_dflt refine' ctr_use (ell_ctr (w := w) (mean := mean) (mg := mg) (mb := mb) _ (Tx (joinD (pat false false wd))) (Tx txt) (pat_room false false (by omega)) (by omega) _ _ (in_joinD (by have := pat_len false false wd; omega)) ((pat false false wd).map Tx) (split_joinD (pat_noDot false false hwa) (by have := pat_len false false wd; omega)) (by rw [List.length_map]; have := pat_len false false wd; omega) (by rw [List.length_map]; have := pat_len false false wd; omega)) ?k1 ?k2 ?k3 ?k4 ?k5 ?k6 ?k7 ?k8 ?_
            case k1 => k_asm
            case k2 => k_asm
            case k3 => k_asm
            case k4 => k_asm
            case k5 => k_asm
            case k6 => rfl
            case k7 => ktr_room
            case k8 => ktr_units
            rintro v9 n9 h9 tk9 ⟨rfl, rfl⟩ F9 N9
            rw [ematch_pat false false (by omega) hw2]
            walk_at "m_stepsE"
            · rename (_ != _) = true => hx
              (try rw [hI1] at hx); (try rw [hI0] at hx); rename ((Txt.item _ _ == Txt.item _ _) = false) => hb; rw [hI0] at hb; rw [hb] at hx
              simp at hx
            · exact st_end () (by assumption) (by assumption) (.head _) (fun p hp => .tail _ hp) hn5 (List.forall_mem_nil _) (by walk_at "m_same") trivial
        · walk_at "m_stepsE"
          refine list_strD rfl (by assumption) (by assumption) ?_ (by rw [sizeLine_eq, hwdl]; omega)
          intro h6 tk6 ys6 F6 N6 hk6 hn6 hl6 hp6 hc6
          have hS6 : StrsAre ys6 (signs (Tx wd)) := by
            have := CarriedAll.strsOf (f := fun a : Str => a) hc6
            rwa [List.map_id'] at this
          clear hc6 hp6
          dsimp only at hl6 ⊢
          walk_at "m_stepsE"
          refine join_list hl6 hS6 (signs_room (by omega)) ?_
          intro t7 k7
          rw [join_ones]
          walk_at "m_stepsE"
          · rename Fr h₀ L _ _ => F8
            rename News h₀ L _ _ => N8
            rw [show Str.ofString "" ++ Tx (joinD (ones wd)) ++ Str.ofString "..." = Tx (joinD (pat false true wd)) from pat_eq false true hne]
            k_dflt refine' ctr_use (ell_ctr (w := w) (mean := mean) (mg := mg) (mb := mb) _ (Tx (joinD (pat false true wd))) (Tx txt) (pat_room false true (by omega)) (by omega) _ _ (in_joinD (by have := pat_len false true wd; omega)) ((pat false true wd).map Tx) (split_joinD (pat_noDot false true hwa) (by have := pat_len false true wd; omega)) (by rw [List.length_map]; have := pat_len false true wd; omega) (by rw [List.length_map]; have := pat_len false true wd; omega)) ?k1 ?k2 ?k3 ?k4 ?k5 ?k6 ?k7 ?k8 ?_
            case k1 => k_asm
            case k2 => k_asm
            case k3 => k_asm
            case k4 => k_asm
            case k5 => k_asm
            case k6 => rfl
            case k7 => ktr_room
            case k8 => ktr_units
            rintro v9 n9 h9 tk9 ⟨rfl, rfl⟩ F9 N9
            rw [ematch_pat false true (by omega) hw2]
            walk_at "m_stepsE"
            · rename (_ != _) = true => hx
              (try rw [hI1] at hx); (try rw [hI0] at hx); rename ((Txt.item _ _ == Txt.item _ _) = true) => hb; rw [hI0] at hb; rw [hb] at hx
              simp at hx
            · exact st_end () (by assumption) (by assumption) (.head _) (fun p hp => .tail _ hp) hn5 (List.forall_mem_nil _) (by walk_at "m_same") trivial
          · rename Fr h₀ L _ _ => F8
            rename News h₀ L _ _ => N8
            rw [show Str.ofString "" ++ Tx (joinD (ones wd)) ++ Str.ofString "..." = Tx (joinD (pat false true wd)) from pat_eq false true hne]
            k_dflt refine' ctr_use (ell_ctr (w := w) (mean := mean) (mg := mg) (mb := mb) _ (Tx (joinD (pat false true wd))) (Tx txt) (pat_room false true (by omega)) (by omega) _ _ (in_joinD (by have := pat_len false true wd; omega)) ((pat false true wd).map Tx) (split_joinD (pat_noDot false true hwa) (by have := pat_len false true wd; omega)) (by rw [List.length_map]; have := pat_len false true wd; omega) (by rw [List.length_map]; have := pat_len false true wd; omega)) ?k1 ?k2 ?k3 ?k4 ?k5 ?k6 ?k7 ?k8 ?_
            case k1 => k_asm
            case k2 => k_asm
            case k3 => k_asm
            case k4 => k_asm
            case k5 => k_asm
            case k6 => rfl
            case k7 => ktr_room
            case k8 => ktr_units
            rintro v9 n9 h9 tk9 ⟨rfl, rfl⟩ F9 N9
            rw [ematch_pat false true (by omega) hw2]
            walk_at "m_stepsE"
            · rename (_ != _) = true => hx
              (try rw [hI1] at hx); (try rw [hI0] at hx); rename ((Txt.item _ _ == Txt.item _ _) = false) => hb; rw [hI0] at hb; rw [hb] at hx
              simp at hx
            · exact st_end () (by assumption) (by assumption) (.head _) (fun p hp => .tail _ hp) hn5 (List.forall_mem_nil _) (by walk_at "m_same") trivial
        · walk_at "m_stepsE"
          refine list_strD rfl (by assumption) (by assumption) ?_ (by rw [sizeLine_eq, hwdl]; omega)
          intro h6 tk6 ys6 F6 N6 hk6 hn6 hl6 hp6 hc6
          have hS6 : StrsAre ys6 (signs (Tx wd)) := by
            have := CarriedAll.strsOf (f := fun a : Str => a) hc6
            rwa [List.map_id'] at this
          clear hc6 hp6
          dsimp only at hl6 ⊢
          walk_at "m_stepsE"
          refine join_list hl6 hS6 (signs_room (by omega)) ?_
          intro t7 k7
          rw [join_ones]
          walk_at "m_stepsE"
          rename Fr h₀ L _ _ => F8
          rename News h₀ L _ _ => N8
          rw [show Str.ofString "..." ++ Tx (joinD (ones wd)) ++ Str.ofString "" = Tx (joinD (pat true false wd)) from pat_eq true false hne]
          k_dflt refine' ctr_use (ell_ctr (w := w) (mean := mean) (mg := mg) (mb := mb) _ (Tx (joinD (pat true false wd))) (Tx txt) (pat_room true false (by omega)) (by omega) _ _ (in_joinD (by have := pat_len true false wd; omega)) ((pat true false wd).map Tx) (split_joinD (pat_noDot true false hwa) (by have := pat_len true false wd; omega)) (by rw [List.length_map]; have := pat_len true false wd; omega) (by rw [List.length_map]; have := pat_len true false wd; omega)) ?k1 ?k2 ?k3 ?k4 ?k5 ?k6 ?k7 ?k8 ?_
          case k1 => k_asm
          case k2 => k_asm
          case k3 => k_asm
          case k4 => k_asm
          case k5 => k_asm
          case k6 => rfl
          case k7 => ktr_room
          case k8 => ktr_units
          rintro v9 n9 h9 tk9 ⟨rfl, rfl⟩ F9 N9
          rw [ematch_pat true false (by omega) hw2]
          walk_at "m_stepsE"
          · rename (_ != _) = true => hx
            (try rw [hI1] at hx); (try rw [hI0] at hx)
            simp at hx
          · exact st_end () (by assumption) (by assumption) (.head _) (fun p hp => .tail _ hp) hn5 (List.forall_mem_nil _) (by walk_at "m_same") trivial
        · walk_at "m_stepsE"
          refine list_strD rfl (by assumption) (by assumption) ?_ (by rw [sizeLine_eq, hwdl]; omega)
          intro h6 tk6 ys6 F6 N6 hk6 hn6 hl6 hp6 hc6
          have hS6 : StrsAre ys6 (signs (Tx wd)) := by
            have := CarriedAll.strsOf (f := fun a : Str => a) hc6
            rwa [List.map_id'] at this
          clear hc6 hp6
          dsimp only at hl6 ⊢
          walk_at "m_stepsE"
          refine join_list hl6 hS6 (signs_room (by omega)) ?_
          intro t7 k7
          rw [join_ones]
          walk_at "m_stepsE"
          rename Fr h₀ L _ _ => F8
          rename News h₀ L _ _ => N8
          rw [show Str.ofString "..." ++ Tx (joinD (ones wd)) ++ Str.ofString "..." = Tx (joinD (pat true true wd)) from pat_eq true true hne]
          k_dflt refine' ctr_use (ell_ctr (w := w) (mean := mean) (mg := mg) (mb := mb) _ (Tx (joinD (pat true true wd))) (Tx txt) (pat_room true true (by omega)) (by omega) _ _ (in_joinD (by have := pat_len true true wd; omega)) ((pat true true wd).map Tx) (split_joinD (pat_noDot true true hwa) (by have := pat_len true true wd; omega)) (by rw [List.length_map]; have := pat_len true true wd; omega) (by rw [List.length_map]; have := pat_len true true wd; omega)) ?k1 ?k2 ?k3 ?k4 ?k5 ?k6 ?k7 ?k8 ?_
          case k1 => k_asm
          case k2 => k_asm
          case k3 => k_asm
          case k4 => k_asm
          case k5 => k_asm
          case k6 => rfl
          case k7 => ktr_room
          case k8 => ktr_units
          rintro v9 n9 h9 tk9 ⟨rfl, rfl⟩ F9 N9
          rw [ematch_pat true true (by omega) hw2]
          walk_at "m_stepsE"
          · rename (_ != _) = true => hx
            (try rw [hI1] at hx); (try rw [hI0] at hx)
            simp at hx
          · exact st_end () (by assumption) (by assumption) (.head _) (fun p hp => .tail _ hp) hn5 (List.forall_mem_nil _) (by walk_at "m_same") trivial
      case d5 =>
        rintro - u5 h5' tk5 - F5 N5
        dsimp only at F5 N5 ⊢
        change Fr h₀ L h5' _ at F5
        change News h₀ L h5' _ at N5
        walk_at "m_stepsE"
        exact st_end () F5 N5 (.tail _ (.head _)) (fun p hp => .tail _ (.tail _ hp)) hn3 (List.forall_mem_nil _) (by walk_at "m_same") trivial
    case c5 =>
      rintro - u3 h3 tk3 - F3 N3
      dsimp only at F3 N3 ⊢
      change Fr h₀ L h3 _ at F3
      change News h₀ L h3 _ at N3
      walk_at "m_stepsE"
      exact st_end () F3 N3 (.tail _ (.head _)) (fun p hp => .tail _ (.tail _ hp)) hn1 (List.forall_mem_nil _) (by walk_at "m_same") trivial
  case a5 =>
    rintro - u1 h1 tk1 - F1 N1
    dsimp only at F1 N1 ⊢
    change Fr h₀ L h1 _ at F1
    change News h₀ L h1 _ at N1
    have h90 : txt.length ≤ 90 := by omega
    clear h7
    have hjl : ∀ l : List Nat, l.length ≤ 100 → (Tx (joinD (ones l))).length ≤ 1000 := fun l hl => by
      have := joinD_ones_len l
      show (joinD (ones l)).toArray.size ≤ 1000
      rw [List.size_toArray]; omega
    walk_at "m_stepsE"
    refine list_strD rfl (by assumption) (by assumption) ?_ (by rw [sizeLine_eq, htl]; omega)
    intro h6 tk6 ys6 F6 N6 hk6 hn6 hl6 hp6 hc6
    have hS6 : StrsAre ys6 (signs (Tx txt)) := by
      have := CarriedAll.strsOf (f := fun a : Str => a) hc6
      rwa [List.map_id'] at this
    clear hc6 hp6
    dsimp only at hl6 ⊢
    walk_at "m_stepsE"
    refine join_list hl6 hS6 (signs_room (by omega)) ?_
    intro t7 k7
    rw [join_ones, ones_pat]
    walk_at "m_stepsE"
    k_dflt refine' ctr_use (ell_ctr (w := w) (mean := mean) (mg := mg) (mb := mb) _ (Tx (joinD (pat false false txt))) (Tx txt) (pat_room false false (by omega)) (by omega) _ _ (in_joinD (by have := pat_len false false txt; omega)) ((pat false false txt).map Tx) (split_joinD (pat_noDot false false habc) (by have := pat_len false false txt; omega)) (by rw [List.length_map]; have := pat_len false false txt; omega) (by rw [List.length_map]; have := pat_len false false txt; omega)) ?k1 ?k2 ?k3 ?k4 ?k5 ?k6 ?k7 ?k8 ?_
    case k1 => k_asm
    case k2 => k_asm
    case k3 => k_asm
    case k4 => k_asm
    case k5 => k_asm
    case k6 => rfl
    case k7 => ktr_room
    case k8 => ktr_units
    rintro v9 n9 h9 tk9 ⟨rfl, rfl⟩ F9 N9
    rw [ematch_pat false false (by omega) (List.Sublist.refl _)]
    simp only [Bool.false_or, beq_self_eq_true, Bool.and_self]
    walk_at "m_stepsE"
    obtain ⟨lst9, hlst⟩ : ∃ l, txt ++ [txt.getD (txt.length - 1) 0] = l := ⟨_, rfl⟩
    have hlstl : lst9.length = txt.length + 1 := by rw [← hlst]; simp
    have hlsta : abc lst9 := by
      intro c hc
      rw [← hlst] at hc
      rcases List.mem_append.mp hc with h | h
      · exact habc c h
      · rw [List.mem_singleton.mp h]
        exact habc _ (List.mem_of_getElem? (getD_some (d := 0) (i := txt.length - 1) (by omega)))
    have hlt9 : (Tx lst9).length = lst9.length := by show lst9.toArray.size = _; simp
    rw [show Tx txt ++ Txt.item (Tx txt) (-1) = Tx lst9 by rw [item_last (by omega), ← hlst]; exact str_of_list (by simp [PySem.Str.cps_append])]
    refine list_strD rfl (by assumption) (by assumption) ?_ (by rw [sizeLine_eq, hlt9]; omega)
    intro h10 tk10 ys10 F10 N10 hk10 hn10 hl10 hp10 hc10
    have hS10 : StrsAre ys10 (signs (Tx lst9)) := by
      have := CarriedAll.strsOf (f := fun a : Str => a) hc10
      rwa [List.map_id'] at this
    clear hc10 hp10
    dsimp only at hl10 ⊢
    walk_at "m_stepsE"
    refine join_list hl10 hS10 (signs_room (by omega)) ?_
    intro t11 k11
    rw [join_ones, ones_pat]
    walk_at "m_stepsE"
    k_dflt refine' ctr_use (ell_ctr (w := w) (mean := mean) (mg := mg) (mb := mb) _ (Tx (joinD (pat false false lst9))) (Tx txt) (pat_room false false (by omega)) (by omega) _ _ (in_joinD (by have := pat_len false false lst9; omega)) ((pat false false lst9).map Tx) (split_joinD (pat_noDot false false hlsta) (by have := pat_len false false lst9; omega)) (by rw [List.length_map]; have := pat_len false false lst9; omega) (by rw [List.length_map]; have := pat_len false false lst9; omega)) ?k1 ?k2 ?k3 ?k4 ?k5 ?k6 ?k7 ?k8 ?_
    case k1 => k_asm
    case k2 => k_asm
    case k3 => k_asm
    case k4 => k_asm
    case k5 => k_asm
    case k6 => rfl
    case k7 => ktr_room
    case k8 => ktr_units
    rintro v12 n12 h12 tk12 ⟨rfl, rfl⟩ F12 N12
    rw [show ematch ((pat false false lst9).map Tx) (Tx txt) = false by rw [← hlst]; exact ematch_more (by omega)]
    walk_at "m_stepsE"
    refine For_invV h₀ rfl rfl ?_ (hE := PassesOwn.never)
    walk_at "m_stepsE"
    rename IsRange _ _ _ _ _ _ _ _ => hR13
    rename Fr h₀ L _ _ => F13
    rename News h₀ L _ _ => N13
    rw [htl] at hR13
    k_dflt refine for_range (σ := Unit) (k := txt.length - 2) (fun _ => [(Wd, W.listOf wv.toArray wn), (L + 1 + 1, o2), (L + 1, o1)]) (fun _ => []) [Str.ofString "p"] (fun _ _ => True) () rfl hR13 (small_one (by omega) (by omega) (by omega) (by omega)) (range_sz (by omega)) F13 N13 (List.forall_mem_nil _) trivial ?e4 ?e5
    case e4 =>
      rintro p tp - u14 h14 tk14 I14 oI14 hp - hn14 F14 N14
      dsimp only at F14 N14 ⊢
      rw [show (1 : Int) + (p : Nat) = ((p + 1 : Nat) : Int) by omega] at F14
      change Fr h₀ L h14 _ at F14
      change News h₀ L h14 _ at N14
      try k_fold
      walk_at "m_stepsE"
      rw [show ((p + 1 : Nat) : Int) + 1 = ((p + 1 + 1 : Nat) : Int) by omega, slice_to txt (by omega), slice_from txt (by omega), over_eq txt (p + 1)]
      rename Fr h₀ L _ _ => F15
      rename News h₀ L _ _ => N15
      k_dflt refine' ctr_use (ell_ctr (w := w) (mean := mean) (mg := mg) (mb := mb) _ (Tx (joinD (over txt (p + 1)))) (Tx txt) (over_room (by omega) _) (by omega) _ _ (in_joinD (by show 2 ≤ 4; decide)) ((over txt (p + 1)).map Tx) (split_joinD (over_noDot habc _) (by show 2 ≤ 4; decide)) (by show 2 ≤ 4; decide) (by show 4 < 1000; decide)) ?k1 ?k2 ?k3 ?k4 ?k5 ?k6 ?k7 ?k8 ?_
      case k1 => k_asm
      case k2 => k_asm
      case k3 => k_asm
      case k4 => k_asm
      case k5 => k_asm
      case k6 => rfl
      case k7 => ktr_room
      case k8 => ktr_units
      rintro v16 n16 h16 tk16 ⟨rfl, rfl⟩ F16 N16
      rw [ematch_over (by omega)]
      walk_at "m_stepsE"
      exact st_end () F16 N16 (.head _) (fun p hp => .tail _ hp) hn14 (List.forall_mem_nil _) (by walk_at "m_same") trivial
    case e5 =>
      rintro - u14 h14 tk14 - F14 N14
      dsimp only at F14 N14 ⊢
      change Fr h₀ L h14 _ at F14
      change News h₀ L h14 _ at N14
      walk_at "m_stepsE"
      exact ret _ _ _ (by assumption)
end
/-! CompV -/
section
open PySem PySem.W PyProof.Rows PyProof.Rows.LCg PyProof.Rows.LCt
theorem off3_adr {I C D : Addr} {l l' : List (Addr × Obj)} (e : l'.map (·.1) = l.map (·.1)) (h : Off3 I C D l) : Off3 I C D l' := Off3.of fun p hp => by
  have : p.1 ∈ l.map (·.1) := e ▸ List.mem_map.mpr ⟨p, hp, rfl⟩
  obtain ⟨q, hq, e'⟩ := List.mem_map.mp this
  exact e' ▸ h.mem q hq
section
variable {prog : Program} {w : World} {A : Around} {E : Value → Shared → Prop} {s : Shared} {h₀ : Heap} {L : Addr} {m : Str → Option Value} {env : Env}
theorem comp_restV {elt : Expr} {x : Str} {scope : Scope} {cl : List (Str × Addr)} {S : List (Addr × Obj) → Prop} {P : Nat → Value → Prop} {Fin : List Value → List (Addr × Obj) → Prop} (news : Nat → List (Addr × Obj)) (n : Nat) (Rel : Nat → Value → Prop) (hS : ∀ i, S (news i)) (hadr : ∀ i, (news (i + 1)).map (·.1) = (news i).map (·.1))
    (step : ∀ i ys v I oI C oC D m₂ h tk (E' : Value → Shared → Prop), i < n → P i v → NsObj oC m₂ → m₂ x = some v → Fr h₀ L h m → News h₀ L h ((I, oI) :: (C, oC) :: (D, lst ys) :: news i) → Off3 I C D (news i) → ((@Ne Nat I C) ∧ (@Ne Nat I D) ∧ (@Ne Nat C D)) →
      wpAny (model prog w) A (eval elt (compEnvC scope cl C env)) (EltEnd (Rel i) h₀ L m { s with heap := h, toks := tk } ((I, oI) :: (C, oC) :: (D, lst ys) :: news (i + 1))) E' { s with heap := h, toks := tk })
    (fin : ∀ ys, RowRel Rel (List.range n) ys → Fin ys (news n)) :
    ∀ k i ys, i + k = n → RowRel Rel (List.range i) ys → CompRest prog w A h₀ L m env elt x scope cl s S P Fin k i ys (news i)
  | 0, i, ys, hi, hr => by
    have hi' : i = n := hi
    subst hi'
    exact fin ys hr
  | k + 1, i, ys, hi, hr => by
    intro v I oI C oC D m₂ h tk E' hP hC hx F N off ne
    refine wpAny_mono (step i ys v I oI C oC D m₂ h tk E' (by omega) hP hC hx F N off ne) (fun y s' q => ?_) fun _ _ e => e
    obtain ⟨hR, h', tk', nw, rfl, F', N', hs⟩ := q
    exact ⟨h', tk', news (i + 1), rfl, F', fun p hp => N' p (hs p hp), off3_adr (hadr i) off, hS (i + 1), comp_restV news n Rel hS hadr step fin k (i + 1) (ys ++ [y]) (by omega) (by rw [List.range_succ]; exact hr.snoc hR)⟩
end
theorem byte_at {ns : List Int} {i : Nat} {k : Nat} (h : ns[i]? = some (k : Int)) (hk : k < 256) : ∃ c : UInt8, (byteArr ns)[i]? = some c ∧ c.toNat = k := by
  refine ⟨k.toUInt8, ?_, ?_⟩
  · unfold byteArr
    rw [List.getElem?_toArray, List.getElem?_map, h]; rfl
  · exact Nat.mod_eq_of_lt hk
theorem tapeOf_app (a b : List Nat) : tapeOf (a ++ b) = tapeOf a ++ tapeOf b := by simp [tapeOf]
theorem enc_at {ns : List Nat} {i : Nat} (hi : i < ns.length) (hlt : ∀ k ∈ ns, k < 4096) : Enc (byteArr (tapeOf ns)) (tapeOf (ns.take i)).length (ns.getD i 0) (tapeOf (ns.take (i + 1))).length := by
  have hg : ns[i]? = some (ns.getD i 0) := by rw [List.getD_eq_getElem?_getD, List.getElem?_eq_getElem hi]; rfl
  have hk := hlt _ (List.mem_of_getElem? hg)
  have hs := tapeOf_snoc hg
  generalize ns.getD i 0 = k at hg hk hs
  have hall : tapeOf ns = tapeOf (ns.take i) ++ enc1 k ++ tapeOf (ns.drop (i + 1)) := by
    rw [← hs, ← tapeOf_app, List.take_append_drop]
  have hat : ∀ j v, (enc1 k)[j]? = some v → (tapeOf ns)[(tapeOf (ns.take i)).length + j]? = some v := fun j v hv => by
    rw [hall, List.append_assoc, List.getElem?_append_right (by omega), Nat.add_sub_cancel_left, List.getElem?_append_left (List.getElem?_eq_some_iff.mp hv).1]
    exact hv
  have hlen : (tapeOf (ns.take (i + 1))).length = (tapeOf (ns.take i)).length + (enc1 k).length := by rw [hs, List.length_append]
  rw [hlen]
  by_cases h : k < 64
  · have e : enc1 k = [(k : Int)] := if_pos h
    left
    refine ⟨h, byte_at (by simpa using hat 0 k (by rw [e]; rfl)) (by omega), by rw [e]; rfl⟩
  · have e : enc1 k = [((k / 64 + 64 : Nat) : Int), ((k % 64 : Nat) : Int)] := if_neg h
    right
    refine ⟨by omega, hk, byte_at (by simpa using hat 0 _ (by rw [e]; rfl)) (by omega), byte_at (hat 1 _ (by rw [e]; rfl)) (by omega), by rw [e]; rfl⟩
end
/-! R1 -/
section
/-- the letters that one number gives -/
def bit (n : Nat) : List Nat := List.replicate (1 + n / 3 % 2) (97 + n % 3)
theorem bit_len (n : Nat) : 1 ≤ (bit n).length ∧ (bit n).length ≤ 2 := by
  unfold bit; rw [List.length_replicate]; omega
theorem bit_abc (n : Nat) : abc (bit n) := fun c hc => by
  have := List.eq_of_mem_replicate hc; omega
def bits (ns : List Nat) : List Nat := (ns.map bit).flatten
theorem bits_len : ∀ ns : List Nat, ns.length ≤ (bits ns).length ∧ (bits ns).length ≤ 2 * ns.length
  | [] => by simp [bits]
  | n :: r => by
    have h1 := bit_len n
    have h2 := bits_len r
    unfold bits at h2 ⊢
    simp only [List.map_cons, List.flatten_cons, List.length_append, List.length_cons] at h1 h2 ⊢
    omega
theorem bits_abc (ns : List Nat) : abc (bits ns) := fun c hc => by
  obtain ⟨l, hl, hc⟩ := List.mem_flatten.mp hc
  obtain ⟨n, _, rfl⟩ := List.mem_map.mp hl
  exact bit_abc n c hc
theorem sign_at (n : Nat) : Txt.item (Str.ofString "abc") (((n : Nat) : Int).fmod 3) = Tx [97 + n % 3] := by
  have e : ((n : Nat) : Int).fmod 3 = ((n % 3 : Nat) : Int) := by
    rw [Int.fmod_eq_emod_of_nonneg _ (by omega)]; omega
  have e2 : Str.ofString "abc" = Tx [97, 98, 99] := by decide +kernel
  rw [e, e2, item_at (by simp; omega)]
  have : n % 3 < 3 := Nat.mod_lt _ (by decide)
  generalize n % 3 = k at this
  match k, this with
  | 0, _ => rfl
  | 1, _ => rfl
  | 2, _ => rfl
theorem times_at (n : Nat) : (1 : Int) + (((n : Nat) : Int).fdiv 3).fmod 2 = ((1 + n / 3 % 2 : Nat) : Int) := by
  rw [Int.fmod_eq_emod_of_nonneg _ (by omega), Int.fdiv_eq_ediv_of_nonneg _ (by omega)]; omega
theorem mul_bit (n : Nat) : Txt.mul (Tx [97 + n % 3]) ((1 + n / 3 % 2 : Nat) : Int) = Tx (bit n) := by
  apply Str.ext'
  apply Array.toList_inj.mp
  show (Txt.mul ⟨#[97 + n % 3]⟩ _).cps.toList = _
  rw [mul_one_list]
  unfold bit
  simp only [Int.toNat_natCast]
theorem mul_bits {prog : Program} {w : World} {A : Around} {E : Value → Shared → Prop} {s : Shared} {x : Str} {t u : Tok} {i : Int} {Q : Value → Shared → Prop} (n : Nat) (hx : x = Tx [97 + n % 3]) (hi : i = ((1 + n / 3 % 2 : Nat) : Int))
    (h : ∀ t' k, Q (.str (Tx (bit n)) t') { s with toks := k }) : wpAny (model prog w) A (binaryOp .Mult (.str x t) (.int i u)) Q E s := by
  subst hx
  subst hi
  refine SB.mul (mulOk_of 1 2 (by rw [tx_len]; exact Nat.le_refl _) (by omega) (by omega) (by decide) (by decide)) ?_
  rw [mul_bit]
  exact h
theorem join_flat : ∀ ls : List (List Nat), Str.join (Str.ofString "") (ls.map Tx) = Tx ls.flatten
  | [] => rfl
  | [w] => by
    show Tx w = _
    simp
  | w :: v :: r => by
    have ih := join_flat (v :: r)
    show Tx w ++ Str.ofString "" ++ Str.join (Str.ofString "") ((v :: r).map Tx) = _
    rw [ih, nosign, tx_app, tx_app]; simp
theorem join_bits (ns : List Nat) : Txt.join (Str.ofString "") (ns.map fun n => Tx (bit n)) = Tx (bits ns) := by
  show Builtin.Str.glued _ _ = _
  rw [StrLaws.glued_eq_join]
  have := join_flat (ns.map bit)
  rw [List.map_map] at this
  exact this
theorem bits_room {ns : List Nat} (h : ns.length ≤ 100) : ((ns.map fun n => Tx (bit n)).map (·.length)).sum + (ns.map fun n => Tx (bit n)).length * (Str.ofString "").length ≤ 16777216 := by
  have e : ∀ r : List Nat, ((r.map fun n => Tx (bit n)).map (·.length)).sum ≤ 2 * r.length := by
    intro r
    induction r with
    | nil => simp
    | cons a r ih =>
      have := (bit_len a).2
      simp only [List.map_cons, List.sum_cons, List.length_cons, tx_len] at ih ⊢
      omega
  have e1 := e ns
  have e2 : (Str.ofString "").length = 0 := rfl
  rw [e2, Nat.mul_zero]; omega
theorem idx_clip (u : Int) (len : Nat) (h : (len : Int) ≤ u) : Builtin.Str.strSliceIndices none (some u) 1 len = Builtin.Str.strSliceIndices none (some (len : Int)) 1 len := by
  have a : ¬ (u < 0) := by omega
  have b : min u (len : Int) = len := by omega
  have c : ¬ ((len : Int) < 0) := by omega
  have d : (1 : Int) > 0 := by decide
  simp only [Builtin.Str.strSliceIndices, if_neg a, if_neg c, b, Int.min_self, if_pos d]
theorem slice_7 (l : List Nat) : Txt.slice (Tx l) none (some 7) = Tx (l.take 7) := by
  by_cases h : 7 ≤ l.length
  · exact slice_to l h
  · rw [List.take_of_length_le (by omega)]
    have e : StrLaws.sliceText (Tx l) none (some 7) = StrLaws.sliceText (Tx l) none (some (l.length : Int)) := by
      unfold StrLaws.sliceText
      rw [tx_len, idx_clip 7 l.length (by omega)]
    refine Eq.trans (Eq.trans ?_ (e.trans ?_)) (slice_to l (Nat.le_refl _)) |>.trans (by rw [List.take_length])
    · rfl
    · rfl
theorem rows_bits {ns : List Nat} (h : ns.length = 5) : (List.range 5).map (fun i => Tx (bit (ns.getD i 0))) = ns.map fun n => Tx (bit n) := by
  match ns, h with
  | [a, b, c, d, e], _ => rfl
end
/-! M1 -/
section
set_option maxHeartbeats 8000000
local macro_rules | `(tactic| walk_at "m_halt") => `(tactic| (
  (fail_if_success (with_reducible show wpAny _ _ (exec (PySem.Stmt.While _ _ _ _) _) _ _ _));
  (fail_if_success (with_reducible show wpAny _ _ (exec (PySem.Stmt.For _ _ _ _ _) _) _ _ _));
  (fail_if_success (with_reducible show wpAny _ _ (eval (PySem.Expr.ListComp _ _ _ _) _) _ _ _));
  (fail_if_success (with_reducible show wpAny _ _ (exec (PySem.Stmt.Assign _ (PySem.Expr.ListComp _ _ _ _) _) _) _ _ _));
  (fail_if_success (with_reducible show wpAny _ _ (pyIter (Value.ref _)) _ _ _));
  (fail_if_success (with_reducible show wpAny _ _ (compareOp _ (Value.ref _) (Value.ref _)) _ _ _));
  (fail_if_success (with_reducible show LCt.CompSrcT _ _ _ _ _ _ _ _ _ _ _ _ _ _ _));
  (fail_if_success (with_reducible show LCg.CompSrc _ _ _ _ _ _ _ _ _ _ _ _ _ _));
  (fail_if_success (with_reducible show wpAny _ _ (call (Value.ref _) _ _) _ _ _))))
local macro_rules | `(tactic| walk_at "m_stepsI") => `(tactic| repeat' ((fail_if_success (with_reducible show wpAny _ _ (call (Value.builtin "iter") _ _) _ _ _)); walk_at "m_halt"; first | (k_unfold; (try dsimp only)) | (k_end; wrow_close) | walk1 | (dsimp only; walk1) | (leave1; walk_say "STEP leave1"; try dsimp only) | fail "no step"))
local macro_rules | `(tactic| walk_at "m_stepsT") => `(tactic| repeat' ((fail_if_success (with_reducible show wpAny _ _ (execs (PySem.Stmt.Assign _ (PySem.Expr.List _ _) _ :: _) _) _ _ _)); walk_at "m_halt"; first | (k_unfold; (try dsimp only)) | (k_end; wrow_close) | walk1 | (dsimp only; walk1) | (leave1; walk_say "STEP leave1"; try dsimp only) | fail "no step"))
theorem news_to_front3 {h₀ h : Heap} {L : Addr} {a b c d : Addr × Obj} {l : List (Addr × Obj)} (N : News h₀ L h (a :: b :: c :: d :: l)) : News h₀ L h (d :: a :: b :: c :: l) := fun p hp => N p (by
  simp only [List.mem_cons] at hp ⊢
  rcases hp with h | h | h | h | h <;> simp [h])
theorem news_tail6 {h₀ h : Heap} {L : Addr} {a b c d e f : Addr × Obj} {l : List (Addr × Obj)} (N : News h₀ L h (a :: b :: c :: d :: e :: f :: l)) : News h₀ L h l := fun p hp => N p (by
  simp only [List.mem_cons]
  exact .inr (.inr (.inr (.inr (.inr (.inr hp))))))
theorem mem_from_front3 {α : Type _} {p a b c d : α} {l : List α} (hp : p ∈ a :: b :: c :: d :: l) : p ∈ d :: a :: b :: c :: l := by
  simp only [List.mem_cons] at hp ⊢
  rcases hp with h | h | h | h | h <;> simp [h]
theorem ints_back {ns : List Nat} (h : ns.length = 5) : (List.range 5).map (fun i => ((ns.getD i 0 : Nat) : Int)) = ns.map (fun k : Nat => (k : Int)) := by
  match ns, h with
  | [a, b, c, d, e], _ => rfl
def first5 : List Stmt → List Stmt
  | a :: b :: c :: d :: e :: _ => [a, b, c, d, e]
  | _ => []
/-- the whole law, from a frame of its own -/
theorem law_all {w : World} {mean : ExcName → Option Value} {mg mb : Str → Option Value} (hend : ∀ txt : List Nat, 5 ≤ txt.length → txt.length ≤ 7 → abc txt → EndOk w mean mg mb txt)
    {dp un : Nat} {gd : Option (List Code)} {outer : List Env} {A₀ : Around} {base h₀ : Heap} {L fa ls : Addr} {cd : Value} {m : Str → Option Value} {s : Shared} {Q : Flow → Shared → Prop} {o1 o2 : Obj} {c1 c2 : Option Value} {svs : List Value} {ss : List Int}
    (B : Below A₀ base outer h₀) (F0 : Fr h₀ L s.heap m) (X : (KK w).In h₀) (T : Top hd.view_39 LS mean mg mb h₀) (N : News h₀ L s.heap [(L + 1 + 1, o2), (L + 1, o1)]) (d2 : o2.data = .cell c2) (d1 : o1.data = .cell c1)
    (hd : dp + 20 < recursionLimit) (hu : un + 200 < cLine) (ht : m (Str.ofString "script") = some (.ref ls)) (hsl : h₀.IsList ls svs.toArray) (hss : IntsAre svs ss) (h63 : ss.length ≤ 63)
    (ret : ∀ h' tk' m', Fr h₀ L h' m' → Q (.ret (.bool true)) { s with heap := h', toks := tk' }) :
    wpAny (model PG w) (ktrTop dp un gd (Str.ofString "law") lawScope L fa cd (cellsFrom (L + 1) lawScope.names []) outer) (execs (bodyOf PG.main.body) (envX (Str.ofString "law") lawScope L fa cd (cellsFrom (L + 1) lawScope.names []))) Q (fun _ _ => False) s := by
  w_top off
  conv in (occs := *) lawScope => all_goals whnf
  conv in (bodyOf _) => whnf
  revert X
  unfold KK PG
  k_fill
  intro X
  have F : Fr h₀ L s.heap (kstB m [(Str.ofString "script", .ref ls)]) := by
    have e : kstB m [(Str.ofString "script", .ref ls)] = m := funext fun y => kstB_eq (List.forall_mem_cons.mpr ⟨ht, List.forall_mem_nil _⟩) fun _ => rfl
    rw [e]; exact F0
  clear F0
  walk_at "m_steps"
  k_dflt refine LCg.Assign_ListComp_U (F₀ := F) (by rfl) (by with_unfolding_all rfl) (by with_unfolding_all rfl) (by decide) (by rfl) (by decide) (by rfl) (by rfl) (by rfl) ?_
  walk_at "m_steps"
  rename Fr h₀ L _ _ => F1
  rename News h₀ L _ _ => N1
  rename_i Lb h1 hlb
  k_dflt refine' drawn_ctr (w := w) (mean := mean) (mg := mg) (mb := mb) _ ls Lb 0 svs [.int 67 _, .int 66 _, .int 68 _, .int 67 _, .int 66 _] ss [67, 66, 68, 67, 66] hss ?k0 h63 rfl _ _ _ _ _ _ _ _ _ _ _ _ _ _ _ _ _ ?k1 ?k2 ?k3 ?k4 ?k5 ?k6 ?k7 ?k8 ?k9 ?_
  case k0 => exact .cons _ _ (.cons _ _ (.cons _ _ (.cons _ _ (.cons _ _ .nil))))
  case k1 => k_asm
  case k2 => k_asm
  case k3 => k_asm
  case k4 => k_asm
  case k5 => k_asm
  case k6 => rfl
  case k7 => ktr_room
  case k8 => ktr_units
  case k9 => exact hsl
  intro D2 dv ds nd h2 tk2 hds h5 hlD F2 N2
  have hdl := hds.length
  refine LCg.CompSrc.ledger (its := dv.toArray) rfl F2 N2 (.head _) (by rw [List.size_toArray, sizeLine_eq]; omega) ?_
  intro h3
  refine comp_rest 5 (fun i y => ∃ t, y = .int ((fun i => (((ds.getD i 0) % 4096).toNat : Int)) i) t) ?_ ?_ ?_ _ 0 [] (by rw [List.size_toArray]; omega) .nil
  · exact .inr ⟨_, .head _, rfl, _, rfl⟩
  · intro i ys v I3 oI3 C oC D m₂ h4 tk4 E' hi hv hC hx F4 N4 off ne
    obtain ⟨tb, hb⟩ := hds.get i (ds.getD i 0) (getD_some (by omega))
    rw [List.getElem?_toArray, hb] at hv
    cases hv
    walk_at "m_steps"
    refine elt_end ⟨_, congrArg (Value.int · _) ?_⟩ (by assumption) (by assumption) (fun _ h => h)
    dsimp only
    rw [Int.fmod_eq_emod_of_nonneg _ (by omega)]
    omega
  · intro ys4 hr4
    have hI4 := hr4.ints
    unfold LCg.FinA
    intro D4 h4 tk4 F4 N4 off4
    dsimp only at F4 N4 ⊢
    obtain ⟨ns, hns, hn5, hnlt⟩ : ∃ ns : List Nat, (List.range 5).map (fun i => (((ds.getD i 0) % 4096).toNat : Int)) = ns.map (fun k : Nat => (k : Int)) ∧ ns.length = 5 ∧ ∀ k ∈ ns, k < 4096 :=
      ⟨(List.range 5).map fun i => ((ds.getD i 0) % 4096).toNat, by rw [List.map_map]; rfl, by simp, fun k hk => by obtain ⟨i, _, rfl⟩ := List.mem_map.mp hk; omega⟩
    rw [hns] at hI4
    clear hr4 hns
    walk_at "m_steps"
    k_dflt refine' ctr_use (tape_ctr (w := w) (mean := mean) (mg := mg) (mb := mb) _ D4 ys4.length ys4 ns hI4 (by omega) hnlt) ?k1 ?k2 ?k3 ?k4 ?k5 ?k6 ?k7 ?k8 ?_
    case k1 => k_asm
    case k2 => k_asm
    case k3 => k_asm
    case k4 => k_asm
    case k5 => k_asm
    case k6 => rfl
    case k7 => ktr_room
    case k8 => ktr_units
    rintro v5 n5 h5' tk5 ⟨rfl, t5, rfl⟩ F5 N5
    walk_at "m_stepsI"
    refine iter_bytes (by assumption) (by assumption) ?_
    intro I h6 F6 N6 ltI
    have ltD := hlD
    have neD := off4
    simp only [List.forall_mem_cons, List.not_mem_nil, false_implies, implies_true, and_true] at ltI ltD
    simp only [LCg.Off1, and_true, ne_eq] at neD
    have q1 : @Ne Nat I (L + 1) := Nat.ne_of_gt ltI.2.2.2.2
    have q2 : @Ne Nat D4 (L + 1) := fun e => neD.2.2.2 e.symm
    have q3 : @Ne Nat D2 (L + 1) := Nat.ne_of_gt ltD.2.2
    have q4 : @Ne Nat Lb (L + 1) := Nat.ne_of_gt hlb.2
    walk_at "m_stepsI"
    rename Fr h₀ L _ _ => F7
    rename News h₀ L _ _ => N7
    rename (PySem.Obj.data _ = Data.cell (some _)) => d7
    k_dflt refine LCg.Assign_ListComp_U (F₀ := F7) (by rfl) (by with_unfolding_all rfl) (by with_unfolding_all rfl) (by decide) (by rfl) (by decide) (by rfl) (by rfl) (by rfl) ?_
    walk_at "m_stepsI"
    rename IsRange _ _ _ _ _ _ _ _ => hR8
    rename Fr h₀ L _ _ => F8
    rename News h₀ L _ _ => N8
    refine LCg.CompSrc.range (n := 5) rfl F8 N8 hR8 (by decide) (by decide) (by rw [sizeLine_eq]; omega) ?_
    intro h9
    refine comp_restV (fun i => (I, bIter (byteArr (tapeOf ns)) t5 (tapeOf (ns.take i)).length) :: _) 5 (fun i y => ∃ t, y = .int ((fun i => ((ns.getD i 0 : Nat) : Int)) i) t) (fun _ => trivial) (fun _ => rfl) ?_ ?_ _ 0 [] (by omega) .nil
    · rintro i ys v I9 oI9 C oC D m₂ h10 tk10 E' hi ⟨tp, rfl⟩ hC hx F10 N10 off ne
      have hE := enc_at (ns := ns) (i := i) (by omega) hnlt
      have ho := off.mem _ (.head _)
      have N10' := news_to_front3 N10
      clear N10
      walk_at "m_stepsI"
      k_dflt refine' ctr_use (varint_ctr (w := w) (mean := mean) (mg := mg) (mb := mb) _ I (byteArr (tapeOf ns)) t5 _ _ _ hE ?kN) ?k1 ?k2 ?k3 ?k4 ?k5 ?k6 ?k7 ?k8 ?_
      case k1 => k_asm
      case k2 => k_asm
      case k3 => k_asm
      case k4 => k_asm
      case k5 => k_asm
      case k6 => rfl
      case k7 => ktr_room
      case k8 => ktr_units
      case kN =>
        simp only [List.forall_mem_cons, List.not_mem_nil, false_implies, implies_true, and_true]
        exact ⟨Ne.symm ho.1, Ne.symm ho.2.1, Ne.symm ho.2.2, Nat.ne_of_lt ltI.1, Nat.ne_of_lt ltI.2.1, Nat.ne_of_lt ltI.2.2.1, Nat.ne_of_lt ltI.2.2.2.1, Nat.ne_of_lt ltI.2.2.2.2⟩
      rintro v12 n12 h12 tk12 ⟨rfl, t12, rfl⟩ F12 N12
      walk_at "m_stepsI"
      refine elt_end ⟨_, rfl⟩ (by assumption) (by assumption) (fun _ h => mem_from_front3 h)
    · intro ys11 hr11
      have hI11 := hr11.ints
      unfold LCg.FinA
      intro D11 h11 tk11 F11 N11 off11
      dsimp only at F11 N11 ⊢
      rw [ints_back hn5] at hI11
      clear hr11
      walk_at "m_stepsI"
      refine ne_intsK (by is_list) hI11 (by is_list) hI4 (by ktr_units) ?_
      rw [show (!decide (ns.map (fun k : Nat => (k : Int)) = ns.map (fun k : Nat => (k : Int)))) = false by simp]
      walk_at "m_stepsI"
      k_dflt refine LCg.ListComp_U (F₀ := F11) (by rfl) (by decide) (by rfl) (by decide) (by rfl) ?_
      walk_at "m_stepsI"
      have hyl := hI11.length
      refine LCg.CompSrc.ledger (its := ys11.toArray) rfl F11 N11 (.head _) (by rw [List.size_toArray, sizeLine_eq]; simp only [List.length_map] at hyl; omega) ?_
      intro h13
      refine comp_rest 5 (fun i y => ∃ t, y = .str (Tx (bit (ns.getD i 0))) t) ?_ ?_ ?_ _ 0 [] (by rw [List.size_toArray]; simp only [List.length_map] at hyl; omega) .nil
      · exact .inr ⟨_, .head _, rfl, _, rfl⟩
      · intro i ys v I14 oI14 C oC D m₂ h14 tk14 E' hi hv hC hx F14 N14 off ne
        obtain ⟨tb, hb⟩ := hI11.get i (ns.getD i 0 : Nat) (by rw [List.getElem?_map, getD_some (by omega)]; rfl)
        rw [List.getElem?_toArray, hb] at hv
        cases hv
        walk_at "m_stepsI"
        refine mul_bits (ns.getD i 0) (sign_at _) (times_at _) ?_
        intro t16 k16
        refine elt_end ⟨_, rfl⟩ (by assumption) (by assumption) (fun _ h => h)
      · intro ys15 hr15
        have hS15 := hr15.strs
        unfold LCg.FinE
        intro D15 h15 tk15 F15 N15 off15
        dsimp only at F15 N15 ⊢
        rw [rows_bits hn5] at hS15
        walk_at "m_stepsI"
        have hl15 : h15.IsList D15 ys15.toArray := by is_list
        refine join_list hl15 hS15 (bits_room (by omega)) ?_
        intro t17 k17
        rw [join_bits]
        have hbl := bits_len ns
        have htl : (Tx (bits ns)).length = (bits ns).length := tx_len _
        walk_at "m_stepsT"
        rename Fr h₀ L _ _ => F18
        rename News h₀ L _ _ => N18
        rw [slice_7] at F18
        k_dflt refine law_tail (w := w) (mean := mean) (mg := mg) (mb := mb) ((bits ns).take 7) (by rw [List.length_take]; omega) (by rw [List.length_take]; omega) (fun c hc => bits_abc ns c (List.mem_of_mem_take hc)) (hend _ (by rw [List.length_take]; omega) (by rw [List.length_take]; omega) (fun c hc => bits_abc ns c (List.mem_of_mem_take hc))) B F18 X T (news_tail6 N18) d2 hd hu rfl ret
end
/-! H1 -/
section
set_option maxHeartbeats 8000000
theorem holds : PySem.Challenge.rw_qu0023_01.Holds := by
  w_top off
  refine hd ?_
  k_go0
  rename Fr _ _ _ _ => F
  rename Below _ _ _ _ => K0
  rename (Frag.In _ _) => KX
  rename Top _ _ _ _ _ _ => T
  rename News _ _ _ _ => N0
  rename Heap.IsList _ _ _ => hL
  rename IntsAre _ _ => hI
  rename (¬ (_ < _)) => h63
  rename_i d2 d1 _ 
  rename_i s₁x h₁x tk₁x _ _
  rename Shared => s1
  k_dflt refine wpAny_mono (law_all (fun txt h5 h7 ha => law_end txt h5 h7 ha) (A₀ := callerA) (base := s1.heap) (h₀ := s1.heap) (s := { s1 with heap := s₁x, toks := h₁x }) (Q := fun f s' => ∃ h' tk' m', f = .ret (.bool true) ∧ Fr s1.heap s1.heap.objs.size h' m' ∧ s' = { s1 with heap := h', toks := tk' }) (B := K0) (F0 := F) (X := KX) (T := T) (N := N0) (d2 := d2) (d1 := d1) (hd := ?h1) (hu := ?h2) (ht := ?h3) (hsl := hL) (hss := hI) (h63 := ?h4) (ret := ?h5)) ?_ (fun _ _ h => h.elim)
  case h1 => decide +kernel
  case h2 => decide +kernel
  case h3 => rfl
  case h4 => omega
  case h5 => exact fun h' tk' m' F' => ⟨h', tk', m', rfl, F', rfl⟩
  rintro f s' ⟨h', tk', m', rfl, F', rfl⟩
  k_end
  wrow_close
end
end Mine
theorem PySem.Challenge.cw_qu0023_01_holds : PySem.Challenge.rw_qu0023_01.Holds :=
  Mine.holds
