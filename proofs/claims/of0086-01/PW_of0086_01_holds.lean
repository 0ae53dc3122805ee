import PyProof.Rows.All
import Wide.All
import OpenK.AllK
import Wide.FinOn
import PySem.Challenge.RW_of0086_01
set_option compiler.extract_closed false
set_option linter.all false
open PySem PySem.W PySem.Calls PyProof.Rows
set_option Elab.async false
set_option maxRecDepth 100000
set_option maxHeartbeats 8000000
set_option rowWalk.seconds 0
local macro_rules | `(tactic| k_room) => `(tactic| ((try simp only [depth_under_make, depth_under_kw, depth_in1, depth_deeper, depth_caller]); (try dsimp only [ktrTop]); omega))
local macro_rules | `(tactic| k_units) => `(tactic| ((have hcL9 := cLine_is); (have hcu9 : ∀ (A : Around) (p : List Value) (k : List (Str × Value)), (A.under (Code.builtin "type.__call__" ⟨p, k⟩)).units = A.units + 1 := fun _ _ _ => rfl); (try simp only [hcu9, units_in1, units_deeper, Around.mark_units, units_caller]); (try dsimp only [ktrTop]); omega))
local macro_rules | `(tactic| k_enter) => `(tactic| (refine' code_def ?k1 ?k2 ?k3 ?k4 ?k5 ?kA ?kF ?kK ?k6 ?k7 ?k8 ?k9 ?kB ?_ ?c2 ?c3 ?c4 ?c5; (case kA => exact rfl); (case kF => exact rfl); (case kK => first | assumption | exact rfl); (case k1 => k_asm); (case k2 => k_asm); (case k3 => k_asm); (case k4 => k_asm); (case k5 => k_asm); (case k6 => k_is); (case k7 => k_is); (case k8 => k_room); (case k9 => first | exact BindsTo.of_eq rfl | exact binds_K (by k_in) rfl (by k_is) rfl rfl rfl | fail "k_enter: no rule for these arguments"); (case c5 => decide); (case kB => exact locs rfl); (case c2 => exact rfl); (case c3 => exact rfl); (case c4 => exact rfl); k_whole; intro g' L' h' FG' F' N' B' X' T'; (try dsimp only); (try k_fold)))
local macro_rules | `(tactic| k_all) => `(tactic| assumption)
local macro_rules | `(tactic| walk_at "call ref") => `(tactic| k_extra "my call")
local macro_rules | `(tactic| walk_at "compareOp Eq str str") => `(tactic| k_extra "my eq")
local macro_rules | `(tactic| walk_at "compareOp NotEq str str") => `(tactic| k_extra "my ne")
local macro_rules | `(tactic| walk_at "compareOp In str str") => `(tactic| k_extra "my in")
local macro_rules | `(tactic| walk_at "compareOp NotIn str str") => `(tactic| k_extra "my notin")
local macro_rules | `(tactic| walk_at "truthy str") => `(tactic| k_extra "my truthy")
local macro_rules | `(tactic| walk_at "my alls") => `(tactic| (repeat' (first | assumption | (refine List.forall_mem_cons.mpr ⟨?_, ?_⟩) | k_ne | (exact List.forall_mem_nil _))))
local macro_rules | `(tactic| walk_at "exec If") => `(tactic| refine wpAny_If ?_)
local macro_rules | `(tactic| walk_at "exec While") => `(tactic| k_extra "my while")
local macro_rules | `(tactic| walk_at "exec While Constant") => `(tactic| k_extra "my while")
namespace Mine

section
section
open PySem PySem.W PyProof.Rows
def runI (ae : Thread → Option (List Value)) (st : SharedT → Thread → Option (SharedT × Thread)) : Nat → SharedT → Thread → Option SharedT
  | 0, _, _ => none
  | n + 1, s, t => match ae t with
    | some [] => some s
    | some (_ :: _) => none
    | none => match st s t with
      | some (s', t') => runI ae st n s' t'
      | none => none
theorem runI_of {tb : String → Option Builtin} {p : Program} {w : World} : ∀ {n : Nat} {s r : SharedT} {t : Thread}, runI Thread.atExitBegin (stepT (denote tb) p w) n s t = some r → importEnds tb p w n s.abs t = some r.abs
  | 0, _, _, _, h => by cases h
  | n + 1, s, r, t, h => by
    unfold runI at h
    unfold importEnds
    cases he : t.atExitBegin with
    | some x =>
      rw [he] at h
      cases x with
      | nil => cases h; rfl
      | cons a b => cases h
    | none =>
      rw [he] at h
      cases hs : stepT (denote tb) p w s t with
      | none => rw [hs] at h; cases h
      | some q => obtain ⟨s₂, t₂⟩ := q; rw [hs] at h; dsimp only; rw [stepT_spec hs]; exact runI_of h
def runO (ok : Thread → Bool) (st : SharedT → Thread → Option (SharedT × Thread)) : Nat → SharedT → Thread → Option SharedT
  | 0, _, _ => none
  | n + 1, s, t => match through t with
    | true => some s
    | false => match ok t with
      | false => none
      | true => match st s t with
        | some (s', t') => runO ok st n s' t'
        | none => none
theorem runO_of {tb : String → Option Builtin} {p : Program} {w : World} {n₀ : Nat} {ann : Option Value} : ∀ {n : Nat} {s r : SharedT} {t : Thread}, runO (stepOk n₀ ann) (stepT (denote tb) p w) n s t = some r → topRun tb p w n₀ ann n s.abs t = some r.abs
  | 0, _, _, _, h => by cases h
  | n + 1, s, r, t, h => by
    unfold runO at h
    unfold topRun
    cases ht : through t with
    | true => rw [ht] at h; cases h; rfl
    | false =>
      rw [ht] at h
      cases hk : stepOk n₀ ann t with
      | false => rw [hk] at h; cases h
      | true =>
        rw [hk] at h
        cases hs : stepT (denote tb) p w s t with
        | none => rw [hs] at h; cases h
        | some q => obtain ⟨s₂, t₂⟩ := q; rw [hs] at h; dsimp only; rw [stepT_spec hs]; exact runO_of h
def loadT : List Obj → Nat → BT → Option BT
  | [], _, t => some t
  | o :: l, n, t => match ((t.ins n o).get n).isSome with
    | true => loadT l (n + 1) (t.ins n o)
    | false => none
theorem loadT_of {life : Life} : ∀ {l : List Obj} {n : Nat} {t r : BT}, loadT l n t = some r → absHeap r (n + l.length) life = ⟨(absHeap t n life).objs ++ l.toArray, life⟩
  | [], n, t, r, h => by
    cases h
    simp [absHeap]
  | o :: l, n, t, r, h => by
    unfold loadT at h
    cases hg : ((t.ins n o).get n).isSome with
    | false => rw [hg] at h; cases h
    | true =>
      rw [hg] at h
      have := loadT_of (life := life) h
      rw [List.length_cons, show n + (l.length + 1) = n + 1 + l.length by omega, this, absHeap_ins hg]
      show Heap.mk ((absHeap t n life).objs.push o ++ l.toArray) life = _
      congr 1
      simp
def endsG (stp : (Code → Sem Fin) → Program → World → SharedT → Thread → Option (SharedT × Thread)) (den : Code → Sem Fin) (ae : Thread → Option (List Value)) (ok : Nat → Option Value → Thread → Bool)
    (strt : Program → Shared × Thread) (fence : Program → Shared → Option Shared) (nsm : Heap → Addr → Str → Option Value) (im : List Stmt → List Str) (N m0 : Nat) (a0 : Addr) (p : Program) (w : World) : Option SharedT :=
  match (strt (opening p)).1.heap.objs.toList with
  | _ :: _ => none
  | [] => (runI ae (stp den (opening p) w) N ⟨.nil, 0, (strt (opening p)).1.heap.life, (strt (opening p)).1.gens, (strt (opening p)).1.drawn, (strt (opening p)).1.toks, (strt (opening p)).1.os⟩ (strt (opening p)).2).bind fun s =>
    (fence p s.abs).bind fun s₀ => match Nat.beq s₀.heap.objs.size m0 with
    | false => none
    | true => match nsm s₀.heap mainGlobals "__annotations__" with
      | some (.ref a) => match Nat.beq a a0 with
        | false => none
        | true => (loadT s₀.heap.objs.toList 0 .nil).bind fun t₀ => match s₀.heap.isNs mainGlobals && s₀.gens.size == 0 with
          | true => (runO (ok m0 (some (.ref a0))) (stp den p w) N ⟨t₀, m0, s₀.heap.life, s₀.gens, s₀.drawn, s₀.toks, s₀.os⟩ (topStub p)).bind fun s₁ =>
            match staticsOk (im p.main.body) s₀.heap s₁.abs.heap && namesBound p s₁.abs.heap && gensDone s₁.abs && laidKept s₀.heap s₁.abs.heap with
            | true => some s₁
            | false => none
          | false => none
      | _ => none
theorem ends_of {N m0 : Nat} {a0 : Addr} {p : Program} {w : World} {r : SharedT} (h : endsG stepT (denote treeTable) Thread.atExitBegin stepOk start fenceModules? Heap.nsMap importedModules N m0 a0 p w = some r) :
    openEnds treeTable p w N = some r.abs := by
  unfold endsG at h
  split at h
  · cases h
  · rename_i h0
    obtain ⟨s, hs, h⟩ := Option.bind_eq_some_iff.mp h
    obtain ⟨s₀, hf, h⟩ := Option.bind_eq_some_iff.mp h
    split at h
    · cases h
    · rename_i hm
      have hm := Nat.eq_of_beq_eq_true hm
      split at h
      · rename_i a ha
        split at h
        · cases h
        · rename_i hb
          have hb := Nat.eq_of_beq_eq_true hb
          subst hb
          obtain ⟨t₀, hl, h⟩ := Option.bind_eq_some_iff.mp h
          split at h
          · rename_i hz
            obtain ⟨s₁, hr, h⟩ := Option.bind_eq_some_iff.mp h
            split at h
            · rename_i hc
              have h9 := Option.some.inj h
              subst h9
              have e1 := runI_of hs
              have e0 : (start (opening p)).1 = SharedT.abs ⟨.nil, 0, (start (opening p)).1.heap.life, (start (opening p)).1.gens, (start (opening p)).1.drawn, (start (opening p)).1.toks, (start (opening p)).1.os⟩ := by
                have e9 : (start (opening p)).1.heap.objs = #[] := Array.toList_eq_nil_iff.mp h0
                generalize (start (opening p)).1 = z at e9
                obtain ⟨⟨ob, lf⟩, gs, dr, tk, os⟩ := z
                dsimp only at e9
                subst e9
                rfl
              rw [← e0] at e1
              unfold openEnds fencedOpening
              rw [e1]
              show ((fenceModules? p s.abs).bind (topFrom treeTable p w N)) = _
              rw [hf]
              show topFrom treeTable p w N s₀ = _
              unfold topFrom
              rw [hz, hm, ha]
              have e2 := runO_of hr
              have e3 : SharedT.abs ⟨t₀, m0, s₀.heap.life, s₀.gens, s₀.drawn, s₀.toks, s₀.os⟩ = s₀ := by
                have := loadT_of (life := s₀.heap.life) hl
                rw [Nat.zero_add, Array.length_toList, hm] at this
                unfold SharedT.abs
                dsimp only
                rw [this]
                obtain ⟨⟨ob, lf⟩, gs, dr, tk, os⟩ := s₀
                simp [absHeap, BT.list]
              rw [e3] at e2
              dsimp only
              rw [e2]
              show (match staticsOk (importedModules p.main.body) s₀.heap s₁.abs.heap && namesBound p s₁.abs.heap && gensDone s₁.abs && laidKept s₀.heap s₁.abs.heap with | true => some s₁.abs | false => none) = _
              rw [hc]
            · cases h
          · cases h
      · cases h
theorem left_of {p q : Program} {loose : List Str} {Xt : Shared → Bool} {α : Type} {Yf : Shared → α} {Ya : World → α} {N m0 : Nat} {a0 : Addr}
    (h : ∀ w, ∃ s : SharedT, endsG stepT (denote treeTable) Thread.atExitBegin stepOk start fenceModules? Heap.nsMap importedModules N m0 a0 p w = some s ∧ openSeen q loose (importedModules p.main.body) Xt true s.abs = openGood q loose ∧ Yf s.abs = Ya w) :
    LeftO p q loose Xt Yf Ya N := fun w => by
  obtain ⟨s, hs, e, f⟩ := h w
  rw [ends_of hs]
  show some (openSeen q loose (importedModules p.main.body) Xt true s.abs, Yf s.abs) = some (openGood q loose, Ya w)
  rw [e, f]
def getT (s : SharedT) (a : Addr) : Option Obj := match Nat.blt a s.n with
  | true => match s.tree.get a with
    | some o => alive o
    | none => none
  | false => none
theorem getT_abs {s : SharedT} {a : Addr} {o : Obj} (h : getT s a = some o) : s.abs.heap.get? a = some o := by
  unfold getT at h
  split at h
  · rename_i hb
    have hb : a < s.n := Nat.le_of_ble_eq_true hb
    split at h
    · rename_i o' ho
      exact (abs_get hb ho).trans h
    · cases h
  · cases h
theorem obs_abs {s : SharedT} : ∀ {as : List Addr} {os : List Obj}, as.map (getT s) = os.map some → as.map s.abs.heap.get? = os.map some
  | [], _, h => h
  | a :: as, [], h => by simp at h
  | a :: as, o :: os, h => by
    simp only [List.map_cons, List.cons.injEq] at h ⊢
    exact ⟨getT_abs h.1, obs_abs h.2⟩
/-- the head's left side: what the looks see, and the objects written out -/
theorem left_of2 {p q : Program} {loose : List Str} {Xt : Shared → Bool} {K : Params → Frag} {as : List Addr} {e : ∀ P, as = (K P).map (·.1)} {N m0 : Nat} {a0 : Addr}
    (h : ∀ w, (endsG stepT (denote treeTable) Thread.atExitBegin stepOk start fenceModules? Heap.nsMap importedModules N m0 a0 p w).map (fun s => (openSeen q loose (importedModules p.main.body) Xt true s.abs, as.map (getT s))) = some (openGood q loose, ((K w.params).map (·.2)).map some)) :
    LeftO p q loose Xt (Hook.obs (kHook K as e)) (Hook.val (kHook K as e)) N := left_of (m0 := m0) (a0 := a0) fun w => by
  obtain ⟨s, hs, hq⟩ := Option.map_eq_some_iff.mp (h w)
  have c' := obs_abs (congrArg (·.2) hq)
  rw [List.map_map] at c'
  exact ⟨s, hs, congrArg (·.1) hq, c'⟩
end

end

section
def vw : Program := PySem.W.view PySem.Challenge.pw_of0086_01 [0, 1, 2, 4, 7, 8, 10, 11, 12, 13, 14, 15, 16, 17, 19, 20, 21, 22, 23, 24, 26, 28, 29, 31, 32, 33, 34, 35, 36]
def vloose : List Str := [Str.ofString "tspecials", Str.ofString "_formatparam", Str.ofString "_twin_re_1", Str.ofString "UnsupportedOperation", Str.ofString "IOBase", Str.ofString "BufferedIOBase", Str.ofString "TextIOBase", Str.ofString "BytesIO", Str.ofString "StringIO", Str.ofString "shlex", Str.ofString "split", Str.ofString "_find_unsafe"]
section
set_option maxHeartbeats 0
theorem wsaid : OpenLaw.wellSaid PySem.Challenge.rw_of0086_01 = true := by
  rw [PySem.W.Fast.te9446332074065402090]
  kernel_rfl
end
section
set_option maxHeartbeats 0
local macro_rules | `(tactic| o_law) => `(tactic| refine holds_law wsaid fun said => ?_)
local macro_rules | `(tactic| o_head $H) => do
  let hw := Lean.mkIdent `hw
  let hc := Lean.mkIdent `hc
  `(tactic| (refine holds_open (q := vw) (loose := vloose) (Xt := fun s => xlAt vw [] s && recOk (RowW.records (OpenRow.toRowW (OpenLaw.row PySem.Challenge.rw_of0086_01))) s) (XP := XL vw []) (Yf := Hook.obs $H) (Ya := Hook.val $H) (YP := Hook.says $H) (N := 10510) ?hl (Hook.of $H) (Hook.keeps $H) (fun s e => xl_of s (Bool.and_eq_true_iff.mp e).1) XL.keeps (by rfl) (by rfl) (by rfl) (fun s e => recFacts_of (Bool.and_eq_true_iff.mp e).2) (by rfl) (by assumption) (by decide +kernel) ⟨rfl, rfl, rfl, rfl, rfl, by decide +kernel⟩ ?$hw ?$hc; (case hl => (refine left_of2 (m0 := 34) (a0 := 6) fun w => ?_; rw [PySem.W.Fast.te10156331382660048174, PySem.W.Fast.te11892475500146522536, PySem.W.Fast.te14364793385576792824, PySem.W.Fast.te3805553451399329143, PySem.W.Fast.te6613529449190102663, PySem.W.Fast.te1435165496053646825, PySem.W.Fast.te14289696077712309145, PySem.W.Fast.te8920871248978507458, PySem.W.Fast.te5923862056798008813, PySem.W.Fast.te4187177175401517315]; kernel_rfl))))
open_top hd for PySem.Challenge.rw_of0086_01
end
/-- the head's run leaves the walker's flag for the top on: off again -/
theorem top_off : True := by
  w_top off
  trivial

end

section
theorem execs_one {M : Model} {A : Around} {env : Env} {E : Value → Shared → Prop} {s : Shared} {a : Stmt} {Q : Flow → Shared → Prop} (h : wpAny M A (exec a env) Q E s) : wpAny M A (execs [a] env) Q E s :=
  wpAny_execs_cons (wpAny_mono h (fun f s' h' => by cases f <;> first | exact wpAny_execs_nil h' | exact h') fun _ _ x => x)
theorem hideG {P : Prop} (h : let G := P; G) : P := h

end
local macro_rules | `(tactic| walk_at "execs cons") => `(tactic| ((try k_gentoks); first | refine execs_one ?_ | (refine wpAny_execs_cons ?_; (try k_fold))))
local macro_rules | `(tactic| walk_at "exec If") => `(tactic| (refine wpAny_If ?_; (try k_fold)))

section
/-- a contract of a def of the text: called with args over a ledger news, it comes back with a value and a ledger that Post tells of -/
def Spec (w : World) (p : Program) (loose : List Str) (mean : ExcName → Option Value) (mg mb : Str → Option Value) (dn un0 : Nat) (f : Addr) (args : List Value) (news : List (Addr × Obj)) (Post : Value → List (Addr × Obj) → Prop) : Prop :=
  ∀ (dp un : Nat) (gd : Option (List Code)) (cn : Str) (cs : Scope) (a : Addr) (ccd : Value) (cl : List (Str × Addr)) (outer : List Env) (A₀ : Around) (base h₀ : Heap) (L : Addr) (m : Str → Option Value) (s : Shared) (Q E : Value → Shared → Prop),
    Below A₀ base outer h₀ → Fr h₀ L s.heap m → (Mine.hd.heap_1 w.params).In h₀ → News h₀ L s.heap news → Top p loose mean mg mb h₀ → cs.kind = .function →
    dp + dn < recursionLimit → un + un0 < cLine →
    (∀ v news' h' tk', Fr h₀ L h' m → News h₀ L h' news' → Post v news' → Q v { s with heap := h', toks := tk' }) →
    wpAny (model PySem.Challenge.rw_of0086_01.row.prog w) (ktrTop dp un gd cn cs L a ccd cl outer) (call (.ref f) args) Q E s
theorem Spec.use {w : World} {p : Program} {loose : List Str} {mean : ExcName → Option Value} {mg mb : Str → Option Value} {dn un0 : Nat} {f : Addr} {args : List Value} {news : List (Addr × Obj)} {Post : Value → List (Addr × Obj) → Prop}
    (H : Spec w p loose mean mg mb dn un0 f args news Post) {dp un : Nat} {gd : Option (List Code)} {cn : Str} {cs : Scope} {a : Addr} {ccd : Value} {cl : List (Str × Addr)} {outer : List Env} {A₀ : Around} {base h₀ : Heap} {L : Addr} {m : Str → Option Value} {s : Shared} {Q E : Value → Shared → Prop}
    (B : Below A₀ base outer h₀) (F : Fr h₀ L s.heap m) (X : (Mine.hd.heap_1 w.params).In h₀) (N : News h₀ L s.heap news) (T : Top p loose mean mg mb h₀) (hcs : cs.kind = .function)
    (hd : dp + dn < recursionLimit) (hu : un + un0 < cLine)
    (ret : ∀ v news' h' tk', Fr h₀ L h' m → News h₀ L h' news' → Post v news' → Q v { s with heap := h', toks := tk' }) :
    wpAny (model PySem.Challenge.rw_of0086_01.row.prog w) (ktrTop dp un gd cn cs L a ccd cl outer) (call (.ref f) args) Q E s := H _ _ _ _ _ _ _ _ _ _ _ _ _ _ _ _ _ B F X N T hcs hd hu ret

abbrev sioD (h1 h2 h3 : Int) (k1 k2 k3 : Tok) (nl : Str) (ntk : Tok) (b : Str) (btk : Tok) (pos : Int) (ptk : Tok): Obj :=
  dictOf [⟨h1, .str (Str.ofString "_StringIO__newline") k1, .str nl ntk⟩, ⟨h2, .str (Str.ofString "_StringIO__buf") k2, .str b btk⟩, ⟨h3, .str (Str.ofString "_StringIO__pos") k3, .int pos ptk⟩] 3
section
variable {w : World} {p : Program} {loose : List Str} {mean : ExcName → Option Value} {mg mb : Str → Option Value} {sx sdx : Addr} {h1 h2 h3 : Int} {k1 k2 k3 : Tok} {nl : Str} {ntk : Tok} {b : Str} {btk : Tok} {pos : Int} {ptk : Tok} {t : Tok} {news : List (Addr × Obj)}
theorem read_char (ch : Str) (hpos : 0 ≤ pos) (hb : b.length ≤ 10000) (hlt : pos < b.length) (hch : Txt.slice b (some pos) (some (pos + 1)) = ch) (hne : @LT.lt Nat _ sdx sx) (hoff : ∀ q ∈ news, q.1 ≠ sdx) :
   Spec w p loose mean mg mb 3 20 563 [.ref sx, .int 1 t] ((sx, instObj 617 sdx) :: (sdx, sioD h1 h2 h3 k1 k2 k3 nl ntk b btk pos ptk) :: news)
     (fun v news' => ∃ t' ptk', v = .str ch t' ∧ news' = (sx, instObj 617 sdx) :: (sdx, sioD h1 h2 h3 k1 k2 k3 nl ntk b btk (pos + 1) ptk') :: news) := by
  subst hch
  unfold Spec
  k_fill
  intro dp un gd cn cs a ccd cl outer A₀ base h₀ L m s Q E hB hF hX hN hT hcs hdp hun hret
  refine wpAny_call ?_
  k_dflt k_enter
  k_steps
  · refine' hret _ _ _ _ ?e1 ?e2 ?e3; (case e1 => k_asm); (case e2 => k_asm)
    exact ⟨_, _, rfl, rfl⟩
  · have e : ((b.length : Nat) : Int) = pos + 1 := by omega
    refine' hret _ _ _ _ ?f1 ?f2 ?f3; (case f1 => k_asm); (case f2 => k_asm)
    rw [e]
    exact ⟨_, _, rfl, rfl⟩
theorem read_eof (_hpos : 0 ≤ pos) (hb : b.length ≤ 10000) (hlt : ¬ pos < b.length) (hne : @LT.lt Nat _ sdx sx) (hoff : ∀ q ∈ news, q.1 ≠ sdx) :
   Spec w p loose mean mg mb 3 20 563 [.ref sx, .int 1 t] ((sx, instObj 617 sdx) :: (sdx, sioD h1 h2 h3 k1 k2 k3 nl ntk b btk pos ptk) :: news)
     (fun v news' => ∃ t', v = .str (Str.ofString "") t' ∧ news' = (sx, instObj 617 sdx) :: (sdx, sioD h1 h2 h3 k1 k2 k3 nl ntk b btk pos ptk) :: news) := by
  unfold Spec
  k_fill
  intro dp un gd cn cs a ccd cl outer A₀ base h₀ L m s Q E hB hF hX hN hT hcs hdp hun hret
  refine wpAny_call ?_
  k_dflt k_enter
  k_steps
  · refine' hret _ _ _ _ ?e1 ?e2 ?e3; (case e1 => k_asm); (case e2 => k_asm)
    exact ⟨_, rfl, rfl⟩
end

/-! a while loop whose turns are told one by one -/
section
variable {prog : Program} {w : World} {A : Around} {s : Shared} {env : Env} {test : PySem.Expr} {body orelse : List Stmt} {Q : Flow → Shared → Prop}
def LR (prog : Program) (w : World) (A : Around) (env : Env) (test : PySem.Expr) (body orelse : List Stmt) (Q : Flow → Shared → Prop) (s : Shared) : Prop :=
  WhlRest prog w A (fun _ _ => False) env test body orelse Q 0 s
def LP (prog : Program) (w : World) (A : Around) (env : Env) (test : PySem.Expr) (body orelse : List Stmt) (Q : Flow → Shared → Prop) (f : Flow) (s : Shared) : Prop :=
  match f with
  | .next => LR prog w A env test body orelse Q s
  | .cont => LR prog w A env test body orelse Q s
  | .brk => Q .next s
  | .ret v => Q (.ret v) s
theorem lr_turn (h : wpAny (model prog w) A (isTrue test env (eval test env)) (fun b s₂ => WhlIf b (wpAny (model prog w) A (execs body env) (LP prog w A env test body orelse Q) (fun _ _ => False) s₂) (wpAny (model prog w) A (execs orelse env) Q (fun _ _ => False) s₂)) (fun _ _ => False) s) :
    LR prog w A env test body orelse Q s := by
  unfold LR
  refine whl_turn (k := 0) PassesOwn.never (wpAny_mono h (fun b s₂ h₂ => ?_) fun _ _ x => x)
  cases b with
  | false => exact h₂
  | true =>
    refine WhlIf.yes rfl (wpAny_mono (α := Flow) (Q := LP prog w A env test body orelse Q) h₂ (fun f s₃ h₃ => ?_) fun _ _ x => x)
    cases f <;> exact h₃
theorem lr_start {pos : Pos} (h : LR prog w A env test body orelse Q s) : wpAny (model prog w) A (exec (.While test body orelse pos) env) Q (fun _ _ => False) s := whl_start 0 h
end
theorem Fr.ext' {h₀ : Heap} {L : Addr} {h : Heap} {m m' : Str → Option Value} (F : Fr h₀ L h m) (e : ∀ y, m y = m' y) : Fr h₀ L h m' := by
  have : m = m' := funext e
  subst this; exact F
def fnAt (K : Frag) (f : Addr) : Option FuncData := match K.lookup f with
  | some ⟨_, _, .func fd, _⟩ => some fd
  | _ => none
theorem fnAt_of {K : Frag} {f : Addr} {c : Value} {d : Option Addr} {fd : FuncData} {sl : Array (Option Value)} (h : K.lookup f = some ⟨c, d, .func fd, sl⟩) : fnAt K f = some fd := by unfold fnAt; rw [h]

/-! comparisons that a fact decides -/
section
variable {prog : Program} {w : World} {A : Around} {E : Value → Shared → Prop} {s : Shared} {x y : Str} {t u : Tok} {b : Bool} {Q : Value → Shared → Prop}
theorem eq_known (e : (x == y) = b) (h : Q (.bool b) s) : wpAny (model prog w) A (compareOp .Eq (.str x t) (.str y u)) Q E s := eq_str (by rw [e]; exact h)
theorem ne_known (e : (x != y) = b) (h : Q (.bool b) s) : wpAny (model prog w) A (compareOp .NotEq (.str x t) (.str y u)) Q E s := ne_str (by rw [e]; exact h)
theorem in_known (e : Txt.contains x y = b) (h : Q (.bool b) s) : wpAny (model prog w) A (compareOp .In (.str y u) (.str x t)) Q E s := SB.contains (by rw [e]; exact h)
theorem notin_known (e : Txt.contains x y = b) (h : Q (.bool (!b)) s) : wpAny (model prog w) A (compareOp .NotIn (.str y u) (.str x t)) Q E s := SB.notContains (by rw [e]; exact h)
theorem truthy_known {Q : Bool → Shared → Prop} (hl : x.length ≤ 10000000) (e : ((x.length : Int) != 0) = b) (h : Q b { s with toks := s.toks + 1 + 1 }) : wpAny (model prog w) A (truthy (.str x t)) Q E s :=
  PySem.P.truthy_str (by have : (2 : Int) ^ 63 = 9223372036854775808 := by decide
                         omega) (by rw [e]; exact h)
end

end

section
abbrev listObj (items : Array Value) (c : Nat) : Obj := { cls := .type "list", dict := none, data := .seq items c, slots := #[] }
abbrev SL (l : List Nat) : Str := ⟨l.toArray⟩
/-- values that are the texts ts -/
inductive Vals : List (List Nat) → List Value → Prop where
  | nil : Vals [] []
  | cons {t ts k vs} : Vals ts vs → Vals (t :: ts) (.str (SL t) k :: vs)
theorem Vals.length {ts : List (List Nat)} {vs : List Value} (h : Vals ts vs) : vs.length = ts.length := by
  induction h with
  | nil => rfl
  | cons _ ih => simp [ih]
theorem Vals.get {ts : List (List Nat)} {vs : List Value} (h : Vals ts vs) : ∀ (i : Nat) (t : List Nat), ts[i]? = some t → ∃ k, vs[i]? = some (.str (SL t) k) := by
  induction h with
  | nil => intro i t e; simp at e
  | @cons t0 ts k vs _ ih =>
    intro i t e
    cases i with
    | zero => simp at e; subst e; exact ⟨k, rfl⟩
    | succ i => simpa using ih i t (by simpa using e)
theorem Vals.append {ts ts' : List (List Nat)} {vs vs' : List Value} (h : Vals ts vs) (h' : Vals ts' vs') : Vals (ts ++ ts') (vs ++ vs') := by
  induction h with
  | nil => exact h'
  | cons _ ih => exact .cons ih
theorem Vals.drop {ts : List (List Nat)} {vs : List Value} (h : Vals ts vs) : ∀ i, Vals (ts.drop i) (vs.drop i) := by
  induction h with
  | nil => intro i; simp; exact .nil
  | @cons t0 ts k vs h ih =>
    intro i
    cases i with
    | zero => exact .cons h
    | succ i => simpa using ih i
theorem Vals.one {t : List Nat} {k : Tok} : Vals [t] [.str (SL t) k] := .cons .nil

end

section
/-! replace of one sign, sign by sign -/
def subst (c : Nat) (z : List Nat) (l : List Nat) : List Nat := l.flatMap fun d => if d = c then z else [d]
theorem subst_free {c : Nat} {z : List Nat} : ∀ {l : List Nat}, c ∉ l → subst c z l = l
  | [], _ => rfl
  | d :: l, h => by
    have h1 : d ≠ c := fun e => h (e ▸ List.mem_cons_self)
    have ih := subst_free (z := z) (l := l) (fun m => h (List.mem_cons_of_mem _ m))
    unfold subst at ih ⊢
    rw [List.flatMap_cons, if_neg h1, ih]; rfl
theorem subst_append {c : Nat} {z a b : List Nat} : subst c z (a ++ b) = subst c z a ++ subst c z b := List.flatMap_append
theorem str_append_toList (a b : Str) : (a ++ b).cps.toList = a.cps.toList ++ b.cps.toList := by
  show (a.cps ++ b.cps).toList = _
  simp
theorem join_subst (c : Nat) (z : Str) : ∀ ps : List Str, (∀ p ∈ ps, c ∉ p.cps.toList) → (Str.join z ps).cps.toList = subst c z.cps.toList (Str.join ⟨#[c]⟩ ps).cps.toList
  | [], _ => rfl
  | [p], h => (subst_free (h p List.mem_cons_self)).symm
  | p :: q :: r, h => by
    have ih := join_subst c z (q :: r) fun x hx => h x (List.mem_cons_of_mem _ hx)
    show ((p ++ z) ++ Str.join z (q :: r)).cps.toList = subst c z.cps.toList ((p ++ (⟨#[c]⟩ : Str)) ++ Str.join ⟨#[c]⟩ (q :: r)).cps.toList
    rw [str_append_toList, str_append_toList, str_append_toList, str_append_toList, subst_append, subst_append, subst_free (h p List.mem_cons_self), ih]
    congr 2
    unfold subst
    simp
theorem replace_subst (x z : Str) (c : Nat) : (Txt.replace x ⟨#[c]⟩ z).cps.toList = subst c z.cps.toList x.cps.toList := by
  rw [StrLaws.replace_one, join_subst c z _ (StrLaws.split_free x c), StrLaws.join_split]

end

section
/-! deque(): an empty one made, its truth -/
open PySem.Builtin in
abbrev dqObj : Obj := { cls := .type "collections.deque", data := .fields #[.none, .int 0 0] }
theorem dq_noBool : typeLookup (.type "collections.deque") "__bool__" = pure none := by rw [typeLookup_type, builtinLookup_eq_fast]; kernel_rfl
theorem dq_slot_len : Slot "collections.deque" "__len__" "collections.deque.__len__" :=
  .of (owner := "collections.deque") (n := "__len__") (by rw [typeLookup_type, builtinLookup_eq_fast]; kernel_rfl) (by decide +kernel) (by decide +kernel) (by decide +kernel)
    (by first | exact .inl (by decide +kernel) | exact .inr (by decide +kernel)) (by rw [isSubtype_type]; kernel_rfl)
theorem dq_slot_init : Slot "collections.deque" "__init__" "collections.deque.__init__" :=
  .of (owner := "collections.deque") (n := "__init__") (by rw [typeLookup_type, builtinLookup_eq_fast]; kernel_rfl) (by decide +kernel) (by decide +kernel) (by decide +kernel)
    (by first | exact .inl (by decide +kernel) | exact .inr (by decide +kernel)) (by rw [isSubtype_type]; kernel_rfl)
theorem dq_entry_len : entryFor table "collections.deque.__len__" = some Builtin.«collections.deque.__len__» := entryFor_of_tree (by kernel_rfl)
theorem dq_entry_init : entryFor table "collections.deque.__init__" = some Builtin.«collections.deque.__init__» := entryFor_of_tree (by kernel_rfl)
theorem dq_entry_new : entryFor table "collections.deque.__new__" = some Builtin.«collections.deque.__new__» := entryFor_of_tree (by kernel_rfl)
theorem dq_args_len (a : Value) : argsOk "collections.deque.__len__" ⟨[a], []⟩ := by unfold argsOk; kernel_rfl
theorem dq_args_init (a : Value) : argsOk "collections.deque.__init__" ⟨[a], []⟩ := by unfold argsOk; kernel_rfl
section
variable {prog : Program} {w : World} {A : Around} {E : Value → Shared → Prop} {s : Shared}
theorem dq_len_body {q : Addr} {Q : Value → Shared → Prop} (ho : s.heap.get? q = some dqObj)
    (h : Q (.int 0 (s.toks + 1)) { s with toks := s.toks + 1 + 1 }) : wpAny (model prog w) A (Builtin.«len» ⟨[.ref q], []⟩) (fun fin s' => ∃ r, fin = .done (.ret r) ∧ Q r s') E s := by
  have hT : s.TypeIs (.ref q) "collections.deque" := ⟨_, ho, rfl⟩
  unfold Builtin.«len»
  refine wpAny_bind (m := oneArg "len" _) (wpAny_pure ?_)
  refine wpAny_bind (m := callSpecial? (.ref q) (Str.ofString "__len__")) (wpAny_callSpecial?_slot (name := Str.ofString "__len__") hT dq_slot_len
    (wpAny_call_entry dq_slot_len hT dq_entry_len ?_ (dq_args_len _)))
  · show wpAny _ _ (do retInt (← (do return (← fieldsOf (.ref q)).size - 2))) _ _ s
    unfold fieldsOf
    refine wpAny_bind (wpAny_bind (wpAny_bind (wpAny_load ho ?_)))
    refine wpAny_pure (wpAny_pure (wpAny_bind (wpAny_mkInt (wpAny_pure ⟨_, rfl, ?_⟩))))
    refine wpAny_bind (wpAny_holding (wpAny_pure ?_))
    refine wpAny_bind (wpAny_letGo ?_)
    show wpAny _ _ (if (0 : Int) < 0 then _ else _) _ _ _
    rw [if_neg (by omega)]
    show wpAny _ _ (if (0 : Int) ≥ 2 ^ 63 then _ else _) _ _ _
    rw [if_neg (by omega)]
    exact wpAny_bind (wpAny_mkInt (wpAny_pure ⟨_, rfl, h⟩))
theorem dq_truthy {q : Addr} {Q : Bool → Shared → Prop} (ho : s.heap.get? q = some dqObj) (h : Q false { s with toks := s.toks + 1 + 1 }) : wpAny (model prog w) A (truthy (.ref q)) Q E s := by
  have hT : s.TypeIs (.ref q) "collections.deque" := ⟨_, ho, rfl⟩
  have key : wpAny (model prog w) A (runValue (.builtin "len" ⟨[.ref q], []⟩)) (fun r s' => r = .int 0 (s.toks + 1) ∧ Q false s') E s := by
    refine wpAny_runValue (codeAny_builtin entry_len ?_)
    rw [Around.under_plainId plain_len _]
    exact wpAny_mono (dq_len_body (Q := fun r s' => r = .int 0 (s.toks + 1) ∧ Q false s') ho ⟨rfl, h⟩)
      (fun fin s' h' => by obtain ⟨r, rfl, hq⟩ := h'; exact hq) fun _ _ e => e
  unfold truthy
  first
    | refine wpAny_bind (wpAny_callSpecial?_none (name := Str.ofString "__bool__") hT dq_noBool ?_)
    | refine wpAny_bind (wpAny_pure (wpAny_bind (wpAny_callSpecial?_none (name := Str.ofString "__bool__") hT dq_noBool ?_)))
  first
    | refine wpAny_bind (wpAny_specialOf (name := Str.ofString "__len__") hT dq_slot_len.lookup ?_)
    | refine wpAny_bind (wpAny_pure (wpAny_bind (wpAny_specialOf (name := Str.ofString "__len__") hT dq_slot_len.lookup ?_)))
  first
    | exact wpAny_bind (wpAny_mono key (fun r s' h' => by obtain ⟨rfl, hq⟩ := h'; exact wpAny_pure hq) fun _ _ e => e)
    | exact wpAny_bind (wpAny_pure (wpAny_bind (wpAny_mono key (fun r s' h' => by obtain ⟨rfl, hq⟩ := h'; exact wpAny_pure hq) fun _ _ e => e)))
end

end

section
open PySem.Builtin in
theorem dq_mro : mroOf (.type "collections.deque") = pure [.type "collections.deque", .type "object"] := by rw [mroOf_type]; kernel_rfl
theorem dq_lookup_new : typeLookup (.type "collections.deque") "__new__" = pure (some (.builtin "collections.deque.__new__")) := by rw [typeLookup_type, builtinLookup_eq_fast]; kernel_rfl
theorem dq_called : TypeCalled "collections.deque" "collections.deque.__new__" "collections.deque.__init__" :=
  ⟨by decide +kernel, by decide +kernel, ⟨_, _, dq_mro⟩, madeBy_type dq_mro dq_lookup_new (by decide +kernel), by decide +kernel, by rw [isSubtype_type]; kernel_rfl, dq_slot_init⟩
theorem dq_typeCall : checkTypeCall "collections.deque" ⟨[], []⟩ = pure () := by kernel_rfl
theorem dq_newCall : checkBuiltinCall "collections.deque.__new__" ⟨[.type "collections.deque"], []⟩ = pure () := by kernel_rfl
theorem dq_plain_new : plainId "collections.deque.__new__" = true := by decide +kernel
theorem dq_sub : isSubtype (.type "collections.deque") (.type "collections.deque") = pure true := by rw [isSubtype_type]; kernel_rfl
section
variable {prog : Program} {w : World} {A : Around} {E : Value → Shared → Prop} {s : Shared}
theorem dq_code_new {Q₁ : Value → Shared → Prop} (h : Q₁ (.ref s.heap.objs.size) { s with heap := s.heap.push dqObj }) :
    codeAny (model prog w) A (.call (.builtin "collections.deque.__new__") ⟨[.type "collections.deque"], []⟩) (wants Q₁ E) s := by
  refine codeAny_of_tree ?_
  show wpAny _ A.in1 (do checkBuiltinCall "collections.deque.__new__" ⟨[.type "collections.deque"], []⟩; again (.builtin "collections.deque.__new__" ⟨[.type "collections.deque"], []⟩)) _ _ s
  refine wpAny_bind (wpAny_of_eq dq_newCall (wpAny_pure ⟨plainId_quiet dq_plain_new _, codeAny_builtin dq_entry_new ?_⟩))
  rw [Around.under_plainId dq_plain_new _]
  unfold Builtin.«collections.deque.__new__» Builtin.Deque.newArgs Builtin.Deque.new
  have hsub := dq_sub
  obtain ⟨hp, g, d, tk, os⟩ := s
  dsimp only
  wp_walk
  refine wpAny_of_eq (show isSubtype (Value.type "collections.deque") (Value.type Builtin.Deque.ty) = pure true from dq_sub) ?_
  simp only [Bool.not_true, Bool.false_eq_true, if_false]
  wp_walk
  exact h
theorem dq_call {Q : Value → Shared → Prop} (h : ∀ h', h'.get? s.heap.objs.size = some dqObj → Heap.SameBut s.heap.objs.size (s.heap.push dqObj) h' → Q (.ref s.heap.objs.size) { s with heap := h' }) : wpAny (model prog w) A (call (.type "collections.deque") []) Q E s := by
  refine callType_codes (Q := Q) (Q₁ := fun obj s₁ => obj = .ref s.heap.objs.size ∧ s₁ = { s with heap := s.heap.push dqObj }) dq_called dq_typeCall dq_entry_init (dq_code_new ⟨rfl, rfl⟩) ?_
  rintro obj s₁ ⟨rfl, rfl⟩
  have hS : (s.heap.push dqObj).get? s.heap.objs.size = some dqObj := Heap.get?_push_size _ rfl
  refine ⟨⟨_, hS, rfl⟩, dq_args_init _, ?_⟩
  unfold Builtin.«collections.deque.__init__»
  dsimp only [List.zipIdx, List.take, List.length]
  rw [if_neg (show ¬ (0 + 0 > 2) by decide)]
  wp_walk
  exact ⟨rfl, h _ (Heap.get?_update_self (Obj.mapFields fun x => x.setIfInBounds 0 Value.none) hS rfl) (Heap.SameBut.update ..)⟩
theorem dq_call_N {h₀ : Heap} {L : Addr} {m : Str → Option Value} {news : List (Addr × Obj)} {Q : Value → Shared → Prop} (F : Fr h₀ L s.heap m) (N : News h₀ L s.heap news)
    (h : ∀ a h', Fr h₀ L h' m → News h₀ L h' ((a, dqObj) :: news) → (∀ r ∈ news, r.1 < a) → Q (.ref a) { s with heap := h' }) : wpAny (model prog w) A (call (.type "collections.deque") []) Q E s := by
  refine dq_call fun h' hg hs => ?_
  have hlt : ∀ r ∈ news, r.1 < s.heap.objs.size := fun r hr => Heap.lt_size (N r hr).1
  have hLn : L ≠ s.heap.objs.size := Nat.ne_of_lt F.ns.lt
  have F1 := F.push dqObj
  have N1 := N.push F dqObj
  have h0 := (N1 _ (.head _)).2.2
  refine h _ h' ⟨F1.ns.sameBut hs hLn, fun b o e => (hs.2 b (fun q => by rw [q, h0] at e; cases e)).trans (F1.keep b o e), F.above⟩ (fun r hr => ?_) hlt
  rcases List.mem_cons.mp hr with rfl | hr'
  · exact ⟨hg, (N1 _ (.head _)).2⟩
  · exact ⟨(hs.2 r.1 (Nat.ne_of_lt (hlt r hr'))).trans (N1 r hr).1, (N1 r hr).2⟩
end

end

section
/-- the states of the lexer: None, ' ', 'a', apostrophe, quotation mark, backslash -/
inductive St where
  | no | sp | a | sq | dq | bs
abbrev St.val : St → Tok → Value
  | .no, _ => .none
  | .sp, t => .str (Str.ofString " ") t
  | .a, t => .str (Str.ofString "a") t
  | .sq, t => .str (Str.ofString "'") t
  | .dq, t => .str (Str.ofString "\"") t
  | .bs, t => .str (Str.ofString "\\") t
abbrev lexD (H : Nat → Int) (K V : Nat → Tok) (sx q1 q2 : Addr) (wc : Str) (st : St) (tok : Str) : Obj :=
  dictOf [⟨H 0, .str (Str.ofString "instream") (K 0), .ref sx⟩,
    ⟨H 1, .str (Str.ofString "infile") (K 1), .none⟩,
    ⟨H 2, .str (Str.ofString "posix") (K 2), .bool true⟩,
    ⟨H 3, .str (Str.ofString "eof") (K 3), .none⟩,
    ⟨H 4, .str (Str.ofString "commenters") (K 4), .str (Str.ofString "") (V 4)⟩,
    ⟨H 5, .str (Str.ofString "wordchars") (K 5), .str wc (V 5)⟩,
    ⟨H 6, .str (Str.ofString "whitespace") (K 6), .str (Str.ofString " \t\r\n") (V 6)⟩,
    ⟨H 7, .str (Str.ofString "whitespace_split") (K 7), .bool true⟩,
    ⟨H 8, .str (Str.ofString "quotes") (K 8), .str (Str.ofString "'\"") (V 8)⟩,
    ⟨H 9, .str (Str.ofString "escape") (K 9), .str (Str.ofString "\\") (V 9)⟩,
    ⟨H 10, .str (Str.ofString "escapedquotes") (K 10), .str (Str.ofString "\"") (V 10)⟩,
    ⟨H 11, .str (Str.ofString "state") (K 11), st.val (V 11)⟩,
    ⟨H 12, .str (Str.ofString "pushback") (K 12), .ref q1⟩,
    ⟨H 13, .str (Str.ofString "lineno") (K 13), .int 1 (V 13)⟩,
    ⟨H 14, .str (Str.ofString "debug") (K 14), .int 0 (V 14)⟩,
    ⟨H 15, .str (Str.ofString "token") (K 15), .str tok (V 15)⟩,
    ⟨H 16, .str (Str.ofString "filestack") (K 16), .ref q2⟩,
    ⟨H 17, .str (Str.ofString "source") (K 17), .none⟩,
    ⟨H 18, .str (Str.ofString "_punctuation_chars") (K 18), .str (Str.ofString "") (V 18)⟩] 19
def LexD (o : Obj) (sx q1 q2 : Addr) (wc : Str) (st : St) (tok : Str) : Prop := ∃ (H : Nat → Int) (K V : Nat → Tok), o = lexD H K V sx q1 q2 wc st tok
def SioD (o : Obj) (b : Str) (pos : Int) : Prop := ∃ h1 h2 h3 k1 k2 k3 nl ntk btk ptk, o = sioD h1 h2 h3 k1 k2 k3 nl ntk b btk pos ptk
def LexAddrs (x dx sx sdx q1 q2 : Addr) (news : List (Addr × Obj)) : Prop :=
  @LT.lt Nat _ dx x ∧ @LT.lt Nat _ x sdx ∧ @LT.lt Nat _ sdx sx ∧ @LT.lt Nat _ sx q1 ∧ @LT.lt Nat _ q1 q2 ∧ (∀ q ∈ news, q.1 ≠ dx) ∧ (∀ q ∈ news, q.1 ≠ sdx)
def rtLocals (x : Addr) (q : Bool) (ev : Value) (nxl : List (Str × Value)) : Str → Option Value :=
  fun y => List.lookup y ((Str.ofString "self", Value.ref x) :: (Str.ofString "quoted", Value.bool q) :: (Str.ofString "escapedstate", ev) :: nxl)
/-- what holds at the head of read_token's loop -/
def AtLoop (g : Heap) (L x dx sx sdx q1 q2 : Addr) (oq1 oq2 : Obj) (news : List (Addr × Obj)) (wc b : Str) (st : St) (q : Bool) (e : St) (tok : Str) (pos : Int) (h : Heap) : Prop :=
  ∃ nxl te o so, (nxl = [] ∨ ∃ v, nxl = [(Str.ofString "nextchar", v)]) ∧ Fr g L h (rtLocals x q (e.val te) nxl) ∧ LexD o sx q1 q2 wc st tok ∧ SioD so b pos ∧
    News g L h ((sx, instObj 617 sdx) :: (sdx, so) :: (x, instObj 752 dx) :: (dx, o) :: (q1, oq1) :: (q2, oq2) :: news)
def rtTest (fd : FuncData) : PySem.Expr := match fd.body with
  | .stmts (_ :: _ :: .While t _ _ _ :: _) => t
  | _ => default
def rtBody (fd : FuncData) : List Stmt := match fd.body with
  | .stmts (_ :: _ :: .While _ b _ _ :: _) => b
  | _ => default

theorem rtl_none {x : Addr} {q : Bool} {ev : Value} {nxl : List (Str × Value)} (hnx : nxl = [] ∨ ∃ v, nxl = [(Str.ofString "nextchar", v)]) {y : Str} (n1 : y ≠ Str.ofString "self") (n2 : y ≠ Str.ofString "quoted") (n3 : y ≠ Str.ofString "escapedstate") (n4 : y ≠ Str.ofString "nextchar") : rtLocals x q ev nxl y = none := by
  have z1 := beq_eq_false_iff_ne.mpr n1
  have z2 := beq_eq_false_iff_ne.mpr n2
  have z3 := beq_eq_false_iff_ne.mpr n3
  have z4 := beq_eq_false_iff_ne.mpr n4
  rcases hnx with rfl | ⟨v, rfl⟩ <;> simp only [rtLocals, List.lookup, z1, z2, z3, z4]
theorem rtl_all {x : Addr} {q q' : Bool} {ev ev' v : Value} {nxl : List (Str × Value)} {m : Str → Option Value} (hnx : nxl = [] ∨ ∃ v, nxl = [(Str.ofString "nextchar", v)])
    (h1 : m (Str.ofString "self") = some (.ref x)) (h2 : m (Str.ofString "quoted") = some (.bool q')) (h3 : m (Str.ofString "escapedstate") = some ev') (h4 : m (Str.ofString "nextchar") = some v)
    (h5 : ∀ y, y ≠ Str.ofString "self" → y ≠ Str.ofString "quoted" → y ≠ Str.ofString "escapedstate" → y ≠ Str.ofString "nextchar" → m y = rtLocals x q ev nxl y) :
    ∀ y, m y = rtLocals x q' ev' [(Str.ofString "nextchar", v)] y := by
  intro y
  by_cases n1 : y = Str.ofString "self"
  · subst n1; exact h1
  by_cases n2 : y = Str.ofString "quoted"
  · subst n2; exact h2
  by_cases n3 : y = Str.ofString "escapedstate"
  · subst n3; exact h3
  by_cases n4 : y = Str.ofString "nextchar"
  · subst n4; exact h4
  rw [h5 y n1 n2 n3 n4, rtl_none hnx n1 n2 n3 n4, rtl_none (.inr ⟨v, rfl⟩) n1 n2 n3 n4]
theorem news_tail {h₀ h : Heap} {L : Addr} {q : Addr × Obj} {l : List (Addr × Obj)} (N : News h₀ L h (q :: l)) : News h₀ L h l := fun r hr => N r (.tail _ hr)
theorem rtl_start {x : Addr} {q' : Bool} {ev' : Value} {m : Str → Option Value}
    (h1 : m (Str.ofString "self") = some (.ref x)) (h2 : m (Str.ofString "quoted") = some (.bool q')) (h3 : m (Str.ofString "escapedstate") = some ev')
    (h5 : ∀ y, y ≠ Str.ofString "self" → y ≠ Str.ofString "quoted" → y ≠ Str.ofString "escapedstate" → m y = none) :
    ∀ y, m y = rtLocals x q' ev' [] y := by
  intro y
  by_cases n1 : y = Str.ofString "self"
  · subst n1; exact h1
  by_cases n2 : y = Str.ofString "quoted"
  · subst n2; exact h2
  by_cases n3 : y = Str.ofString "escapedstate"
  · subst n3; exact h3
  rw [h5 y n1 n2 n3]
  have z1 := beq_eq_false_iff_ne.mpr n1
  have z2 := beq_eq_false_iff_ne.mpr n2
  have z3 := beq_eq_false_iff_ne.mpr n3
  simp only [rtLocals, List.lookup, z1, z2, z3]
theorem rtl_start' {g h : Heap} {L x : Addr} {m : Str → Option Value} (F : Fr g L h m)
    (h1 : m (Str.ofString "self") = some (.ref x)) (h2 : m (Str.ofString "quoted") = some (.bool false)) (h3 : ∃ te, m (Str.ofString "escapedstate") = some (.str (Str.ofString " ") te))
    (h5 : ∀ y, y ≠ Str.ofString "self" → y ≠ Str.ofString "quoted" → y ≠ Str.ofString "escapedstate" → m y = none) : ∃ te, Fr g L h (rtLocals x false (St.val .sp te) []) := by
  obtain ⟨te, h3⟩ := h3
  exact ⟨te, Fr.ext' F (rtl_start h1 h2 h3 h5)⟩

end

section
/-- the lexer's object stands at x, its attributes in od -/
def LexAt (w : World) (h : Heap) (x : Addr) (od : Obj) : Prop := (Mine.hd.heap_1 w.params).In h ∧ ∃ ox, InstAt h x ox 752 (some od)
theorem LexAt.of {w : World} {g h : Heap} {L x dx : Addr} {m : Str → Option Value} {news : List (Addr × Obj)} {od : Obj} (X : (Mine.hd.heap_1 w.params).In g) (F : Fr g L h m) (N : News g L h news) (h1 : (x, instObj 752 dx) ∈ news) (h2 : (dx, od) ∈ news) : LexAt w h x od :=
  ⟨X.keeps F.keep, _, InstAt.of_news N h1 h2⟩
section
variable {w : World} {A : Around} {E : Value → Shared → Prop} {s : Shared} {x sx q1 q2 : Addr} {H : Nat → Int} {Kk V : Nat → Tok} {wc tok : Str} {st : St} {expr : Bool} {Q : Value → Shared → Prop}
theorem lx_instream (I : LexAt w s.heap x (lexD H Kk V sx q1 q2 wc st tok)) (h : Q (.ref sx) { s with toks := s.toks + 1 }) :
    wpAny (model PySem.Challenge.rw_of0086_01.row.prog w) A (getAttr (.ref x) (Str.ofString "instream") expr) Q E s := by
  revert I
  unfold LexAt
  k_fill
  intro ⟨X, ox, I⟩
  refine' get_value X I (plainGet_of (name := Str.ofString "instream") ?k4).1 (findObj_own ?k5 ?k6 ?k7 ?k8) ?k9 h
  case k4 => k_is
  case k5 => k_is
  case k6 => k_is
  case k7 => k_is
  case k8 => exact rfl
  case k9 => first | exact rfl | (cases st <;> rfl)
theorem lx_debug (I : LexAt w s.heap x (lexD H Kk V sx q1 q2 wc st tok)) (h : Q (.int 0 (V 14)) { s with toks := s.toks + 1 }) :
    wpAny (model PySem.Challenge.rw_of0086_01.row.prog w) A (getAttr (.ref x) (Str.ofString "debug") expr) Q E s := by
  revert I
  unfold LexAt
  k_fill
  intro ⟨X, ox, I⟩
  refine' get_value X I (plainGet_of (name := Str.ofString "debug") ?k4).1 (findObj_own ?k5 ?k6 ?k7 ?k8) ?k9 h
  case k4 => k_is
  case k5 => k_is
  case k6 => k_is
  case k7 => k_is
  case k8 => exact rfl
  case k9 => first | exact rfl | (cases st <;> rfl)
theorem lx_state (I : LexAt w s.heap x (lexD H Kk V sx q1 q2 wc st tok)) (h : Q (st.val (V 11)) { s with toks := s.toks + 1 }) :
    wpAny (model PySem.Challenge.rw_of0086_01.row.prog w) A (getAttr (.ref x) (Str.ofString "state") expr) Q E s := by
  revert I
  unfold LexAt
  k_fill
  intro ⟨X, ox, I⟩
  refine' get_value X I (plainGet_of (name := Str.ofString "state") ?k4).1 (findObj_own ?k5 ?k6 ?k7 ?k8) ?k9 h
  case k4 => k_is
  case k5 => k_is
  case k6 => k_is
  case k7 => k_is
  case k8 => exact rfl
  case k9 => first | exact rfl | (cases st <;> rfl)
theorem lx_token (I : LexAt w s.heap x (lexD H Kk V sx q1 q2 wc st tok)) (h : Q (.str tok (V 15)) { s with toks := s.toks + 1 }) :
    wpAny (model PySem.Challenge.rw_of0086_01.row.prog w) A (getAttr (.ref x) (Str.ofString "token") expr) Q E s := by
  revert I
  unfold LexAt
  k_fill
  intro ⟨X, ox, I⟩
  refine' get_value X I (plainGet_of (name := Str.ofString "token") ?k4).1 (findObj_own ?k5 ?k6 ?k7 ?k8) ?k9 h
  case k4 => k_is
  case k5 => k_is
  case k6 => k_is
  case k7 => k_is
  case k8 => exact rfl
  case k9 => first | exact rfl | (cases st <;> rfl)
theorem lx_posix (I : LexAt w s.heap x (lexD H Kk V sx q1 q2 wc st tok)) (h : Q (.bool true) { s with toks := s.toks + 1 }) :
    wpAny (model PySem.Challenge.rw_of0086_01.row.prog w) A (getAttr (.ref x) (Str.ofString "posix") expr) Q E s := by
  revert I
  unfold LexAt
  k_fill
  intro ⟨X, ox, I⟩
  refine' get_value X I (plainGet_of (name := Str.ofString "posix") ?k4).1 (findObj_own ?k5 ?k6 ?k7 ?k8) ?k9 h
  case k4 => k_is
  case k5 => k_is
  case k6 => k_is
  case k7 => k_is
  case k8 => exact rfl
  case k9 => first | exact rfl | (cases st <;> rfl)
theorem lx_quotes (I : LexAt w s.heap x (lexD H Kk V sx q1 q2 wc st tok)) (h : Q (.str (Str.ofString "'\"") (V 8)) { s with toks := s.toks + 1 }) :
    wpAny (model PySem.Challenge.rw_of0086_01.row.prog w) A (getAttr (.ref x) (Str.ofString "quotes") expr) Q E s := by
  revert I
  unfold LexAt
  k_fill
  intro ⟨X, ox, I⟩
  refine' get_value X I (plainGet_of (name := Str.ofString "quotes") ?k4).1 (findObj_own ?k5 ?k6 ?k7 ?k8) ?k9 h
  case k4 => k_is
  case k5 => k_is
  case k6 => k_is
  case k7 => k_is
  case k8 => exact rfl
  case k9 => first | exact rfl | (cases st <;> rfl)
theorem lx_whitespace (I : LexAt w s.heap x (lexD H Kk V sx q1 q2 wc st tok)) (h : Q (.str (Str.ofString " \t\r\n") (V 6)) { s with toks := s.toks + 1 }) :
    wpAny (model PySem.Challenge.rw_of0086_01.row.prog w) A (getAttr (.ref x) (Str.ofString "whitespace") expr) Q E s := by
  revert I
  unfold LexAt
  k_fill
  intro ⟨X, ox, I⟩
  refine' get_value X I (plainGet_of (name := Str.ofString "whitespace") ?k4).1 (findObj_own ?k5 ?k6 ?k7 ?k8) ?k9 h
  case k4 => k_is
  case k5 => k_is
  case k6 => k_is
  case k7 => k_is
  case k8 => exact rfl
  case k9 => first | exact rfl | (cases st <;> rfl)
theorem lx_commenters (I : LexAt w s.heap x (lexD H Kk V sx q1 q2 wc st tok)) (h : Q (.str (Str.ofString "") (V 4)) { s with toks := s.toks + 1 }) :
    wpAny (model PySem.Challenge.rw_of0086_01.row.prog w) A (getAttr (.ref x) (Str.ofString "commenters") expr) Q E s := by
  revert I
  unfold LexAt
  k_fill
  intro ⟨X, ox, I⟩
  refine' get_value X I (plainGet_of (name := Str.ofString "commenters") ?k4).1 (findObj_own ?k5 ?k6 ?k7 ?k8) ?k9 h
  case k4 => k_is
  case k5 => k_is
  case k6 => k_is
  case k7 => k_is
  case k8 => exact rfl
  case k9 => first | exact rfl | (cases st <;> rfl)
theorem lx_wordchars (I : LexAt w s.heap x (lexD H Kk V sx q1 q2 wc st tok)) (h : Q (.str wc (V 5)) { s with toks := s.toks + 1 }) :
    wpAny (model PySem.Challenge.rw_of0086_01.row.prog w) A (getAttr (.ref x) (Str.ofString "wordchars") expr) Q E s := by
  revert I
  unfold LexAt
  k_fill
  intro ⟨X, ox, I⟩
  refine' get_value X I (plainGet_of (name := Str.ofString "wordchars") ?k4).1 (findObj_own ?k5 ?k6 ?k7 ?k8) ?k9 h
  case k4 => k_is
  case k5 => k_is
  case k6 => k_is
  case k7 => k_is
  case k8 => exact rfl
  case k9 => first | exact rfl | (cases st <;> rfl)
theorem lx_escape (I : LexAt w s.heap x (lexD H Kk V sx q1 q2 wc st tok)) (h : Q (.str (Str.ofString "\\") (V 9)) { s with toks := s.toks + 1 }) :
    wpAny (model PySem.Challenge.rw_of0086_01.row.prog w) A (getAttr (.ref x) (Str.ofString "escape") expr) Q E s := by
  revert I
  unfold LexAt
  k_fill
  intro ⟨X, ox, I⟩
  refine' get_value X I (plainGet_of (name := Str.ofString "escape") ?k4).1 (findObj_own ?k5 ?k6 ?k7 ?k8) ?k9 h
  case k4 => k_is
  case k5 => k_is
  case k6 => k_is
  case k7 => k_is
  case k8 => exact rfl
  case k9 => first | exact rfl | (cases st <;> rfl)
theorem lx_escapedquotes (I : LexAt w s.heap x (lexD H Kk V sx q1 q2 wc st tok)) (h : Q (.str (Str.ofString "\"") (V 10)) { s with toks := s.toks + 1 }) :
    wpAny (model PySem.Challenge.rw_of0086_01.row.prog w) A (getAttr (.ref x) (Str.ofString "escapedquotes") expr) Q E s := by
  revert I
  unfold LexAt
  k_fill
  intro ⟨X, ox, I⟩
  refine' get_value X I (plainGet_of (name := Str.ofString "escapedquotes") ?k4).1 (findObj_own ?k5 ?k6 ?k7 ?k8) ?k9 h
  case k4 => k_is
  case k5 => k_is
  case k6 => k_is
  case k7 => k_is
  case k8 => exact rfl
  case k9 => first | exact rfl | (cases st <;> rfl)
theorem lx_whitespace_split (I : LexAt w s.heap x (lexD H Kk V sx q1 q2 wc st tok)) (h : Q (.bool true) { s with toks := s.toks + 1 }) :
    wpAny (model PySem.Challenge.rw_of0086_01.row.prog w) A (getAttr (.ref x) (Str.ofString "whitespace_split") expr) Q E s := by
  revert I
  unfold LexAt
  k_fill
  intro ⟨X, ox, I⟩
  refine' get_value X I (plainGet_of (name := Str.ofString "whitespace_split") ?k4).1 (findObj_own ?k5 ?k6 ?k7 ?k8) ?k9 h
  case k4 => k_is
  case k5 => k_is
  case k6 => k_is
  case k7 => k_is
  case k8 => exact rfl
  case k9 => first | exact rfl | (cases st <;> rfl)
theorem lx_punct {p : Program} {loose : List Str} {mean : ExcName → Option Value} {mg mb : Str → Option Value} {dp un : Nat} {gd : Option (List Code)} {cn : Str} {cs : Scope} {a L dx sdx : Addr} {ccd : Value} {cl : List (Str × Addr)} {outer : List Env} {A₀ : Around} {base g : Heap} {m : Str → Option Value} {so oq1 oq2 : Obj} {news : List (Addr × Obj)}
   (hB : Below A₀ base outer g) (hX : (Mine.hd.heap_1 w.params).In g) (hT : Top p loose mean mg mb g) (hcs : cs.kind = .function) (hd : dp + 8 < recursionLimit) (hu : un + 40 < cLine)
   (hF : Fr g L s.heap m) (hN : News g L s.heap ((sx, instObj 617 sdx) :: (sdx, so) :: (x, instObj 752 dx) :: (dx, lexD H Kk V sx q1 q2 wc st tok) :: (q1, oq1) :: (q2, oq2) :: news))
   (ret : ∀ h' tk', Fr g L h' m → News g L h' ((sx, instObj 617 sdx) :: (sdx, so) :: (x, instObj 752 dx) :: (dx, lexD H Kk V sx q1 q2 wc st tok) :: (q1, oq1) :: (q2, oq2) :: news) → Q (.str (Str.ofString "") (V 18)) { s with heap := h', toks := tk' }) :
   wpAny (model PySem.Challenge.rw_of0086_01.row.prog w) (ktrTop dp un gd cn cs L a ccd cl outer) (getAttr (.ref x) (Str.ofString "punctuation_chars") expr) Q E s := by
  revert hX
  k_fill
  intro hX
  refine wpAny_noRaise ?_
  k_with_none
  k_steps
  exact ret _ _ (by k_asm) (by k_asm)
end

end

section
/-! slices of texts, as lists -/
theorem sliceRange_up (a b : Nat) : sliceRange (a : Int) (b : Int) 1 = (List.range (b - a)).map fun k => a + k := by
  unfold sliceRange
  have e : (if (1 : Int) > 0 then (if (a : Int) < b then ((b : Int) - a + 1 - 1) / 1 else 0) else (if (a : Int) > b then ((a : Int) - b - 1 - 1) / (-1) else 0)).toNat = b - a := by
    rw [if_pos (by decide)]
    split
    · rw [Int.ediv_one]; lia
    · simp only [Int.toNat_zero]; lia
  dsimp only
  rw [e]
  apply List.map_congr_left
  intro k _
  lia
theorem pick_range (l : List Nat) (a n : Nat) (h : a + n ≤ l.length) : ((List.range n).map fun k => a + k).filterMap (fun i => l[i]?) = (l.drop a).take n := by
  induction n generalizing a with
  | zero => simp
  | succ n ih =>
    rw [List.range_succ_eq_map, List.map_cons, List.filterMap_cons]
    have h1 : a < l.length := by lia
    rw [List.drop_eq_getElem_cons h1, List.take_succ_cons, List.getElem?_eq_getElem (by simpa using h1)]
    simp only [Nat.add_zero]
    congr 1
    rw [← ih (a + 1) (by lia), List.map_map]
    congr 1
    apply List.map_congr_left
    intro k _
    simp only [Function.comp]
    lia
theorem Str.ext_list {x y : Str} (h : x.cps.toList = y.cps.toList) : x = y := by
  obtain ⟨x⟩ := x
  obtain ⟨y⟩ := y
  congr 1
  exact Array.ext' h
theorem slice_core (x : Str) (i j : Nat) (hij : i ≤ j) (hj : j ≤ x.length) :
    (if ((1 : Int) == 1 && (sliceRange (i : Int) (j : Int) 1).length == x.length) = true then x else ⟨((sliceRange (i : Int) (j : Int) 1).filterMap (x.cps[·]?)).toArray⟩ : Str) = ⟨((x.cps.toList.drop i).take (j - i)).toArray⟩ := by
  have hl : x.length = x.cps.toList.length := by simp [Str.length]
  rw [sliceRange_up]
  split
  · rename_i h
    simp only [beq_self_eq_true, Bool.true_and, List.length_map, List.length_range, beq_iff_eq] at h
    have hi : i = 0 := by lia
    have hjj : j = x.cps.toList.length := by lia
    subst hi
    apply Str.ext_list
    rw [hjj]
    simp only [List.drop_zero, Nat.sub_zero, List.take_length]
  · apply Str.ext_list
    have := pick_range x.cps.toList i (j - i) (by lia)
    simpa using this
theorem slice_mid (x : Str) (i j : Nat) (hij : i ≤ j) (hj : j ≤ x.length) : Txt.slice x (some (i : Int)) (some (j : Int)) = ⟨((x.cps.toList.drop i).take (j - i)).toArray⟩ := by
  rw [← slice_core x i j hij hj]
  have e : Builtin.Str.strSliceIndices (some (i : Int)) (some (j : Int)) 1 x.length = sliceRange (i : Int) (j : Int) 1 := by
    unfold Builtin.Str.strSliceIndices
    dsimp only
    have h1 : ((1 : Int) > 0) = True := by simp
    have h2 : ((i : Int) < 0) = False := by simp
    have h3 : ((j : Int) < 0) = False := by simp
    simp only [h1, h2, h3, if_true, if_false]
    congr 1 <;> lia
  unfold Txt.slice
  rw [e]
theorem slice_to (x : Str) (j : Nat) (hj : j ≤ x.length) : Txt.slice x none (some (j : Int)) = ⟨(x.cps.toList.take j).toArray⟩ := by
  have := slice_core x 0 j (Nat.zero_le _) hj
  rw [List.drop_zero, Nat.sub_zero] at this
  rw [← this]
  have e : Builtin.Str.strSliceIndices none (some (j : Int)) 1 x.length = sliceRange ((0 : Nat) : Int) (j : Int) 1 := by
    unfold Builtin.Str.strSliceIndices
    dsimp only
    have h1 : ((1 : Int) > 0) = True := by simp
    have h3 : ((j : Int) < 0) = False := by simp
    simp only [h1, h3, if_true, if_false]
    congr 1 <;> lia
  unfold Txt.slice
  rw [e]
theorem slice_from (x : Str) (i : Nat) (hi : i ≤ x.length) : Txt.slice x (some (i : Int)) none = ⟨(x.cps.toList.drop i).toArray⟩ := by
  have := slice_core x i x.length hi (Nat.le_refl _)
  have hl : x.length = x.cps.toList.length := by simp [Str.length]
  rw [List.take_of_length_le (by simp [hl])] at this
  rw [← this]
  have e : Builtin.Str.strSliceIndices (some (i : Int)) none 1 x.length = sliceRange (i : Int) ((x.length : Nat) : Int) 1 := by
    unfold Builtin.Str.strSliceIndices
    dsimp only
    have h1 : ((1 : Int) > 0) = True := by simp
    have h3 : ((i : Int) < 0) = False := by simp
    simp only [h1, h3, if_true, if_false]
    congr 1 <;> lia
  unfold Txt.slice
  rw [e]
theorem slice_one (x : Str) (i c : Nat) (r : List Nat) (h : x.cps.toList.drop i = c :: r) : Txt.slice x (some (i : Int)) (some ((i : Int) + 1)) = ⟨#[c]⟩ := by
  have hl : x.length = x.cps.toList.length := by simp [Str.length]
  have h1 : i < x.cps.toList.length := by
    apply Nat.lt_of_not_le
    intro q
    rw [List.drop_eq_nil_of_le q] at h
    cases h
  have := slice_mid x i (i + 1) (Nat.le_succ _) (by lia)
  rw [show ((i + 1 : Nat) : Int) = (i : Int) + 1 by lia] at this
  rw [this, h]
  simp

end
local macro_rules | `(tactic| walk_at "getAttr ref") => `(tactic| (with_reducible (first
  | refine lx_state (by assumption) ?_ | refine lx_quotes (by assumption) ?_ | refine lx_whitespace (by assumption) ?_ | refine lx_commenters (by assumption) ?_ | refine lx_posix (by assumption) ?_ | refine lx_escape (by assumption) ?_
  | refine lx_wordchars (by assumption) ?_ | refine lx_debug (by assumption) ?_ | refine lx_token (by assumption) ?_ | refine lx_whitespace_split (by assumption) ?_ | refine lx_escapedquotes (by assumption) ?_ | refine lx_instream (by assumption) ?_
  | (refine lx_punct (by assumption) (by assumption) (by assumption) rfl (Nat.lt_of_le_of_lt (Nat.add_le_add_left (Nat.le_of_ble_eq_true rfl) _) (by assumption)) (Nat.lt_of_le_of_lt (Nat.add_le_add_left (Nat.le_of_ble_eq_true rfl) _) (by assumption)) (by assumption) (by assumption) ?_; intro h9 tk9 F9 N9; k_dflt (have LA9 := LexAt.of (by assumption) F9 N9 (.tail _ (.tail _ (.head _))) (.tail _ (.tail _ (.tail _ (.head _))))); (try k_sweep)))))

section
section
variable {prog : Program} {w : World} {A : Around} {s : Shared} {env : Env} {Q : Flow → Shared → Prop} {E : Value → Shared → Prop}
/-- what is left of a list of statements behind the first one's end -/
def After (prog : Program) (w : World) (A : Around) (env : Env) (rest : List Stmt) (Q : Flow → Shared → Prop) (E : Value → Shared → Prop) (f : Flow) (s : Shared) : Prop :=
  match f with
  | .next => wpAny (model prog w) A (execs rest env) Q E s
  | f => Q f s
theorem execs_after {a : Stmt} {rest : List Stmt} (h : wpAny (model prog w) A (exec a env) (After prog w A env rest Q E) E s) : wpAny (model prog w) A (execs (a :: rest) env) Q E s :=
  wpAny_execs_cons h
theorem whl_out {T F : Prop} (h : WhlIf true T F) : T := by
  unfold WhlIf at h
  rw [if_pos rfl] at h
  exact h
theorem first3 {test : PySem.Expr} {a : Stmt} {rest : List Stmt} {N : Shared → Prop} (h : wpAny (model prog w) A (isTrue test env (eval test env)) (fun b s₂ => WhlIf b (wpAny (model prog w) A (exec a env) (After prog w A env rest Q E) E s₂) (N s₂)) E s) :
    wpAny (model prog w) A (isTrue test env (eval test env)) (fun b s₂ => WhlIf b (wpAny (model prog w) A (execs (a :: rest) env) Q E s₂) (N s₂)) E s :=
  wpAny_mono h (fun b s₂ h₂ => by cases b with
    | false => exact h₂
    | true => exact WhlIf.yes rfl (execs_after (whl_out h₂))) fun _ _ x => x
end
def rtRest (fd : FuncData) : List Stmt := match rtBody fd with
  | _ :: _ :: _ :: r => r
  | _ => []
/-- behind the first three statements of a turn: the sign c has been read -/
def AtMid (g : Heap) (L x dx sx sdx q1 q2 : Addr) (oq1 oq2 : Obj) (news : List (Addr × Obj)) (wc b : Str) (st : St) (q : Bool) (e : St) (tok : Str) (pos : Int) (c : Str) (h : Heap) : Prop :=
  ∃ te o so t, Fr g L h (rtLocals x q (e.val te) [(Str.ofString "nextchar", Value.str c t)]) ∧ LexD o sx q1 q2 wc st tok ∧ SioD so b pos ∧
    News g L h ((sx, instObj 617 sdx) :: (sdx, so) :: (x, instObj 752 dx) :: (dx, o) :: (q1, oq1) :: (q2, oq2) :: news)
section
variable {w : World} {p : Program} {loose : List Str} {mean : ExcName → Option Value} {mg mb : Str → Option Value}
theorem turn_char {st : St} {Q : Flow → Shared → Prop} {dp un : Nat} {gd : Option (List Code)} {outer : List Env} {A₀ : Around} {base g : Heap} {fd : FuncData} {L x dx sx sdx q1 q2 : Addr} {oq1 oq2 : Obj} {news : List (Addr × Obj)} {wc b : Str} {q : Bool} {e : St} {tok : Str} {pos : Int} {s : Shared}
   (hfd : fnAt (Mine.hd.heap_1 w.params) 720 = some fd) (hB : Below A₀ base outer g) (hX : (Mine.hd.heap_1 w.params).In g) (hT : Top p loose mean mg mb g) (hd : dp + 10 < recursionLimit) (hu : un + 50 < cLine)
   (hA : LexAddrs x dx sx sdx q1 q2 news)
   (hpos : 0 ≤ pos) (hb : b.length ≤ 10000)
   (c : Str) (f0 : (c == Str.ofString "\n") = false) (hlt : pos < b.length) (hch : Txt.slice b (some pos) (some (pos + 1)) = c)
   (H : AtLoop g L x dx sx sdx q1 q2 oq1 oq2 news wc b st q e tok pos s.heap)
   (next : ∀ h' tk', AtMid g L x dx sx sdx q1 q2 oq1 oq2 news wc b st q e tok (pos + 1) c h' → wpAny (model PySem.Challenge.rw_of0086_01.row.prog w) (ktrTop dp un gd fd.qualname fd.scope L 720 fd.code [] outer) (execs (rtRest fd) (envOf fd.qualname fd.scope L 720 fd.code)) (LP PySem.Challenge.rw_of0086_01.row.prog w (ktrTop dp un gd fd.qualname fd.scope L 720 fd.code [] outer) (envOf fd.qualname fd.scope L 720 fd.code) (rtTest fd) (rtBody fd) [] Q) (fun _ _ => False) { s with heap := h', toks := tk' }) :
   LR PySem.Challenge.rw_of0086_01.row.prog w (ktrTop dp un gd fd.qualname fd.scope L 720 fd.code [] outer) (envOf fd.qualname fd.scope L 720 fd.code) (rtTest fd) (rtBody fd) [] Q s := by
  revert hfd
  k_fill
  intro hfd
  refine' (fun (e9 : fd = _) => ?main9) (Option.some.inj (hfd.symm.trans (fnAt_of ?hl9)))
  case hl9 => k_dflt k_is
  subst e9
  clear hfd
  refine hideG ?_
  intro G9
  obtain ⟨a1, a2, a3, a4, a5, a6, a7⟩ := hA
  obtain ⟨nxl, te, o, so, hnx, F, ⟨Hh, Kk, V, rfl⟩, ⟨h1, h2, h3, k1, k2, k3, nl, ntk, btk, ptk, rfl⟩, N⟩ := H
  k_unfold
  have LA := LexAt.of hX F N (.tail _ (.tail _ (.head _))) (.tail _ (.tail _ (.tail _ (.head _))))
  dsimp only [rtTest, rtRest, rtBody] at next ⊢
  have hoff : ∀ r ∈ (x, instObj 752 dx) :: (dx, lexD Hh Kk V sx q1 q2 wc st tok) :: (q1, oq1) :: (q2, oq2) :: news, r.1 ≠ sdx := by walk_at "my alls"
  k_with_none
  k_with "my eq" => (first | refine eq_known (by assumption) ?_ | refine eq_known (b := true) (by decide +kernel) ?_ | refine eq_known (b := false) (by decide +kernel) ?_)
  k_with "my ne" => (first | refine ne_known (by assumption) ?_ | refine ne_known (b := true) (by decide +kernel) ?_ | refine ne_known (b := false) (by decide +kernel) ?_)
  k_with "my in" => (first | refine in_known (by assumption) ?_ | refine in_known (b := true) (by decide +kernel) ?_ | refine in_known (b := false) (by decide +kernel) ?_)
  k_with "my notin" => (first | refine notin_known (by assumption) ?_ | refine notin_known (b := true) (by decide +kernel) ?_ | refine notin_known (b := false) (by decide +kernel) ?_)
  k_with "my truthy" => (refine truthy_known (by assumption) (by assumption) ?_)
  k_with "my call" => (k_dflt (refine' Spec.use (read_char _ hpos hb hlt hch a3 hoff) ?r1 ?r2 ?r3 ?r4 ?r5 ?r6 ?r7 ?r8 ?_; (case r1 => k_asm); (case r2 => k_asm); (case r3 => k_asm); (case r4 => k_asm); (case r5 => k_asm); (case r6 => exact rfl); (case r7 => omega); (case r8 => omega)); intro v9' n9' h9' tk9' F9' N9' P9'; refine hideG ?_; intro G9; obtain ⟨t9', p9', rfl, rfl⟩ := P9'; k_unfold; (try k_sweep); (try dsimp only); (try k_fold))
  refine lr_turn ?_
  refine first3 ?_
  k_steps
  unfold After
  dsimp only
  refine execs_after ?_
  k_steps
  unfold After
  dsimp only
  refine execs_after ?_
  k_steps
  unfold After
  refine' next _ _ ⟨te, _, _, t9', Fr.ext' ?F0 ?e0, ?D0, ?S0, ?N0⟩
  case N0 => first | k_asm | exact news_tail (by k_asm)
  case F0 => k_asm
  case D0 => exact ⟨Hh, Kk, V, rfl⟩
  case S0 => exact ⟨_, _, _, _, _, _, _, _, _, _, rfl⟩
  case e0 => exact rtl_all (q := q) (ev := St.val e te) hnx rfl rfl rfl rfl (by intro y n1 n2 n3 n4; simp only [n1, n2, n3, n4, if_false])
theorem turn_end {st : St} {Q : Flow → Shared → Prop} {dp un : Nat} {gd : Option (List Code)} {outer : List Env} {A₀ : Around} {base g : Heap} {fd : FuncData} {L x dx sx sdx q1 q2 : Addr} {oq1 oq2 : Obj} {news : List (Addr × Obj)} {wc b : Str} {q : Bool} {e : St} {tok : Str} {pos : Int} {s : Shared}
   (hfd : fnAt (Mine.hd.heap_1 w.params) 720 = some fd) (hB : Below A₀ base outer g) (hX : (Mine.hd.heap_1 w.params).In g) (hT : Top p loose mean mg mb g) (hd : dp + 10 < recursionLimit) (hu : un + 50 < cLine)
   (hA : LexAddrs x dx sx sdx q1 q2 news)
   (hpos : 0 ≤ pos) (hb : b.length ≤ 10000)
   (hlt : ¬ pos < b.length)
   (H : AtLoop g L x dx sx sdx q1 q2 oq1 oq2 news wc b st q e tok pos s.heap)
   (next : ∀ h' tk', AtMid g L x dx sx sdx q1 q2 oq1 oq2 news wc b st q e tok pos (Str.ofString "") h' → wpAny (model PySem.Challenge.rw_of0086_01.row.prog w) (ktrTop dp un gd fd.qualname fd.scope L 720 fd.code [] outer) (execs (rtRest fd) (envOf fd.qualname fd.scope L 720 fd.code)) (LP PySem.Challenge.rw_of0086_01.row.prog w (ktrTop dp un gd fd.qualname fd.scope L 720 fd.code [] outer) (envOf fd.qualname fd.scope L 720 fd.code) (rtTest fd) (rtBody fd) [] Q) (fun _ _ => False) { s with heap := h', toks := tk' }) :
   LR PySem.Challenge.rw_of0086_01.row.prog w (ktrTop dp un gd fd.qualname fd.scope L 720 fd.code [] outer) (envOf fd.qualname fd.scope L 720 fd.code) (rtTest fd) (rtBody fd) [] Q s := by
  revert hfd
  k_fill
  intro hfd
  refine' (fun (e9 : fd = _) => ?main9) (Option.some.inj (hfd.symm.trans (fnAt_of ?hl9)))
  case hl9 => k_dflt k_is
  subst e9
  clear hfd
  refine hideG ?_
  intro G9
  obtain ⟨a1, a2, a3, a4, a5, a6, a7⟩ := hA
  obtain ⟨nxl, te, o, so, hnx, F, ⟨Hh, Kk, V, rfl⟩, ⟨h1, h2, h3, k1, k2, k3, nl, ntk, btk, ptk, rfl⟩, N⟩ := H
  k_unfold
  have LA := LexAt.of hX F N (.tail _ (.tail _ (.head _))) (.tail _ (.tail _ (.tail _ (.head _))))
  dsimp only [rtTest, rtRest, rtBody] at next ⊢
  have hoff : ∀ r ∈ (x, instObj 752 dx) :: (dx, lexD Hh Kk V sx q1 q2 wc st tok) :: (q1, oq1) :: (q2, oq2) :: news, r.1 ≠ sdx := by walk_at "my alls"
  k_with_none
  k_with "my eq" => (first | refine eq_known (by assumption) ?_ | refine eq_known (b := true) (by decide +kernel) ?_ | refine eq_known (b := false) (by decide +kernel) ?_)
  k_with "my ne" => (first | refine ne_known (by assumption) ?_ | refine ne_known (b := true) (by decide +kernel) ?_ | refine ne_known (b := false) (by decide +kernel) ?_)
  k_with "my in" => (first | refine in_known (by assumption) ?_ | refine in_known (b := true) (by decide +kernel) ?_ | refine in_known (b := false) (by decide +kernel) ?_)
  k_with "my notin" => (first | refine notin_known (by assumption) ?_ | refine notin_known (b := true) (by decide +kernel) ?_ | refine notin_known (b := false) (by decide +kernel) ?_)
  k_with "my truthy" => (refine truthy_known (by assumption) (by assumption) ?_)
  k_with "my call" => (k_dflt (refine' Spec.use (read_eof hpos hb hlt a3 hoff) ?r1 ?r2 ?r3 ?r4 ?r5 ?r6 ?r7 ?r8 ?_; (case r1 => k_asm); (case r2 => k_asm); (case r3 => k_asm); (case r4 => k_asm); (case r5 => k_asm); (case r6 => exact rfl); (case r7 => omega); (case r8 => omega)); intro v9' n9' h9' tk9' F9' N9' P9'; refine hideG ?_; intro G9; obtain ⟨t9', rfl, rfl⟩ := P9'; k_unfold; (try k_sweep); (try dsimp only); (try k_fold))
  refine lr_turn ?_
  refine first3 ?_
  k_steps
  unfold After
  dsimp only
  refine execs_after ?_
  k_steps
  unfold After
  dsimp only
  refine execs_after ?_
  k_steps
  unfold After
  refine' next _ _ ⟨te, _, _, t9', Fr.ext' ?F0 ?e0, ?D0, ?S0, ?N0⟩
  case N0 => first | k_asm | exact news_tail (by k_asm)
  case F0 => k_asm
  case D0 => exact ⟨Hh, Kk, V, rfl⟩
  case S0 => exact ⟨_, _, _, _, _, _, _, _, _, _, rfl⟩
  case e0 => exact rtl_all (q := q) (ev := St.val e te) hnx rfl rfl rfl rfl (by intro y n1 n2 n3 n4; simp only [n1, n2, n3, n4, if_false])
end

end

section
section
variable {w : World} {p : Program} {loose : List Str} {mean : ExcName → Option Value} {mg mb : Str → Option Value}
theorem turnm_sq_other {K : Flow → Shared → Prop} {dp un : Nat} {gd : Option (List Code)} {outer : List Env} {A₀ : Around} {base g : Heap} {fd : FuncData} {L x dx sx sdx q1 q2 : Addr} {oq1 oq2 : Obj} {news : List (Addr × Obj)} {wc b : Str} {q : Bool} {e : St} {tok : Str} {pos : Int} {s : Shared}
   (hfd : fnAt (Mine.hd.heap_1 w.params) 720 = some fd) (hB : Below A₀ base outer g) (hX : (Mine.hd.heap_1 w.params).In g) (hT : Top p loose mean mg mb g) (hd : dp + 10 < recursionLimit) (hu : un + 50 < cLine)
   (hA : LexAddrs x dx sx sdx q1 q2 news)
   (htok : tok.length ≤ 10000)
   (c : Str) (hc1 : c.length = 1)
   (f0 : (c == Str.ofString "\n") = false)
   (f1 : (c == Str.ofString "'") = false)
   (f2 : Txt.contains (Str.ofString "\\") c = false)
   (H : AtMid g L x dx sx sdx q1 q2 oq1 oq2 news wc b .sq q e tok pos c s.heap)
   (next : ∀ h' tk', AtLoop g L x dx sx sdx q1 q2 oq1 oq2 news wc b .sq true e (tok ++ c) pos h' → K .next { s with heap := h', toks := tk' }) :
   wpAny (model PySem.Challenge.rw_of0086_01.row.prog w) (ktrTop dp un gd fd.qualname fd.scope L 720 fd.code [] outer) (execs (rtRest fd) (envOf fd.qualname fd.scope L 720 fd.code)) K (fun _ _ => False) s := by
  revert hfd
  k_fill
  intro hfd
  refine' (fun (e9 : fd = _) => ?main9) (Option.some.inj (hfd.symm.trans (fnAt_of ?hl9)))
  case hl9 => k_dflt k_is
  subst e9
  clear hfd
  refine hideG ?_
  intro G9
  obtain ⟨a1, a2, a3, a4, a5, a6, a7⟩ := hA
  obtain ⟨te, o, so, t9', F, ⟨Hh, Kk, V, rfl⟩, Hso, N⟩ := H
  k_unfold
  have LA := LexAt.of hX F N (.tail _ (.tail _ (.head _))) (.tail _ (.tail _ (.tail _ (.head _))))
  dsimp only [rtRest, rtBody]
  have hct : ((c.length : Int) != 0) = true := by rw [hc1]; rfl
  have hc5 : c.length ≤ 10000000 := by omega
  have htk5 : tok.length ≤ 10000000 := by omega
  k_with_none
  k_with "my eq" => (first | refine eq_known (by assumption) ?_ | refine eq_known (b := true) (by decide +kernel) ?_ | refine eq_known (b := false) (by decide +kernel) ?_)
  k_with "my ne" => (first | refine ne_known (by assumption) ?_ | refine ne_known (b := true) (by decide +kernel) ?_ | refine ne_known (b := false) (by decide +kernel) ?_)
  k_with "my in" => (first | refine in_known (by assumption) ?_ | refine in_known (b := true) (by decide +kernel) ?_ | refine in_known (b := false) (by decide +kernel) ?_)
  k_with "my notin" => (first | refine notin_known (by assumption) ?_ | refine notin_known (b := true) (by decide +kernel) ?_ | refine notin_known (b := false) (by decide +kernel) ?_)
  k_with "my truthy" => (refine truthy_known (by assumption) (by assumption) ?_)
  k_steps
  · refine' next _ _ ⟨[(Str.ofString "nextchar", Value.str c t9')], te, _, _, .inr ⟨_, rfl⟩, Fr.ext' ?F0 ?e0, ?D0, Hso, ?N0⟩
    case N0 => first | k_asm | exact news_tail (by k_asm)
    case F0 => k_asm
    case D0 => exact ⟨Hh, Kk, fun i => if i = 11 then _ else if i = 15 then _ else V i, rfl⟩
    case e0 => exact rtl_all (nxl := [(Str.ofString "nextchar", Value.str c t9')]) (q := q) (ev := St.val e te) (.inr ⟨_, rfl⟩) rfl rfl rfl rfl (by intro y n1 n2 n3 n4; first | rfl | simp only [n1, n2, n3, n4, if_false])
theorem turn_sq_other {dp un : Nat} {gd : Option (List Code)} {outer : List Env} {A₀ : Around} {base g : Heap} {fd : FuncData} {L x dx sx sdx q1 q2 : Addr} {oq1 oq2 : Obj} {news : List (Addr × Obj)} {wc b : Str} {q : Bool} {e : St} {tok : Str} {pos : Int} {s : Shared} {Q : Flow → Shared → Prop}
   (hfd : fnAt (Mine.hd.heap_1 w.params) 720 = some fd) (hB : Below A₀ base outer g) (hX : (Mine.hd.heap_1 w.params).In g) (hT : Top p loose mean mg mb g) (hd : dp + 10 < recursionLimit) (hu : un + 50 < cLine)
   (hA : LexAddrs x dx sx sdx q1 q2 news)
   (hpos : 0 ≤ pos) (hb : b.length ≤ 10000)
   (htok : tok.length ≤ 10000)
   (c : Str) (hc1 : c.length = 1)
   (hlt : pos < b.length) (hch : Txt.slice b (some pos) (some (pos + 1)) = c)
   (f0 : (c == Str.ofString "\n") = false)
   (f1 : (c == Str.ofString "'") = false)
   (f2 : Txt.contains (Str.ofString "\\") c = false)
   (H : AtLoop g L x dx sx sdx q1 q2 oq1 oq2 news wc b .sq q e tok pos s.heap)
   (next : ∀ h' tk', AtLoop g L x dx sx sdx q1 q2 oq1 oq2 news wc b .sq true e (tok ++ c) (pos + 1) h' → LR PySem.Challenge.rw_of0086_01.row.prog w (ktrTop dp un gd fd.qualname fd.scope L 720 fd.code [] outer) (envOf fd.qualname fd.scope L 720 fd.code) (rtTest fd) (rtBody fd) [] Q { s with heap := h', toks := tk' }) :
   LR PySem.Challenge.rw_of0086_01.row.prog w (ktrTop dp un gd fd.qualname fd.scope L 720 fd.code [] outer) (envOf fd.qualname fd.scope L 720 fd.code) (rtTest fd) (rtBody fd) [] Q s :=
  turn_char hfd hB hX hT hd hu hA hpos hb _ f0 hlt hch H fun h' tk' M => turnm_sq_other (e := e) hfd hB hX hT hd hu hA htok c hc1 f0 f1 f2 M fun h'' tk'' R => next h'' tk'' R
theorem turnm_sq_bs {K : Flow → Shared → Prop} {dp un : Nat} {gd : Option (List Code)} {outer : List Env} {A₀ : Around} {base g : Heap} {fd : FuncData} {L x dx sx sdx q1 q2 : Addr} {oq1 oq2 : Obj} {news : List (Addr × Obj)} {wc b : Str} {q : Bool} {e : St} {tok : Str} {pos : Int} {s : Shared}
   (hfd : fnAt (Mine.hd.heap_1 w.params) 720 = some fd) (hB : Below A₀ base outer g) (hX : (Mine.hd.heap_1 w.params).In g) (hT : Top p loose mean mg mb g) (hd : dp + 10 < recursionLimit) (hu : un + 50 < cLine)
   (hA : LexAddrs x dx sx sdx q1 q2 news)
   (htok : tok.length ≤ 10000)
   (H : AtMid g L x dx sx sdx q1 q2 oq1 oq2 news wc b .sq q e tok pos (Str.ofString "\\") s.heap)
   (next : ∀ h' tk', AtLoop g L x dx sx sdx q1 q2 oq1 oq2 news wc b .sq true e (tok ++ Str.ofString "\\") pos h' → K .next { s with heap := h', toks := tk' }) :
   wpAny (model PySem.Challenge.rw_of0086_01.row.prog w) (ktrTop dp un gd fd.qualname fd.scope L 720 fd.code [] outer) (execs (rtRest fd) (envOf fd.qualname fd.scope L 720 fd.code)) K (fun _ _ => False) s := by
  revert hfd
  k_fill
  intro hfd
  refine' (fun (e9 : fd = _) => ?main9) (Option.some.inj (hfd.symm.trans (fnAt_of ?hl9)))
  case hl9 => k_dflt k_is
  subst e9
  clear hfd
  refine hideG ?_
  intro G9
  obtain ⟨a1, a2, a3, a4, a5, a6, a7⟩ := hA
  obtain ⟨te, o, so, t9', F, ⟨Hh, Kk, V, rfl⟩, Hso, N⟩ := H
  k_unfold
  have LA := LexAt.of hX F N (.tail _ (.tail _ (.head _))) (.tail _ (.tail _ (.tail _ (.head _))))
  dsimp only [rtRest, rtBody]
  have htk5 : tok.length ≤ 10000000 := by omega
  k_with_none
  k_with "my eq" => (first | refine eq_known (by assumption) ?_ | refine eq_known (b := true) (by decide +kernel) ?_ | refine eq_known (b := false) (by decide +kernel) ?_)
  k_with "my ne" => (first | refine ne_known (by assumption) ?_ | refine ne_known (b := true) (by decide +kernel) ?_ | refine ne_known (b := false) (by decide +kernel) ?_)
  k_with "my in" => (first | refine in_known (by assumption) ?_ | refine in_known (b := true) (by decide +kernel) ?_ | refine in_known (b := false) (by decide +kernel) ?_)
  k_with "my notin" => (first | refine notin_known (by assumption) ?_ | refine notin_known (b := true) (by decide +kernel) ?_ | refine notin_known (b := false) (by decide +kernel) ?_)
  k_with "my truthy" => (refine truthy_known (by assumption) (by assumption) ?_)
  k_steps
  · refine' next _ _ ⟨[(Str.ofString "nextchar", Value.str (Str.ofString "\\") t9')], te, _, _, .inr ⟨_, rfl⟩, Fr.ext' ?F0 ?e0, ?D0, Hso, ?N0⟩
    case N0 => first | k_asm | exact news_tail (by k_asm)
    case F0 => k_asm
    case D0 => exact ⟨Hh, Kk, fun i => if i = 11 then _ else if i = 15 then _ else V i, rfl⟩
    case e0 => exact rtl_all (nxl := [(Str.ofString "nextchar", Value.str (Str.ofString "\\") t9')]) (q := q) (ev := St.val e te) (.inr ⟨_, rfl⟩) rfl rfl rfl rfl (by intro y n1 n2 n3 n4; first | rfl | simp only [n1, n2, n3, n4, if_false])
theorem turn_sq_bs {dp un : Nat} {gd : Option (List Code)} {outer : List Env} {A₀ : Around} {base g : Heap} {fd : FuncData} {L x dx sx sdx q1 q2 : Addr} {oq1 oq2 : Obj} {news : List (Addr × Obj)} {wc b : Str} {q : Bool} {e : St} {tok : Str} {pos : Int} {s : Shared} {Q : Flow → Shared → Prop}
   (hfd : fnAt (Mine.hd.heap_1 w.params) 720 = some fd) (hB : Below A₀ base outer g) (hX : (Mine.hd.heap_1 w.params).In g) (hT : Top p loose mean mg mb g) (hd : dp + 10 < recursionLimit) (hu : un + 50 < cLine)
   (hA : LexAddrs x dx sx sdx q1 q2 news)
   (hpos : 0 ≤ pos) (hb : b.length ≤ 10000)
   (htok : tok.length ≤ 10000)
   (hlt : pos < b.length) (hch : Txt.slice b (some pos) (some (pos + 1)) = (Str.ofString "\\"))
   (H : AtLoop g L x dx sx sdx q1 q2 oq1 oq2 news wc b .sq q e tok pos s.heap)
   (next : ∀ h' tk', AtLoop g L x dx sx sdx q1 q2 oq1 oq2 news wc b .sq true e (tok ++ Str.ofString "\\") (pos + 1) h' → LR PySem.Challenge.rw_of0086_01.row.prog w (ktrTop dp un gd fd.qualname fd.scope L 720 fd.code [] outer) (envOf fd.qualname fd.scope L 720 fd.code) (rtTest fd) (rtBody fd) [] Q { s with heap := h', toks := tk' }) :
   LR PySem.Challenge.rw_of0086_01.row.prog w (ktrTop dp un gd fd.qualname fd.scope L 720 fd.code [] outer) (envOf fd.qualname fd.scope L 720 fd.code) (rtTest fd) (rtBody fd) [] Q s :=
  turn_char hfd hB hX hT hd hu hA hpos hb _ (by decide +kernel) hlt hch H fun h' tk' M => turnm_sq_bs (e := e) hfd hB hX hT hd hu hA htok  M fun h'' tk'' R => next h'' tk'' R
theorem turnm_sq_sq {K : Flow → Shared → Prop} {dp un : Nat} {gd : Option (List Code)} {outer : List Env} {A₀ : Around} {base g : Heap} {fd : FuncData} {L x dx sx sdx q1 q2 : Addr} {oq1 oq2 : Obj} {news : List (Addr × Obj)} {wc b : Str} {q : Bool} {e : St} {tok : Str} {pos : Int} {s : Shared}
   (hfd : fnAt (Mine.hd.heap_1 w.params) 720 = some fd) (hB : Below A₀ base outer g) (hX : (Mine.hd.heap_1 w.params).In g) (hT : Top p loose mean mg mb g) (hd : dp + 10 < recursionLimit) (hu : un + 50 < cLine)
   (hA : LexAddrs x dx sx sdx q1 q2 news)
   (htok : tok.length ≤ 10000)
   (H : AtMid g L x dx sx sdx q1 q2 oq1 oq2 news wc b .sq q e tok pos (Str.ofString "'") s.heap)
   (next : ∀ h' tk', AtLoop g L x dx sx sdx q1 q2 oq1 oq2 news wc b .a true e tok pos h' → K .next { s with heap := h', toks := tk' }) :
   wpAny (model PySem.Challenge.rw_of0086_01.row.prog w) (ktrTop dp un gd fd.qualname fd.scope L 720 fd.code [] outer) (execs (rtRest fd) (envOf fd.qualname fd.scope L 720 fd.code)) K (fun _ _ => False) s := by
  revert hfd
  k_fill
  intro hfd
  refine' (fun (e9 : fd = _) => ?main9) (Option.some.inj (hfd.symm.trans (fnAt_of ?hl9)))
  case hl9 => k_dflt k_is
  subst e9
  clear hfd
  refine hideG ?_
  intro G9
  obtain ⟨a1, a2, a3, a4, a5, a6, a7⟩ := hA
  obtain ⟨te, o, so, t9', F, ⟨Hh, Kk, V, rfl⟩, Hso, N⟩ := H
  k_unfold
  have LA := LexAt.of hX F N (.tail _ (.tail _ (.head _))) (.tail _ (.tail _ (.tail _ (.head _))))
  dsimp only [rtRest, rtBody]
  have htk5 : tok.length ≤ 10000000 := by omega
  k_with_none
  k_with "my eq" => (first | refine eq_known (by assumption) ?_ | refine eq_known (b := true) (by decide +kernel) ?_ | refine eq_known (b := false) (by decide +kernel) ?_)
  k_with "my ne" => (first | refine ne_known (by assumption) ?_ | refine ne_known (b := true) (by decide +kernel) ?_ | refine ne_known (b := false) (by decide +kernel) ?_)
  k_with "my in" => (first | refine in_known (by assumption) ?_ | refine in_known (b := true) (by decide +kernel) ?_ | refine in_known (b := false) (by decide +kernel) ?_)
  k_with "my notin" => (first | refine notin_known (by assumption) ?_ | refine notin_known (b := true) (by decide +kernel) ?_ | refine notin_known (b := false) (by decide +kernel) ?_)
  k_with "my truthy" => (refine truthy_known (by assumption) (by assumption) ?_)
  k_steps
  · refine' next _ _ ⟨[(Str.ofString "nextchar", Value.str (Str.ofString "'") t9')], te, _, _, .inr ⟨_, rfl⟩, Fr.ext' ?F0 ?e0, ?D0, Hso, ?N0⟩
    case N0 => first | k_asm | exact news_tail (by k_asm)
    case F0 => k_asm
    case D0 => exact ⟨Hh, Kk, fun i => if i = 11 then _ else if i = 15 then _ else V i, rfl⟩
    case e0 => exact rtl_all (nxl := [(Str.ofString "nextchar", Value.str (Str.ofString "'") t9')]) (q := q) (ev := St.val e te) (.inr ⟨_, rfl⟩) rfl rfl rfl rfl (by intro y n1 n2 n3 n4; first | rfl | simp only [n1, n2, n3, n4, if_false])
theorem turn_sq_sq {dp un : Nat} {gd : Option (List Code)} {outer : List Env} {A₀ : Around} {base g : Heap} {fd : FuncData} {L x dx sx sdx q1 q2 : Addr} {oq1 oq2 : Obj} {news : List (Addr × Obj)} {wc b : Str} {q : Bool} {e : St} {tok : Str} {pos : Int} {s : Shared} {Q : Flow → Shared → Prop}
   (hfd : fnAt (Mine.hd.heap_1 w.params) 720 = some fd) (hB : Below A₀ base outer g) (hX : (Mine.hd.heap_1 w.params).In g) (hT : Top p loose mean mg mb g) (hd : dp + 10 < recursionLimit) (hu : un + 50 < cLine)
   (hA : LexAddrs x dx sx sdx q1 q2 news)
   (hpos : 0 ≤ pos) (hb : b.length ≤ 10000)
   (htok : tok.length ≤ 10000)
   (hlt : pos < b.length) (hch : Txt.slice b (some pos) (some (pos + 1)) = (Str.ofString "'"))
   (H : AtLoop g L x dx sx sdx q1 q2 oq1 oq2 news wc b .sq q e tok pos s.heap)
   (next : ∀ h' tk', AtLoop g L x dx sx sdx q1 q2 oq1 oq2 news wc b .a true e tok (pos + 1) h' → LR PySem.Challenge.rw_of0086_01.row.prog w (ktrTop dp un gd fd.qualname fd.scope L 720 fd.code [] outer) (envOf fd.qualname fd.scope L 720 fd.code) (rtTest fd) (rtBody fd) [] Q { s with heap := h', toks := tk' }) :
   LR PySem.Challenge.rw_of0086_01.row.prog w (ktrTop dp un gd fd.qualname fd.scope L 720 fd.code [] outer) (envOf fd.qualname fd.scope L 720 fd.code) (rtTest fd) (rtBody fd) [] Q s :=
  turn_char hfd hB hX hT hd hu hA hpos hb _ (by decide +kernel) hlt hch H fun h' tk' M => turnm_sq_sq (e := e) hfd hB hX hT hd hu hA htok  M fun h'' tk'' R => next h'' tk'' R
theorem turnm_dq_other {K : Flow → Shared → Prop} {dp un : Nat} {gd : Option (List Code)} {outer : List Env} {A₀ : Around} {base g : Heap} {fd : FuncData} {L x dx sx sdx q1 q2 : Addr} {oq1 oq2 : Obj} {news : List (Addr × Obj)} {wc b : Str} {q : Bool} {e : St} {tok : Str} {pos : Int} {s : Shared}
   (hfd : fnAt (Mine.hd.heap_1 w.params) 720 = some fd) (hB : Below A₀ base outer g) (hX : (Mine.hd.heap_1 w.params).In g) (hT : Top p loose mean mg mb g) (hd : dp + 10 < recursionLimit) (hu : un + 50 < cLine)
   (hA : LexAddrs x dx sx sdx q1 q2 news)
   (htok : tok.length ≤ 10000)
   (c : Str) (hc1 : c.length = 1)
   (f0 : (c == Str.ofString "\n") = false)
   (f1 : (c == Str.ofString "\"") = false)
   (f2 : Txt.contains (Str.ofString "\\") c = false)
   (H : AtMid g L x dx sx sdx q1 q2 oq1 oq2 news wc b .dq q e tok pos c s.heap)
   (next : ∀ h' tk', AtLoop g L x dx sx sdx q1 q2 oq1 oq2 news wc b .dq true e (tok ++ c) pos h' → K .next { s with heap := h', toks := tk' }) :
   wpAny (model PySem.Challenge.rw_of0086_01.row.prog w) (ktrTop dp un gd fd.qualname fd.scope L 720 fd.code [] outer) (execs (rtRest fd) (envOf fd.qualname fd.scope L 720 fd.code)) K (fun _ _ => False) s := by
  revert hfd
  k_fill
  intro hfd
  refine' (fun (e9 : fd = _) => ?main9) (Option.some.inj (hfd.symm.trans (fnAt_of ?hl9)))
  case hl9 => k_dflt k_is
  subst e9
  clear hfd
  refine hideG ?_
  intro G9
  obtain ⟨a1, a2, a3, a4, a5, a6, a7⟩ := hA
  obtain ⟨te, o, so, t9', F, ⟨Hh, Kk, V, rfl⟩, Hso, N⟩ := H
  k_unfold
  have LA := LexAt.of hX F N (.tail _ (.tail _ (.head _))) (.tail _ (.tail _ (.tail _ (.head _))))
  dsimp only [rtRest, rtBody]
  have hct : ((c.length : Int) != 0) = true := by rw [hc1]; rfl
  have hc5 : c.length ≤ 10000000 := by omega
  have htk5 : tok.length ≤ 10000000 := by omega
  k_with_none
  k_with "my eq" => (first | refine eq_known (by assumption) ?_ | refine eq_known (b := true) (by decide +kernel) ?_ | refine eq_known (b := false) (by decide +kernel) ?_)
  k_with "my ne" => (first | refine ne_known (by assumption) ?_ | refine ne_known (b := true) (by decide +kernel) ?_ | refine ne_known (b := false) (by decide +kernel) ?_)
  k_with "my in" => (first | refine in_known (by assumption) ?_ | refine in_known (b := true) (by decide +kernel) ?_ | refine in_known (b := false) (by decide +kernel) ?_)
  k_with "my notin" => (first | refine notin_known (by assumption) ?_ | refine notin_known (b := true) (by decide +kernel) ?_ | refine notin_known (b := false) (by decide +kernel) ?_)
  k_with "my truthy" => (refine truthy_known (by assumption) (by assumption) ?_)
  k_steps
  · refine' next _ _ ⟨[(Str.ofString "nextchar", Value.str c t9')], te, _, _, .inr ⟨_, rfl⟩, Fr.ext' ?F0 ?e0, ?D0, Hso, ?N0⟩
    case N0 => first | k_asm | exact news_tail (by k_asm)
    case F0 => k_asm
    case D0 => exact ⟨Hh, Kk, fun i => if i = 11 then _ else if i = 15 then _ else V i, rfl⟩
    case e0 => exact rtl_all (nxl := [(Str.ofString "nextchar", Value.str c t9')]) (q := q) (ev := St.val e te) (.inr ⟨_, rfl⟩) rfl rfl rfl rfl (by intro y n1 n2 n3 n4; first | rfl | simp only [n1, n2, n3, n4, if_false])
theorem turn_dq_other {dp un : Nat} {gd : Option (List Code)} {outer : List Env} {A₀ : Around} {base g : Heap} {fd : FuncData} {L x dx sx sdx q1 q2 : Addr} {oq1 oq2 : Obj} {news : List (Addr × Obj)} {wc b : Str} {q : Bool} {e : St} {tok : Str} {pos : Int} {s : Shared} {Q : Flow → Shared → Prop}
   (hfd : fnAt (Mine.hd.heap_1 w.params) 720 = some fd) (hB : Below A₀ base outer g) (hX : (Mine.hd.heap_1 w.params).In g) (hT : Top p loose mean mg mb g) (hd : dp + 10 < recursionLimit) (hu : un + 50 < cLine)
   (hA : LexAddrs x dx sx sdx q1 q2 news)
   (hpos : 0 ≤ pos) (hb : b.length ≤ 10000)
   (htok : tok.length ≤ 10000)
   (c : Str) (hc1 : c.length = 1)
   (hlt : pos < b.length) (hch : Txt.slice b (some pos) (some (pos + 1)) = c)
   (f0 : (c == Str.ofString "\n") = false)
   (f1 : (c == Str.ofString "\"") = false)
   (f2 : Txt.contains (Str.ofString "\\") c = false)
   (H : AtLoop g L x dx sx sdx q1 q2 oq1 oq2 news wc b .dq q e tok pos s.heap)
   (next : ∀ h' tk', AtLoop g L x dx sx sdx q1 q2 oq1 oq2 news wc b .dq true e (tok ++ c) (pos + 1) h' → LR PySem.Challenge.rw_of0086_01.row.prog w (ktrTop dp un gd fd.qualname fd.scope L 720 fd.code [] outer) (envOf fd.qualname fd.scope L 720 fd.code) (rtTest fd) (rtBody fd) [] Q { s with heap := h', toks := tk' }) :
   LR PySem.Challenge.rw_of0086_01.row.prog w (ktrTop dp un gd fd.qualname fd.scope L 720 fd.code [] outer) (envOf fd.qualname fd.scope L 720 fd.code) (rtTest fd) (rtBody fd) [] Q s :=
  turn_char hfd hB hX hT hd hu hA hpos hb _ f0 hlt hch H fun h' tk' M => turnm_dq_other (e := e) hfd hB hX hT hd hu hA htok c hc1 f0 f1 f2 M fun h'' tk'' R => next h'' tk'' R
theorem turnm_dq_dq {K : Flow → Shared → Prop} {dp un : Nat} {gd : Option (List Code)} {outer : List Env} {A₀ : Around} {base g : Heap} {fd : FuncData} {L x dx sx sdx q1 q2 : Addr} {oq1 oq2 : Obj} {news : List (Addr × Obj)} {wc b : Str} {q : Bool} {e : St} {tok : Str} {pos : Int} {s : Shared}
   (hfd : fnAt (Mine.hd.heap_1 w.params) 720 = some fd) (hB : Below A₀ base outer g) (hX : (Mine.hd.heap_1 w.params).In g) (hT : Top p loose mean mg mb g) (hd : dp + 10 < recursionLimit) (hu : un + 50 < cLine)
   (hA : LexAddrs x dx sx sdx q1 q2 news)
   (htok : tok.length ≤ 10000)
   (H : AtMid g L x dx sx sdx q1 q2 oq1 oq2 news wc b .dq q e tok pos (Str.ofString "\"") s.heap)
   (next : ∀ h' tk', AtLoop g L x dx sx sdx q1 q2 oq1 oq2 news wc b .a true e tok pos h' → K .next { s with heap := h', toks := tk' }) :
   wpAny (model PySem.Challenge.rw_of0086_01.row.prog w) (ktrTop dp un gd fd.qualname fd.scope L 720 fd.code [] outer) (execs (rtRest fd) (envOf fd.qualname fd.scope L 720 fd.code)) K (fun _ _ => False) s := by
  revert hfd
  k_fill
  intro hfd
  refine' (fun (e9 : fd = _) => ?main9) (Option.some.inj (hfd.symm.trans (fnAt_of ?hl9)))
  case hl9 => k_dflt k_is
  subst e9
  clear hfd
  refine hideG ?_
  intro G9
  obtain ⟨a1, a2, a3, a4, a5, a6, a7⟩ := hA
  obtain ⟨te, o, so, t9', F, ⟨Hh, Kk, V, rfl⟩, Hso, N⟩ := H
  k_unfold
  have LA := LexAt.of hX F N (.tail _ (.tail _ (.head _))) (.tail _ (.tail _ (.tail _ (.head _))))
  dsimp only [rtRest, rtBody]
  have htk5 : tok.length ≤ 10000000 := by omega
  k_with_none
  k_with "my eq" => (first | refine eq_known (by assumption) ?_ | refine eq_known (b := true) (by decide +kernel) ?_ | refine eq_known (b := false) (by decide +kernel) ?_)
  k_with "my ne" => (first | refine ne_known (by assumption) ?_ | refine ne_known (b := true) (by decide +kernel) ?_ | refine ne_known (b := false) (by decide +kernel) ?_)
  k_with "my in" => (first | refine in_known (by assumption) ?_ | refine in_known (b := true) (by decide +kernel) ?_ | refine in_known (b := false) (by decide +kernel) ?_)
  k_with "my notin" => (first | refine notin_known (by assumption) ?_ | refine notin_known (b := true) (by decide +kernel) ?_ | refine notin_known (b := false) (by decide +kernel) ?_)
  k_with "my truthy" => (refine truthy_known (by assumption) (by assumption) ?_)
  k_steps
  · refine' next _ _ ⟨[(Str.ofString "nextchar", Value.str (Str.ofString "\"") t9')], te, _, _, .inr ⟨_, rfl⟩, Fr.ext' ?F0 ?e0, ?D0, Hso, ?N0⟩
    case N0 => first | k_asm | exact news_tail (by k_asm)
    case F0 => k_asm
    case D0 => exact ⟨Hh, Kk, fun i => if i = 11 then _ else if i = 15 then _ else V i, rfl⟩
    case e0 => exact rtl_all (nxl := [(Str.ofString "nextchar", Value.str (Str.ofString "\"") t9')]) (q := q) (ev := St.val e te) (.inr ⟨_, rfl⟩) rfl rfl rfl rfl (by intro y n1 n2 n3 n4; first | rfl | simp only [n1, n2, n3, n4, if_false])
theorem turn_dq_dq {dp un : Nat} {gd : Option (List Code)} {outer : List Env} {A₀ : Around} {base g : Heap} {fd : FuncData} {L x dx sx sdx q1 q2 : Addr} {oq1 oq2 : Obj} {news : List (Addr × Obj)} {wc b : Str} {q : Bool} {e : St} {tok : Str} {pos : Int} {s : Shared} {Q : Flow → Shared → Prop}
   (hfd : fnAt (Mine.hd.heap_1 w.params) 720 = some fd) (hB : Below A₀ base outer g) (hX : (Mine.hd.heap_1 w.params).In g) (hT : Top p loose mean mg mb g) (hd : dp + 10 < recursionLimit) (hu : un + 50 < cLine)
   (hA : LexAddrs x dx sx sdx q1 q2 news)
   (hpos : 0 ≤ pos) (hb : b.length ≤ 10000)
   (htok : tok.length ≤ 10000)
   (hlt : pos < b.length) (hch : Txt.slice b (some pos) (some (pos + 1)) = (Str.ofString "\""))
   (H : AtLoop g L x dx sx sdx q1 q2 oq1 oq2 news wc b .dq q e tok pos s.heap)
   (next : ∀ h' tk', AtLoop g L x dx sx sdx q1 q2 oq1 oq2 news wc b .a true e tok (pos + 1) h' → LR PySem.Challenge.rw_of0086_01.row.prog w (ktrTop dp un gd fd.qualname fd.scope L 720 fd.code [] outer) (envOf fd.qualname fd.scope L 720 fd.code) (rtTest fd) (rtBody fd) [] Q { s with heap := h', toks := tk' }) :
   LR PySem.Challenge.rw_of0086_01.row.prog w (ktrTop dp un gd fd.qualname fd.scope L 720 fd.code [] outer) (envOf fd.qualname fd.scope L 720 fd.code) (rtTest fd) (rtBody fd) [] Q s :=
  turn_char hfd hB hX hT hd hu hA hpos hb _ (by decide +kernel) hlt hch H fun h' tk' M => turnm_dq_dq (e := e) hfd hB hX hT hd hu hA htok  M fun h'' tk'' R => next h'' tk'' R
theorem turnm_dq_bs {K : Flow → Shared → Prop} {dp un : Nat} {gd : Option (List Code)} {outer : List Env} {A₀ : Around} {base g : Heap} {fd : FuncData} {L x dx sx sdx q1 q2 : Addr} {oq1 oq2 : Obj} {news : List (Addr × Obj)} {wc b : Str} {q : Bool} {e : St} {tok : Str} {pos : Int} {s : Shared}
   (hfd : fnAt (Mine.hd.heap_1 w.params) 720 = some fd) (hB : Below A₀ base outer g) (hX : (Mine.hd.heap_1 w.params).In g) (hT : Top p loose mean mg mb g) (hd : dp + 10 < recursionLimit) (hu : un + 50 < cLine)
   (hA : LexAddrs x dx sx sdx q1 q2 news)
   (htok : tok.length ≤ 10000)
   (H : AtMid g L x dx sx sdx q1 q2 oq1 oq2 news wc b .dq q e tok pos (Str.ofString "\\") s.heap)
   (next : ∀ h' tk', AtLoop g L x dx sx sdx q1 q2 oq1 oq2 news wc b .bs true .dq tok pos h' → K .next { s with heap := h', toks := tk' }) :
   wpAny (model PySem.Challenge.rw_of0086_01.row.prog w) (ktrTop dp un gd fd.qualname fd.scope L 720 fd.code [] outer) (execs (rtRest fd) (envOf fd.qualname fd.scope L 720 fd.code)) K (fun _ _ => False) s := by
  revert hfd
  k_fill
  intro hfd
  refine' (fun (e9 : fd = _) => ?main9) (Option.some.inj (hfd.symm.trans (fnAt_of ?hl9)))
  case hl9 => k_dflt k_is
  subst e9
  clear hfd
  refine hideG ?_
  intro G9
  obtain ⟨a1, a2, a3, a4, a5, a6, a7⟩ := hA
  obtain ⟨te, o, so, t9', F, ⟨Hh, Kk, V, rfl⟩, Hso, N⟩ := H
  k_unfold
  have LA := LexAt.of hX F N (.tail _ (.tail _ (.head _))) (.tail _ (.tail _ (.tail _ (.head _))))
  dsimp only [rtRest, rtBody]
  have htk5 : tok.length ≤ 10000000 := by omega
  k_with_none
  k_with "my eq" => (first | refine eq_known (by assumption) ?_ | refine eq_known (b := true) (by decide +kernel) ?_ | refine eq_known (b := false) (by decide +kernel) ?_)
  k_with "my ne" => (first | refine ne_known (by assumption) ?_ | refine ne_known (b := true) (by decide +kernel) ?_ | refine ne_known (b := false) (by decide +kernel) ?_)
  k_with "my in" => (first | refine in_known (by assumption) ?_ | refine in_known (b := true) (by decide +kernel) ?_ | refine in_known (b := false) (by decide +kernel) ?_)
  k_with "my notin" => (first | refine notin_known (by assumption) ?_ | refine notin_known (b := true) (by decide +kernel) ?_ | refine notin_known (b := false) (by decide +kernel) ?_)
  k_with "my truthy" => (refine truthy_known (by assumption) (by assumption) ?_)
  k_steps
  · refine' next _ _ ⟨[(Str.ofString "nextchar", Value.str (Str.ofString "\\") t9')], (V 11), _, _, .inr ⟨_, rfl⟩, Fr.ext' ?F0 ?e0, ?D0, Hso, ?N0⟩
    case N0 => first | k_asm | exact news_tail (by k_asm)
    case F0 => k_asm
    case D0 => exact ⟨Hh, Kk, fun i => if i = 11 then _ else if i = 15 then _ else V i, rfl⟩
    case e0 => exact rtl_all (nxl := [(Str.ofString "nextchar", Value.str (Str.ofString "\\") t9')]) (q := q) (ev := St.val e te) (.inr ⟨_, rfl⟩) rfl rfl rfl rfl (by intro y n1 n2 n3 n4; first | rfl | simp only [n1, n2, n3, n4, if_false])
theorem turn_dq_bs {dp un : Nat} {gd : Option (List Code)} {outer : List Env} {A₀ : Around} {base g : Heap} {fd : FuncData} {L x dx sx sdx q1 q2 : Addr} {oq1 oq2 : Obj} {news : List (Addr × Obj)} {wc b : Str} {q : Bool} {e : St} {tok : Str} {pos : Int} {s : Shared} {Q : Flow → Shared → Prop}
   (hfd : fnAt (Mine.hd.heap_1 w.params) 720 = some fd) (hB : Below A₀ base outer g) (hX : (Mine.hd.heap_1 w.params).In g) (hT : Top p loose mean mg mb g) (hd : dp + 10 < recursionLimit) (hu : un + 50 < cLine)
   (hA : LexAddrs x dx sx sdx q1 q2 news)
   (hpos : 0 ≤ pos) (hb : b.length ≤ 10000)
   (htok : tok.length ≤ 10000)
   (hlt : pos < b.length) (hch : Txt.slice b (some pos) (some (pos + 1)) = (Str.ofString "\\"))
   (H : AtLoop g L x dx sx sdx q1 q2 oq1 oq2 news wc b .dq q e tok pos s.heap)
   (next : ∀ h' tk', AtLoop g L x dx sx sdx q1 q2 oq1 oq2 news wc b .bs true .dq tok (pos + 1) h' → LR PySem.Challenge.rw_of0086_01.row.prog w (ktrTop dp un gd fd.qualname fd.scope L 720 fd.code [] outer) (envOf fd.qualname fd.scope L 720 fd.code) (rtTest fd) (rtBody fd) [] Q { s with heap := h', toks := tk' }) :
   LR PySem.Challenge.rw_of0086_01.row.prog w (ktrTop dp un gd fd.qualname fd.scope L 720 fd.code [] outer) (envOf fd.qualname fd.scope L 720 fd.code) (rtTest fd) (rtBody fd) [] Q s :=
  turn_char hfd hB hX hT hd hu hA hpos hb _ (by decide +kernel) hlt hch H fun h' tk' M => turnm_dq_bs (e := e) hfd hB hX hT hd hu hA htok  M fun h'' tk'' R => next h'' tk'' R
end

end

section
section
variable {w : World} {p : Program} {loose : List Str} {mean : ExcName → Option Value} {mg mb : Str → Option Value}
theorem turnm_bs_bs {K : Flow → Shared → Prop} {dp un : Nat} {gd : Option (List Code)} {outer : List Env} {A₀ : Around} {base g : Heap} {fd : FuncData} {L x dx sx sdx q1 q2 : Addr} {oq1 oq2 : Obj} {news : List (Addr × Obj)} {wc b : Str} {q : Bool} {e : St} {tok : Str} {pos : Int} {s : Shared}
   (hfd : fnAt (Mine.hd.heap_1 w.params) 720 = some fd) (hB : Below A₀ base outer g) (hX : (Mine.hd.heap_1 w.params).In g) (hT : Top p loose mean mg mb g) (hd : dp + 10 < recursionLimit) (hu : un + 50 < cLine)
   (hA : LexAddrs x dx sx sdx q1 q2 news)
   (htok : tok.length ≤ 10000)
   (H : AtMid g L x dx sx sdx q1 q2 oq1 oq2 news wc b .bs q .dq tok pos (Str.ofString "\\") s.heap)
   (next : ∀ h' tk', AtLoop g L x dx sx sdx q1 q2 oq1 oq2 news wc b .dq q .dq (tok ++ Str.ofString "\\") pos h' → K .next { s with heap := h', toks := tk' }) :
   wpAny (model PySem.Challenge.rw_of0086_01.row.prog w) (ktrTop dp un gd fd.qualname fd.scope L 720 fd.code [] outer) (execs (rtRest fd) (envOf fd.qualname fd.scope L 720 fd.code)) K (fun _ _ => False) s := by
  revert hfd
  k_fill
  intro hfd
  refine' (fun (e9 : fd = _) => ?main9) (Option.some.inj (hfd.symm.trans (fnAt_of ?hl9)))
  case hl9 => k_dflt k_is
  subst e9
  clear hfd
  refine hideG ?_
  intro G9
  obtain ⟨a1, a2, a3, a4, a5, a6, a7⟩ := hA
  obtain ⟨te, o, so, t9', F, ⟨Hh, Kk, V, rfl⟩, Hso, N⟩ := H
  k_unfold
  have LA := LexAt.of hX F N (.tail _ (.tail _ (.head _))) (.tail _ (.tail _ (.tail _ (.head _))))
  dsimp only [rtRest, rtBody]
  have htk5 : tok.length ≤ 10000000 := by omega
  k_with_none
  k_with "my eq" => (first | refine eq_known (by assumption) ?_ | refine eq_known (b := true) (by decide +kernel) ?_ | refine eq_known (b := false) (by decide +kernel) ?_)
  k_with "my ne" => (first | refine ne_known (by assumption) ?_ | refine ne_known (b := true) (by decide +kernel) ?_ | refine ne_known (b := false) (by decide +kernel) ?_)
  k_with "my in" => (first | refine in_known (by assumption) ?_ | refine in_known (b := true) (by decide +kernel) ?_ | refine in_known (b := false) (by decide +kernel) ?_)
  k_with "my notin" => (first | refine notin_known (by assumption) ?_ | refine notin_known (b := true) (by decide +kernel) ?_ | refine notin_known (b := false) (by decide +kernel) ?_)
  k_with "my truthy" => (refine truthy_known (by assumption) (by assumption) ?_)
  k_steps
  · refine' next _ _ ⟨[(Str.ofString "nextchar", Value.str (Str.ofString "\\") t9')], te, _, _, .inr ⟨_, rfl⟩, Fr.ext' ?F0 ?e0, ?D0, Hso, ?N0⟩
    case N0 => first | k_asm | exact news_tail (by k_asm)
    case F0 => k_asm
    case D0 => exact ⟨Hh, Kk, fun i => if i = 11 then _ else if i = 15 then _ else V i, rfl⟩
    case e0 => exact rtl_all (nxl := [(Str.ofString "nextchar", Value.str (Str.ofString "\\") t9')]) (q := q) (ev := St.val .dq te) (.inr ⟨_, rfl⟩) rfl rfl rfl rfl (by intro y n1 n2 n3 n4; first | rfl | simp only [n1, n2, n3, n4, if_false])
theorem turn_bs_bs {dp un : Nat} {gd : Option (List Code)} {outer : List Env} {A₀ : Around} {base g : Heap} {fd : FuncData} {L x dx sx sdx q1 q2 : Addr} {oq1 oq2 : Obj} {news : List (Addr × Obj)} {wc b : Str} {q : Bool} {e : St} {tok : Str} {pos : Int} {s : Shared} {Q : Flow → Shared → Prop}
   (hfd : fnAt (Mine.hd.heap_1 w.params) 720 = some fd) (hB : Below A₀ base outer g) (hX : (Mine.hd.heap_1 w.params).In g) (hT : Top p loose mean mg mb g) (hd : dp + 10 < recursionLimit) (hu : un + 50 < cLine)
   (hA : LexAddrs x dx sx sdx q1 q2 news)
   (hpos : 0 ≤ pos) (hb : b.length ≤ 10000)
   (htok : tok.length ≤ 10000)
   (hlt : pos < b.length) (hch : Txt.slice b (some pos) (some (pos + 1)) = (Str.ofString "\\"))
   (H : AtLoop g L x dx sx sdx q1 q2 oq1 oq2 news wc b .bs q .dq tok pos s.heap)
   (next : ∀ h' tk', AtLoop g L x dx sx sdx q1 q2 oq1 oq2 news wc b .dq q .dq (tok ++ Str.ofString "\\") (pos + 1) h' → LR PySem.Challenge.rw_of0086_01.row.prog w (ktrTop dp un gd fd.qualname fd.scope L 720 fd.code [] outer) (envOf fd.qualname fd.scope L 720 fd.code) (rtTest fd) (rtBody fd) [] Q { s with heap := h', toks := tk' }) :
   LR PySem.Challenge.rw_of0086_01.row.prog w (ktrTop dp un gd fd.qualname fd.scope L 720 fd.code [] outer) (envOf fd.qualname fd.scope L 720 fd.code) (rtTest fd) (rtBody fd) [] Q s :=
  turn_char hfd hB hX hT hd hu hA hpos hb _ (by decide +kernel) hlt hch H fun h' tk' M => turnm_bs_bs (e := e) hfd hB hX hT hd hu hA htok  M fun h'' tk'' R => next h'' tk'' R
theorem turnm_bs_dq {K : Flow → Shared → Prop} {dp un : Nat} {gd : Option (List Code)} {outer : List Env} {A₀ : Around} {base g : Heap} {fd : FuncData} {L x dx sx sdx q1 q2 : Addr} {oq1 oq2 : Obj} {news : List (Addr × Obj)} {wc b : Str} {q : Bool} {e : St} {tok : Str} {pos : Int} {s : Shared}
   (hfd : fnAt (Mine.hd.heap_1 w.params) 720 = some fd) (hB : Below A₀ base outer g) (hX : (Mine.hd.heap_1 w.params).In g) (hT : Top p loose mean mg mb g) (hd : dp + 10 < recursionLimit) (hu : un + 50 < cLine)
   (hA : LexAddrs x dx sx sdx q1 q2 news)
   (htok : tok.length ≤ 10000)
   (H : AtMid g L x dx sx sdx q1 q2 oq1 oq2 news wc b .bs q .dq tok pos (Str.ofString "\"") s.heap)
   (next : ∀ h' tk', AtLoop g L x dx sx sdx q1 q2 oq1 oq2 news wc b .dq q .dq (tok ++ Str.ofString "\"") pos h' → K .next { s with heap := h', toks := tk' }) :
   wpAny (model PySem.Challenge.rw_of0086_01.row.prog w) (ktrTop dp un gd fd.qualname fd.scope L 720 fd.code [] outer) (execs (rtRest fd) (envOf fd.qualname fd.scope L 720 fd.code)) K (fun _ _ => False) s := by
  revert hfd
  k_fill
  intro hfd
  refine' (fun (e9 : fd = _) => ?main9) (Option.some.inj (hfd.symm.trans (fnAt_of ?hl9)))
  case hl9 => k_dflt k_is
  subst e9
  clear hfd
  refine hideG ?_
  intro G9
  obtain ⟨a1, a2, a3, a4, a5, a6, a7⟩ := hA
  obtain ⟨te, o, so, t9', F, ⟨Hh, Kk, V, rfl⟩, Hso, N⟩ := H
  k_unfold
  have LA := LexAt.of hX F N (.tail _ (.tail _ (.head _))) (.tail _ (.tail _ (.tail _ (.head _))))
  dsimp only [rtRest, rtBody]
  have htk5 : tok.length ≤ 10000000 := by omega
  k_with_none
  k_with "my eq" => (first | refine eq_known (by assumption) ?_ | refine eq_known (b := true) (by decide +kernel) ?_ | refine eq_known (b := false) (by decide +kernel) ?_)
  k_with "my ne" => (first | refine ne_known (by assumption) ?_ | refine ne_known (b := true) (by decide +kernel) ?_ | refine ne_known (b := false) (by decide +kernel) ?_)
  k_with "my in" => (first | refine in_known (by assumption) ?_ | refine in_known (b := true) (by decide +kernel) ?_ | refine in_known (b := false) (by decide +kernel) ?_)
  k_with "my notin" => (first | refine notin_known (by assumption) ?_ | refine notin_known (b := true) (by decide +kernel) ?_ | refine notin_known (b := false) (by decide +kernel) ?_)
  k_with "my truthy" => (refine truthy_known (by assumption) (by assumption) ?_)
  k_steps
  · refine' next _ _ ⟨[(Str.ofString "nextchar", Value.str (Str.ofString "\"") t9')], te, _, _, .inr ⟨_, rfl⟩, Fr.ext' ?F0 ?e0, ?D0, Hso, ?N0⟩
    case N0 => first | k_asm | exact news_tail (by k_asm)
    case F0 => k_asm
    case D0 => exact ⟨Hh, Kk, fun i => if i = 11 then _ else if i = 15 then _ else V i, rfl⟩
    case e0 => exact rtl_all (nxl := [(Str.ofString "nextchar", Value.str (Str.ofString "\"") t9')]) (q := q) (ev := St.val .dq te) (.inr ⟨_, rfl⟩) rfl rfl rfl rfl (by intro y n1 n2 n3 n4; first | rfl | simp only [n1, n2, n3, n4, if_false])
theorem turn_bs_dq {dp un : Nat} {gd : Option (List Code)} {outer : List Env} {A₀ : Around} {base g : Heap} {fd : FuncData} {L x dx sx sdx q1 q2 : Addr} {oq1 oq2 : Obj} {news : List (Addr × Obj)} {wc b : Str} {q : Bool} {e : St} {tok : Str} {pos : Int} {s : Shared} {Q : Flow → Shared → Prop}
   (hfd : fnAt (Mine.hd.heap_1 w.params) 720 = some fd) (hB : Below A₀ base outer g) (hX : (Mine.hd.heap_1 w.params).In g) (hT : Top p loose mean mg mb g) (hd : dp + 10 < recursionLimit) (hu : un + 50 < cLine)
   (hA : LexAddrs x dx sx sdx q1 q2 news)
   (hpos : 0 ≤ pos) (hb : b.length ≤ 10000)
   (htok : tok.length ≤ 10000)
   (hlt : pos < b.length) (hch : Txt.slice b (some pos) (some (pos + 1)) = (Str.ofString "\""))
   (H : AtLoop g L x dx sx sdx q1 q2 oq1 oq2 news wc b .bs q .dq tok pos s.heap)
   (next : ∀ h' tk', AtLoop g L x dx sx sdx q1 q2 oq1 oq2 news wc b .dq q .dq (tok ++ Str.ofString "\"") (pos + 1) h' → LR PySem.Challenge.rw_of0086_01.row.prog w (ktrTop dp un gd fd.qualname fd.scope L 720 fd.code [] outer) (envOf fd.qualname fd.scope L 720 fd.code) (rtTest fd) (rtBody fd) [] Q { s with heap := h', toks := tk' }) :
   LR PySem.Challenge.rw_of0086_01.row.prog w (ktrTop dp un gd fd.qualname fd.scope L 720 fd.code [] outer) (envOf fd.qualname fd.scope L 720 fd.code) (rtTest fd) (rtBody fd) [] Q s :=
  turn_char hfd hB hX hT hd hu hA hpos hb _ (by decide +kernel) hlt hch H fun h' tk' M => turnm_bs_dq (e := e) hfd hB hX hT hd hu hA htok  M fun h'' tk'' R => next h'' tk'' R
theorem turnm_a_sp {K : Flow → Shared → Prop} {dp un : Nat} {gd : Option (List Code)} {outer : List Env} {A₀ : Around} {base g : Heap} {fd : FuncData} {L x dx sx sdx q1 q2 : Addr} {oq1 oq2 : Obj} {news : List (Addr × Obj)} {wc b : Str} {q : Bool} {e : St} {tok : Str} {pos : Int} {s : Shared}
   (hfd : fnAt (Mine.hd.heap_1 w.params) 720 = some fd) (hB : Below A₀ base outer g) (hX : (Mine.hd.heap_1 w.params).In g) (hT : Top p loose mean mg mb g) (hd : dp + 10 < recursionLimit) (hu : un + 50 < cLine)
   (hA : LexAddrs x dx sx sdx q1 q2 news)
   (htok : tok.length ≤ 10000)
   (f0 : ((tok.length : Int) != 0) = true)
   (H : AtMid g L x dx sx sdx q1 q2 oq1 oq2 news wc b .a q e tok pos (Str.ofString " ") s.heap)
   (next : ∀ h' tk', AtLoop g L x dx sx sdx q1 q2 oq1 oq2 news wc b .sp q e tok pos h' → K .brk { s with heap := h', toks := tk' }) :
   wpAny (model PySem.Challenge.rw_of0086_01.row.prog w) (ktrTop dp un gd fd.qualname fd.scope L 720 fd.code [] outer) (execs (rtRest fd) (envOf fd.qualname fd.scope L 720 fd.code)) K (fun _ _ => False) s := by
  revert hfd
  k_fill
  intro hfd
  refine' (fun (e9 : fd = _) => ?main9) (Option.some.inj (hfd.symm.trans (fnAt_of ?hl9)))
  case hl9 => k_dflt k_is
  subst e9
  clear hfd
  refine hideG ?_
  intro G9
  obtain ⟨a1, a2, a3, a4, a5, a6, a7⟩ := hA
  obtain ⟨te, o, so, t9', F, ⟨Hh, Kk, V, rfl⟩, Hso, N⟩ := H
  k_unfold
  have LA := LexAt.of hX F N (.tail _ (.tail _ (.head _))) (.tail _ (.tail _ (.tail _ (.head _))))
  dsimp only [rtRest, rtBody]
  have htk5 : tok.length ≤ 10000000 := by omega
  k_with_none
  k_with "my eq" => (first | refine eq_known (by assumption) ?_ | refine eq_known (b := true) (by decide +kernel) ?_ | refine eq_known (b := false) (by decide +kernel) ?_)
  k_with "my ne" => (first | refine ne_known (by assumption) ?_ | refine ne_known (b := true) (by decide +kernel) ?_ | refine ne_known (b := false) (by decide +kernel) ?_)
  k_with "my in" => (first | refine in_known (by assumption) ?_ | refine in_known (b := true) (by decide +kernel) ?_ | refine in_known (b := false) (by decide +kernel) ?_)
  k_with "my notin" => (first | refine notin_known (by assumption) ?_ | refine notin_known (b := true) (by decide +kernel) ?_ | refine notin_known (b := false) (by decide +kernel) ?_)
  k_with "my truthy" => (refine truthy_known (by assumption) (by assumption) ?_)
  k_steps
  · refine' next _ _ ⟨[(Str.ofString "nextchar", Value.str (Str.ofString " ") t9')], te, _, _, .inr ⟨_, rfl⟩, Fr.ext' ?F0 ?e0, ?D0, Hso, ?N0⟩
    case N0 => first | k_asm | exact news_tail (by k_asm)
    case F0 => k_asm
    case D0 => exact ⟨Hh, Kk, fun i => if i = 11 then _ else if i = 15 then _ else V i, rfl⟩
    case e0 => exact rtl_all (nxl := [(Str.ofString "nextchar", Value.str (Str.ofString " ") t9')]) (q := q) (ev := St.val e te) (.inr ⟨_, rfl⟩) rfl rfl rfl rfl (by intro y n1 n2 n3 n4; first | rfl | simp only [n1, n2, n3, n4, if_false])
theorem turn_a_sp {dp un : Nat} {gd : Option (List Code)} {outer : List Env} {A₀ : Around} {base g : Heap} {fd : FuncData} {L x dx sx sdx q1 q2 : Addr} {oq1 oq2 : Obj} {news : List (Addr × Obj)} {wc b : Str} {q : Bool} {e : St} {tok : Str} {pos : Int} {s : Shared} {Q : Flow → Shared → Prop}
   (hfd : fnAt (Mine.hd.heap_1 w.params) 720 = some fd) (hB : Below A₀ base outer g) (hX : (Mine.hd.heap_1 w.params).In g) (hT : Top p loose mean mg mb g) (hd : dp + 10 < recursionLimit) (hu : un + 50 < cLine)
   (hA : LexAddrs x dx sx sdx q1 q2 news)
   (hpos : 0 ≤ pos) (hb : b.length ≤ 10000)
   (htok : tok.length ≤ 10000)
   (hlt : pos < b.length) (hch : Txt.slice b (some pos) (some (pos + 1)) = (Str.ofString " "))
   (f0 : ((tok.length : Int) != 0) = true)
   (H : AtLoop g L x dx sx sdx q1 q2 oq1 oq2 news wc b .a q e tok pos s.heap)
   (next : ∀ h' tk', AtLoop g L x dx sx sdx q1 q2 oq1 oq2 news wc b .sp q e tok (pos + 1) h' → Q .next { s with heap := h', toks := tk' }) :
   LR PySem.Challenge.rw_of0086_01.row.prog w (ktrTop dp un gd fd.qualname fd.scope L 720 fd.code [] outer) (envOf fd.qualname fd.scope L 720 fd.code) (rtTest fd) (rtBody fd) [] Q s :=
  turn_char hfd hB hX hT hd hu hA hpos hb _ (by decide +kernel) hlt hch H fun h' tk' M => turnm_a_sp (e := e) hfd hB hX hT hd hu hA htok f0 M fun h'' tk'' R => next h'' tk'' R
theorem turnm_a_sq {K : Flow → Shared → Prop} {dp un : Nat} {gd : Option (List Code)} {outer : List Env} {A₀ : Around} {base g : Heap} {fd : FuncData} {L x dx sx sdx q1 q2 : Addr} {oq1 oq2 : Obj} {news : List (Addr × Obj)} {wc b : Str} {q : Bool} {e : St} {tok : Str} {pos : Int} {s : Shared}
   (hfd : fnAt (Mine.hd.heap_1 w.params) 720 = some fd) (hB : Below A₀ base outer g) (hX : (Mine.hd.heap_1 w.params).In g) (hT : Top p loose mean mg mb g) (hd : dp + 10 < recursionLimit) (hu : un + 50 < cLine)
   (hA : LexAddrs x dx sx sdx q1 q2 news)
   (htok : tok.length ≤ 10000)
   (H : AtMid g L x dx sx sdx q1 q2 oq1 oq2 news wc b .a q e tok pos (Str.ofString "'") s.heap)
   (next : ∀ h' tk', AtLoop g L x dx sx sdx q1 q2 oq1 oq2 news wc b .sq q e tok pos h' → K .next { s with heap := h', toks := tk' }) :
   wpAny (model PySem.Challenge.rw_of0086_01.row.prog w) (ktrTop dp un gd fd.qualname fd.scope L 720 fd.code [] outer) (execs (rtRest fd) (envOf fd.qualname fd.scope L 720 fd.code)) K (fun _ _ => False) s := by
  revert hfd
  k_fill
  intro hfd
  refine' (fun (e9 : fd = _) => ?main9) (Option.some.inj (hfd.symm.trans (fnAt_of ?hl9)))
  case hl9 => k_dflt k_is
  subst e9
  clear hfd
  refine hideG ?_
  intro G9
  obtain ⟨a1, a2, a3, a4, a5, a6, a7⟩ := hA
  obtain ⟨te, o, so, t9', F, ⟨Hh, Kk, V, rfl⟩, Hso, N⟩ := H
  k_unfold
  have LA := LexAt.of hX F N (.tail _ (.tail _ (.head _))) (.tail _ (.tail _ (.tail _ (.head _))))
  dsimp only [rtRest, rtBody]
  have htk5 : tok.length ≤ 10000000 := by omega
  k_with_none
  k_with "my eq" => (first | refine eq_known (by assumption) ?_ | refine eq_known (b := true) (by decide +kernel) ?_ | refine eq_known (b := false) (by decide +kernel) ?_)
  k_with "my ne" => (first | refine ne_known (by assumption) ?_ | refine ne_known (b := true) (by decide +kernel) ?_ | refine ne_known (b := false) (by decide +kernel) ?_)
  k_with "my in" => (first | refine in_known (by assumption) ?_ | refine in_known (b := true) (by decide +kernel) ?_ | refine in_known (b := false) (by decide +kernel) ?_)
  k_with "my notin" => (first | refine notin_known (by assumption) ?_ | refine notin_known (b := true) (by decide +kernel) ?_ | refine notin_known (b := false) (by decide +kernel) ?_)
  k_with "my truthy" => (refine truthy_known (by assumption) (by assumption) ?_)
  k_steps
  · refine' next _ _ ⟨[(Str.ofString "nextchar", Value.str (Str.ofString "'") t9')], te, _, _, .inr ⟨_, rfl⟩, Fr.ext' ?F0 ?e0, ?D0, Hso, ?N0⟩
    case N0 => first | k_asm | exact news_tail (by k_asm)
    case F0 => k_asm
    case D0 => exact ⟨Hh, Kk, fun i => if i = 11 then _ else if i = 15 then _ else V i, rfl⟩
    case e0 => exact rtl_all (nxl := [(Str.ofString "nextchar", Value.str (Str.ofString "'") t9')]) (q := q) (ev := St.val e te) (.inr ⟨_, rfl⟩) rfl rfl rfl rfl (by intro y n1 n2 n3 n4; first | rfl | simp only [n1, n2, n3, n4, if_false])
theorem turn_a_sq {dp un : Nat} {gd : Option (List Code)} {outer : List Env} {A₀ : Around} {base g : Heap} {fd : FuncData} {L x dx sx sdx q1 q2 : Addr} {oq1 oq2 : Obj} {news : List (Addr × Obj)} {wc b : Str} {q : Bool} {e : St} {tok : Str} {pos : Int} {s : Shared} {Q : Flow → Shared → Prop}
   (hfd : fnAt (Mine.hd.heap_1 w.params) 720 = some fd) (hB : Below A₀ base outer g) (hX : (Mine.hd.heap_1 w.params).In g) (hT : Top p loose mean mg mb g) (hd : dp + 10 < recursionLimit) (hu : un + 50 < cLine)
   (hA : LexAddrs x dx sx sdx q1 q2 news)
   (hpos : 0 ≤ pos) (hb : b.length ≤ 10000)
   (htok : tok.length ≤ 10000)
   (hlt : pos < b.length) (hch : Txt.slice b (some pos) (some (pos + 1)) = (Str.ofString "'"))
   (H : AtLoop g L x dx sx sdx q1 q2 oq1 oq2 news wc b .a q e tok pos s.heap)
   (next : ∀ h' tk', AtLoop g L x dx sx sdx q1 q2 oq1 oq2 news wc b .sq q e tok (pos + 1) h' → LR PySem.Challenge.rw_of0086_01.row.prog w (ktrTop dp un gd fd.qualname fd.scope L 720 fd.code [] outer) (envOf fd.qualname fd.scope L 720 fd.code) (rtTest fd) (rtBody fd) [] Q { s with heap := h', toks := tk' }) :
   LR PySem.Challenge.rw_of0086_01.row.prog w (ktrTop dp un gd fd.qualname fd.scope L 720 fd.code [] outer) (envOf fd.qualname fd.scope L 720 fd.code) (rtTest fd) (rtBody fd) [] Q s :=
  turn_char hfd hB hX hT hd hu hA hpos hb _ (by decide +kernel) hlt hch H fun h' tk' M => turnm_a_sq (e := e) hfd hB hX hT hd hu hA htok  M fun h'' tk'' R => next h'' tk'' R
theorem turnm_a_dq {K : Flow → Shared → Prop} {dp un : Nat} {gd : Option (List Code)} {outer : List Env} {A₀ : Around} {base g : Heap} {fd : FuncData} {L x dx sx sdx q1 q2 : Addr} {oq1 oq2 : Obj} {news : List (Addr × Obj)} {wc b : Str} {q : Bool} {e : St} {tok : Str} {pos : Int} {s : Shared}
   (hfd : fnAt (Mine.hd.heap_1 w.params) 720 = some fd) (hB : Below A₀ base outer g) (hX : (Mine.hd.heap_1 w.params).In g) (hT : Top p loose mean mg mb g) (hd : dp + 10 < recursionLimit) (hu : un + 50 < cLine)
   (hA : LexAddrs x dx sx sdx q1 q2 news)
   (htok : tok.length ≤ 10000)
   (H : AtMid g L x dx sx sdx q1 q2 oq1 oq2 news wc b .a q e tok pos (Str.ofString "\"") s.heap)
   (next : ∀ h' tk', AtLoop g L x dx sx sdx q1 q2 oq1 oq2 news wc b .dq q e tok pos h' → K .next { s with heap := h', toks := tk' }) :
   wpAny (model PySem.Challenge.rw_of0086_01.row.prog w) (ktrTop dp un gd fd.qualname fd.scope L 720 fd.code [] outer) (execs (rtRest fd) (envOf fd.qualname fd.scope L 720 fd.code)) K (fun _ _ => False) s := by
  revert hfd
  k_fill
  intro hfd
  refine' (fun (e9 : fd = _) => ?main9) (Option.some.inj (hfd.symm.trans (fnAt_of ?hl9)))
  case hl9 => k_dflt k_is
  subst e9
  clear hfd
  refine hideG ?_
  intro G9
  obtain ⟨a1, a2, a3, a4, a5, a6, a7⟩ := hA
  obtain ⟨te, o, so, t9', F, ⟨Hh, Kk, V, rfl⟩, Hso, N⟩ := H
  k_unfold
  have LA := LexAt.of hX F N (.tail _ (.tail _ (.head _))) (.tail _ (.tail _ (.tail _ (.head _))))
  dsimp only [rtRest, rtBody]
  have htk5 : tok.length ≤ 10000000 := by omega
  k_with_none
  k_with "my eq" => (first | refine eq_known (by assumption) ?_ | refine eq_known (b := true) (by decide +kernel) ?_ | refine eq_known (b := false) (by decide +kernel) ?_)
  k_with "my ne" => (first | refine ne_known (by assumption) ?_ | refine ne_known (b := true) (by decide +kernel) ?_ | refine ne_known (b := false) (by decide +kernel) ?_)
  k_with "my in" => (first | refine in_known (by assumption) ?_ | refine in_known (b := true) (by decide +kernel) ?_ | refine in_known (b := false) (by decide +kernel) ?_)
  k_with "my notin" => (first | refine notin_known (by assumption) ?_ | refine notin_known (b := true) (by decide +kernel) ?_ | refine notin_known (b := false) (by decide +kernel) ?_)
  k_with "my truthy" => (refine truthy_known (by assumption) (by assumption) ?_)
  k_steps
  · refine' next _ _ ⟨[(Str.ofString "nextchar", Value.str (Str.ofString "\"") t9')], te, _, _, .inr ⟨_, rfl⟩, Fr.ext' ?F0 ?e0, ?D0, Hso, ?N0⟩
    case N0 => first | k_asm | exact news_tail (by k_asm)
    case F0 => k_asm
    case D0 => exact ⟨Hh, Kk, fun i => if i = 11 then _ else if i = 15 then _ else V i, rfl⟩
    case e0 => exact rtl_all (nxl := [(Str.ofString "nextchar", Value.str (Str.ofString "\"") t9')]) (q := q) (ev := St.val e te) (.inr ⟨_, rfl⟩) rfl rfl rfl rfl (by intro y n1 n2 n3 n4; first | rfl | simp only [n1, n2, n3, n4, if_false])
theorem turn_a_dq {dp un : Nat} {gd : Option (List Code)} {outer : List Env} {A₀ : Around} {base g : Heap} {fd : FuncData} {L x dx sx sdx q1 q2 : Addr} {oq1 oq2 : Obj} {news : List (Addr × Obj)} {wc b : Str} {q : Bool} {e : St} {tok : Str} {pos : Int} {s : Shared} {Q : Flow → Shared → Prop}
   (hfd : fnAt (Mine.hd.heap_1 w.params) 720 = some fd) (hB : Below A₀ base outer g) (hX : (Mine.hd.heap_1 w.params).In g) (hT : Top p loose mean mg mb g) (hd : dp + 10 < recursionLimit) (hu : un + 50 < cLine)
   (hA : LexAddrs x dx sx sdx q1 q2 news)
   (hpos : 0 ≤ pos) (hb : b.length ≤ 10000)
   (htok : tok.length ≤ 10000)
   (hlt : pos < b.length) (hch : Txt.slice b (some pos) (some (pos + 1)) = (Str.ofString "\""))
   (H : AtLoop g L x dx sx sdx q1 q2 oq1 oq2 news wc b .a q e tok pos s.heap)
   (next : ∀ h' tk', AtLoop g L x dx sx sdx q1 q2 oq1 oq2 news wc b .dq q e tok (pos + 1) h' → LR PySem.Challenge.rw_of0086_01.row.prog w (ktrTop dp un gd fd.qualname fd.scope L 720 fd.code [] outer) (envOf fd.qualname fd.scope L 720 fd.code) (rtTest fd) (rtBody fd) [] Q { s with heap := h', toks := tk' }) :
   LR PySem.Challenge.rw_of0086_01.row.prog w (ktrTop dp un gd fd.qualname fd.scope L 720 fd.code [] outer) (envOf fd.qualname fd.scope L 720 fd.code) (rtTest fd) (rtBody fd) [] Q s :=
  turn_char hfd hB hX hT hd hu hA hpos hb _ (by decide +kernel) hlt hch H fun h' tk' M => turnm_a_dq (e := e) hfd hB hX hT hd hu hA htok  M fun h'' tk'' R => next h'' tk'' R
end

end

section
section
variable {w : World} {p : Program} {loose : List Str} {mean : ExcName → Option Value} {mg mb : Str → Option Value}
theorem turnm_a_eof {K : Flow → Shared → Prop} {dp un : Nat} {gd : Option (List Code)} {outer : List Env} {A₀ : Around} {base g : Heap} {fd : FuncData} {L x dx sx sdx q1 q2 : Addr} {oq1 oq2 : Obj} {news : List (Addr × Obj)} {wc b : Str} {q : Bool} {e : St} {tok : Str} {pos : Int} {s : Shared}
   (hfd : fnAt (Mine.hd.heap_1 w.params) 720 = some fd) (hB : Below A₀ base outer g) (hX : (Mine.hd.heap_1 w.params).In g) (hT : Top p loose mean mg mb g) (hd : dp + 10 < recursionLimit) (hu : un + 50 < cLine)
   (hA : LexAddrs x dx sx sdx q1 q2 news)
   (htok : tok.length ≤ 10000)
   (H : AtMid g L x dx sx sdx q1 q2 oq1 oq2 news wc b .a q e tok pos (Str.ofString "") s.heap)
   (next : ∀ h' tk', AtLoop g L x dx sx sdx q1 q2 oq1 oq2 news wc b .no q e tok pos h' → K .brk { s with heap := h', toks := tk' }) :
   wpAny (model PySem.Challenge.rw_of0086_01.row.prog w) (ktrTop dp un gd fd.qualname fd.scope L 720 fd.code [] outer) (execs (rtRest fd) (envOf fd.qualname fd.scope L 720 fd.code)) K (fun _ _ => False) s := by
  revert hfd
  k_fill
  intro hfd
  refine' (fun (e9 : fd = _) => ?main9) (Option.some.inj (hfd.symm.trans (fnAt_of ?hl9)))
  case hl9 => k_dflt k_is
  subst e9
  clear hfd
  refine hideG ?_
  intro G9
  obtain ⟨a1, a2, a3, a4, a5, a6, a7⟩ := hA
  obtain ⟨te, o, so, t9', F, ⟨Hh, Kk, V, rfl⟩, Hso, N⟩ := H
  k_unfold
  have LA := LexAt.of hX F N (.tail _ (.tail _ (.head _))) (.tail _ (.tail _ (.tail _ (.head _))))
  dsimp only [rtRest, rtBody]
  have htk5 : tok.length ≤ 10000000 := by omega
  k_with_none
  k_with "my eq" => (first | refine eq_known (by assumption) ?_ | refine eq_known (b := true) (by decide +kernel) ?_ | refine eq_known (b := false) (by decide +kernel) ?_)
  k_with "my ne" => (first | refine ne_known (by assumption) ?_ | refine ne_known (b := true) (by decide +kernel) ?_ | refine ne_known (b := false) (by decide +kernel) ?_)
  k_with "my in" => (first | refine in_known (by assumption) ?_ | refine in_known (b := true) (by decide +kernel) ?_ | refine in_known (b := false) (by decide +kernel) ?_)
  k_with "my notin" => (first | refine notin_known (by assumption) ?_ | refine notin_known (b := true) (by decide +kernel) ?_ | refine notin_known (b := false) (by decide +kernel) ?_)
  k_with "my truthy" => (refine truthy_known (by assumption) (by assumption) ?_)
  k_steps
  · refine' next _ _ ⟨[(Str.ofString "nextchar", Value.str (Str.ofString "") t9')], te, _, _, .inr ⟨_, rfl⟩, Fr.ext' ?F0 ?e0, ?D0, Hso, ?N0⟩
    case N0 => first | k_asm | exact news_tail (by k_asm)
    case F0 => k_asm
    case D0 => exact ⟨Hh, Kk, fun i => if i = 15 then _ else V i, rfl⟩
    case e0 => exact rtl_all (nxl := [(Str.ofString "nextchar", Value.str (Str.ofString "") t9')]) (q := q) (ev := St.val e te) (.inr ⟨_, rfl⟩) rfl rfl rfl rfl (by intro y n1 n2 n3 n4; first | rfl | simp only [n1, n2, n3, n4, if_false])
theorem turn_a_eof {dp un : Nat} {gd : Option (List Code)} {outer : List Env} {A₀ : Around} {base g : Heap} {fd : FuncData} {L x dx sx sdx q1 q2 : Addr} {oq1 oq2 : Obj} {news : List (Addr × Obj)} {wc b : Str} {q : Bool} {e : St} {tok : Str} {pos : Int} {s : Shared} {Q : Flow → Shared → Prop}
   (hfd : fnAt (Mine.hd.heap_1 w.params) 720 = some fd) (hB : Below A₀ base outer g) (hX : (Mine.hd.heap_1 w.params).In g) (hT : Top p loose mean mg mb g) (hd : dp + 10 < recursionLimit) (hu : un + 50 < cLine)
   (hA : LexAddrs x dx sx sdx q1 q2 news)
   (hpos : 0 ≤ pos) (hb : b.length ≤ 10000)
   (htok : tok.length ≤ 10000)
   (hlt : ¬ pos < b.length)
   (H : AtLoop g L x dx sx sdx q1 q2 oq1 oq2 news wc b .a q e tok pos s.heap)
   (next : ∀ h' tk', AtLoop g L x dx sx sdx q1 q2 oq1 oq2 news wc b .no q e tok pos h' → Q .next { s with heap := h', toks := tk' }) :
   LR PySem.Challenge.rw_of0086_01.row.prog w (ktrTop dp un gd fd.qualname fd.scope L 720 fd.code [] outer) (envOf fd.qualname fd.scope L 720 fd.code) (rtTest fd) (rtBody fd) [] Q s :=
  turn_end hfd hB hX hT hd hu hA hpos hb hlt H fun h' tk' M => turnm_a_eof (e := e) hfd hB hX hT hd hu hA htok  M fun h'' tk'' R => next h'' tk'' R
theorem turnm_sp_sq {K : Flow → Shared → Prop} {dp un : Nat} {gd : Option (List Code)} {outer : List Env} {A₀ : Around} {base g : Heap} {fd : FuncData} {L x dx sx sdx q1 q2 : Addr} {oq1 oq2 : Obj} {news : List (Addr × Obj)} {wc b : Str} {q : Bool} {e : St} {tok : Str} {pos : Int} {s : Shared}
   (hfd : fnAt (Mine.hd.heap_1 w.params) 720 = some fd) (hB : Below A₀ base outer g) (hX : (Mine.hd.heap_1 w.params).In g) (hT : Top p loose mean mg mb g) (hd : dp + 10 < recursionLimit) (hu : un + 50 < cLine)
   (hA : LexAddrs x dx sx sdx q1 q2 news)
   (htok : tok.length ≤ 10000)
   (f0 : Txt.contains wc (Str.ofString "'") = false)
   (H : AtMid g L x dx sx sdx q1 q2 oq1 oq2 news wc b .sp q e tok pos (Str.ofString "'") s.heap)
   (next : ∀ h' tk', AtLoop g L x dx sx sdx q1 q2 oq1 oq2 news wc b .sq q e tok pos h' → K .next { s with heap := h', toks := tk' }) :
   wpAny (model PySem.Challenge.rw_of0086_01.row.prog w) (ktrTop dp un gd fd.qualname fd.scope L 720 fd.code [] outer) (execs (rtRest fd) (envOf fd.qualname fd.scope L 720 fd.code)) K (fun _ _ => False) s := by
  revert hfd
  k_fill
  intro hfd
  refine' (fun (e9 : fd = _) => ?main9) (Option.some.inj (hfd.symm.trans (fnAt_of ?hl9)))
  case hl9 => k_dflt k_is
  subst e9
  clear hfd
  refine hideG ?_
  intro G9
  obtain ⟨a1, a2, a3, a4, a5, a6, a7⟩ := hA
  obtain ⟨te, o, so, t9', F, ⟨Hh, Kk, V, rfl⟩, Hso, N⟩ := H
  k_unfold
  have LA := LexAt.of hX F N (.tail _ (.tail _ (.head _))) (.tail _ (.tail _ (.tail _ (.head _))))
  dsimp only [rtRest, rtBody]
  have htk5 : tok.length ≤ 10000000 := by omega
  k_with_none
  k_with "my eq" => (first | refine eq_known (by assumption) ?_ | refine eq_known (b := true) (by decide +kernel) ?_ | refine eq_known (b := false) (by decide +kernel) ?_)
  k_with "my ne" => (first | refine ne_known (by assumption) ?_ | refine ne_known (b := true) (by decide +kernel) ?_ | refine ne_known (b := false) (by decide +kernel) ?_)
  k_with "my in" => (first | refine in_known (by assumption) ?_ | refine in_known (b := true) (by decide +kernel) ?_ | refine in_known (b := false) (by decide +kernel) ?_)
  k_with "my notin" => (first | refine notin_known (by assumption) ?_ | refine notin_known (b := true) (by decide +kernel) ?_ | refine notin_known (b := false) (by decide +kernel) ?_)
  k_with "my truthy" => (refine truthy_known (by assumption) (by assumption) ?_)
  k_steps
  · refine' next _ _ ⟨[(Str.ofString "nextchar", Value.str (Str.ofString "'") t9')], te, _, _, .inr ⟨_, rfl⟩, Fr.ext' ?F0 ?e0, ?D0, Hso, ?N0⟩
    case N0 => first | k_asm | exact news_tail (by k_asm)
    case F0 => k_asm
    case D0 => exact ⟨Hh, Kk, fun i => if i = 11 then _ else if i = 15 then _ else V i, rfl⟩
    case e0 => exact rtl_all (nxl := [(Str.ofString "nextchar", Value.str (Str.ofString "'") t9')]) (q := q) (ev := St.val e te) (.inr ⟨_, rfl⟩) rfl rfl rfl rfl (by intro y n1 n2 n3 n4; first | rfl | simp only [n1, n2, n3, n4, if_false])
theorem turn_sp_sq {dp un : Nat} {gd : Option (List Code)} {outer : List Env} {A₀ : Around} {base g : Heap} {fd : FuncData} {L x dx sx sdx q1 q2 : Addr} {oq1 oq2 : Obj} {news : List (Addr × Obj)} {wc b : Str} {q : Bool} {e : St} {tok : Str} {pos : Int} {s : Shared} {Q : Flow → Shared → Prop}
   (hfd : fnAt (Mine.hd.heap_1 w.params) 720 = some fd) (hB : Below A₀ base outer g) (hX : (Mine.hd.heap_1 w.params).In g) (hT : Top p loose mean mg mb g) (hd : dp + 10 < recursionLimit) (hu : un + 50 < cLine)
   (hA : LexAddrs x dx sx sdx q1 q2 news)
   (hpos : 0 ≤ pos) (hb : b.length ≤ 10000)
   (htok : tok.length ≤ 10000)
   (hlt : pos < b.length) (hch : Txt.slice b (some pos) (some (pos + 1)) = (Str.ofString "'"))
   (f0 : Txt.contains wc (Str.ofString "'") = false)
   (H : AtLoop g L x dx sx sdx q1 q2 oq1 oq2 news wc b .sp q e tok pos s.heap)
   (next : ∀ h' tk', AtLoop g L x dx sx sdx q1 q2 oq1 oq2 news wc b .sq q e tok (pos + 1) h' → LR PySem.Challenge.rw_of0086_01.row.prog w (ktrTop dp un gd fd.qualname fd.scope L 720 fd.code [] outer) (envOf fd.qualname fd.scope L 720 fd.code) (rtTest fd) (rtBody fd) [] Q { s with heap := h', toks := tk' }) :
   LR PySem.Challenge.rw_of0086_01.row.prog w (ktrTop dp un gd fd.qualname fd.scope L 720 fd.code [] outer) (envOf fd.qualname fd.scope L 720 fd.code) (rtTest fd) (rtBody fd) [] Q s :=
  turn_char hfd hB hX hT hd hu hA hpos hb _ (by decide +kernel) hlt hch H fun h' tk' M => turnm_sp_sq (e := e) hfd hB hX hT hd hu hA htok f0 M fun h'' tk'' R => next h'' tk'' R
theorem turnm_sp_word {K : Flow → Shared → Prop} {dp un : Nat} {gd : Option (List Code)} {outer : List Env} {A₀ : Around} {base g : Heap} {fd : FuncData} {L x dx sx sdx q1 q2 : Addr} {oq1 oq2 : Obj} {news : List (Addr × Obj)} {wc b : Str} {q : Bool} {e : St} {tok : Str} {pos : Int} {s : Shared}
   (hfd : fnAt (Mine.hd.heap_1 w.params) 720 = some fd) (hB : Below A₀ base outer g) (hX : (Mine.hd.heap_1 w.params).In g) (hT : Top p loose mean mg mb g) (hd : dp + 10 < recursionLimit) (hu : un + 50 < cLine)
   (hA : LexAddrs x dx sx sdx q1 q2 news)
   (htok : tok.length ≤ 10000)
   (c : Str) (hc1 : c.length = 1)
   (f0 : (c == Str.ofString "\n") = false)
   (f1 : Txt.contains (Str.ofString " \t\r\n") c = false)
   (f2 : Txt.contains (Str.ofString "") c = false)
   (f3 : Txt.contains (Str.ofString "'\"") c = false)
   (f4 : Txt.contains (Str.ofString "\\") c = false)
   (f5 : Txt.contains wc c = true)
   (H : AtMid g L x dx sx sdx q1 q2 oq1 oq2 news wc b .sp q e tok pos c s.heap)
   (next : ∀ h' tk', AtLoop g L x dx sx sdx q1 q2 oq1 oq2 news wc b .a q e c pos h' → K .next { s with heap := h', toks := tk' }) :
   wpAny (model PySem.Challenge.rw_of0086_01.row.prog w) (ktrTop dp un gd fd.qualname fd.scope L 720 fd.code [] outer) (execs (rtRest fd) (envOf fd.qualname fd.scope L 720 fd.code)) K (fun _ _ => False) s := by
  revert hfd
  k_fill
  intro hfd
  refine' (fun (e9 : fd = _) => ?main9) (Option.some.inj (hfd.symm.trans (fnAt_of ?hl9)))
  case hl9 => k_dflt k_is
  subst e9
  clear hfd
  refine hideG ?_
  intro G9
  obtain ⟨a1, a2, a3, a4, a5, a6, a7⟩ := hA
  obtain ⟨te, o, so, t9', F, ⟨Hh, Kk, V, rfl⟩, Hso, N⟩ := H
  k_unfold
  have LA := LexAt.of hX F N (.tail _ (.tail _ (.head _))) (.tail _ (.tail _ (.tail _ (.head _))))
  dsimp only [rtRest, rtBody]
  have hct : ((c.length : Int) != 0) = true := by rw [hc1]; rfl
  have hc5 : c.length ≤ 10000000 := by omega
  have htk5 : tok.length ≤ 10000000 := by omega
  k_with_none
  k_with "my eq" => (first | refine eq_known (by assumption) ?_ | refine eq_known (b := true) (by decide +kernel) ?_ | refine eq_known (b := false) (by decide +kernel) ?_)
  k_with "my ne" => (first | refine ne_known (by assumption) ?_ | refine ne_known (b := true) (by decide +kernel) ?_ | refine ne_known (b := false) (by decide +kernel) ?_)
  k_with "my in" => (first | refine in_known (by assumption) ?_ | refine in_known (b := true) (by decide +kernel) ?_ | refine in_known (b := false) (by decide +kernel) ?_)
  k_with "my notin" => (first | refine notin_known (by assumption) ?_ | refine notin_known (b := true) (by decide +kernel) ?_ | refine notin_known (b := false) (by decide +kernel) ?_)
  k_with "my truthy" => (refine truthy_known (by assumption) (by assumption) ?_)
  k_steps
  · refine' next _ _ ⟨[(Str.ofString "nextchar", Value.str c t9')], te, _, _, .inr ⟨_, rfl⟩, Fr.ext' ?F0 ?e0, ?D0, Hso, ?N0⟩
    case N0 => first | k_asm | exact news_tail (by k_asm)
    case F0 => k_asm
    case D0 => exact ⟨Hh, Kk, fun i => if i = 11 then _ else if i = 15 then _ else V i, rfl⟩
    case e0 => exact rtl_all (nxl := [(Str.ofString "nextchar", Value.str c t9')]) (q := q) (ev := St.val e te) (.inr ⟨_, rfl⟩) rfl rfl rfl rfl (by intro y n1 n2 n3 n4; first | rfl | simp only [n1, n2, n3, n4, if_false])
theorem turn_sp_word {dp un : Nat} {gd : Option (List Code)} {outer : List Env} {A₀ : Around} {base g : Heap} {fd : FuncData} {L x dx sx sdx q1 q2 : Addr} {oq1 oq2 : Obj} {news : List (Addr × Obj)} {wc b : Str} {q : Bool} {e : St} {tok : Str} {pos : Int} {s : Shared} {Q : Flow → Shared → Prop}
   (hfd : fnAt (Mine.hd.heap_1 w.params) 720 = some fd) (hB : Below A₀ base outer g) (hX : (Mine.hd.heap_1 w.params).In g) (hT : Top p loose mean mg mb g) (hd : dp + 10 < recursionLimit) (hu : un + 50 < cLine)
   (hA : LexAddrs x dx sx sdx q1 q2 news)
   (hpos : 0 ≤ pos) (hb : b.length ≤ 10000)
   (htok : tok.length ≤ 10000)
   (c : Str) (hc1 : c.length = 1)
   (hlt : pos < b.length) (hch : Txt.slice b (some pos) (some (pos + 1)) = c)
   (f0 : (c == Str.ofString "\n") = false)
   (f1 : Txt.contains (Str.ofString " \t\r\n") c = false)
   (f2 : Txt.contains (Str.ofString "") c = false)
   (f3 : Txt.contains (Str.ofString "'\"") c = false)
   (f4 : Txt.contains (Str.ofString "\\") c = false)
   (f5 : Txt.contains wc c = true)
   (H : AtLoop g L x dx sx sdx q1 q2 oq1 oq2 news wc b .sp q e tok pos s.heap)
   (next : ∀ h' tk', AtLoop g L x dx sx sdx q1 q2 oq1 oq2 news wc b .a q e c (pos + 1) h' → LR PySem.Challenge.rw_of0086_01.row.prog w (ktrTop dp un gd fd.qualname fd.scope L 720 fd.code [] outer) (envOf fd.qualname fd.scope L 720 fd.code) (rtTest fd) (rtBody fd) [] Q { s with heap := h', toks := tk' }) :
   LR PySem.Challenge.rw_of0086_01.row.prog w (ktrTop dp un gd fd.qualname fd.scope L 720 fd.code [] outer) (envOf fd.qualname fd.scope L 720 fd.code) (rtTest fd) (rtBody fd) [] Q s :=
  turn_char hfd hB hX hT hd hu hA hpos hb _ f0 hlt hch H fun h' tk' M => turnm_sp_word (e := e) hfd hB hX hT hd hu hA htok c hc1 f0 f1 f2 f3 f4 f5 M fun h'' tk'' R => next h'' tk'' R
theorem turnm_sp_other {K : Flow → Shared → Prop} {dp un : Nat} {gd : Option (List Code)} {outer : List Env} {A₀ : Around} {base g : Heap} {fd : FuncData} {L x dx sx sdx q1 q2 : Addr} {oq1 oq2 : Obj} {news : List (Addr × Obj)} {wc b : Str} {q : Bool} {e : St} {tok : Str} {pos : Int} {s : Shared}
   (hfd : fnAt (Mine.hd.heap_1 w.params) 720 = some fd) (hB : Below A₀ base outer g) (hX : (Mine.hd.heap_1 w.params).In g) (hT : Top p loose mean mg mb g) (hd : dp + 10 < recursionLimit) (hu : un + 50 < cLine)
   (hA : LexAddrs x dx sx sdx q1 q2 news)
   (htok : tok.length ≤ 10000)
   (c : Str) (hc1 : c.length = 1)
   (f0 : (c == Str.ofString "\n") = false)
   (f1 : Txt.contains (Str.ofString " \t\r\n") c = false)
   (f2 : Txt.contains (Str.ofString "") c = false)
   (f3 : Txt.contains (Str.ofString "'\"") c = false)
   (f4 : Txt.contains (Str.ofString "\\") c = false)
   (f5 : Txt.contains wc c = false)
   (H : AtMid g L x dx sx sdx q1 q2 oq1 oq2 news wc b .sp q e tok pos c s.heap)
   (next : ∀ h' tk', AtLoop g L x dx sx sdx q1 q2 oq1 oq2 news wc b .a q e c pos h' → K .next { s with heap := h', toks := tk' }) :
   wpAny (model PySem.Challenge.rw_of0086_01.row.prog w) (ktrTop dp un gd fd.qualname fd.scope L 720 fd.code [] outer) (execs (rtRest fd) (envOf fd.qualname fd.scope L 720 fd.code)) K (fun _ _ => False) s := by
  revert hfd
  k_fill
  intro hfd
  refine' (fun (e9 : fd = _) => ?main9) (Option.some.inj (hfd.symm.trans (fnAt_of ?hl9)))
  case hl9 => k_dflt k_is
  subst e9
  clear hfd
  refine hideG ?_
  intro G9
  obtain ⟨a1, a2, a3, a4, a5, a6, a7⟩ := hA
  obtain ⟨te, o, so, t9', F, ⟨Hh, Kk, V, rfl⟩, Hso, N⟩ := H
  k_unfold
  have LA := LexAt.of hX F N (.tail _ (.tail _ (.head _))) (.tail _ (.tail _ (.tail _ (.head _))))
  dsimp only [rtRest, rtBody]
  have hct : ((c.length : Int) != 0) = true := by rw [hc1]; rfl
  have hc5 : c.length ≤ 10000000 := by omega
  have htk5 : tok.length ≤ 10000000 := by omega
  k_with_none
  k_with "my eq" => (first | refine eq_known (by assumption) ?_ | refine eq_known (b := true) (by decide +kernel) ?_ | refine eq_known (b := false) (by decide +kernel) ?_)
  k_with "my ne" => (first | refine ne_known (by assumption) ?_ | refine ne_known (b := true) (by decide +kernel) ?_ | refine ne_known (b := false) (by decide +kernel) ?_)
  k_with "my in" => (first | refine in_known (by assumption) ?_ | refine in_known (b := true) (by decide +kernel) ?_ | refine in_known (b := false) (by decide +kernel) ?_)
  k_with "my notin" => (first | refine notin_known (by assumption) ?_ | refine notin_known (b := true) (by decide +kernel) ?_ | refine notin_known (b := false) (by decide +kernel) ?_)
  k_with "my truthy" => (refine truthy_known (by assumption) (by assumption) ?_)
  k_steps
  · refine' next _ _ ⟨[(Str.ofString "nextchar", Value.str c t9')], te, _, _, .inr ⟨_, rfl⟩, Fr.ext' ?F0 ?e0, ?D0, Hso, ?N0⟩
    case N0 => first | k_asm | exact news_tail (by k_asm)
    case F0 => k_asm
    case D0 => exact ⟨Hh, Kk, fun i => if i = 11 then _ else if i = 15 then _ else V i, rfl⟩
    case e0 => exact rtl_all (nxl := [(Str.ofString "nextchar", Value.str c t9')]) (q := q) (ev := St.val e te) (.inr ⟨_, rfl⟩) rfl rfl rfl rfl (by intro y n1 n2 n3 n4; first | rfl | simp only [n1, n2, n3, n4, if_false])
theorem turn_sp_other {dp un : Nat} {gd : Option (List Code)} {outer : List Env} {A₀ : Around} {base g : Heap} {fd : FuncData} {L x dx sx sdx q1 q2 : Addr} {oq1 oq2 : Obj} {news : List (Addr × Obj)} {wc b : Str} {q : Bool} {e : St} {tok : Str} {pos : Int} {s : Shared} {Q : Flow → Shared → Prop}
   (hfd : fnAt (Mine.hd.heap_1 w.params) 720 = some fd) (hB : Below A₀ base outer g) (hX : (Mine.hd.heap_1 w.params).In g) (hT : Top p loose mean mg mb g) (hd : dp + 10 < recursionLimit) (hu : un + 50 < cLine)
   (hA : LexAddrs x dx sx sdx q1 q2 news)
   (hpos : 0 ≤ pos) (hb : b.length ≤ 10000)
   (htok : tok.length ≤ 10000)
   (c : Str) (hc1 : c.length = 1)
   (hlt : pos < b.length) (hch : Txt.slice b (some pos) (some (pos + 1)) = c)
   (f0 : (c == Str.ofString "\n") = false)
   (f1 : Txt.contains (Str.ofString " \t\r\n") c = false)
   (f2 : Txt.contains (Str.ofString "") c = false)
   (f3 : Txt.contains (Str.ofString "'\"") c = false)
   (f4 : Txt.contains (Str.ofString "\\") c = false)
   (f5 : Txt.contains wc c = false)
   (H : AtLoop g L x dx sx sdx q1 q2 oq1 oq2 news wc b .sp q e tok pos s.heap)
   (next : ∀ h' tk', AtLoop g L x dx sx sdx q1 q2 oq1 oq2 news wc b .a q e c (pos + 1) h' → LR PySem.Challenge.rw_of0086_01.row.prog w (ktrTop dp un gd fd.qualname fd.scope L 720 fd.code [] outer) (envOf fd.qualname fd.scope L 720 fd.code) (rtTest fd) (rtBody fd) [] Q { s with heap := h', toks := tk' }) :
   LR PySem.Challenge.rw_of0086_01.row.prog w (ktrTop dp un gd fd.qualname fd.scope L 720 fd.code [] outer) (envOf fd.qualname fd.scope L 720 fd.code) (rtTest fd) (rtBody fd) [] Q s :=
  turn_char hfd hB hX hT hd hu hA hpos hb _ f0 hlt hch H fun h' tk' M => turnm_sp_other (e := e) hfd hB hX hT hd hu hA htok c hc1 f0 f1 f2 f3 f4 f5 M fun h'' tk'' R => next h'' tk'' R
theorem turnm_sp_eof {K : Flow → Shared → Prop} {dp un : Nat} {gd : Option (List Code)} {outer : List Env} {A₀ : Around} {base g : Heap} {fd : FuncData} {L x dx sx sdx q1 q2 : Addr} {oq1 oq2 : Obj} {news : List (Addr × Obj)} {wc b : Str} {q : Bool} {e : St} {tok : Str} {pos : Int} {s : Shared}
   (hfd : fnAt (Mine.hd.heap_1 w.params) 720 = some fd) (hB : Below A₀ base outer g) (hX : (Mine.hd.heap_1 w.params).In g) (hT : Top p loose mean mg mb g) (hd : dp + 10 < recursionLimit) (hu : un + 50 < cLine)
   (hA : LexAddrs x dx sx sdx q1 q2 news)
   (htok : tok.length ≤ 10000)
   (H : AtMid g L x dx sx sdx q1 q2 oq1 oq2 news wc b .sp q e tok pos (Str.ofString "") s.heap)
   (next : ∀ h' tk', AtLoop g L x dx sx sdx q1 q2 oq1 oq2 news wc b .no q e tok pos h' → K .brk { s with heap := h', toks := tk' }) :
   wpAny (model PySem.Challenge.rw_of0086_01.row.prog w) (ktrTop dp un gd fd.qualname fd.scope L 720 fd.code [] outer) (execs (rtRest fd) (envOf fd.qualname fd.scope L 720 fd.code)) K (fun _ _ => False) s := by
  revert hfd
  k_fill
  intro hfd
  refine' (fun (e9 : fd = _) => ?main9) (Option.some.inj (hfd.symm.trans (fnAt_of ?hl9)))
  case hl9 => k_dflt k_is
  subst e9
  clear hfd
  refine hideG ?_
  intro G9
  obtain ⟨a1, a2, a3, a4, a5, a6, a7⟩ := hA
  obtain ⟨te, o, so, t9', F, ⟨Hh, Kk, V, rfl⟩, Hso, N⟩ := H
  k_unfold
  have LA := LexAt.of hX F N (.tail _ (.tail _ (.head _))) (.tail _ (.tail _ (.tail _ (.head _))))
  dsimp only [rtRest, rtBody]
  have htk5 : tok.length ≤ 10000000 := by omega
  k_with_none
  k_with "my eq" => (first | refine eq_known (by assumption) ?_ | refine eq_known (b := true) (by decide +kernel) ?_ | refine eq_known (b := false) (by decide +kernel) ?_)
  k_with "my ne" => (first | refine ne_known (by assumption) ?_ | refine ne_known (b := true) (by decide +kernel) ?_ | refine ne_known (b := false) (by decide +kernel) ?_)
  k_with "my in" => (first | refine in_known (by assumption) ?_ | refine in_known (b := true) (by decide +kernel) ?_ | refine in_known (b := false) (by decide +kernel) ?_)
  k_with "my notin" => (first | refine notin_known (by assumption) ?_ | refine notin_known (b := true) (by decide +kernel) ?_ | refine notin_known (b := false) (by decide +kernel) ?_)
  k_with "my truthy" => (refine truthy_known (by assumption) (by assumption) ?_)
  k_steps
  · refine' next _ _ ⟨[(Str.ofString "nextchar", Value.str (Str.ofString "") t9')], te, _, _, .inr ⟨_, rfl⟩, Fr.ext' ?F0 ?e0, ?D0, Hso, ?N0⟩
    case N0 => first | k_asm | exact news_tail (by k_asm)
    case F0 => k_asm
    case D0 => exact ⟨Hh, Kk, fun i => if i = 15 then _ else V i, rfl⟩
    case e0 => exact rtl_all (nxl := [(Str.ofString "nextchar", Value.str (Str.ofString "") t9')]) (q := q) (ev := St.val e te) (.inr ⟨_, rfl⟩) rfl rfl rfl rfl (by intro y n1 n2 n3 n4; first | rfl | simp only [n1, n2, n3, n4, if_false])
theorem turn_sp_eof {dp un : Nat} {gd : Option (List Code)} {outer : List Env} {A₀ : Around} {base g : Heap} {fd : FuncData} {L x dx sx sdx q1 q2 : Addr} {oq1 oq2 : Obj} {news : List (Addr × Obj)} {wc b : Str} {q : Bool} {e : St} {tok : Str} {pos : Int} {s : Shared} {Q : Flow → Shared → Prop}
   (hfd : fnAt (Mine.hd.heap_1 w.params) 720 = some fd) (hB : Below A₀ base outer g) (hX : (Mine.hd.heap_1 w.params).In g) (hT : Top p loose mean mg mb g) (hd : dp + 10 < recursionLimit) (hu : un + 50 < cLine)
   (hA : LexAddrs x dx sx sdx q1 q2 news)
   (hpos : 0 ≤ pos) (hb : b.length ≤ 10000)
   (htok : tok.length ≤ 10000)
   (hlt : ¬ pos < b.length)
   (H : AtLoop g L x dx sx sdx q1 q2 oq1 oq2 news wc b .sp q e tok pos s.heap)
   (next : ∀ h' tk', AtLoop g L x dx sx sdx q1 q2 oq1 oq2 news wc b .no q e tok pos h' → Q .next { s with heap := h', toks := tk' }) :
   LR PySem.Challenge.rw_of0086_01.row.prog w (ktrTop dp un gd fd.qualname fd.scope L 720 fd.code [] outer) (envOf fd.qualname fd.scope L 720 fd.code) (rtTest fd) (rtBody fd) [] Q s :=
  turn_end hfd hB hX hT hd hu hA hpos hb hlt H fun h' tk' M => turnm_sp_eof (e := e) hfd hB hX hT hd hu hA htok  M fun h'' tk'' R => next h'' tk'' R
theorem turnm_no_eof {K : Flow → Shared → Prop} {dp un : Nat} {gd : Option (List Code)} {outer : List Env} {A₀ : Around} {base g : Heap} {fd : FuncData} {L x dx sx sdx q1 q2 : Addr} {oq1 oq2 : Obj} {news : List (Addr × Obj)} {wc b : Str} {q : Bool} {e : St} {tok : Str} {pos : Int} {s : Shared}
   (hfd : fnAt (Mine.hd.heap_1 w.params) 720 = some fd) (hB : Below A₀ base outer g) (hX : (Mine.hd.heap_1 w.params).In g) (hT : Top p loose mean mg mb g) (hd : dp + 10 < recursionLimit) (hu : un + 50 < cLine)
   (hA : LexAddrs x dx sx sdx q1 q2 news)
   (htok : tok.length ≤ 10000)
   (H : AtMid g L x dx sx sdx q1 q2 oq1 oq2 news wc b .no q e tok pos (Str.ofString "") s.heap)
   (next : ∀ h' tk', AtLoop g L x dx sx sdx q1 q2 oq1 oq2 news wc b .no q e (Str.ofString "") pos h' → K .brk { s with heap := h', toks := tk' }) :
   wpAny (model PySem.Challenge.rw_of0086_01.row.prog w) (ktrTop dp un gd fd.qualname fd.scope L 720 fd.code [] outer) (execs (rtRest fd) (envOf fd.qualname fd.scope L 720 fd.code)) K (fun _ _ => False) s := by
  revert hfd
  k_fill
  intro hfd
  refine' (fun (e9 : fd = _) => ?main9) (Option.some.inj (hfd.symm.trans (fnAt_of ?hl9)))
  case hl9 => k_dflt k_is
  subst e9
  clear hfd
  refine hideG ?_
  intro G9
  obtain ⟨a1, a2, a3, a4, a5, a6, a7⟩ := hA
  obtain ⟨te, o, so, t9', F, ⟨Hh, Kk, V, rfl⟩, Hso, N⟩ := H
  k_unfold
  have LA := LexAt.of hX F N (.tail _ (.tail _ (.head _))) (.tail _ (.tail _ (.tail _ (.head _))))
  dsimp only [rtRest, rtBody]
  have htk5 : tok.length ≤ 10000000 := by omega
  k_with_none
  k_with "my eq" => (first | refine eq_known (by assumption) ?_ | refine eq_known (b := true) (by decide +kernel) ?_ | refine eq_known (b := false) (by decide +kernel) ?_)
  k_with "my ne" => (first | refine ne_known (by assumption) ?_ | refine ne_known (b := true) (by decide +kernel) ?_ | refine ne_known (b := false) (by decide +kernel) ?_)
  k_with "my in" => (first | refine in_known (by assumption) ?_ | refine in_known (b := true) (by decide +kernel) ?_ | refine in_known (b := false) (by decide +kernel) ?_)
  k_with "my notin" => (first | refine notin_known (by assumption) ?_ | refine notin_known (b := true) (by decide +kernel) ?_ | refine notin_known (b := false) (by decide +kernel) ?_)
  k_with "my truthy" => (refine truthy_known (by assumption) (by assumption) ?_)
  k_steps
  · refine' next _ _ ⟨[(Str.ofString "nextchar", Value.str (Str.ofString "") t9')], te, _, _, .inr ⟨_, rfl⟩, Fr.ext' ?F0 ?e0, ?D0, Hso, ?N0⟩
    case N0 => first | k_asm | exact news_tail (by k_asm)
    case F0 => k_asm
    case D0 => exact ⟨Hh, Kk, fun i => if i = 15 then _ else V i, rfl⟩
    case e0 => exact rtl_all (nxl := [(Str.ofString "nextchar", Value.str (Str.ofString "") t9')]) (q := q) (ev := St.val e te) (.inr ⟨_, rfl⟩) rfl rfl rfl rfl (by intro y n1 n2 n3 n4; first | rfl | simp only [n1, n2, n3, n4, if_false])
theorem turn_no_eof {dp un : Nat} {gd : Option (List Code)} {outer : List Env} {A₀ : Around} {base g : Heap} {fd : FuncData} {L x dx sx sdx q1 q2 : Addr} {oq1 oq2 : Obj} {news : List (Addr × Obj)} {wc b : Str} {q : Bool} {e : St} {tok : Str} {pos : Int} {s : Shared} {Q : Flow → Shared → Prop}
   (hfd : fnAt (Mine.hd.heap_1 w.params) 720 = some fd) (hB : Below A₀ base outer g) (hX : (Mine.hd.heap_1 w.params).In g) (hT : Top p loose mean mg mb g) (hd : dp + 10 < recursionLimit) (hu : un + 50 < cLine)
   (hA : LexAddrs x dx sx sdx q1 q2 news)
   (hpos : 0 ≤ pos) (hb : b.length ≤ 10000)
   (htok : tok.length ≤ 10000)
   (hlt : ¬ pos < b.length)
   (H : AtLoop g L x dx sx sdx q1 q2 oq1 oq2 news wc b .no q e tok pos s.heap)
   (next : ∀ h' tk', AtLoop g L x dx sx sdx q1 q2 oq1 oq2 news wc b .no q e (Str.ofString "") pos h' → Q .next { s with heap := h', toks := tk' }) :
   LR PySem.Challenge.rw_of0086_01.row.prog w (ktrTop dp un gd fd.qualname fd.scope L 720 fd.code [] outer) (envOf fd.qualname fd.scope L 720 fd.code) (rtTest fd) (rtBody fd) [] Q s :=
  turn_end hfd hB hX hT hd hu hA hpos hb hlt H fun h' tk' M => turnm_no_eof (e := e) hfd hB hX hT hd hu hA htok  M fun h'' tk'' R => next h'' tk'' R
end

end

section
section
variable {w : World} {p : Program} {loose : List Str} {mean : ExcName → Option Value} {mg mb : Str → Option Value}
theorem turnm_a_word {K : Flow → Shared → Prop} {dp un : Nat} {gd : Option (List Code)} {outer : List Env} {A₀ : Around} {base g : Heap} {fd : FuncData} {L x dx sx sdx q1 q2 : Addr} {oq1 oq2 : Obj} {news : List (Addr × Obj)} {wc b : Str} {q : Bool} {e : St} {tok : Str} {pos : Int} {s : Shared}
   (hfd : fnAt (Mine.hd.heap_1 w.params) 720 = some fd) (hB : Below A₀ base outer g) (hX : (Mine.hd.heap_1 w.params).In g) (hT : Top p loose mean mg mb g) (hd : dp + 10 < recursionLimit) (hu : un + 50 < cLine)
   (hA : LexAddrs x dx sx sdx q1 q2 news)
   (htok : tok.length ≤ 10000)
   (c : Str) (hc1 : c.length = 1)
   (f0 : (c == Str.ofString "\n") = false)
   (f1 : Txt.contains (Str.ofString " \t\r\n") c = false)
   (f2 : Txt.contains (Str.ofString "") c = false)
   (f3 : Txt.contains (Str.ofString "'\"") c = false)
   (f4 : Txt.contains (Str.ofString "\\") c = false)
   (f5 : Txt.contains wc c = true)
   (H : AtMid g L x dx sx sdx q1 q2 oq1 oq2 news wc b .a q e tok pos c s.heap)
   (next : ∀ h' tk', AtLoop g L x dx sx sdx q1 q2 oq1 oq2 news wc b .a q e (tok ++ c) pos h' → K .next { s with heap := h', toks := tk' }) :
   wpAny (model PySem.Challenge.rw_of0086_01.row.prog w) (ktrTop dp un gd fd.qualname fd.scope L 720 fd.code [] outer) (execs (rtRest fd) (envOf fd.qualname fd.scope L 720 fd.code)) K (fun _ _ => False) s := by
  revert hfd
  k_fill
  intro hfd
  refine' (fun (e9 : fd = _) => ?main9) (Option.some.inj (hfd.symm.trans (fnAt_of ?hl9)))
  case hl9 => k_dflt k_is
  subst e9
  clear hfd
  refine hideG ?_
  intro G9
  obtain ⟨a1, a2, a3, a4, a5, a6, a7⟩ := hA
  obtain ⟨te, o, so, t9', F, ⟨Hh, Kk, V, rfl⟩, Hso, N⟩ := H
  k_unfold
  have LA := LexAt.of hX F N (.tail _ (.tail _ (.head _))) (.tail _ (.tail _ (.tail _ (.head _))))
  dsimp only [rtRest, rtBody]
  have hct : ((c.length : Int) != 0) = true := by rw [hc1]; rfl
  have hc5 : c.length ≤ 10000000 := by omega
  have htk5 : tok.length ≤ 10000000 := by omega
  k_with_none
  k_with "my eq" => (first | refine eq_known (by assumption) ?_ | refine eq_known (b := true) (by decide +kernel) ?_ | refine eq_known (b := false) (by decide +kernel) ?_)
  k_with "my ne" => (first | refine ne_known (by assumption) ?_ | refine ne_known (b := true) (by decide +kernel) ?_ | refine ne_known (b := false) (by decide +kernel) ?_)
  k_with "my in" => (first | refine in_known (by assumption) ?_ | refine in_known (b := true) (by decide +kernel) ?_ | refine in_known (b := false) (by decide +kernel) ?_)
  k_with "my notin" => (first | refine notin_known (by assumption) ?_ | refine notin_known (b := true) (by decide +kernel) ?_ | refine notin_known (b := false) (by decide +kernel) ?_)
  k_with "my truthy" => (refine truthy_known (by assumption) (by assumption) ?_)
  k_steps
  · refine' next _ _ ⟨[(Str.ofString "nextchar", Value.str c t9')], te, _, _, .inr ⟨_, rfl⟩, Fr.ext' ?F0 ?e0, ?D0, Hso, ?N0⟩
    case N0 => first | k_asm | exact news_tail (by k_asm)
    case F0 => k_asm
    case D0 => exact ⟨Hh, Kk, fun i => if i = 11 then _ else if i = 15 then _ else V i, rfl⟩
    case e0 => exact rtl_all (nxl := [(Str.ofString "nextchar", Value.str c t9')]) (q := q) (ev := St.val e te) (.inr ⟨_, rfl⟩) rfl rfl rfl rfl (by intro y n1 n2 n3 n4; first | rfl | simp only [n1, n2, n3, n4, if_false])
theorem turn_a_word {dp un : Nat} {gd : Option (List Code)} {outer : List Env} {A₀ : Around} {base g : Heap} {fd : FuncData} {L x dx sx sdx q1 q2 : Addr} {oq1 oq2 : Obj} {news : List (Addr × Obj)} {wc b : Str} {q : Bool} {e : St} {tok : Str} {pos : Int} {s : Shared} {Q : Flow → Shared → Prop}
   (hfd : fnAt (Mine.hd.heap_1 w.params) 720 = some fd) (hB : Below A₀ base outer g) (hX : (Mine.hd.heap_1 w.params).In g) (hT : Top p loose mean mg mb g) (hd : dp + 10 < recursionLimit) (hu : un + 50 < cLine)
   (hA : LexAddrs x dx sx sdx q1 q2 news)
   (hpos : 0 ≤ pos) (hb : b.length ≤ 10000)
   (htok : tok.length ≤ 10000)
   (c : Str) (hc1 : c.length = 1)
   (hlt : pos < b.length) (hch : Txt.slice b (some pos) (some (pos + 1)) = c)
   (f0 : (c == Str.ofString "\n") = false)
   (f1 : Txt.contains (Str.ofString " \t\r\n") c = false)
   (f2 : Txt.contains (Str.ofString "") c = false)
   (f3 : Txt.contains (Str.ofString "'\"") c = false)
   (f4 : Txt.contains (Str.ofString "\\") c = false)
   (f5 : Txt.contains wc c = true)
   (H : AtLoop g L x dx sx sdx q1 q2 oq1 oq2 news wc b .a q e tok pos s.heap)
   (next : ∀ h' tk', AtLoop g L x dx sx sdx q1 q2 oq1 oq2 news wc b .a q e (tok ++ c) (pos + 1) h' → LR PySem.Challenge.rw_of0086_01.row.prog w (ktrTop dp un gd fd.qualname fd.scope L 720 fd.code [] outer) (envOf fd.qualname fd.scope L 720 fd.code) (rtTest fd) (rtBody fd) [] Q { s with heap := h', toks := tk' }) :
   LR PySem.Challenge.rw_of0086_01.row.prog w (ktrTop dp un gd fd.qualname fd.scope L 720 fd.code [] outer) (envOf fd.qualname fd.scope L 720 fd.code) (rtTest fd) (rtBody fd) [] Q s :=
  turn_char hfd hB hX hT hd hu hA hpos hb _ f0 hlt hch H fun h' tk' M => turnm_a_word (e := e) hfd hB hX hT hd hu hA htok c hc1 f0 f1 f2 f3 f4 f5 M fun h'' tk'' R => next h'' tk'' R
end

end

section
section
variable {w : World} {p : Program} {loose : List Str} {mean : ExcName → Option Value} {mg mb : Str → Option Value}
theorem turnm_a_other {K : Flow → Shared → Prop} {dp un : Nat} {gd : Option (List Code)} {outer : List Env} {A₀ : Around} {base g : Heap} {fd : FuncData} {L x dx sx sdx q1 q2 : Addr} {oq1 oq2 : Obj} {news : List (Addr × Obj)} {wc b : Str} {q : Bool} {e : St} {tok : Str} {pos : Int} {s : Shared}
   (hfd : fnAt (Mine.hd.heap_1 w.params) 720 = some fd) (hB : Below A₀ base outer g) (hX : (Mine.hd.heap_1 w.params).In g) (hT : Top p loose mean mg mb g) (hd : dp + 10 < recursionLimit) (hu : un + 50 < cLine)
   (hA : LexAddrs x dx sx sdx q1 q2 news)
   (htok : tok.length ≤ 10000)
   (c : Str) (hc1 : c.length = 1)
   (f0 : (c == Str.ofString "\n") = false)
   (f1 : Txt.contains (Str.ofString " \t\r\n") c = false)
   (f2 : Txt.contains (Str.ofString "") c = false)
   (f3 : Txt.contains (Str.ofString "'\"") c = false)
   (f4 : Txt.contains (Str.ofString "\\") c = false)
   (f5 : Txt.contains wc c = false)
   (H : AtMid g L x dx sx sdx q1 q2 oq1 oq2 news wc b .a q e tok pos c s.heap)
   (next : ∀ h' tk', AtLoop g L x dx sx sdx q1 q2 oq1 oq2 news wc b .a q e (tok ++ c) pos h' → K .next { s with heap := h', toks := tk' }) :
   wpAny (model PySem.Challenge.rw_of0086_01.row.prog w) (ktrTop dp un gd fd.qualname fd.scope L 720 fd.code [] outer) (execs (rtRest fd) (envOf fd.qualname fd.scope L 720 fd.code)) K (fun _ _ => False) s := by
  revert hfd
  k_fill
  intro hfd
  refine' (fun (e9 : fd = _) => ?main9) (Option.some.inj (hfd.symm.trans (fnAt_of ?hl9)))
  case hl9 => k_dflt k_is
  subst e9
  clear hfd
  refine hideG ?_
  intro G9
  obtain ⟨a1, a2, a3, a4, a5, a6, a7⟩ := hA
  obtain ⟨te, o, so, t9', F, ⟨Hh, Kk, V, rfl⟩, Hso, N⟩ := H
  k_unfold
  have LA := LexAt.of hX F N (.tail _ (.tail _ (.head _))) (.tail _ (.tail _ (.tail _ (.head _))))
  dsimp only [rtRest, rtBody]
  have hct : ((c.length : Int) != 0) = true := by rw [hc1]; rfl
  have hc5 : c.length ≤ 10000000 := by omega
  have htk5 : tok.length ≤ 10000000 := by omega
  k_with_none
  k_with "my eq" => (first | refine eq_known (by assumption) ?_ | refine eq_known (b := true) (by decide +kernel) ?_ | refine eq_known (b := false) (by decide +kernel) ?_)
  k_with "my ne" => (first | refine ne_known (by assumption) ?_ | refine ne_known (b := true) (by decide +kernel) ?_ | refine ne_known (b := false) (by decide +kernel) ?_)
  k_with "my in" => (first | refine in_known (by assumption) ?_ | refine in_known (b := true) (by decide +kernel) ?_ | refine in_known (b := false) (by decide +kernel) ?_)
  k_with "my notin" => (first | refine notin_known (by assumption) ?_ | refine notin_known (b := true) (by decide +kernel) ?_ | refine notin_known (b := false) (by decide +kernel) ?_)
  k_with "my truthy" => (refine truthy_known (by assumption) (by assumption) ?_)
  k_steps
  · refine' next _ _ ⟨[(Str.ofString "nextchar", Value.str c t9')], te, _, _, .inr ⟨_, rfl⟩, Fr.ext' ?F0 ?e0, ?D0, Hso, ?N0⟩
    case N0 => first | k_asm | exact news_tail (by k_asm)
    case F0 => k_asm
    case D0 => exact ⟨Hh, Kk, fun i => if i = 11 then _ else if i = 15 then _ else V i, rfl⟩
    case e0 => exact rtl_all (nxl := [(Str.ofString "nextchar", Value.str c t9')]) (q := q) (ev := St.val e te) (.inr ⟨_, rfl⟩) rfl rfl rfl rfl (by intro y n1 n2 n3 n4; first | rfl | simp only [n1, n2, n3, n4, if_false])
theorem turn_a_other {dp un : Nat} {gd : Option (List Code)} {outer : List Env} {A₀ : Around} {base g : Heap} {fd : FuncData} {L x dx sx sdx q1 q2 : Addr} {oq1 oq2 : Obj} {news : List (Addr × Obj)} {wc b : Str} {q : Bool} {e : St} {tok : Str} {pos : Int} {s : Shared} {Q : Flow → Shared → Prop}
   (hfd : fnAt (Mine.hd.heap_1 w.params) 720 = some fd) (hB : Below A₀ base outer g) (hX : (Mine.hd.heap_1 w.params).In g) (hT : Top p loose mean mg mb g) (hd : dp + 10 < recursionLimit) (hu : un + 50 < cLine)
   (hA : LexAddrs x dx sx sdx q1 q2 news)
   (hpos : 0 ≤ pos) (hb : b.length ≤ 10000)
   (htok : tok.length ≤ 10000)
   (c : Str) (hc1 : c.length = 1)
   (hlt : pos < b.length) (hch : Txt.slice b (some pos) (some (pos + 1)) = c)
   (f0 : (c == Str.ofString "\n") = false)
   (f1 : Txt.contains (Str.ofString " \t\r\n") c = false)
   (f2 : Txt.contains (Str.ofString "") c = false)
   (f3 : Txt.contains (Str.ofString "'\"") c = false)
   (f4 : Txt.contains (Str.ofString "\\") c = false)
   (f5 : Txt.contains wc c = false)
   (H : AtLoop g L x dx sx sdx q1 q2 oq1 oq2 news wc b .a q e tok pos s.heap)
   (next : ∀ h' tk', AtLoop g L x dx sx sdx q1 q2 oq1 oq2 news wc b .a q e (tok ++ c) (pos + 1) h' → LR PySem.Challenge.rw_of0086_01.row.prog w (ktrTop dp un gd fd.qualname fd.scope L 720 fd.code [] outer) (envOf fd.qualname fd.scope L 720 fd.code) (rtTest fd) (rtBody fd) [] Q { s with heap := h', toks := tk' }) :
   LR PySem.Challenge.rw_of0086_01.row.prog w (ktrTop dp un gd fd.qualname fd.scope L 720 fd.code [] outer) (envOf fd.qualname fd.scope L 720 fd.code) (rtTest fd) (rtBody fd) [] Q s :=
  turn_char hfd hB hX hT hd hu hA hpos hb _ f0 hlt hch H fun h' tk' M => turnm_a_other (e := e) hfd hB hX hT hd hu hA htok c hc1 f0 f1 f2 f3 f4 f5 M fun h'' tk'' R => next h'' tk'' R
end

end

section
def clsOk (K : Frag) (a : Addr) : Bool := match K.lookup a with
  | some ⟨_, _, .cls cd, _⟩ => !cd.abstract && !cd.hasDel
  | _ => false
section
variable {prog : Program} {w : World} {A : Around} {h : Heap}
theorem s_madeHere (X : (Mine.hd.heap_1 w.params).In h) : Looks (model prog w) h (Bind.madeHere "object.__new__" (.ref 617)) () := Looks.of_peek X (by kernel_rfl)
theorem s_madeBy (X : (Mine.hd.heap_1 w.params).In h) : Looks (model prog w) h (Bind.madeBy (.ref 617)) none := Looks.of_peek X (by kernel_rfl)
theorem s_base (X : (Mine.hd.heap_1 w.params).In h) : Looks (model prog w) h (Bind.staticBase (.ref 617)) (.type "object") := Looks.of_peek X (by kernel_rfl)
theorem s_madeObj (X : (Mine.hd.heap_1 w.params).In h) : Looks (model prog w) h (Bind.madeBy (.type "object")) (some "object.__new__") := Looks.of_peek X (by kernel_rfl)
theorem s_isType (X : (Mine.hd.heap_1 w.params).In h) : Looks (model prog w) h (isType (.ref 617)) true := Looks.of_peek X (by kernel_rfl)
theorem s_mro (X : (Mine.hd.heap_1 w.params).In h) : Looks (model prog w) h (mroOf (.ref 617)) [.ref 617, .ref 140, .ref 113, .type "object"] := Looks.of_peek X (by kernel_rfl)
theorem s_self (X : (Mine.hd.heap_1 w.params).In h) : Looks (model prog w) h (isSubtype (.ref 617) (.ref 617)) true := Looks.of_peek X (by kernel_rfl)
theorem s_top (X : (Mine.hd.heap_1 w.params).In h) : Looks (model prog w) h (isSubtype (.ref 617) (.type "object")) true := Looks.of_peek X (by kernel_rfl)
theorem s_call (X : (Mine.hd.heap_1 w.params).In h) : Looks (model prog w) h (specialOf (.ref 617) "__call__") (some (.builtin "type.__call__")) := Looks.of_peek X (by kernel_rfl)
theorem s_typ (X : (Mine.hd.heap_1 w.params).In h) : Looks (model prog w) h (isInstance (.ref 617) (.type "type")) true := Looks.of_peek X (by kernel_rfl)
theorem s_init (X : (Mine.hd.heap_1 w.params).In h) : Looks (model prog w) h (typeLookup (.ref 617) "__init__") (some (.ref 387)) := Looks.of_peek X (by kernel_rfl)
theorem s_cls (X : (Mine.hd.heap_1 w.params).In h) : ∃ oc od cd sl, h.get? 617 = some ⟨oc, od, .cls cd, sl⟩ ∧ cd.abstract = false ∧ cd.hasDel = false := by
  have e : clsOk (Mine.hd.heap_1 w.params) 617 = true := by kernel_rfl
  unfold clsOk at e
  split at e
  · rename_i oc od cd sl ho
    simp only [Bool.and_eq_true, Bool.not_eq_true'] at e
    exact ⟨oc, od, cd, sl, X _ _ ho, e.1, e.2⟩
  · cases e
end
section
variable {prog : Program} {w : World} {A : Around} {R : Result → Shared → Prop} {h : Heap} {g : Array GenState} {d : Drawn} {t : Nat} {os : OsState}
open PySem.Builtin in
theorem s_objNew (X : (Mine.hd.heap_1 w.params).In h)
    (hq : R (.ok (.ret (.ref (h.objs.size + 1)))) ⟨(h.push emptyDict).push (instObj 617 h.objs.size), g, d, t, os⟩) :
    codeAny (model prog w) A (.call (.builtin "object.__new__") ⟨[.ref 617], []⟩) R ⟨h, g, d, t, os⟩ := by
  refine hideG ?_
  intro G9
  obtain ⟨oc, od, cd, sl, hC, e1, e2⟩ := s_cls X
  k_unfold
  have F := PySem.F.objNew
  have k1 := s_madeHere (prog := prog) X
  have k2 := s_isType (prog := prog) X
  have k3 := s_top (prog := prog) X
  have k4 := s_typ (prog := prog) X
  have k5 := s_base (prog := prog) X
  have k6 := s_madeObj (prog := prog) X
  refine codeAny_call_builtin_code (Code.quiet_builtin _ F.quiet) ?_
  simp only [checkBuiltinCall, F.kind, F.split, F.row]
  have args : Bind.checkArgs "object.__new__" ⟨.hand, "object.__new__", "__new__", .cls, []⟩ ⟨[.ref 617], []⟩ = pure () := by kernel_rfl
  rw [args]
  repeat (first | simp only [bne_self_eq_false, Bool.false_eq_true, if_false] | lk)
  refine codeAny_builtin F.entry ?_
  unfold Builtin.«object.__new__»
  have fin : ∀ A', wpAny (model prog w) A' (do
      let d ← if typeHasDict (.ref 617) then some <$> alloc { cls := .type "dict", data := .dict #[] } else pure none
      ret (← newObj (.ref 617) .plain d)) (fun fin s' => match fin with | .done f => R (.ok f) s' | .again c' => c'.quiet = true ∧ codeAny (model prog w) A c' R s') (fun e s' => R (.error e) s') ⟨h, g, d, t, os⟩ := by
    intro A'
    show wpAny _ _ ((alloc emptyDict >>= fun x => pure (some x)) >>= _) _ _ _
    refine wpAny_bind (wpAny_bind (wpAny_alloc (wpAny_pure (wpAny_bind ?_))))
    show wpAny _ _ (newObjAsIs _ _ _) _ _ _
    unfold newObjAsIs classHasDel
    refine wpAny_bind (wpAny_alloc (wpAny_bind (wpAny_bind (wpAny_load (Heap.get?_push_of_some _ (Heap.get?_push_of_some _ hC)) (wpAny_pure ?_)))))
    rw [e2]
    refine wpAny_pure (wpAny_pure ?_)
    show R _ _
    rw [Heap.size_push]
    exact hq
  repeat (first | simp only [e1, Bool.false_eq_true, if_false] | exact fin _ | lk)
end
section
variable {w : World} {p : Program} {loose : List Str} {mean : ExcName → Option Value} {mg mb : Str → Option Value} {b : Str} {t : Tok} {news : List (Addr × Obj)}
theorem s_objNew_N {prog : Program} {A : Around} {E : Value → Shared → Prop} {s : Shared} {h₀ : Heap} {L : Addr} {m : Str → Option Value} {Q : Value → Shared → Prop} (F : Fr h₀ L s.heap m) (X₀ : (Mine.hd.heap_1 w.params).In h₀) (N : News h₀ L s.heap news)
    (hq : ∀ x dx h', Fr h₀ L h' m → News h₀ L h' ((x, instObj 617 dx) :: (dx, dictOf [] 0) :: news) → (∀ p ∈ news, p.1 < dx) → dx < x → Q (.ref x) { s with heap := h' }) :
    wpAny (model prog w) A (call (.builtin "object.__new__") [.ref 617]) Q E s := by
  refine wpAny_call ?_
  refine hideG ?_
  intro G9
  obtain ⟨hh, g, d, t, os⟩ := s
  k_unfold
  refine s_objNew (X₀.keeps F.keep) ?_
  have N' := (N.push F emptyDict).push (F.push _) (instObj 617 hh.objs.size)
  rw [Heap.size_push] at N'
  exact hq _ hh.objs.size _ ((F.push _).push _) N' (fun p hp => Heap.lt_size (N p hp).1) (Nat.lt_succ_self _)
theorem news_drop34 {h₀ h : Heap} {L : Addr} {q1 q2 q3 q4 : Addr × Obj} {l : List (Addr × Obj)} (N : News h₀ L h (q1 :: q2 :: q3 :: q4 :: l)) : News h₀ L h (q1 :: q2 :: l) := fun r hr => N r (by
  rcases List.mem_cons.mp hr with rfl | hr
  · exact .head _
  rcases List.mem_cons.mp hr with rfl | hr
  · exact .tail _ (.head _)
  · exact .tail _ (.tail _ (.tail _ (.tail _ hr))))
theorem sio_new :
   Spec w p loose mean mg mb 5 30 110 [.ref 617, .str b t] news
     (fun v news' => ∃ x dx, v = .ref x ∧ news' = (x, instObj 617 dx) :: (dx, dictOf [] 0) :: news ∧ @LT.lt Nat _ dx x ∧ ∀ r ∈ news, r.1 < dx) := by
  unfold Spec
  k_fill
  intro dp un gd cn cs a ccd cl outer A₀ base h₀ L m s Q E hB hF hX hN hT hcs hdp hun hret
  k_with_none
  refine wpAny_call ?_
  k_dflt (refine' kp_both ?k1 ?k2 ?k3 ?k4 ?k5 ?kA ?kF ?kK ?k6 ?k7 ?k8 ?kV ?kX ?kQ ?kM ?kN ?kD ?kR ?kP ?kS ?kT ?kB ?_ ?c2 ?c3 ?c4 ?c5; (case kA => exact rfl); (case kF => exact rfl); (case kK => assumption); (case k1 => k_asm); (case k2 => k_asm); (case k3 => k_asm); (case k4 => k_asm); (case k5 => k_asm); (case k6 => k_is); (case k7 => k_is); (case k8 => k_room); (case kV => kp_lit); (case kX => kp_lit); (case kQ => exact rfl); (case kM => exact rfl); (case kN => exact rfl); (case kD => kp_flats); (case kR => exact rfl); (case kP => exact rfl); (case kS => exact fun _ => rfl); (case kT => exact fun _ _ => rfl); (case kB => exact fun _ _ => locs rfl); (case c5 => decide); (case c2 => exact rfl); (case c3 => exact rfl); (case c4 => exact rfl))
  intro C D o g' L' h' tk' l1 l2 hD1 hD2 hD3 FG' F' N' B' X' T'
  refine wpAny_noRaise ?_
  k_with "call builtin:object.__new__" => (k_dflt (refine' s_objNew_N ?o1 ?o2 ?o3 ?_; (case o1 => k_asm); (case o2 => k_asm); (case o3 => k_asm)); intro x9 dx9 h9 F9 N9 l9 l99)
  k_steps
  refine' hret _ _ _ _ ?e1 ?e2 ?e3; (case e1 => k_asm); (case e2 => exact news_drop34 (by k_asm))
  exact ⟨_, _, rfl, rfl, l99, fun r hr => l9 r (.tail _ (.tail _ hr))⟩
end

end

section
section
variable {w : World} {p : Program} {loose : List Str} {mean : ExcName → Option Value} {mg mb : Str → Option Value} {b : Str} {t : Tok} {news : List (Addr × Obj)}
theorem s_getnew {prog : Program} {A : Around} {E : Value → Shared → Prop} {s : Shared} {h₀ : Heap} {L : Addr} {m : Str → Option Value} {e : Bool} {Q : Value → Shared → Prop} (F : Fr h₀ L s.heap m) (X₀ : (Mine.hd.heap_1 w.params).In h₀)
    (h : Q (.ref 110) { s with toks := s.toks + 1 }) : wpAny (model prog w) A (getAttr (.ref 617) (Str.ofString "__new__") e) Q E s :=
  cls_sm (C := 617) (mc := .type "type") (p := 114) (f := .ref 110) (rest := []) F X₀ (by kernel_rfl) (by kernel_rfl) (by kernel_rfl) (by kernel_rfl) (by kernel_rfl) h
open PySem.Builtin PySem.Builtin.ObjectAttr in
theorem sio_make {dp un : Nat} {gd : Option (List Code)} {cn : Str} {cs : Scope} {a : Addr} {ccd : Value} {cl : List (Str × Addr)} {outer : List Env} {A₀ : Around} {base h₀ : Heap} {L : Addr} {m : Str → Option Value} {s : Shared} {R : Result → Shared → Prop}
    (B : Below A₀ base outer h₀) (F : Fr h₀ L s.heap m) (X₀ : (Mine.hd.heap_1 w.params).In h₀) (N : News h₀ L s.heap news) (T : Top p loose mean mg mb h₀) (hcs : cs.kind = .function)
    (hd : dp + 10 < recursionLimit) (hu : un + 50 < cLine)
    (h : ∀ x dx h' tk', Fr h₀ L h' m → News h₀ L h' ((x, instObj 617 dx) :: (dx, dictOf [] 0) :: news) → (∀ p ∈ news, p.1 < dx) → dx < x →
      codeAny (model PySem.Challenge.rw_of0086_01.row.prog w) ((ktrTop dp un gd cn cs L a ccd cl outer).under (.builtin "type.__call__" ⟨[.ref 617, .str b t], []⟩)) (.call (.ref 387) ⟨[.ref x, .str b t], []⟩) (InitBack x R) { s with heap := h', toks := tk' }) :
    codeAny (model PySem.Challenge.rw_of0086_01.row.prog w) (ktrTop dp un gd cn cs L a ccd cl outer) (.call (.ref 617) ⟨[.str b t], []⟩) R s := by
  have X := X₀.keeps F.keep
  refine hideG ?_
  intro G9
  obtain ⟨oc, od, cd, sl, hC, e1, e2⟩ := s_cls X
  k_unfold
  have call := s_call (prog := PySem.Challenge.rw_of0086_01.row.prog) X
  have typ := s_typ (prog := PySem.Challenge.rw_of0086_01.row.prog) X
  have hm := s_mro (prog := PySem.Challenge.rw_of0086_01.row.prog) X
  have hmb := s_madeBy (prog := PySem.Challenge.rw_of0086_01.row.prog) X
  refine codeAny_of_tree ?_
  show wpAny _ _ (callAny (.ref 617) _) _ _ _
  refine nd_load hC ?_
  show wpAny _ _ (callAny.viaDunder (.ref 617) _) _ _ _
  unfold callAny.viaDunder
  refine wpAny_bind (call.at ?_)
  dsimp only
  rw [tc_bind]
  refine wpAny_bind (wpAny_pure (wpAny_bind (wpAny_pure ?_)))
  refine wpAny_pure (a := Fin.again (.call (.builtin "type.__call__") ⟨[.ref 617, .str b t], []⟩)) (And.intro rfl ?_)
  refine codeAny_call_builtin_at (Code.quiet_builtin _ (by decide +kernel)) entry_typeCall (check_slot tc_kind tc_split typ (tc_args _ _ _) ?_)
  unfold Builtin.«type.__call__»
  repeat ((fail_if_success (with_reducible show wpAny _ _ (PySem.call (Value.ref 110) _ _) _ _ _)); first | with_reducible refine s_getnew F X₀ ?_ | simp only [List.isEmpty_cons, Bool.false_eq_true, if_false] | lk)
  k_dflt (refine' Spec.use (sio_new (b := b) (t := t) (news := news)) ?r1 ?r2 ?r3 ?r4 ?r5 ?r6 ?r7 ?r8 ?_)
  case r1 => exact B
  case r2 => exact F
  case r3 => exact X₀
  case r4 => exact N
  case r5 => exact T
  case r6 => exact hcs
  case r7 => show dp + 1 + 5 < recursionLimit; omega
  case r8 => show un + 1 + 30 < cLine; omega
  intro v' n' h' tk' F' N' P'
  refine hideG ?_
  intro G9
  obtain ⟨x, dx, rfl, rfl, l1, l2⟩ := P'
  k_unfold
  have X' := X₀.keeps F'.keep
  have hx : h'.get? x = some (instObj 617 dx) := (N' _ (.head _)).1
  have t1 : Looks (model PySem.Challenge.rw_of0086_01.row.prog w) h' (typeOf (.ref x)) (.ref 617) := (Looks.ld hx).andThen .now
  have s1 := s_self (prog := PySem.Challenge.rw_of0086_01.row.prog) X'
  have i1 := s_init (prog := PySem.Challenge.rw_of0086_01.row.prog) X'
  have b1 : Looks (model PySem.Challenge.rw_of0086_01.row.prog w) h' (bindSpecial (.ref 387) (.ref x)) (.ref 387, [.ref x]) := bind_fn X' _ (by kernel_rfl)
  unfold isInstance callSpecial? specialOf
  repeat ((fail_if_success (with_reducible show wpAny _ _ (PySem.call (Value.ref 387) _ _) _ _ _)); lk)
  refine wpAny_call ?_
  refine codeAny_mono (h x dx h' tk' F' N' l2 l1) fun r s' z => ?_
  rcases r with e | (v | _ | _ | _) <;> first | exact z | exact z.elim | skip
  obtain ⟨rfl, z⟩ := z
  exact wpAny_pure (wpAny_pure z)
theorem sio_make_call {dp un : Nat} {gd : Option (List Code)} {cn : Str} {cs : Scope} {a : Addr} {ccd : Value} {cl : List (Str × Addr)} {outer : List Env} {A₀ : Around} {base h₀ : Heap} {L : Addr} {m : Str → Option Value} {s : Shared} {Q E : Value → Shared → Prop}
    (B : Below A₀ base outer h₀) (F : Fr h₀ L s.heap m) (X₀ : (Mine.hd.heap_1 w.params).In h₀) (N : News h₀ L s.heap news) (T : Top p loose mean mg mb h₀) (hcs : cs.kind = .function)
    (hd : dp + 10 < recursionLimit) (hu : un + 50 < cLine)
    (h : ∀ x dx h' tk', Fr h₀ L h' m → News h₀ L h' ((x, instObj 617 dx) :: (dx, dictOf [] 0) :: news) → (∀ p ∈ news, p.1 < dx) → dx < x →
      codeAny (model PySem.Challenge.rw_of0086_01.row.prog w) ((ktrTop dp un gd cn cs L a ccd cl outer).under (.builtin "type.__call__" ⟨[.ref 617, .str b t], []⟩)) (.call (.ref 387) ⟨[.ref x, .str b t], []⟩) (InitBack x fun r s' => match r with | .ok (.ret v) => Q v s' | .ok _ => False | .error e => E e s') { s with heap := h', toks := tk' }) :
    wpAny (model PySem.Challenge.rw_of0086_01.row.prog w) (ktrTop dp un gd cn cs L a ccd cl outer) (call (.ref 617) [.str b t]) Q E s := wpAny_call (sio_make B F X₀ N T hcs hd hu h)
end

end
local macro_rules | `(tactic| walk_at "call builtin:str.replace") => `(tactic| k_extra "my replace")

section
open PySem.Builtin PySem.Builtin.Str in
theorem replaceT {prog : Program} {w : World} {A : Around} {E : Value → Shared → Prop} {s : Shared} {x y z : Str} {t u v : Tok} {Q : Value → Shared → Prop} (hu : u ≠ 0) (hv : v ≠ 0) (huv : u ≠ v) (hyz : (y == z) = false) (hx : x.length ≤ 100000) (hz : z.length ≤ 14)
    (hq : ∀ t' k, s.toks ≤ k → Q (.str (Txt.replace x y z) t') { s with toks := k }) : wpAny (model prog w) A (call (.builtin "str.replace") [.str x t, .str y u, .str z v]) Q E s := by
  have hb : x.length + (x.length + 1) * z.length ≤ 16777216 := by
    have h1 : (x.length + 1) * z.length ≤ (x.length + 1) * 14 := Nat.mul_le_mul_left _ hz
    omega
  have hl : tooLong (x.length + (occurrences x y 0 x.length (x.length + 1)).length * z.length) = false := by
    have h1 := StrLaws.occ_length_le x y 0 x.length (x.length + 1)
    have h2 : (occurrences x y 0 x.length (x.length + 1)).length * z.length ≤ (x.length + 1) * z.length := Nat.mul_le_mul_right _ h1
    have e : (2 : Nat) ^ 24 = 16777216 := by decide
    unfold tooLong sizeLine
    exact decide_eq_false (by omega)
  refine call_gives F.slot_str_replace (typeIs_str _ _ _) F.entry_str_replace (F.args_str_replace_3 _ _ _)
    (gives_str_replace x y z t u v fun _ => ⟨by simp [hu, hv], by simp [huv], hyz, hl⟩) ?_
  have hq' := hq
  unfold Txt.replace at hq'
  cases hc : ((occurrences x y 0 x.length (x.length + 1)).isEmpty || (y.length == 0 && z.length == 0))
  · rw [hc] at hq'
    simp only [Bool.false_eq_true, if_false] at hq' ⊢
    exact ⟨fits_replaced y hb, hq' _ _ (Nat.le_succ _)⟩
  · rw [hc] at hq'
    simp only [if_true] at hq' ⊢
    exact hq' t s.toks (Nat.le_refl _)
section
local macro_rules | `(tactic| walk_at "execs cons") => `(tactic| refine wpAny_execs_cons ?_)
variable {w : World} {p : Program} {loose : List Str} {mean : ExcName → Option Value} {mg mb : Str → Option Value} {news : List (Addr × Obj)}
theorem formatparam_some (v : Str) (t u : Tok) (hl : v.length ≤ 1000) (hv : 0 < v.length) (hl2 : (Txt.replace v (Str.ofString "\\") (Str.ofString "\\\\")).length ≤ 5000) (hl3 : (Txt.replace (Txt.replace v (Str.ofString "\\") (Str.ofString "\\\\")) (Str.ofString "\"") (Str.ofString "\\\"")).length ≤ 9000) :
   Spec w p loose mean mg mb 10 50 57 [.str (Str.ofString "k") t, .str v u] news (fun r news' => ∃ t', r = .str (Str.empty ++ Str.ofString "k" ++ Str.ofString "=\"" ++ Txt.replace (Txt.replace v (Str.ofString "\\") (Str.ofString "\\\\")) (Str.ofString "\"") (Str.ofString "\\\"") ++ Str.ofString "\"") t' ∧ news' = news) := by
  unfold Spec
  k_fill
  intro dp un gd cn cs a ccd cl outer A₀ base h₀ L m s Q E hB hF hX hN hT hcs hdp hun hret
  refine wpAny_call ?_
  k_dflt k_enter
  refine wpAny_noRaise ?_
  k_with_none
  k_with "my replace" => (refine replaceT (by show @Ne Nat _ _; omega) (by show @Ne Nat _ _; omega) (by show @Ne Nat _ _; omega) (by decide +kernel) (by omega) (by decide +kernel) ?_; intro t9 k9 hk9; (have hk8 : @LE.le Nat _ _ k9 := hk9); (try dsimp only at hk8))
  k_steps
  refine' hret _ _ _ _ ?e1 ?e2 ?e3; (case e1 => k_asm); (case e2 => first | k_asm | exact news_tail (by k_asm))
  exact ⟨_, rfl, rfl⟩
theorem formatparam_none (v : Str) (t u : Tok) (hv : v = Str.ofString "") :
   Spec w p loose mean mg mb 10 50 57 [.str (Str.ofString "k") t, .str v u] news (fun r news' => ∃ t', r = .str (Str.ofString "k") t' ∧ news' = news) := by
  subst hv
  unfold Spec
  k_fill
  intro dp un gd cn cs a ccd cl outer A₀ base h₀ L m s Q E hB hF hX hN hT hcs hdp hun hret
  refine wpAny_call ?_
  k_dflt k_enter
  refine wpAny_noRaise ?_
  k_with_none
  k_steps
  refine' hret _ _ _ _ ?e1 ?e2 ?e3; (case e1 => k_asm); (case e2 => first | k_asm | exact news_tail (by k_asm))
  exact ⟨_, rfl, rfl⟩
end

end

section
/-! the search of _find_unsafe, on our signs -/
section
open PySem.Sre PySem.Builtin.Re
/-- what is known of the pattern's code: which of the signs it takes -/
structure ReCode (C : Array Nat) (ok bad : Nat → Prop) : Prop where
  first : ((match ops[C.getD 0 0]? with | some .INFO => true | _ => false) && C.getD 2 0 == 4) = true
  head : header C = (1, 18)
  size : C.size = 34
  inn : ops[C.getD 18 0]? = some .IN
  width : itemWidth C 18 = 15
  last : ops[C.getD 33 0]? = some .SUCCESS
  hint : (((header C).2 != 0) && (C.getD 2 0 &&& 5 != 0)) = true
  safe : ∀ c, ok c → ∀ seen, ∃ seen', inSet C c C.size 5 true seen = .ok (false, seen')
  bad5 : ∀ c, bad c → ∀ seen, ∃ seen', inSet C c C.size 5 true seen = .ok (true, seen')
  bad18 : ∀ c, bad c → ∀ seen, ∃ seen', accepts C 18 c seen = .ok (true, seen')
variable {C : Array Nat} {ok bad : Nat → Prop}
theorem admitted_none (H : ReCode C ok bad) (m : M) (hm : m.code = C) : ∀ (fuel s : Nat) (seen : Sre.Seen), (∀ i, s ≤ i → i < m.lim → ok (m.text.getD i 0)) → ∃ seen', M.admitted m fuel s seen = .ok (none, seen')
  | 0, _, seen, _ => ⟨seen, rfl⟩
  | fuel + 1, s, seen, h => by
    unfold M.admitted
    by_cases hs : s ≥ m.lim
    · rw [if_pos hs]; exact ⟨seen, rfl⟩
    · rw [if_neg hs]
      obtain ⟨seen', e⟩ := H.safe _ (h s (Nat.le_refl _) (by omega)) seen
      rw [hm, e]
      exact admitted_none H m hm fuel (s + 1) seen' fun i h1 h2 => h i (by omega) h2
theorem admitted_some (H : ReCode C ok bad) (m : M) (hm : m.code = C) : ∀ (fuel s : Nat) (seen : Sre.Seen), m.lim ≤ s + fuel → (∀ i, i < m.lim → ok (m.text.getD i 0) ∨ bad (m.text.getD i 0)) → (∃ i, s ≤ i ∧ i < m.lim ∧ bad (m.text.getD i 0)) →
    ∃ s' seen', M.admitted m fuel s seen = .ok (some s', seen') ∧ s' < m.lim ∧ bad (m.text.getD s' 0)
  | 0, s, seen, hf, _, ⟨i, h1, h2, _⟩ => absurd h2 (by omega)
  | fuel + 1, s, seen, hf, h, ⟨i, h1, h2, h3⟩ => by
    unfold M.admitted
    rw [if_neg (show ¬ (s ≥ m.lim) by omega)]
    rcases Classical.em (bad (m.text.getD s 0)) with hb | hb
    · obtain ⟨seen', e⟩ := H.bad5 _ hb seen
      rw [hm, e]
      exact ⟨s, seen', rfl, by omega, hb⟩
    · obtain ⟨seen', e⟩ := H.safe _ ((h s (by omega)).resolve_right hb) seen
      rw [hm, e]
      exact admitted_some H m hm fuel (s + 1) seen' (by omega) h ⟨i, by rcases Nat.lt_or_eq_of_le h1 with q | q
                                                                        · omega
                                                                        · exact absurd (q ▸ h3) hb, h2, h3⟩
structure Fresh (C text : Array Nat) (m : M) : Prop where
  f1 : m.code = C
  f2 : m.text = text
  f3 : m.lim = text.size
  f4 : m.wholeText = false
  f5 : m.mustAdvance = false
  f6 : m.pc = 18
  f7 : m.frames = []
  f8 : m.weight = 0
  f9 : m.answer = none
  f10 : m.outcome = none
theorem exec_in {m : M} {seen' : Sre.Seen} (op : ops[m.word 0]? = some .IN) (hp : m.pos < m.lim) (ha : accepts m.code m.pc (m.text.getD m.pos 0) (m.seen.add (m.word 0)) = .ok (true, seen')) :
    m.exec = { m with seen := seen', pc := m.pc + itemWidth m.code m.pc, pos := m.pos + 1 } := by
  unfold M.exec
  simp only [op]
  rw [if_neg (by omega)]
  simp only [ha]
theorem exec_success {m : M} (op : ops[m.word 0]? = some .SUCCESS) (h1 : m.wholeText = false) (h2 : m.mustAdvance = false) :
    m.exec = M.say { m with seen := m.seen.add (m.word 0), handed := m.pos } true := by
  unfold M.exec
  simp only [op]
  simp [h1, h2]
theorem hasFirst (H : ReCode C ok bad) (m : M) (e : m.code = C) : m.hasFirstSet = true := by unfold M.hasFirstSet; rw [e]; exact H.first
theorem from_none (H : ReCode C ok bad) {text : Array Nat} {m : M} (hm : Fresh C text m) (h : ∀ i, i < text.size → ok (text.getD i 0)) : ((m.attemptFrom 0 true).runFor 4).outcome = some .failed := by
  obtain ⟨seen', e⟩ := admitted_none H m hm.f1 (m.lim + 1 - 0) 0 m.seen (fun i _ hi => by rw [hm.f2]; exact h i (hm.f3 ▸ hi))
  unfold M.attemptFrom
  rw [hasFirst H m hm.f1, e]
  have h1 := hm.f10
  have h2 := hm.f7
  obtain ⟨⟩ := m
  simp only at h1 h2
  subst h1 h2
  rfl
theorem from_some (H : ReCode C ok bad) {text : Array Nat} {m : M} (hm : Fresh C text m) (h : ∀ i, i < text.size → ok (text.getD i 0) ∨ bad (text.getD i 0)) (hb : ∃ i, i < text.size ∧ bad (text.getD i 0)) :
    ((m.attemptFrom 0 true).runFor 4).outcome = some .matched := by
  obtain ⟨i, hi, hbi⟩ := hb
  obtain ⟨s', seen', e, hs', hbs⟩ := admitted_some H m hm.f1 (m.lim + 1 - 0) 0 m.seen (by omega) (fun i hi => by rw [hm.f2]; exact h i (hm.f3 ▸ hi)) ⟨i, Nat.zero_le _, by rw [hm.f3]; exact hi, by rw [hm.f2]; exact hbi⟩
  unfold M.attemptFrom
  rw [hasFirst H m hm.f1, e]
  obtain ⟨h1, h2, h3, h4, h5, h6, h7, h8, h9, h10⟩ := hm
  obtain ⟨⟩ := m
  simp only at h1 h2 h3 h4 h5 h6 h7 h8 h9 h10 hbs hs'
  subst h1 h2 h3 h4 h5 h6 h7 h8 h9 h10
  have hinn := H.inn
  have hwd := H.width
  have hlast := H.last
  have hsz := H.size
  obtain ⟨seen2, e2⟩ := H.bad18 _ hbs (seen'.add (Array.getD _ 18 0))
  dsimp only [Bool.not_true, Bool.false_eq_true, if_false, M.attemptAt, M.attempt]
  rw [if_neg (by simp), if_neg (by simp)]
  have st : ∀ m' : M, m'.outcome = none → m'.answer = none → m'.pc < m'.code.size → m'.step = m'.exec := fun m' a b c => by
    unfold M.step
    rw [a, b]
    simp [c]
  have ru : ∀ (n : Nat) (m' : M), m'.outcome = none → M.runFor (n + 1) m' = M.runFor n m'.step := fun n m' a => by
    show (if m'.outcome.isSome = true then m' else M.runFor n m'.step) = _
    rw [a]; rfl
  rw [ru _ _ rfl, st _ rfl rfl (by show 18 < _; rw [hsz]; decide), exec_in (by exact hinn) (by exact hs') (by exact e2)]
  rw [ru _ _ rfl, st _ rfl rfl (by show 18 + itemWidth _ 18 < _; rw [hwd, hsz]; decide), exec_success (by show ops[Array.getD _ (18 + itemWidth _ 18 + 0) 0]? = _; rw [hwd]; exact hlast) rfl rfl]
  rfl
theorem search_none (H : ReCode C ok bad) (text : Array Nat) (g : Nat) (h0 : 0 < text.size) (h : ∀ i, i < text.size → ok (text.getD i 0)) :
    ((forSearch C text g 0 text.size false).runFor 4).outcome = some .failed := by
  unfold forSearch
  simp only [H.head]
  rw [if_neg (by simp; intro q; rw [q] at h0; exact absurd h0 (by simp))]
  refine from_none H ⟨rfl, rfl, rfl, rfl, rfl, ?_, rfl, rfl, rfl, rfl⟩ h
  show (header C).2 = 18
  rw [H.head]
theorem search_some (H : ReCode C ok bad) (text : Array Nat) (g : Nat) (h : ∀ i, i < text.size → ok (text.getD i 0) ∨ bad (text.getD i 0)) (hb : ∃ i, i < text.size ∧ bad (text.getD i 0)) :
    ((forSearch C text g 0 text.size false).runFor 4).outcome = some .matched := by
  have h0 : 0 < text.size := by obtain ⟨i, hi, _⟩ := hb; omega
  unfold forSearch
  simp only [H.head]
  rw [if_neg (by simp; intro q; rw [q] at h0; exact absurd h0 (by simp))]
  refine from_some H ⟨rfl, rfl, rfl, rfl, rfl, ?_, rfl, rfl, rfl, rfl⟩ h hb
  show (header C).2 = 18
  rw [H.head]
theorem drive_one (m : M) (h : (m.runFor 4).outcome.isSome = true) : reDrive (2 ^ 64) m = pure (m.runFor 4) := by
  show reDrive (18446744073709551615 + 1) m = _
  unfold reDrive
  unfold reTurnSteps
  show (if (m.runFor 4).outcome.isSome = true then _ else _) = _
  rw [if_pos h]
section
variable {Mo : Model} {A : Around} {E : Value → Shared → Prop} {s : Shared}
theorem run_none {m : M} {Q : Option M → Shared → Prop} (h : (m.runFor 4).outcome = some .failed) (hq : Q none s) : wpAny Mo A (reRunToEnd m) Q E s := by
  unfold reRunToEnd
  rw [drive_one m (by rw [h]; rfl)]
  refine wpAny_bind (wpAny_pure (wpAny_bind ?_))
  refine wpAny_forIn_list _ (fun _ _ s' => s' = s) _ ?_ ?_ _ _ rfl
  · intro x rest b s' e
    subst e
    split
    · exact wpAny_bind (wpAny_rule (wpAny_pure rfl))
    · exact wpAny_pure rfl
  · intro b s' e
    subst e
    rw [h]
    exact wpAny_pure hq
theorem run_some {m : M} {Q : Option M → Shared → Prop} (h : (m.runFor 4).outcome = some .matched) (hq : Q (some (m.runFor 4)) s) : wpAny Mo A (reRunToEnd m) Q E s := by
  unfold reRunToEnd
  rw [drive_one m (by rw [h]; rfl)]
  refine wpAny_bind (wpAny_pure (wpAny_bind ?_))
  refine wpAny_forIn_list _ (fun _ _ s' => s' = s) _ ?_ ?_ _ _ rfl
  · intro x rest b s' e
    subst e
    split
    · exact wpAny_bind (wpAny_rule (wpAny_pure rfl))
    · exact wpAny_pure rfl
  · intro b s' e
    subst e
    rw [h]
    exact wpAny_pure hq
end
end

end

section
section
open PySem.Sre PySem.Builtin.Re
def inIt (C : Array Nat) (c i : Nat) (seen : Sre.Seen) : Option Bool := match inSet C c C.size i true seen with
  | .ok (b, _) => some b
  | .error _ => none
theorem inIt_any {C : Array Nat} {c i : Nat} {b : Bool} {seen : Sre.Seen} (h : inIt C c i seen = some b) : ∃ seen', inSet C c C.size i true seen = .ok (b, seen') := by
  unfold inIt at h
  generalize inSet C c C.size i true seen = x at h
  match x, h with
  | .ok (b', s), h => exact ⟨s, by rw [Option.some.inj h]⟩
/-- the pattern's code, as it lies in the heap -/
def codeAt (K : Frag) (a : Addr) : Array Nat := match K.lookup a with
  | some ⟨_, _, .seq xs _, _⟩ => (xs.map reRawOf).map (·.toNat)
  | _ => #[]
def okS (c : Nat) : Prop := c = 37 ∨ c = 61 ∨ c = 65 ∨ c = 97 ∨ c = 107
def badS (c : Nat) : Prop := c = 32 ∨ c = 34 ∨ c = 39 ∨ c = 92
def reFacts (C : Array Nat) : Bool :=
  ((match ops[C.getD 0 0]? with | some .INFO => true | _ => false) && C.getD 2 0 == 4) && (header C == (1, 18)) && (C.size == 34) && (match ops[C.getD 18 0]? with | some .IN => true | _ => false) && itemWidth C 18 == 15
  && (match ops[C.getD 33 0]? with | some .SUCCESS => true | _ => false) && (((header C).2 != 0) && (C.getD 2 0 &&& 5 != 0))
def setFacts (C : Array Nat) (seen : Sre.Seen) : Bool :=
  ([37, 61, 65, 97, 107].all fun c => inIt C c 5 seen == some false) && ([32, 34, 39, 92].all fun c => inIt C c 5 seen == some true && inIt C c 20 seen == some true)
theorem reCode_of {C : Array Nat} (h : reFacts C = true) (hs : ∀ seen, setFacts C seen = true) : ReCode C okS badS := by
  unfold reFacts at h
  simp only [Bool.and_eq_true] at h
  obtain ⟨⟨⟨⟨⟨⟨⟨h1, h1'⟩, h2⟩, h3⟩, h4⟩, h5⟩, h6⟩, h7⟩ := h
  have h8 : ∀ seen c, okS c → inIt C c 5 seen = some false := by
    intro seen c hc
    have h := (Bool.and_eq_true_iff.mp (hs seen)).1
    refine beq_iff_eq.mp (List.all_eq_true.mp h c ?_)
    unfold okS at hc
    simp [hc]
  have h9 : ∀ seen c, badS c → inIt C c 5 seen = some true ∧ inIt C c 20 seen = some true := by
    intro seen c hc
    have h := (Bool.and_eq_true_iff.mp (hs seen)).2
    have h := Bool.and_eq_true_iff.mp (List.all_eq_true.mp h c (by unfold badS at hc; simp [hc]))
    exact ⟨beq_iff_eq.mp h.1, beq_iff_eq.mp h.2⟩
  have hin : ops[C.getD 18 0]? = some .IN := by
    revert h4
    split
    · intro _; assumption
    · intro q; cases q
  refine ⟨Bool.and_eq_true_iff.mpr ⟨h1, h1'⟩, beq_iff_eq.mp h2, beq_iff_eq.mp h3, hin, beq_iff_eq.mp h5, ?_, Bool.and_eq_true_iff.mpr h7, ?_, ?_, ?_⟩
  · revert h6
    split
    · intro _; assumption
    · intro q; cases q
  · intro c hc seen
    exact inIt_any (h8 seen c hc)
  · intro c hc seen
    exact inIt_any (h9 seen c hc).1
  · intro c hc seen
    unfold accepts
    rw [hin]
    exact inIt_any (h9 seen c hc).2
theorem re_of (w : World) : ReCode (codeAt (Mine.hd.heap_1 w.params) 68) okS badS := reCode_of (by kernel_rfl) (fun seen => by kernel_rfl)
end

end

section
section
open PySem.Builtin.Re
variable {prog : Program} {w : World} {A : Around} {E : Value → Shared → Prop} {s : Shared} {h : Heap}
theorem q_keep (X : (Mine.hd.heap_1 w.params).In h) : Looks (model prog w) h (keeperOf (.ref 765)) Keeper.machine := Looks.of_peek X (by kernel_rfl)
theorem q_call (X : (Mine.hd.heap_1 w.params).In h) (v : Str) (t : Tok) : Looks (model prog w) h (callAny (.ref 765) ⟨[.str v t], []⟩) (.again (.builtin "re.Pattern.search" ⟨[.ref 69, .str v t], []⟩)) := Looks.of_peek X (by kernel_rfl)
def qTarget (K : Frag) (v : Str) (t : Tok) : ReTarget := { pattern := .ref 69, string := .str v t, code := codeAt K 68, text := v.cps, kind := 0, groups := 0, pos := min (0 : Int).toNat v.cps.size, lim := min (((2 : Int) ^ 63 - 1)).toNat v.cps.size }
theorem q_target (X : (Mine.hd.heap_1 w.params).In h) (v : Str) (t : Tok) : Looks (model prog w) h (reTarget "re.Pattern.search" "search" ⟨[.ref 69, .str v t], []⟩) (qTarget (Mine.hd.heap_1 w.params) v t) := Looks.of_peek X (by kernel_rfl)
theorem q_entry : entryFor table "re.Pattern.search" = some Builtin.«re.Pattern.search» := entryFor_of_tree (by kernel_rfl)
theorem q_plain : plainId "re.Pattern.search" = true := by decide +kernel
theorem q_pos (K : Frag) (v : Str) (t : Tok) : (qTarget K v t).pos = 0 := Nat.zero_min _
theorem q_lim (K : Frag) {v : Str} (t : Tok) (h : v.length ≤ 5000) : (qTarget K v t).lim = v.cps.size := by
  have : v.cps.size ≤ 5000 := h
  show min (((2 : Int) ^ 63 - 1)).toNat v.cps.size = _
  have e : (((2 : Int) ^ 63 - 1)).toNat = 9223372036854775807 := by decide
  rw [e]
  omega
theorem find_none {Q : Value → Shared → Prop} (X : (Mine.hd.heap_1 w.params).In s.heap) {v : Str} {t : Tok} (hl : v.length ≤ 5000) (h0 : 0 < v.cps.size) (hok : ∀ c ∈ v.cps.toList, okS c) (hq : Q .none s) :
    wpAny (model prog w) A (call (.ref 765) [.str v t]) Q E s := by
  refine wpAny_call (codeAny_of_tree ?_)
  show wpAny _ _ (callAny (.ref 765) _) _ _ _
  refine (q_call X v t).here ⟨plainId_quiet q_plain _, codeAny_builtin q_entry ?_⟩
  rw [Around.under_plainId q_plain _]
  unfold Builtin.«re.Pattern.search»
  refine wpAny_bind ((q_target X v t).here ?_)
  unfold reAnswer
  rw [q_pos, q_lim _ _ hl]
  refine wpAny_bind (run_none (search_none (re_of w) v.cps _ h0 fun i hi => hok _ ?_) ?_)
  · rw [show v.cps.getD i 0 = v.cps[i] by simp [Array.getD, hi]]
    simp
  · exact wpAny_pure hq
theorem find_some {Q : Value → Shared → Prop} {h₀ : Heap} {L : Addr} {m : Str → Option Value} {news : List (Addr × Obj)} (F : Fr h₀ L s.heap m) (N : News h₀ L s.heap news) (X : (Mine.hd.heap_1 w.params).In h₀) {v : Str} {t : Tok} (hl : v.length ≤ 5000) (hok : ∀ c ∈ v.cps.toList, okS c ∨ badS c) (hb : ∃ c ∈ v.cps.toList, badS c)
    (hq : ∀ r h' tk', Fr h₀ L h' m → News h₀ L h' news → Q (.ref r) { s with heap := h', toks := tk' }) :
    wpAny (model prog w) A (call (.ref 765) [.str v t]) Q E s := by
  have X1 := X.keeps F.keep
  refine wpAny_call (codeAny_of_tree ?_)
  show wpAny _ _ (callAny (.ref 765) _) _ _ _
  refine (q_call X1 v t).here ⟨plainId_quiet q_plain _, codeAny_builtin q_entry ?_⟩
  rw [Around.under_plainId q_plain _]
  unfold Builtin.«re.Pattern.search»
  refine wpAny_bind ((q_target X1 v t).here ?_)
  unfold reAnswer
  rw [q_pos, q_lim _ _ hl]
  refine wpAny_bind (run_some (search_some (re_of w) v.cps _ (fun i hi => hok _ ?_) ?_) ?_)
  · rw [show v.cps.getD i 0 = v.cps[i] by simp [Array.getD, hi]]
    simp
  · obtain ⟨c, hc, hcb⟩ := hb
    obtain ⟨i, hi, e⟩ := List.mem_iff_getElem.mp hc
    have hi' : i < v.cps.size := by simpa using hi
    refine ⟨i, hi', ?_⟩
    rw [show v.cps.getD i 0 = v.cps[i] by simp [Array.getD, hi']]
    have : v.cps[i] = c := by simpa using e
    rw [this]; exact hcb
  · show wpAny _ _ (reNewMatch _ _ 0 _ _ _ >>= _) _ _ _
    unfold reNewMatch
    wp_walk
    exact hq _ _ _ ((F.push _).push _) (News.pushKeep (News.pushKeep N _) _)
end

end

section
section
variable {w : World} {p : Program} {loose : List Str} {mean : ExcName → Option Value} {mg mb : Str → Option Value} {news : List (Addr × Obj)}
theorem callWith_765 {prog : Program} {A : Around} {E : Value → Shared → Prop} {s : Shared} {h₀ : Heap} {env : Env} {pos : Pos} {first : List Value} {Q : Value → Shared → Prop} {e : Expr} {rest : List Expr} (_X : (Mine.hd.heap_1 w.params).In h₀)
    (h : wpAny (model prog w) A (spliced (backTo pos (starEach (e :: rest) env))) (fun vs s₁ => (Mine.hd.heap_1 w.params).In s₁.heap ∧ wpAny (model prog w) A (call (.ref 765) (first ++ vs)) Q E s₁) E s)
    (he : starEach (e :: rest) env = (false, eval e env) :: starEach rest env := by rfl) (hplain : (backTo pos (starEach rest env)).any (·.1) = false := by rfl) :
    wpAny (model prog w) A (callWith pos (.ref 765) first (backTo pos (starEach (e :: rest) env)) []) Q E s := by
  rw [he] at h ⊢
  exact callWith_of (P := (Mine.hd.heap_1 w.params).In) (by show ((false || (backTo pos (starEach rest env)).any (·.1)) || false) = false; rw [hplain]; rfl) (fun h X => ⟨_, .inr (.inl rfl), q_keep X⟩) (evalArgs_plain h)
local macro_rules | `(tactic| walk_at "execs cons") => `(tactic| refine wpAny_execs_cons ?_)
local macro_rules | `(tactic| walk_at "callWith ref") => `(tactic| k_extra "my callWith")
theorem quote_empty (v : Str) (t : Tok) (hv : v = Str.ofString "") :
   Spec w p loose mean mg mb 10 50 772 [.str v t] news (fun r news' => ∃ t', r = .str (Str.ofString "''") t' ∧ news' = news) := by
  subst hv
  unfold Spec
  k_fill
  intro dp un gd cn cs a ccd cl outer A₀ base h₀ L m s Q E hB hF hX hN hT hcs hdp hun hret
  refine wpAny_call ?_
  k_dflt k_enter
  refine wpAny_noRaise ?_
  k_with_none
  k_steps
  refine' hret _ _ _ _ ?e1 ?e2 ?e3; (case e1 => k_asm); (case e2 => first | k_asm | exact news_tail (by k_asm))
  exact ⟨_, rfl, rfl⟩
theorem quote_safe (v : Str) (t : Tok) (hl : v.length ≤ 5000) (hv : 0 < v.length) (hok : ∀ c ∈ v.cps.toList, okS c) :
   Spec w p loose mean mg mb 10 50 772 [.str v t] news (fun r news' => ∃ t', r = .str v t' ∧ news' = news) := by
  unfold Spec
  k_fill
  intro dp un gd cn cs a ccd cl outer A₀ base h₀ L m s Q E hB hF hX hN hT hcs hdp hun hret
  have hv2 : ((v.length : Int) != 0) = true := by simp; lia
  refine wpAny_call ?_
  k_dflt k_enter
  refine wpAny_noRaise ?_
  k_with_none
  k_with "my truthy" => (refine truthy_known (by lia) hv2 ?_)
  k_with "my callWith" => (k_dflt (refine' callWith_765 ?k1 ?_; (case k1 => k_asm); k_whole))
  k_with "my call" => (k_dflt (refine' find_none ?k1 ?k2 ?k3 ?k4 ?_; (case k1 => k_in); (case k2 => exact hl); (case k3 => exact hv); (case k4 => exact hok)))
  k_steps
  refine' hret _ _ _ _ ?e1 ?e2 ?e3; (case e1 => k_asm); (case e2 => first | k_asm | exact news_tail (by k_asm))
  exact ⟨_, rfl, rfl⟩
theorem quote_bad (v : Str) (t : Tok) (hl : v.length ≤ 1000) (hv : 0 < v.length) (hok : ∀ c ∈ v.cps.toList, okS c ∨ badS c) (hb : ∃ c ∈ v.cps.toList, badS c) (hl2 : (Txt.replace v (Str.ofString "'") (Str.ofString "'\"'\"'")).length ≤ 5000) :
   Spec w p loose mean mg mb 10 50 772 [.str v t] news (fun r news' => ∃ t', r = .str (Str.ofString "'" ++ Txt.replace v (Str.ofString "'") (Str.ofString "'\"'\"'") ++ Str.ofString "'") t' ∧ news' = news) := by
  unfold Spec
  k_fill
  intro dp un gd cn cs a ccd cl outer A₀ base h₀ L m s Q E hB hF hX hN hT hcs hdp hun hret
  have hv2 : ((v.length : Int) != 0) = true := by simp; lia
  refine wpAny_call ?_
  k_dflt k_enter
  refine wpAny_noRaise ?_
  k_with_none
  k_with "my truthy" => (refine truthy_known (by lia) hv2 ?_)
  k_with "my callWith" => (k_dflt (refine' callWith_765 ?k1 ?_; (case k1 => k_asm); k_whole))
  k_with "my call" => (k_dflt (refine' find_some ?k1 ?k2 ?k3 ?k4 ?k5 ?k6 ?_; (case k1 => k_asm); (case k2 => k_asm); (case k3 => k_asm); (case k4 => lia); (case k5 => exact hok); (case k6 => exact hb)); intro r9 h9 tk9 F9 N9)
  k_with "my replace" => (refine replaceT (by show @Ne Nat _ _; lia) (by show @Ne Nat _ _; lia) (by show @Ne Nat _ _; lia) (by decide +kernel) (by lia) (by decide +kernel) ?_; intro t9 k9 hk9; (have hk8 : @LE.le Nat _ _ k9 := hk9); (try dsimp only at hk8))
  k_steps
  refine' hret _ _ _ _ ?e1 ?e2 ?e3; (case e1 => k_asm); (case e2 => first | k_asm | exact news_tail (by k_asm))
  exact ⟨_, rfl, rfl⟩
end

end

section
/-- a contract of a def that catches an exception: the ground may come back with turned slots of the outer frames -/
def SpecX (w : World) (p : Program) (loose : List Str) (mean : ExcName → Option Value) (mg mb : Str → Option Value) (dn un0 : Nat) (f : Value) (args : List Value) (news : List (Addr × Obj)) (Post : Value → List (Addr × Obj) → Prop) : Prop :=
  ∀ (dp un : Nat) (gd : Option (List Code)) (cn : Str) (cs : Scope) (a : Addr) (ccd : Value) (outer : List Env) (A₀ : Around) (base h₀ : Heap) (L : Addr) (m : Str → Option Value) (s : Shared) (Q E : Value → Shared → Prop),
    Below A₀ base outer h₀ → Fr h₀ L s.heap m → (Mine.hd.heap_1 w.params).In h₀ → News h₀ L s.heap news → Top p loose mean mg mb h₀ →
    (Mine.hd.heap_1 w.params).In base → Top p loose mean mg mb base → KtsDicts (outer.filterMap (·.frame)) h₀ → cs.kind = .function →
    dp + dn < recursionLimit → un + un0 < cLine →
    (∀ v news' h' tk' h₀', KtsTurn (outer.filterMap (·.frame)) h₀ h₀' → Below A₀ base outer h₀' → Fr h₀' L h' m → (Mine.hd.heap_1 w.params).In h₀' → News h₀' L h' news' → Top p loose mean mg mb h₀' → KtsDicts (outer.filterMap (·.frame)) h₀' → Post v news' → Q v { s with heap := h', toks := tk' }) →
    wpAny (model PySem.Challenge.rw_of0086_01.row.prog w) (ktrTop dp un gd cn cs L a ccd [] outer) (call f args) Q E s
section
variable {w : World} {p : Program} {loose : List Str} {mean : ExcName → Option Value} {mg mb : Str → Option Value} {dn un0 : Nat} {f : Value} {args : List Value} {news : List (Addr × Obj)} {Post : Value → List (Addr × Obj) → Prop}
theorem SpecX.use (H : SpecX w p loose mean mg mb dn un0 f args news Post) {dp un : Nat} {gd : Option (List Code)} {cn : Str} {cs : Scope} {a : Addr} {ccd : Value} {outer : List Env} {A₀ : Around} {base h₀ : Heap} {L : Addr} {m : Str → Option Value} {s : Shared} {Q E : Value → Shared → Prop}
    (B : Below A₀ base outer h₀) (F : Fr h₀ L s.heap m) (X : (Mine.hd.heap_1 w.params).In h₀) (N : News h₀ L s.heap news) (T : Top p loose mean mg mb h₀)
    (XB : (Mine.hd.heap_1 w.params).In base) (TB : Top p loose mean mg mb base) (D : KtsDicts (outer.filterMap (·.frame)) h₀) (hcs : cs.kind = .function)
    (hd : dp + dn < recursionLimit) (hu : un + un0 < cLine)
    (ret : ∀ v news' h' tk' h₀', KtsTurn (outer.filterMap (·.frame)) h₀ h₀' → Below A₀ base outer h₀' → Fr h₀' L h' m → (Mine.hd.heap_1 w.params).In h₀' → News h₀' L h' news' → Top p loose mean mg mb h₀' → KtsDicts (outer.filterMap (·.frame)) h₀' → Post v news' → Q v { s with heap := h', toks := tk' }) :
    wpAny (model PySem.Challenge.rw_of0086_01.row.prog w) (ktrTop dp un gd cn cs L a ccd [] outer) (call f args) Q E s := H _ _ _ _ _ _ _ _ _ _ _ _ _ _ _ _ B F X N T XB TB D hcs hd hu ret
theorem Spec.toX {f : Addr} (H : Spec w p loose mean mg mb dn un0 f args news Post) : SpecX w p loose mean mg mb dn un0 (.ref f) args news Post := by
  intro dp un gd cn cs a ccd outer A₀ base h₀ L m s Q E B F X N T XB TB D hcs hd hu ret
  exact H.use B F X N T hcs hd hu fun v news' h' tk' F' N' P' => ret v news' h' tk' h₀ KtsTurn.refl B F' X N' T D P'
end
section
variable {M : Model} {A : Around} {E : Value → Shared → Prop} {s : Shared} {KF : Frag} {L : Addr} {m : Str → Option Value}
theorem owit_stopS {Q : Option Value → Shared → Prop} {outer : List Env} {a e t : Addr} {G base h₀ : Heap} {A₀ : Around} {name : Str} {scope : Scope} {cd : Value} {vs : List Value} {news : List (Addr × Obj)} {X : String}
    {p : Program} {loose : List Str} {mean : ExcName → Option Value} {mg mb : Str → Option Value}
    (R : RaisedS base G (envOf name scope L a cd :: outer) e (.type X) t vs news s.heap) (hsm : G.UpToSlots s.heap) (F : Fr h₀ L G m) (K : Below A₀ base outer h₀)
    (XB : KF.In base) (TB : Top p loose mean mg mb base) (D : KtsDicts (outer.filterMap (·.frame)) h₀) (hsub : isSubtype (.type X) (.type "StopIteration") = pure true)
    (k : ∀ g', KtsTurn (outer.filterMap (·.frame)) h₀ g' → Below A₀ base outer g' → Fr g' L s.heap m → KF.In g' → News g' L s.heap news → Top p loose mean mg mb g' → KtsDicts (outer.filterMap (·.frame)) g' → Q none s) : OwitStop M A Q E (.ref e) s := by
  obtain ⟨⟨B, hB, hBG, hl, hfl, _⟩, _⟩ := R
  have hL : B.get? L = none := by
    obtain ⟨_, ⟨L', _, hf, hn', _⟩, _⟩ := hfl.2.2.1
    obtain rfl : L = L' := Option.some.inj hf
    exact hn'
  obtain ⟨g', T', F', K'⟩ := kts_ground K F hBG hfl.1 hsm
  obtain ⟨ob, hob, hobc⟩ := hfl.there
  have hT : s.TypeIs (.ref e) X := (show ∃ o, s.heap.get? e = some o ∧ o.cls = .type X from ⟨ob, hob, hobc⟩)
  unfold OwitStop
  refine wpAny_isInstance hT hsub ?_
  show (if true = true then Q none s else E (.ref e) s)
  rw [if_pos rfl]
  refine k g' T' K' F' (XB.keeps K'.stays) (fun q hq => ⟨hfl.1 _ _ (hl q hq).1, (fun z => by have := (hl q hq).1; rw [z, hL] at this; cases this), T'.none_ _ (kts_none F.keep (hl q hq).2.1)⟩) (TB.keeps K'.stays) (D.turn T')
end

end

section
abbrev S1 (c : Nat) : Str := ⟨#[c]⟩
/-- the signs that stand within marks -/
def inSq (c : Nat) : Prop := c = 32 ∨ c = 34 ∨ c = 37 ∨ c = 61 ∨ c = 65 ∨ c = 97 ∨ c = 107
def inDq (c : Nat) : Prop := c = 32 ∨ c = 37 ∨ c = 39 ∨ c = 61 ∨ c = 65 ∨ c = 97 ∨ c = 107
/-- read_token's loop, turn by turn, on the signs that occur: state, quoted, escapedstate, token, the rest of the text; the state, quoted, token and rest at its end -/
inductive RT : St → Bool → St → List Nat → List Nat → St → Bool → List Nat → List Nat → Prop where
  | sq_other {q e tok c r o1 o2 o3 o4} : inSq c → RT .sq true e (tok ++ [c]) r o1 o2 o3 o4 → RT .sq q e tok (c :: r) o1 o2 o3 o4
  | sq_bs {q e tok r o1 o2 o3 o4} : RT .sq true e (tok ++ [92]) r o1 o2 o3 o4 → RT .sq q e tok (92 :: r) o1 o2 o3 o4
  | sq_sq {q e tok r o1 o2 o3 o4} : RT .a true e tok r o1 o2 o3 o4 → RT .sq q e tok (39 :: r) o1 o2 o3 o4
  | dq_other {q e tok c r o1 o2 o3 o4} : inDq c → RT .dq true e (tok ++ [c]) r o1 o2 o3 o4 → RT .dq q e tok (c :: r) o1 o2 o3 o4
  | dq_dq {q e tok r o1 o2 o3 o4} : RT .a true e tok r o1 o2 o3 o4 → RT .dq q e tok (34 :: r) o1 o2 o3 o4
  | dq_bs {q e tok r o1 o2 o3 o4} : RT .bs true .dq tok r o1 o2 o3 o4 → RT .dq q e tok (92 :: r) o1 o2 o3 o4
  | bs_bs {q tok r o1 o2 o3 o4} : RT .dq q .dq (tok ++ [92]) r o1 o2 o3 o4 → RT .bs q .dq tok (92 :: r) o1 o2 o3 o4
  | bs_dq {q tok r o1 o2 o3 o4} : RT .dq q .dq (tok ++ [34]) r o1 o2 o3 o4 → RT .bs q .dq tok (34 :: r) o1 o2 o3 o4
  | a_sp {q e tok r} : tok ≠ [] → RT .a q e tok (32 :: r) .sp q tok r
  | a_sq {q e tok r o1 o2 o3 o4} : RT .sq q e tok r o1 o2 o3 o4 → RT .a q e tok (39 :: r) o1 o2 o3 o4
  | a_dq {q e tok r o1 o2 o3 o4} : RT .dq q e tok r o1 o2 o3 o4 → RT .a q e tok (34 :: r) o1 o2 o3 o4
  | a_word {q e tok c r o1 o2 o3 o4} : c = 65 ∨ c = 97 → RT .a q e (tok ++ [c]) r o1 o2 o3 o4 → RT .a q e tok (c :: r) o1 o2 o3 o4
  | a_other {q e tok c r o1 o2 o3 o4} : c = 37 ∨ c = 61 → RT .a q e (tok ++ [c]) r o1 o2 o3 o4 → RT .a q e tok (c :: r) o1 o2 o3 o4
  | a_eof {q e tok} : RT .a q e tok [] .no q tok []
  | sp_sq {q e tok r o1 o2 o3 o4} : RT .sq q e tok r o1 o2 o3 o4 → RT .sp q e tok (39 :: r) o1 o2 o3 o4
  | sp_word {q e tok c r o1 o2 o3 o4} : c = 65 ∨ c = 97 ∨ c = 107 → RT .a q e [c] r o1 o2 o3 o4 → RT .sp q e tok (c :: r) o1 o2 o3 o4
  | sp_other {q e tok c r o1 o2 o3 o4} : c = 37 → RT .a q e [c] r o1 o2 o3 o4 → RT .sp q e tok (c :: r) o1 o2 o3 o4
  | sp_eof {q e tok} : RT .sp q e tok [] .no q tok []
  | no_eof {q e tok} : RT .no q e tok [] .no q [] []
/-- what is known of wordchars -/
structure WordChars (wc : Str) : Prop where
  w65 : Txt.contains wc (S1 65) = true
  w97 : Txt.contains wc (S1 97) = true
  w107 : Txt.contains wc (S1 107) = true
  w37 : Txt.contains wc (S1 37) = false
  w61 : Txt.contains wc (S1 61) = false
  w39 : Txt.contains wc (Str.ofString "'") = false
theorem drop_succ {l : List Nat} {i c : Nat} {r : List Nat} (h : l.drop i = c :: r) : l.drop (i + 1) = r := by
  rw [← List.drop_drop, h]; rfl
theorem lt_of_drop {b : Str} {i c : Nat} {r : List Nat} (h : b.cps.toList.drop i = c :: r) : ((i : Nat) : Int) < b.length := by
  have : i < b.cps.toList.length := by
    apply Nat.lt_of_not_le
    intro q
    rw [List.drop_eq_nil_of_le q] at h
    cases h
  have hl : b.length = b.cps.toList.length := by simp [Str.length]
  lia
theorem not_lt_of_drop {b : Str} {i : Nat} (h : b.cps.toList.drop i = []) : ¬ ((i : Nat) : Int) < b.length := by
  have : b.cps.toList.length ≤ i := List.drop_eq_nil_iff.mp h
  have hl : b.length = b.cps.toList.length := by simp [Str.length]
  lia
theorem SL_snoc (l : List Nat) (c : Nat) : SL l ++ S1 c = SL (l ++ [c]) := by
  apply Str.ext_list
  show ((SL l).cps ++ (S1 c).cps).toList = _
  simp
section
variable {w : World} {p : Program} {loose : List Str} {mean : ExcName → Option Value} {mg mb : Str → Option Value}
theorem rt_loop {dp un : Nat} {gd : Option (List Code)} {outer : List Env} {A₀ : Around} {base g : Heap} {fd : FuncData} {L x dx sx sdx q1 q2 : Addr} {oq1 oq2 : Obj} {news : List (Addr × Obj)} {wc b : Str} {Q : Flow → Shared → Prop}
   (hfd : fnAt (Mine.hd.heap_1 w.params) 720 = some fd) (hB : Below A₀ base outer g) (hX : (Mine.hd.heap_1 w.params).In g) (hT : Top p loose mean mg mb g) (hd : dp + 10 < recursionLimit) (hu : un + 50 < cLine)
   (hA : LexAddrs x dx sx sdx q1 q2 news) (hb : b.length ≤ 5000) (hwc : WordChars wc)
   {st : St} {q : Bool} {e : St} {tok r : List Nat} {o1 : St} {o2 : Bool} {o3 o4 : List Nat} (R : RT st q e tok r o1 o2 o3 o4) :
   ∀ (pos : Nat) (s : Shared), b.cps.toList.drop pos = r → tok.length + r.length ≤ 10000 → AtLoop g L x dx sx sdx q1 q2 oq1 oq2 news wc b st q e (SL tok) pos s.heap →
    (∀ e' pos' h' tk', b.cps.toList.drop pos' = o4 → AtLoop g L x dx sx sdx q1 q2 oq1 oq2 news wc b o1 o2 e' (SL o3) (pos' : Nat) h' → Q .next { s with heap := h', toks := tk' }) →
    LR PySem.Challenge.rw_of0086_01.row.prog w (ktrTop dp un gd fd.qualname fd.scope L 720 fd.code [] outer) (envOf fd.qualname fd.scope L 720 fd.code) (rtTest fd) (rtBody fd) [] Q s := by
  have hb' : b.length ≤ 10000 := by lia
  have n1 : ∀ i : Nat, (0 : Int) ≤ ((i : Nat) : Int) := fun i => Int.natCast_nonneg i
  have sl : ∀ l : List Nat, (SL l).length = l.length := fun l => by simp [Str.length]
  have cast1 : ∀ i : Nat, ((i : Nat) : Int) + 1 = ((i + 1 : Nat) : Int) := fun i => by lia
  induction R with
  | @sq_other q e tok c r o1 o2 o3 o4 hc _ ih =>
    intro pos s hr hl H fin
    simp only [List.length_cons] at hl
    refine turn_sq_other hfd hB hX hT hd hu hA (n1 pos) hb' (by rw [sl]; lia) (S1 c) rfl (lt_of_drop hr) (slice_one b pos c r hr) ?_ ?_ ?_ H (fun h' tk' H' => ?_)
    · rcases hc with rfl | rfl | rfl | rfl | rfl | rfl | rfl <;> decide
    · rcases hc with rfl | rfl | rfl | rfl | rfl | rfl | rfl <;> decide
    · rcases hc with rfl | rfl | rfl | rfl | rfl | rfl | rfl <;> decide +kernel
    · rw [SL_snoc, cast1] at H'
      exact ih (pos + 1) _ (drop_succ hr) (by simp only [List.length_append, List.length_singleton]; lia) H' fin
  | @sq_bs q e tok r o1 o2 o3 o4 _ ih =>
    intro pos s hr hl H fin
    simp only [List.length_cons] at hl
    refine turn_sq_bs hfd hB hX hT hd hu hA (n1 pos) hb' (by rw [sl]; lia) (lt_of_drop hr) ((slice_one b pos 92 _ hr).trans (by decide)) H (fun h' tk' H' => ?_)
    rw [show Str.ofString "\\" = S1 92 from by decide, SL_snoc, cast1] at H'
    exact ih (pos + 1) _ (drop_succ hr) (by (try simp only [List.length_append, List.length_singleton]); lia) H' fin
  | @sq_sq q e tok r o1 o2 o3 o4 _ ih =>
    intro pos s hr hl H fin
    simp only [List.length_cons] at hl
    refine turn_sq_sq hfd hB hX hT hd hu hA (n1 pos) hb' (by rw [sl]; lia) (lt_of_drop hr) ((slice_one b pos 39 _ hr).trans (by decide)) H (fun h' tk' H' => ?_)
    rw [cast1] at H'
    exact ih (pos + 1) _ (drop_succ hr) (by (try simp only [List.length_append, List.length_singleton]); lia) H' fin
  | @dq_other q e tok c r o1 o2 o3 o4 hc _ ih =>
    intro pos s hr hl H fin
    simp only [List.length_cons] at hl
    refine turn_dq_other hfd hB hX hT hd hu hA (n1 pos) hb' (by rw [sl]; lia) (S1 c) rfl (lt_of_drop hr) (slice_one b pos c r hr) ?_ ?_ ?_ H (fun h' tk' H' => ?_)
    · rcases hc with rfl | rfl | rfl | rfl | rfl | rfl | rfl <;> decide
    · rcases hc with rfl | rfl | rfl | rfl | rfl | rfl | rfl <;> decide
    · rcases hc with rfl | rfl | rfl | rfl | rfl | rfl | rfl <;> decide +kernel
    · rw [SL_snoc, cast1] at H'
      exact ih (pos + 1) _ (drop_succ hr) (by simp only [List.length_append, List.length_singleton]; lia) H' fin
  | @dq_dq q e tok r o1 o2 o3 o4 _ ih =>
    intro pos s hr hl H fin
    simp only [List.length_cons] at hl
    refine turn_dq_dq hfd hB hX hT hd hu hA (n1 pos) hb' (by rw [sl]; lia) (lt_of_drop hr) ((slice_one b pos 34 _ hr).trans (by decide)) H (fun h' tk' H' => ?_)
    rw [cast1] at H'
    exact ih (pos + 1) _ (drop_succ hr) (by (try simp only [List.length_append, List.length_singleton]); lia) H' fin
  | @dq_bs q e tok r o1 o2 o3 o4 _ ih =>
    intro pos s hr hl H fin
    simp only [List.length_cons] at hl
    refine turn_dq_bs hfd hB hX hT hd hu hA (n1 pos) hb' (by rw [sl]; lia) (lt_of_drop hr) ((slice_one b pos 92 _ hr).trans (by decide)) H (fun h' tk' H' => ?_)
    rw [cast1] at H'
    exact ih (pos + 1) _ (drop_succ hr) (by (try simp only [List.length_append, List.length_singleton]); lia) H' fin
  | @bs_bs q tok r o1 o2 o3 o4 _ ih =>
    intro pos s hr hl H fin
    simp only [List.length_cons] at hl
    refine turn_bs_bs (e := .dq) hfd hB hX hT hd hu hA (n1 pos) hb' (by rw [sl]; lia) (lt_of_drop hr) ((slice_one b pos 92 _ hr).trans (by decide)) H (fun h' tk' H' => ?_)
    rw [show Str.ofString "\\" = S1 92 from by decide, SL_snoc, cast1] at H'
    exact ih (pos + 1) _ (drop_succ hr) (by (try simp only [List.length_append, List.length_singleton]); lia) H' fin
  | @bs_dq q tok r o1 o2 o3 o4 _ ih =>
    intro pos s hr hl H fin
    simp only [List.length_cons] at hl
    refine turn_bs_dq (e := .dq) hfd hB hX hT hd hu hA (n1 pos) hb' (by rw [sl]; lia) (lt_of_drop hr) ((slice_one b pos 34 _ hr).trans (by decide)) H (fun h' tk' H' => ?_)
    rw [show Str.ofString "\"" = S1 34 from by decide, SL_snoc, cast1] at H'
    exact ih (pos + 1) _ (drop_succ hr) (by (try simp only [List.length_append, List.length_singleton]); lia) H' fin
  | @a_sp q e tok r hne =>
    intro pos s hr hl H fin
    simp only [List.length_cons] at hl
    refine turn_a_sp hfd hB hX hT hd hu hA (n1 pos) hb' (by rw [sl]; lia) (lt_of_drop hr) ((slice_one b pos 32 _ hr).trans (by decide)) (by rw [sl]; cases tok with | nil => exact absurd rfl hne | cons c l => simp only [List.length_cons, bne_iff_ne, ne_eq]; lia) H (fun h' tk' H' => ?_)
    rw [cast1] at H'
    exact fin _ (pos + 1) _ _ (drop_succ hr) H'
  | @a_sq q e tok r o1 o2 o3 o4 _ ih =>
    intro pos s hr hl H fin
    simp only [List.length_cons] at hl
    refine turn_a_sq hfd hB hX hT hd hu hA (n1 pos) hb' (by rw [sl]; lia) (lt_of_drop hr) ((slice_one b pos 39 _ hr).trans (by decide)) H (fun h' tk' H' => ?_)
    rw [cast1] at H'
    exact ih (pos + 1) _ (drop_succ hr) (by (try simp only [List.length_append, List.length_singleton]); lia) H' fin
  | @a_dq q e tok r o1 o2 o3 o4 _ ih =>
    intro pos s hr hl H fin
    simp only [List.length_cons] at hl
    refine turn_a_dq hfd hB hX hT hd hu hA (n1 pos) hb' (by rw [sl]; lia) (lt_of_drop hr) ((slice_one b pos 34 _ hr).trans (by decide)) H (fun h' tk' H' => ?_)
    rw [cast1] at H'
    exact ih (pos + 1) _ (drop_succ hr) (by (try simp only [List.length_append, List.length_singleton]); lia) H' fin
  | @a_word q e tok c r o1 o2 o3 o4 hc _ ih =>
    intro pos s hr hl H fin
    simp only [List.length_cons] at hl
    refine turn_a_word hfd hB hX hT hd hu hA (n1 pos) hb' (by rw [sl]; lia) (S1 c) rfl (lt_of_drop hr) (slice_one b pos c r hr) ?_ ?_ ?_ ?_ ?_ ?_ H (fun h' tk' H' => ?_)
    · rcases hc with rfl | rfl <;> decide
    · rcases hc with rfl | rfl <;> decide +kernel
    · rcases hc with rfl | rfl <;> decide +kernel
    · rcases hc with rfl | rfl <;> decide +kernel
    · rcases hc with rfl | rfl <;> decide +kernel
    · rcases hc with rfl | rfl; all_goals first | exact hwc.w65 | exact hwc.w97 | exact hwc.w107 | exact hwc.w37 | exact hwc.w61
    · rw [SL_snoc, cast1] at H'
      exact ih (pos + 1) _ (drop_succ hr) (by simp only [List.length_append, List.length_singleton]; lia) H' fin
  | @a_other q e tok c r o1 o2 o3 o4 hc _ ih =>
    intro pos s hr hl H fin
    simp only [List.length_cons] at hl
    refine turn_a_other hfd hB hX hT hd hu hA (n1 pos) hb' (by rw [sl]; lia) (S1 c) rfl (lt_of_drop hr) (slice_one b pos c r hr) ?_ ?_ ?_ ?_ ?_ ?_ H (fun h' tk' H' => ?_)
    · rcases hc with rfl | rfl <;> decide
    · rcases hc with rfl | rfl <;> decide +kernel
    · rcases hc with rfl | rfl <;> decide +kernel
    · rcases hc with rfl | rfl <;> decide +kernel
    · rcases hc with rfl | rfl <;> decide +kernel
    · rcases hc with rfl | rfl; all_goals first | exact hwc.w65 | exact hwc.w97 | exact hwc.w107 | exact hwc.w37 | exact hwc.w61
    · rw [SL_snoc, cast1] at H'
      exact ih (pos + 1) _ (drop_succ hr) (by simp only [List.length_append, List.length_singleton]; lia) H' fin
  | @a_eof q e tok =>
    intro pos s hr hl H fin
    refine turn_a_eof hfd hB hX hT hd hu hA (n1 pos) hb' (by rw [sl]; lia) (not_lt_of_drop hr) H (fun h' tk' H' => ?_)
    exact fin _ pos _ _ hr H'
  | @sp_sq q e tok r o1 o2 o3 o4 _ ih =>
    intro pos s hr hl H fin
    simp only [List.length_cons] at hl
    refine turn_sp_sq hfd hB hX hT hd hu hA (n1 pos) hb' (by rw [sl]; lia) (lt_of_drop hr) ((slice_one b pos 39 _ hr).trans (by decide)) hwc.w39 H (fun h' tk' H' => ?_)
    rw [cast1] at H'
    exact ih (pos + 1) _ (drop_succ hr) (by (try simp only [List.length_append, List.length_singleton]); lia) H' fin
  | @sp_word q e tok c r o1 o2 o3 o4 hc _ ih =>
    intro pos s hr hl H fin
    simp only [List.length_cons] at hl
    refine turn_sp_word hfd hB hX hT hd hu hA (n1 pos) hb' (by rw [sl]; lia) (S1 c) rfl (lt_of_drop hr) (slice_one b pos c r hr) ?_ ?_ ?_ ?_ ?_ ?_ H (fun h' tk' H' => ?_)
    · rcases hc with rfl | rfl | rfl <;> decide
    · rcases hc with rfl | rfl | rfl <;> decide +kernel
    · rcases hc with rfl | rfl | rfl <;> decide +kernel
    · rcases hc with rfl | rfl | rfl <;> decide +kernel
    · rcases hc with rfl | rfl | rfl <;> decide +kernel
    · rcases hc with rfl | rfl | rfl; all_goals first | exact hwc.w65 | exact hwc.w97 | exact hwc.w107 | exact hwc.w37 | exact hwc.w61
    · rw [cast1] at H'
      exact ih (pos + 1) _ (drop_succ hr) (by simp only [List.length_singleton]; lia) H' fin
  | @sp_other q e tok c r o1 o2 o3 o4 hc _ ih =>
    intro pos s hr hl H fin
    simp only [List.length_cons] at hl
    refine turn_sp_other hfd hB hX hT hd hu hA (n1 pos) hb' (by rw [sl]; lia) (S1 c) rfl (lt_of_drop hr) (slice_one b pos c r hr) ?_ ?_ ?_ ?_ ?_ ?_ H (fun h' tk' H' => ?_)
    · rcases hc with rfl <;> decide
    · rcases hc with rfl <;> decide +kernel
    · rcases hc with rfl <;> decide +kernel
    · rcases hc with rfl <;> decide +kernel
    · rcases hc with rfl <;> decide +kernel
    · rcases hc with rfl; all_goals first | exact hwc.w65 | exact hwc.w97 | exact hwc.w107 | exact hwc.w37 | exact hwc.w61
    · rw [cast1] at H'
      exact ih (pos + 1) _ (drop_succ hr) (by simp only [List.length_singleton]; lia) H' fin
  | @sp_eof q e tok =>
    intro pos s hr hl H fin
    refine turn_sp_eof hfd hB hX hT hd hu hA (n1 pos) hb' (by rw [sl]; lia) (not_lt_of_drop hr) H (fun h' tk' H' => ?_)
    exact fin _ pos _ _ hr H'
  | @no_eof q e tok =>
    intro pos s hr hl H fin
    refine turn_no_eof hfd hB hX hT hd hu hA (n1 pos) hb' (by rw [sl]; lia) (not_lt_of_drop hr) H (fun h' tk' H' => ?_)
    rw [show Str.ofString "" = SL [] from by decide] at H'
    exact fin _ pos _ _ hr H'
end

end

section
abbrev lexLed (x dx sx sdx q1 q2 : Addr) (oq1 oq2 o so : Obj) (news : List (Addr × Obj)) : List (Addr × Obj) :=
  (sx, instObj 617 sdx) :: (sdx, so) :: (x, instObj 752 dx) :: (dx, o) :: (q1, oq1) :: (q2, oq2) :: news
def TokVal (q : Bool) (tok : List Nat) (v : Value) : Prop := if q = false ∧ tok = [] then v = .none else ∃ t, v = .str (SL tok) t
section
variable {w : World} {p : Program} {loose : List Str} {mean : ExcName → Option Value} {mg mb : Str → Option Value} {x dx sx sdx q1 q2 : Addr} {oq1 oq2 o so : Obj} {news : List (Addr × Obj)} {wc b : Str}
theorem read_token_spec (hA : LexAddrs x dx sx sdx q1 q2 news) (hb : b.length ≤ 5000) (hwc : WordChars wc) {st : St} {pos : Nat} (hL : LexD o sx q1 q2 wc st (SL [])) (hS : SioD so b pos)
   {o1 : St} {o2 : Bool} {o3 o4 : List Nat} (R : RT st false .sp [] (b.cps.toList.drop pos) o1 o2 o3 o4) :
   Spec w p loose mean mg mb 15 100 720 [.ref x] (lexLed x dx sx sdx q1 q2 oq1 oq2 o so news)
     (fun v news' => TokVal o2 o3 v ∧ ∃ o' so' pos', b.cps.toList.drop pos' = o4 ∧ LexD o' sx q1 q2 wc o1 (SL []) ∧ SioD so' b (pos' : Nat) ∧ news' = lexLed x dx sx sdx q1 q2 oq1 oq2 o' so' news) := by
  unfold Spec
  k_fill
  intro dp un gd cn cs a ccd cl outer A₀ base h₀ L m s Q E hB hF hX hN hT hcs hdp hun hret
  refine wpAny_call ?_
  k_dflt k_enter
  refine wpAny_noRaise ?_
  k_with_none
  k_with "my while" => (refine lr_start ?_)
  k_steps
  refine' (fun (hfd : fnAt (Mine.hd.heap_1 w.params) 720 = some _) => ?main9) (fnAt_of ?hl9)
  case hl9 => k_dflt k_is
  k_dflt (refine' rt_loop hfd ?r1 ?r2 ?r3 ?r4 ?r5 hA hb hwc R pos _ rfl ?r6 ?r7 ?r8)
  case r1 => k_asm
  case r2 => k_asm
  case r3 => k_asm
  case r4 => (try simp only [depth_deeper]); (try dsimp only [ktrTop]); omega
  case r5 => (try simp only [units_deeper]); (try dsimp only [ktrTop]); omega
  case r6 =>
    have : (b.cps.toList.drop pos).length ≤ b.cps.toList.length := by simp
    have hl : b.length = b.cps.toList.length := by simp [Str.length]
    simp only [List.length_nil]; omega
  case r7 =>
    (with_reducible rename Fr _ _ _ _ => kF)
    obtain ⟨te, F1⟩ := rtl_start' (x := x) kF rfl rfl ⟨_, rfl⟩ (by
      intro y n1 n2 n3
      simp only [n2, n3, if_false]
      show List.lookup y [(Str.ofString "self", Value.ref x)] = none
      simp only [List.lookup, beq_eq_false_iff_ne.mpr n1])
    exact ⟨[], te, _, _, .inl rfl, F1, hL, hS, by k_asm⟩
  case r8 =>
    intro e' pos' h' tk' hdr H'
    refine hideG ?_
    intro G9
    obtain ⟨nxl, te, o', so', hnx, F9, ⟨Hh, Kk, V, rfl⟩, hS', N9⟩ := H'
    obtain ⟨a1, a2, a3, a4, a5, a6, a7⟩ := hA
    k_unfold
    k_with "my eq" => (first | refine eq_known (by assumption) ?_ | refine eq_known (b := true) (by decide +kernel) ?_ | refine eq_known (b := false) (by decide +kernel) ?_)
    cases o2 with
    | true =>
      k_steps
      refine' hret _ _ _ _ ?F1 ?N1 ?P1
      case F1 => k_asm
      case N1 => k_asm
      case P1 => exact ⟨by unfold TokVal; rw [if_neg (by intro h; cases h.1)]; exact ⟨_, rfl⟩, _, _, pos', hdr, ⟨Hh, Kk, fun i => if i = 15 then _ else V i, rfl⟩, hS', rfl⟩
    | false =>
      by_cases he : o3 = []
      · have f0 : (SL o3 == Str.ofString "") = true := by subst he; decide
        k_steps
        refine' hret _ _ _ _ ?F2 ?N2 ?P2
        case F2 => k_asm
        case N2 => k_asm
        case P2 => exact ⟨by unfold TokVal; rw [if_pos ⟨rfl, he⟩], _, _, pos', hdr, ⟨Hh, Kk, fun i => if i = 15 then _ else V i, rfl⟩, hS', rfl⟩
      · have f0 : (SL o3 == Str.ofString "") = false := by
          rw [beq_eq_false_iff_ne]; intro h; apply he; have := congrArg (fun z : Str => z.cps.toList) h; rw [show (Str.ofString "").cps.toList = [] from by decide] at this; simpa using this
        k_steps
        refine' hret _ _ _ _ ?F3 ?N3 ?P3
        case F3 => k_asm
        case N3 => k_asm
        case P3 => exact ⟨by unfold TokVal; rw [if_neg (fun h => he h.2)]; exact ⟨_, rfl⟩, _, _, pos', hdr, ⟨Hh, Kk, fun i => if i = 15 then _ else V i, rfl⟩, hS', rfl⟩
end

end

section
section
variable {w : World} {p : Program} {loose : List Str} {mean : ExcName → Option Value} {mg mb : Str → Option Value} {x dx sx sdx q1 q2 : Addr} {o so : Obj} {news : List (Addr × Obj)} {wc b : Str}
theorem get_token_some (hA : LexAddrs x dx sx sdx q1 q2 news) (hb : b.length ≤ 5000) (hwc : WordChars wc) {st : St} {pos : Nat} (hL : LexD o sx q1 q2 wc st (SL [])) (hS : SioD so b pos)
   {o1 : St} {o2 : Bool} {o3 o4 : List Nat} (R : RT st false .sp [] (b.cps.toList.drop pos) o1 o2 o3 o4) (hne : ¬ (o2 = false ∧ o3 = [])) :
   Spec w p loose mean mg mb 20 150 713 [.ref x] (lexLed x dx sx sdx q1 q2 dqObj dqObj o so news)
     (fun v news' => (∃ t, v = .str (SL o3) t) ∧ ∃ o' so' pos', b.cps.toList.drop pos' = o4 ∧ LexD o' sx q1 q2 wc o1 (SL []) ∧ SioD so' b (pos' : Nat) ∧ news' = lexLed x dx sx sdx q1 q2 dqObj dqObj o' so' news) := by
  have hL0 := hL
  have hS0 := hS
  refine hideG ?_
  intro G9
  obtain ⟨Hh, Kk, V, rfl⟩ := hL
  k_unfold
  unfold Spec
  k_fill
  intro dp un gd cn cs a ccd cl outer A₀ base h₀ L m s Q E hB hF hX hN hT hcs hdp hun hret
  refine wpAny_call ?_
  k_dflt k_enter
  refine wpAny_noRaise ?_
  k_with_none
  k_with "my call" => (k_dflt (refine' Spec.use (read_token_spec hA hb hwc hL0 hS0 R) ?r1 ?r2 ?r3 ?r4 ?r5 ?r6 ?r7 ?r8 ?_; (case r1 => k_asm); (case r2 => k_asm); (case r3 => k_asm); (case r4 => k_asm); (case r5 => k_asm); (case r6 => exact rfl); (case r7 => k_room); (case r8 => k_units)); intro v9 n9 h9 tk9 F9 N9 P9; k_dflt (obtain ⟨hv9, o9, so9, pos9, hd9, hl9, hs9, rfl⟩ := P9; (unfold TokVal at hv9; rw [if_neg hne] at hv9); refine hideG ?_; intro G9; obtain ⟨t9, rfl⟩ := hv9; k_unfold; (have hl8 := hl9); refine hideG ?_; intro G9; obtain ⟨H9, K9, V9, rfl⟩ := hl9; k_unfold); (try k_sweep); (try dsimp only); (try k_fold))
  k_with "truthy ref" => (k_dflt (refine' dq_truthy ?o1 ?_; (case o1 => exact News.get (by k_asm) (by k_mem))))
  k_steps
  refine' hret _ _ _ _ ?e1 ?e2 ?e3; (case e1 => k_asm); (case e2 => k_asm)
  exact ⟨⟨_, rfl⟩, _, _, _, hd9, hl8, hs9, rfl⟩
theorem get_token_none (hA : LexAddrs x dx sx sdx q1 q2 news) (hb : b.length ≤ 5000) (hwc : WordChars wc) {st : St} {pos : Nat} (hL : LexD o sx q1 q2 wc st (SL [])) (hS : SioD so b pos)
   {o1 : St} {o2 : Bool} {o3 o4 : List Nat} (R : RT st false .sp [] (b.cps.toList.drop pos) o1 o2 o3 o4) (hne : o2 = false ∧ o3 = []) :
   Spec w p loose mean mg mb 20 150 713 [.ref x] (lexLed x dx sx sdx q1 q2 dqObj dqObj o so news)
     (fun v news' => v = .none ∧ ∃ o' so' pos', b.cps.toList.drop pos' = o4 ∧ LexD o' sx q1 q2 wc o1 (SL []) ∧ SioD so' b (pos' : Nat) ∧ news' = lexLed x dx sx sdx q1 q2 dqObj dqObj o' so' news) := by
  have hL0 := hL
  have hS0 := hS
  refine hideG ?_
  intro G9
  obtain ⟨Hh, Kk, V, rfl⟩ := hL
  k_unfold
  unfold Spec
  k_fill
  intro dp un gd cn cs a ccd cl outer A₀ base h₀ L m s Q E hB hF hX hN hT hcs hdp hun hret
  refine wpAny_call ?_
  k_dflt k_enter
  refine wpAny_noRaise ?_
  k_with_none
  k_with "my call" => (k_dflt (refine' Spec.use (read_token_spec hA hb hwc hL0 hS0 R) ?r1 ?r2 ?r3 ?r4 ?r5 ?r6 ?r7 ?r8 ?_; (case r1 => k_asm); (case r2 => k_asm); (case r3 => k_asm); (case r4 => k_asm); (case r5 => k_asm); (case r6 => exact rfl); (case r7 => k_room); (case r8 => k_units)); intro v9 n9 h9 tk9 F9 N9 P9; k_dflt (obtain ⟨hv9, o9, so9, pos9, hd9, hl9, hs9, rfl⟩ := P9; (unfold TokVal at hv9; rw [if_pos hne] at hv9); subst hv9; (have hl8 := hl9); refine hideG ?_; intro G9; obtain ⟨H9, K9, V9, rfl⟩ := hl9; k_unfold); (try k_sweep); (try dsimp only); (try k_fold))
  k_with "truthy ref" => (k_dflt (refine' dq_truthy ?o1 ?_; (case o1 => exact News.get (by k_asm) (by k_mem))))
  k_steps
  refine' hret _ _ _ _ ?e1 ?e2 ?e3; (case e1 => k_asm); (case e2 => k_asm)
  exact ⟨rfl, _, _, _, hd9, hl8, hs9, rfl⟩
end

end

section
section
variable {w : World} {p : Program} {loose : List Str} {mean : ExcName → Option Value} {mg mb : Str → Option Value} {x dx sx sdx q1 q2 : Addr} {o so : Obj} {news : List (Addr × Obj)} {wc b : Str}
theorem next_some (hA : LexAddrs x dx sx sdx q1 q2 news) (hb : b.length ≤ 5000) (hwc : WordChars wc) {st : St} {pos : Nat} (hL : LexD o sx q1 q2 wc st (SL [])) (hS : SioD so b pos)
   {o1 : St} {o2 : Bool} {o3 o4 : List Nat} (R : RT st false .sp [] (b.cps.toList.drop pos) o1 o2 o3 o4) (hne : ¬ (o2 = false ∧ o3 = [])) :
   Spec w p loose mean mg mb 25 200 749 [.ref x] (lexLed x dx sx sdx q1 q2 dqObj dqObj o so news)
     (fun v news' => (∃ t, v = .str (SL o3) t) ∧ ∃ o' so' pos', b.cps.toList.drop pos' = o4 ∧ LexD o' sx q1 q2 wc o1 (SL []) ∧ SioD so' b (pos' : Nat) ∧ news' = lexLed x dx sx sdx q1 q2 dqObj dqObj o' so' news) := by
  have hL0 := hL
  have hS0 := hS
  refine hideG ?_
  intro G9
  obtain ⟨Hh, Kk, V, rfl⟩ := hL
  k_unfold
  unfold Spec
  k_fill
  intro dp un gd cn cs a ccd cl outer A₀ base h₀ L m s Q E hB hF hX hN hT hcs hdp hun hret
  refine wpAny_call ?_
  k_dflt k_enter
  refine wpAny_noRaise ?_
  k_with_none
  k_with "my call" => (k_dflt (refine' Spec.use (get_token_some hA hb hwc hL0 hS0 R hne) ?r1 ?r2 ?r3 ?r4 ?r5 ?r6 ?r7 ?r8 ?_; (case r1 => k_asm); (case r2 => k_asm); (case r3 => k_asm); (case r4 => k_asm); (case r5 => k_asm); (case r6 => exact rfl); (case r7 => k_room); (case r8 => k_units)); intro v9 n9 h9 tk9 F9 N9 P9; k_dflt (obtain ⟨hv9, o9, so9, pos9, hd9, hl9, hs9, rfl⟩ := P9; refine hideG ?_; intro G9; obtain ⟨t9, rfl⟩ := hv9; k_unfold; (have hl8 := hl9); refine hideG ?_; intro G9; obtain ⟨H9, K9, V9, rfl⟩ := hl9; k_unfold); (try k_sweep); (try dsimp only); (try k_fold))
  k_steps
  refine' hret _ _ _ _ ?e1 ?e2 ?e3; (case e1 => k_asm); (case e2 => k_asm)
  exact ⟨⟨_, rfl⟩, _, _, _, hd9, hl8, hs9, rfl⟩
end

end

section
section
variable {w : World} {p : Program} {loose : List Str} {mean : ExcName → Option Value} {mg mb : Str → Option Value} {x dx sx sdx q1 q2 : Addr} {o so : Obj} {news : List (Addr × Obj)} {wc b : Str}
theorem next_stop (hA : LexAddrs x dx sx sdx q1 q2 news) (hb : b.length ≤ 5000) (hwc : WordChars wc) {st : St} {pos : Nat} (hL : LexD o sx q1 q2 wc st (SL [])) (hS : SioD so b pos)
   {o1 : St} {o2 : Bool} {o3 o4 : List Nat} (R : RT st false .sp [] (b.cps.toList.drop pos) o1 o2 o3 o4) (hne : o2 = false ∧ o3 = []) 
   {dp un : Nat} {gd : Option (List Code)} {cn : Str} {cs : Scope} {a : Addr} {ccd : Value} {outer : List Env} {A₀ : Around} {base h₀ : Heap} {L : Addr} {m : Str → Option Value} {s : Shared} {Qv : Value → Shared → Prop} {Q2 : Option Value → Shared → Prop} {E2 : Value → Shared → Prop} :
    Below A₀ base outer h₀ → Fr h₀ L s.heap m → (Mine.hd.heap_1 w.params).In h₀ → News h₀ L s.heap (lexLed x dx sx sdx q1 q2 dqObj dqObj o so news) → Top p loose mean mg mb h₀ →
    (Mine.hd.heap_1 w.params).In base → Top p loose mean mg mb base → KtsDicts (outer.filterMap (·.frame)) h₀ → cs.kind = .function →
    dp + 25 < recursionLimit → un + 200 < cLine →
    (∀ news' h' tk' h₀', KtsTurn (outer.filterMap (·.frame)) h₀ h₀' → Below A₀ base outer h₀' → Fr h₀' L h' m → (Mine.hd.heap_1 w.params).In h₀' → News h₀' L h' news' → Top p loose mean mg mb h₀' → KtsDicts (outer.filterMap (·.frame)) h₀' → (∃ o' so', news' = lexLed x dx sx sdx q1 q2 dqObj dqObj o' so' news) → Q2 none { s with heap := h', toks := tk' }) →
    wpAny (model PySem.Challenge.rw_of0086_01.row.prog w) (ktrTop dp un gd cn cs L a ccd [] outer) (call (.ref 749) [.ref x]) Qv (OwitStop (model PySem.Challenge.rw_of0086_01.row.prog w) (ktrTop dp un gd cn cs L a ccd [] outer) Q2 E2) s := by
  have hL0 := hL
  have hS0 := hS
  refine hideG ?_
  intro G9
  obtain ⟨Hh, Kk, V, rfl⟩ := hL
  k_unfold
  k_fill
  intro hB hF hX hN hT hXB hTB hD hcs hdp hun hret
  refine wpAny_call ?_
  k_dflt k_enter
  k_with_none
  k_with "my call" => (k_dflt (refine' Spec.use (get_token_none hA hb hwc hL0 hS0 R hne) ?r1 ?r2 ?r3 ?r4 ?r5 ?r6 ?r7 ?r8 ?_; (case r1 => k_asm); (case r2 => k_asm); (case r3 => k_asm); (case r4 => k_asm); (case r5 => k_asm); (case r6 => exact rfl); (case r7 => k_room); (case r8 => k_units)); intro v9 n9 h9 tk9 F9 N9 P9; k_dflt (obtain ⟨hv9, o9, so9, pos9, hd9, hl9, hs9, rfl⟩ := P9; subst hv9; (have hl8 := hl9); refine hideG ?_; intro G9; obtain ⟨H9, K9, V9, rfl⟩ := hl9; k_unfold); (try k_sweep); (try dsimp only); (try k_fold))
  k_steps
  refine' owit_stopS ?z1 ?z2 ?z3 ?z4 ?z5 ?z6 ?z7 ?z8 ?_
  case z1 => assumption
  case z2 => assumption
  case z3 => assumption
  case z4 => assumption
  case z5 => assumption
  case z6 => assumption
  case z7 => assumption
  case z8 => first | rfl | kernel_rfl
  intro g9 T9 K9 F9 X9 N9 P9 D9
  exact hret _ _ _ _ T9 K9 F9 X9 N9 P9 D9 ⟨_, _, rfl⟩
end

end

section
/-- list(lex) sign by sign: the tokens that read_token gives one after another, until it gives None -/
inductive Toks : St → List Nat → List (List Nat) → Prop where
  | stop {st rest o1 o4} : RT st false .sp [] rest o1 false [] o4 → Toks st rest []
  | tok {st rest o1 o2 o3 o4 ts} : RT st false .sp [] rest o1 o2 o3 o4 → ¬ (o2 = false ∧ o3 = []) → Toks o1 o4 ts → Toks st rest (o3 :: ts)
section
variable {w : World} {p : Program} {loose : List Str} {mean : ExcName → Option Value} {mg mb : Str → Option Value} {x dx sx sdx q1 q2 : Addr} {o so : Obj} {news : List (Addr × Obj)} {wc b : Str}
theorem iter_spec : Spec w p loose mean mg mb 5 20 742 [.ref x] news (fun v news' => v = .ref x ∧ news' = news) := by
  unfold Spec
  k_fill
  intro dp un gd cn cs a ccd cl outer A₀ base h₀ L m s Q E hB hF hX hN hT hcs hdp hun hret
  refine wpAny_call ?_
  k_dflt k_enter
  refine wpAny_noRaise ?_
  k_with_none
  k_steps
  refine' hret _ _ _ _ ?e1 ?e2 ?e3; (case e1 => k_asm); (case e2 => first | k_asm | exact news_tail (by k_asm))
  exact ⟨rfl, rfl⟩
end
section
variable {w : World} {p : Program} {loose : List Str} {mean : ExcName → Option Value} {mg mb : Str → Option Value} {x dx sx sdx q1 q2 S : Addr} {news : List (Addr × Obj)} {wc b : Str}
   {dp un : Nat} {gd : Option (List Code)} {cn : Str} {cs : Scope} {a : Addr} {ccd : Value} {outer : List Env} {A₀ : Around} {base h₀ : Heap} {L : Addr} {m : Str → Option Value} {R : Result → Shared → Prop}
theorem n_next (w : World) : findIn (Mine.hd.heap_1 w.params) (.ref 752) "__next__" = some (some (.ref 749)) := by kernel_rfl
theorem n_iter (w : World) : findIn (Mine.hd.heap_1 w.params) (.ref 752) "__iter__" = some (some (.ref 742)) := by kernel_rfl
theorem n_len (w : World) : findIn (Mine.hd.heap_1 w.params) (.ref 752) "__len__" = some none := by kernel_rfl
theorem n_hint (w : World) : findIn (Mine.hd.heap_1 w.params) (.ref 752) "__length_hint__" = some none := by kernel_rfl
theorem n_fn (w : World) : isFn (Mine.hd.heap_1 w.params) (.ref 749) = true := by kernel_rfl
theorem n_fi (w : World) : isFn (Mine.hd.heap_1 w.params) (.ref 742) = true := by kernel_rfl
theorem lex_inst {h : Heap} {o so : Obj} {tail : List (Addr × Obj)} (N : News h₀ L h (lexLed x dx sx sdx q1 q2 dqObj dqObj o so tail)) : InstAt h x (instObj 752 dx) 752 (some o) :=
  InstAt.of_news N (by simp) (by simp)
theorem lex_loop (hA : ∀ o, LexAddrs x dx sx sdx q1 q2 ((S, o) :: news)) (hS1 : ∀ q ∈ news, q.1 ≠ S) (hS2 : S ≠ x) (hS3 : S ≠ dx) (hS4 : S ≠ sx) (hS5 : S ≠ sdx) (hS6 : S ≠ q1) (hS7 : S ≠ q2) (hb : b.length ≤ 5000) (hwc : WordChars wc)
    (hB : Below A₀ base outer h₀) (hX : (Mine.hd.heap_1 w.params).In h₀) (hT : Top p loose mean mg mb h₀) (hXB : (Mine.hd.heap_1 w.params).In base) (hTB : Top p loose mean mg mb base) (hD : KtsDicts (outer.filterMap (·.frame)) h₀) (hcs : cs.kind = .function)
    (hdp : dp + 25 < recursionLimit) (hun : un + 201 < cLine) {ts : List (List Nat)} {st : St} {rest : List Nat} (HT : Toks st rest ts) :
    ∀ (o so : Obj) (pos : Nat) (acc : Array Value) (c : Nat) (s : Shared), rest = b.cps.toList.drop pos → LexD o sx q1 q2 wc st (SL []) → SioD so b pos → Fr h₀ L s.heap m →
      News h₀ L s.heap (lexLed x dx sx sdx q1 q2 dqObj dqObj o so ((S, listObj acc c) :: news)) → acc.size + ts.length ≤ 1000 →
      (∀ vs c' h' tk' h₀', Vals ts vs → KtsTurn (outer.filterMap (·.frame)) h₀ h₀' → Below A₀ base outer h₀' → Fr h₀' L h' m → (Mine.hd.heap_1 w.params).In h₀' → News h₀' L h' ((S, listObj (acc ++ vs.toArray) c') :: news) → Top p loose mean mg mb h₀' → KtsDicts (outer.filterMap (·.frame)) h₀' → R (.ok (.ret .none)) { s with heap := h', toks := tk' }) →
      codeAny (model PySem.Challenge.rw_of0086_01.row.prog w) (ktrTop dp un gd cn cs L a ccd [] outer) (.builtin "list.extend.loop" ⟨[.ref S, .ref x, .none], []⟩) R s := by
  induction HT with
  | stop hR =>
    intro o so pos acc c s hr hL hS hF hN hsz hret
    subst hr
    refine codeAny_builtin F.entry_extend_loop ?_
    rw [Around.under_plainId F.plain_extend_loop _]
    show wpAny _ _ (pyNext (.ref x) >>= _) _ _ s
    refine wpAny_bind (owit_next hF hX (lex_inst hN) (n_next w) (n_fn w) ?_)
    refine next_stop (hA _) hb hwc hL hS hR ⟨rfl, rfl⟩ hB hF hX hN hT hXB hTB hD hcs hdp (by omega) ?_
    intro news' h' tk' h₀' T' B' F' X' N' P' D' ⟨o', so', e⟩
    subst e
    refine wpAny_pure (hret [] c h' tk' h₀' .nil T' B' F' X' ?_ P' D')
    intro q hq
    have hq' : q = (S, listObj acc c) ∨ q ∈ news := by simpa using hq
    exact N' q (by rcases hq' with h | h <;> simp [h])
  | @tok st0 rest0 o1 o2 o3 o4 ts0 hR hne HT ih =>
    intro o so pos acc c s hr hL hS hF hN hsz hret
    subst hr
    refine codeAny_builtin F.entry_extend_loop ?_
    rw [Around.under_plainId F.plain_extend_loop _]
    show wpAny _ _ (pyNext (.ref x) >>= _) _ _ s
    refine wpAny_bind (owit_next hF hX (lex_inst hN) (n_next w) (n_fn w) ?_)
    refine Spec.use (next_some (hA _) hb hwc hL hS hR hne) hB hF hX hN hT hcs hdp (by omega) ?_
    intro v news' h' tk' F' N' P'
    refine hideG ?_
    intro G9
    obtain ⟨⟨k, rfl⟩, o', so', pos', hd, hl', hs', rfl⟩ := P'
    k_unfold
    have hSo : h'.get? S = some (listObj acc c) := (N' (S, listObj acc c) (by simp)).1
    show wpAny _ _ (updateSeq S (·.push _) >>= _) _ _ _
    simp only [List.length_cons] at hsz
    have hbig : sizeLine = 16777216 := by first | rfl | decide
    refine wpAny_bind (wpAny_updateSeq hSo rfl (wpAny_pure ⟨plainId_quiet F.plain_extend_loop _, ?_⟩) (by omega) (by show (acc.push _).size ≤ _; rw [Array.size_push]; omega))
    obtain ⟨c2, hc2⟩ : ∃ c2, Obj.mapSeq (·.push (.str (SL o3) k)) (listObj acc c) = listObj (acc.push (.str (SL o3) k)) c2 := ⟨_, rfl⟩
    have hSo2 := (Heap.get?_update_self (Obj.mapSeq (·.push (.str (SL o3) k))) hSo rfl).trans (congrArg some hc2)
    have sb := Heap.SameBut.update h' S (Obj.mapSeq (·.push (.str (SL o3) k)))
    refine ih o' so' pos' (acc.push (.str (SL o3) k)) c2 _ hd.symm hl' hs' (Fr.update F' N' (a := S) (o := listObj acc c) (by simp) sb) ?_ (by rw [Array.size_push]; omega) ?_
    · refine News.setIn (own := [(sx, instObj 617 sdx), (sdx, so'), (x, instObj 752 dx), (dx, o'), (q1, dqObj), (q2, dqObj)]) N' ?_ hS1 sb hSo2
      intro q hq
      simp only [List.mem_cons, List.not_mem_nil, or_false] at hq
      rcases hq with rfl | rfl | rfl | rfl | rfl | rfl
      · exact fun e => hS4 e.symm
      · exact fun e => hS5 e.symm
      · exact fun e => hS2 e.symm
      · exact fun e => hS3 e.symm
      · exact fun e => hS6 e.symm
      · exact fun e => hS7 e.symm
    · intro vs c' h2 tk2 h₀' hv T' B' F2 X2 N2 P2 D2
      refine hret (.str (SL o3) k :: vs) c' h2 tk2 h₀' (.cons hv) T' B' F2 X2 ?_ P2 D2
      have e : acc.push (.str (SL o3) k) ++ vs.toArray = acc ++ (Value.str (SL o3) k :: vs).toArray := by simp
      rw [← e]; exact N2
theorem led_upd {o so : Obj} (hS1 : ∀ q ∈ news, q.1 ≠ S) (hS2 : S ≠ x) (hS3 : S ≠ dx) (hS4 : S ≠ sx) (hS5 : S ≠ sdx) (hS6 : S ≠ q1) (hS7 : S ≠ q2) (hh : Heap) (acc : Array Value) (c : Nat) (f : Array Value → Array Value) (F : Fr h₀ L hh m) (N : News h₀ L hh (lexLed x dx sx sdx q1 q2 dqObj dqObj o so ((S, listObj acc c) :: news))) :
    ∃ c', Fr h₀ L (hh.update S (Obj.mapSeq f)) m ∧ News h₀ L (hh.update S (Obj.mapSeq f)) (lexLed x dx sx sdx q1 q2 dqObj dqObj o so ((S, listObj (f acc) c') :: news)) := by
  have hSo : hh.get? S = some (listObj acc c) := (N (S, listObj acc c) (by simp)).1
  obtain ⟨c2, hc2⟩ : ∃ c2, Obj.mapSeq f (listObj acc c) = listObj (f acc) c2 := ⟨_, rfl⟩
  have hSo2 := (Heap.get?_update_self (Obj.mapSeq f) hSo rfl).trans (congrArg some hc2)
  have sb := Heap.SameBut.update hh S (Obj.mapSeq f)
  refine ⟨c2, Fr.update F N (a := S) (o := listObj acc c) (by simp) sb, ?_⟩
  refine News.setIn (own := [(sx, instObj 617 sdx), (sdx, so), (x, instObj 752 dx), (dx, o), (q1, dqObj), (q2, dqObj)]) N ?_ hS1 sb hSo2
  intro q hq
  simp only [List.mem_cons, List.not_mem_nil, or_false] at hq
  rcases hq with rfl | rfl | rfl | rfl | rfl | rfl
  · exact fun e => hS4 e.symm
  · exact fun e => hS5 e.symm
  · exact fun e => hS2 e.symm
  · exact fun e => hS3 e.symm
  · exact fun e => hS6 e.symm
  · exact fun e => hS7 e.symm
theorem led_in {o so lo : Obj} {h : Heap} (N : News h₀ L h ((S, lo) :: lexLed x dx sx sdx q1 q2 dqObj dqObj o so news)) : News h₀ L h (lexLed x dx sx sdx q1 q2 dqObj dqObj o so ((S, lo) :: news)) := by
  intro q hq
  refine N q ?_
  simp only [List.mem_cons] at hq ⊢
  rcases hq with h | h | h | h | h | h | h | h <;> simp [h]
end

end

section
section
variable {w : World} {p : Program} {loose : List Str} {mean : ExcName → Option Value} {mg mb : Str → Option Value} {x dx sx sdx q1 q2 S : Addr} {news : List (Addr × Obj)} {wc b : Str}
   {dp un : Nat} {gd : Option (List Code)} {cn : Str} {cs : Scope} {a : Addr} {ccd : Value} {outer : List Env} {A₀ : Around} {base h₀ : Heap} {L : Addr} {m : Str → Option Value} {R : Result → Shared → Prop}
theorem list_lex (hA : LexAddrs x dx sx sdx q1 q2 news) (hb : b.length ≤ 5000) (hwc : WordChars wc) {ts : List (List Nat)} {st : St} {o so : Obj} {pos : Nat} (HT : Toks st (b.cps.toList.drop pos) ts) (hn : ts.length ≤ 1000) (hL : LexD o sx q1 q2 wc st (SL [])) (hS : SioD so b pos) :
    SpecX w p loose mean mg mb 26 210 (.type "list") [.ref x] (lexLed x dx sx sdx q1 q2 dqObj dqObj o so news) (fun v news' => ∃ S vs c, Vals ts vs ∧ v = .ref S ∧ news' = (S, listObj vs.toArray c) :: news ∧ (∀ q ∈ news, q.1 < S)) := by
  intro dp un gd cn cs a ccd outer A₀ base h₀ L m s Q E hB hF hX hN hT hXB hTB hD hcs hdp hun hret
  have I := lex_inst hN
  refine callType_codes (Q₁ := fun obj s₁ => obj = .ref s.heap.objs.size ∧ s₁ = { s with heap := s.heap.push { cls := .type "list", data := .seq #[] } }) F.called_list (F.typeCall_list_1 _) F.entry_list_init
    (code_list_new _ ⟨rfl, rfl⟩) fun obj s₁ h₁ => ?_
  refine hideG ?_
  intro G9
  obtain ⟨rfl, rfl⟩ := h₁
  k_unfold
  have hlt : ∀ q ∈ (lexLed x dx sx sdx q1 q2 dqObj dqObj o so news), q.1 < s.heap.objs.size := fun q hq => Heap.lt_size (hN q hq).1
  have hS0 : (s.heap.push { cls := .type "list", data := .seq #[] }).get? s.heap.objs.size = some (listObj #[] 0) := Heap.get?_push_size _ rfl
  have F1 := hF.push { cls := .type "list", data := .seq #[] }
  have N1 := News.push hF hN { cls := .type "list", data := .seq #[] }
  generalize hSz : s.heap.objs.size = S at *
  refine ⟨⟨_, hS0, rfl⟩, F.args_list_init_2 _ _, ?_⟩
  show wpAny _ _ (do let old ← Builtin.List.listItems (.ref S); Builtin.List.listUpdate (.ref S) (fun _ => #[]); letGo old.toList.reverse; Builtin.List.listExtendWith (.ref S) (.ref x) .none) _ _ _
  refine wpAny_bind ?_
  unfold Builtin.List.listItems
  refine wpAny_bind (wpAny_seqItems hS0 rfl (wpAny_pure ?_))
  show wpAny _ _ (updateSeq S (fun _ => #[]) >>= fun _ => letGo (#[] : Array Value).toList.reverse >>= fun _ => Builtin.List.listExtendWith (.ref S) (.ref x) .none) _ _ _
  have N1' := led_in N1
  have e1 : S ≠ x := fun e => Nat.lt_irrefl _ (e ▸ hlt (x, _) (.tail _ (.tail _ (.head _))))
  have e2 : S ≠ dx := fun e => Nat.lt_irrefl _ (e ▸ hlt (dx, _) (.tail _ (.tail _ (.tail _ (.head _)))))
  have e3 : S ≠ sx := fun e => Nat.lt_irrefl _ (e ▸ hlt (sx, _) (.head _))
  have e4 : S ≠ sdx := fun e => Nat.lt_irrefl _ (e ▸ hlt (sdx, _) (.tail _ (.head _)))
  have e5 : S ≠ q1 := fun e => Nat.lt_irrefl _ (e ▸ hlt (q1, _) (.tail _ (.tail _ (.tail _ (.tail _ (.head _))))))
  have e6 : S ≠ q2 := fun e => Nat.lt_irrefl _ (e ▸ hlt (q2, _) (.tail _ (.tail _ (.tail _ (.tail _ (.tail _ (.head _)))))))
  have hnl : ∀ q ∈ news, q.1 < S := fun q hq => hlt q (by simp [hq])
  have e7 : ∀ q ∈ news, q.1 ≠ S := fun q hq => Nat.ne_of_lt (hnl q hq)
  have hbig : sizeLine = 16777216 := by first | rfl | decide
  obtain ⟨c2, F2, N2⟩ := led_upd e7 e1 e2 e3 e4 e5 e6 _ _ _ (fun _ => #[]) F1 N1'
  refine wpAny_bind (wpAny_updateSeq hS0 rfl ?_)
  refine wpAny_bind (wpAny_letGo ?_)
  unfold Builtin.List.listExtendWith
  have I2 := lex_inst N2
  refine wpAny_bind (I2.type.here ?_)
  have h1 : Builtin.List.listSameRef (.ref S) (.ref x) = false := by simp [Builtin.List.listSameRef, e1]
  have h2 : (Value.ref 752 == Value.type "list") = false := by decide
  have h3 : (Value.ref 752 == Value.type "tuple") = false := by decide
  simp only [h1, h2, h3, Bool.or_false, Bool.false_eq_true, if_false]
  have X2 := hX.keeps F2.keep
  refine wpAny_bind (owit_iter F2 hX I2 (n_iter w) (n_fi w) ?_)
  refine Spec.use iter_spec hB F2 hX N2 hT hcs (by show dp + 5 < recursionLimit; omega) (by show un + 1 + 1 + 20 < cLine; omega) ?_
  intro v n3 h3' tk3 F3 N3 P3
  refine hideG ?_
  intro G9
  obtain ⟨rfl, rfl⟩ := P3
  k_unfold
  have I3 := lex_inst N3
  have X3 := hX.keeps F3.keep
  refine owit_it F3 hX I3 (n_next w) ?_
  refine wpAny_bind (wpAny_holding ?_)
  unfold Builtin.List.listLengthHint
  refine wpAny_bind (wpAny_bind (I3.type.here ((looks_findIn X3 (n_len w)).here ?_)))
  show wpAny _ _ (specialOf (Value.ref x) (Str.ofString "__length_hint__") >>= _) _ _ _
  refine wpAny_bind (wpAny_bind (I3.type.here ((looks_findIn X3 (n_hint w)).here ?_)))
  refine wpAny_pure ?_
  show wpAny _ _ (rule "list.extend.makes-room" >>= fun _ => Builtin.List.listTouch (.ref S) >>= fun _ =>
    again (.builtin "list.extend.loop" ⟨[.ref S, .ref x, .none], []⟩)) _ _ _
  refine wpAny_bind (wpAny_rule ?_)
  refine wpAny_bind ?_
  show wpAny _ _ (updateSeq S (·.push .none) >>= fun _ => updateSeq S (·.pop)) _ _ _
  refine hideG ?_
  intro G9
  obtain ⟨c4, F4, N4⟩ := led_upd e7 e1 e2 e3 e4 e5 e6 _ _ _ (·.push .none) F3 N3
  obtain ⟨c5, F5, N5⟩ := led_upd e7 e1 e2 e3 e4 e5 e6 _ _ _ (·.pop) F4 N4
  k_unfold
  refine wpAny_bind (wpAny_updateSeq ((N3 (S, _) (.tail _ (.tail _ (.tail _ (.tail _ (.tail _ (.tail _ (.head _)))))))).1) rfl ?_)
  refine wpAny_updateSeq (hz := by seq_fits) ((N4 (S, _) (.tail _ (.tail _ (.tail _ (.tail _ (.tail _ (.tail _ (.head _)))))))).1) rfl ?_
  refine wpAny_pure ⟨plainId_quiet F.plain_extend_loop _, ?_⟩
  have hA' : ∀ o, LexAddrs x dx sx sdx q1 q2 ((S, o) :: news) := fun o => ⟨hA.1, hA.2.1, hA.2.2.1, hA.2.2.2.1, hA.2.2.2.2.1, fun q hq => by
    rcases List.mem_cons.mp hq with rfl | hq
    · exact e2
    · exact hA.2.2.2.2.2.1 q hq, fun q hq => by
    rcases List.mem_cons.mp hq with rfl | hq
    · exact e4
    · exact hA.2.2.2.2.2.2 q hq⟩
  refine lex_loop hA' e7 e1 e2 e3 e4 e5 e6 hb hwc hB hX hT hXB hTB hD hcs (by show dp + 25 < recursionLimit; omega) (by show un + 1 + 201 < cLine; omega) HT o so pos _ c5 _ rfl hL hS F5 N5 (by simpa using hn) ?_
  intro vs c' h' tk' h₀' hv T' B' F' X' N' P' D'
  refine ⟨rfl, hret _ _ h' tk' h₀' T' B' F' X' N' P' D' ⟨S, vs, c', hv, rfl, ?_, hnl⟩⟩
  simp
end

end

section
def Hold9 (P : Prop) : Prop := P
theorem hold9 {P : Prop} (h : Hold9 P) : P := h
theorem unhold9 {P : Prop} (h : P) : Hold9 P := h
/-- the lexer's attributes as __init__ leaves them -/
abbrev lexE (H : Nat → Int) (K V : Nat → Tok) (sx q1 q2 : Addr) (wc : Str) : Obj :=
  dictOf [⟨H 0, .str (Str.ofString "instream") (K 0), .ref sx⟩, ⟨H 1, .str (Str.ofString "infile") (K 1), .none⟩, ⟨H 2, .str (Str.ofString "posix") (K 2), .bool true⟩, ⟨H 3, .str (Str.ofString "eof") (K 3), .none⟩, ⟨H 4, .str (Str.ofString "commenters") (K 4), .str (Str.ofString "#") (V 4)⟩, ⟨H 5, .str (Str.ofString "wordchars") (K 5), .str wc (V 5)⟩, ⟨H 6, .str (Str.ofString "whitespace") (K 6), .str (Str.ofString " \t\r\n") (V 6)⟩, ⟨H 7, .str (Str.ofString "whitespace_split") (K 7), .bool false⟩, ⟨H 8, .str (Str.ofString "quotes") (K 8), .str (Str.ofString "'\"") (V 8)⟩, ⟨H 9, .str (Str.ofString "escape") (K 9), .str (Str.ofString "\\") (V 9)⟩, ⟨H 10, .str (Str.ofString "escapedquotes") (K 10), .str (Str.ofString "\"") (V 10)⟩, ⟨H 11, .str (Str.ofString "state") (K 11), .str (Str.ofString " ") (V 11)⟩, ⟨H 12, .str (Str.ofString "pushback") (K 12), .ref q1⟩, ⟨H 13, .str (Str.ofString "lineno") (K 13), .int 1 (V 13)⟩, ⟨H 14, .str (Str.ofString "debug") (K 14), .int 0 (V 14)⟩, ⟨H 15, .str (Str.ofString "token") (K 15), .str (Str.ofString "") (V 15)⟩, ⟨H 16, .str (Str.ofString "filestack") (K 16), .ref q2⟩, ⟨H 17, .str (Str.ofString "source") (K 17), .none⟩, ⟨H 18, .str (Str.ofString "_punctuation_chars") (K 18), .str (Str.ofString "") (V 18)⟩] 19
def LexE (o : Obj) (sx q1 q2 : Addr) (wc : Str) : Prop := ∃ (H : Nat → Int) (K V : Nat → Tok), o = lexE H K V sx q1 q2 wc
theorem LexE.made {sx q1 q2 : Addr} {wc : Str} {h0 h1 h2 h3 h4 h5 h6 h7 h8 h9 h10 h11 h12 h13 h14 h15 h16 h17 h18 : Int} {k0 k1 k2 k3 k4 k5 k6 k7 k8 k9 k10 k11 k12 k13 k14 k15 k16 k17 k18 v4 v5 v6 v8 v9 v10 v11 v13 v14 v15 v18 : Tok} : LexE (dictOf [⟨h0, .str (Str.ofString "instream") k0, .ref sx⟩, ⟨h1, .str (Str.ofString "infile") k1, .none⟩, ⟨h2, .str (Str.ofString "posix") k2, .bool true⟩, ⟨h3, .str (Str.ofString "eof") k3, .none⟩, ⟨h4, .str (Str.ofString "commenters") k4, .str (Str.ofString "#") v4⟩, ⟨h5, .str (Str.ofString "wordchars") k5, .str wc v5⟩, ⟨h6, .str (Str.ofString "whitespace") k6, .str (Str.ofString " \t\r\n") v6⟩, ⟨h7, .str (Str.ofString "whitespace_split") k7, .bool false⟩, ⟨h8, .str (Str.ofString "quotes") k8, .str (Str.ofString "'\"") v8⟩, ⟨h9, .str (Str.ofString "escape") k9, .str (Str.ofString "\\") v9⟩, ⟨h10, .str (Str.ofString "escapedquotes") k10, .str (Str.ofString "\"") v10⟩, ⟨h11, .str (Str.ofString "state") k11, .str (Str.ofString " ") v11⟩, ⟨h12, .str (Str.ofString "pushback") k12, .ref q1⟩, ⟨h13, .str (Str.ofString "lineno") k13, .int 1 v13⟩, ⟨h14, .str (Str.ofString "debug") k14, .int 0 v14⟩, ⟨h15, .str (Str.ofString "token") k15, .str (Str.ofString "") v15⟩, ⟨h16, .str (Str.ofString "filestack") k16, .ref q2⟩, ⟨h17, .str (Str.ofString "source") k17, .none⟩, ⟨h18, .str (Str.ofString "_punctuation_chars") k18, .str (Str.ofString "") v18⟩] 19) sx q1 q2 wc :=
  ⟨fun i => [h0, h1, h2, h3, h4, h5, h6, h7, h8, h9, h10, h11, h12, h13, h14, h15, h16, h17, h18].getD i 0, fun i => ([k0, k1, k2, k3, k4, k5, k6, k7, k8, k9, k10, k11, k12, k13, k14, k15, k16, k17, k18] : List Tok).getD i (0 : Nat), fun i => ([0, 0, 0, 0, v4, v5, v6, 0, v8, v9, v10, v11, 0, v13, v14, v15, 0, 0, v18] : List Tok).getD i (0 : Nat), rfl⟩
/-- an attribute set in an object's dict, its hash and tokens given names of their own -/
inductive SetOk (name : Str) (v : Value) (es : List DictEntry) (n : Nat) (dx : Addr) (news : List (Addr × Obj)) (h₀ : Heap) (L : Addr) (m : Str → Option Value) (s : Shared) (Q : Unit → Shared → Prop) (k : Tok) (H : Int) : Prop
  | mk {es' : List DictEntry} {n' : Nat} {news' : List (Addr × Obj)} (e : (putL name H (.str name k) v es, putN name es n) = (es', n')) (U : Upd dx (dictOf es n) (dictOf es' n') news news') (hz : es'.length ≤ 1000)
      (r : ∀ h' tk', Fr h₀ L h' m → News h₀ L h' news' → Q () { s with heap := h', toks := tk' }) : SetOk name v es n dx news h₀ L m s Q k H
theorem set_dictG {prog : Program} {w : World} {A : Around} {E : Value → Shared → Prop} {s : Shared} {K : Frag} {x C dx L : Addr} {h₀ : Heap} {m : Str → Option Value} {news : List (Addr × Obj)} {ox : Obj} {es : List DictEntry} {n : Nat} {name : Str} {v : Value} {Q : Unit → Shared → Prop}
    (F : Fr h₀ L s.heap m) (X₀ : K.In h₀) (N : News h₀ L s.heap news) (I : InstAt s.heap x ox C (some (dictOf es n))) (hd : ox.dict = some dx)
    (hs : findIn K (.ref C) "__setattr__" = some (some (.builtin "object.__setattr__"))) (hp : plainOver K C = true) (ht : takerIn K C name = some none) (hh : hasDictIn K C = true) (hl : (getL name es).isSome = true)
    (h : ∀ k H, SetOk name v es n dx news h₀ L m s Q k H) : wpAny (model prog w) A (setAttr (.ref x) name v) Q E s := by
  refine hideG ?_
  intro G9
  obtain ⟨e, U, hz, r⟩ := h (s.toks + 1) (PyData.keyHash w.params name)
  k_unfold
  exact set_dict F X₀ N I hd hs hp ht hh hl e U hz (fun h' F' N' => r h' _ F' N')
section
variable {w : World} {p : Program} {loose : List Str} {mean : ExcName → Option Value} {mg mb : Str → Option Value}
local macro_rules | `(tactic| walk_at "setAttr ref") => `(tactic| (k_here; k_dflt (refine' set_dictG ?k1 ?k2 ?k3 ?k4 ?k5 ?k6 ?k7 ?k8 ?k9 ?k10 ?_; (case k1 => k_asm); (case k2 => k_asm); (case k3 => k_asm); (case k4 => k_inst); (case k5 => exact rfl); (case k6 => k_is); (case k7 => k_is); (case k8 => k_is); (case k9 => k_is); (case k10 => k_get); intro k9 H9; refine' SetOk.mk ?k11 ?k12 ?k13 ?_; (case k11 => k_put); (case k12 => k_upd); (case k13 => exact Nat.le_of_ble_eq_true rfl); k_whole; intro h' tk' F' N'; (try k_sweep))))
theorem allLt_to {d : Nat} : ∀ {l : List (Addr × Obj)}, AllLt d l → ∀ p ∈ l, p.1 < d
  | [], _, _, hp => nomatch hp
  | _ :: _, h, p, hp => by
    rcases List.mem_cons.mp hp with rfl | hp
    · exact h.1
    · exact allLt_to h.2 p hp
/-- shlex(text, posix=True) -/
theorem lex_new {b : Str} {t : Tok} {news : List (Addr × Obj)} (hb : b.length ≤ 5000) {dp un : Nat} {gd : Option (List Code)} {cn : Str} {cs : Scope} {a : Addr} {ccd : Value} {cl : List (Str × Addr)} {outer : List Env} {A₀ : Around} {base h₀ : Heap} {L : Addr} {m : Str → Option Value} {s : Shared} {Q E : Value → Shared → Prop}
    (hB : Below A₀ base outer h₀) (hF : Fr h₀ L s.heap m) (hX : (Mine.hd.heap_1 w.params).In h₀) (hN : News h₀ L s.heap news) (hT : Top p loose mean mg mb h₀) (hcs : cs.kind = .function) (hd : dp + 30 < recursionLimit) (hu : un + 200 < cLine)
    (hret : ∀ x dx sx sdx q1 q2 o so wc h' tk', Fr h₀ L h' m → News h₀ L h' ((q2, dqObj) :: (q1, dqObj) :: (sx, instObj 617 sdx) :: (sdx, so) :: (x, instObj 752 dx) :: (dx, o) :: news) → LexE o sx q1 q2 wc → SioD so b 0 → WordChars wc → LexAddrs x dx sx sdx q1 q2 news → @LT.lt Nat _ dx x → @LT.lt Nat _ x sdx → @LT.lt Nat _ sdx sx → @LT.lt Nat _ sx q1 → @LT.lt Nat _ q1 q2 → (∀ q ∈ news, q.1 ≠ dx) → (∀ q ∈ news, q.1 < dx) → Q (.ref x) { s with heap := h', toks := tk' }) :
    wpAny (model PySem.Challenge.rw_of0086_01.row.prog w) (ktrTop dp un gd cn cs L a ccd cl outer) (call (.ref 752) [.str b t] [(Str.ofString "posix", .bool true)]) Q E s := by
  revert hX
  k_fill
  intro hX
  refine wpAny_noRaise ?_
  k_with_none
  k_with "my call" => (k_dflt (refine' sio_make_call ?r1 ?r2 ?r3 ?r4 ?r5 ?r6 ?r7 ?r8 ?_; (case r1 => k_asm); (case r2 => k_asm); (case r3 => k_asm); (case r4 => k_asm); (case r5 => k_asm); (case r6 => exact rfl); (case r7 => k_room); (case r8 => k_units)); intro x9 dx9 h9 tk9 F9 N9 l9 l99; (try k_lt l9); (try k_lt2 l99); (try k_sweep); k_dflt k_enter)
  k_with "call type:collections.deque" => (k_dflt (refine' dq_call_N ?o1 ?o2 ?_; (case o1 => k_asm); (case o2 => k_asm)); intro a9 h9 F9 N9 l9; (try k_lt l9); (try k_sweep))
  k_with "my truthy" => (first | refine truthy_known (by assumption) (by assumption) ?_ | refine truthy_known (b := false) (by decide +kernel) (by decide +kernel) ?_ | refine truthy_known (b := true) (by decide +kernel) (by decide +kernel) ?_)
  k_steps
  rename ∀ p ∈ news, p.1 < _ => l1
  rename (_ < _) ∧ (_ < _) ∧ AllLt _ _ => l3
  rename (_ < _) ∧ (_ < _) ∧ (_ < _) ∧ (_ < _) ∧ AllLt _ _ => l5
  rename (_ < _) ∧ (_ < _) ∧ (_ < _) ∧ (_ < _) ∧ (_ < _) ∧ AllLt _ _ => l7
  k_dflt (refine' hret _ _ _ _ _ _ _ _ _ _ _ ?e1 ?e2 LexE.made ⟨_, _, _, _, _, _, _, _, _, _, rfl⟩ ?hwc ?hA ?g1 ?g2 ?g3 ?g4 ?g5 ?g6 ?e3)
  case e1 => k_asm
  case e2 => k_asm
  case hwc => exact ⟨by decide +kernel, by decide +kernel, by decide +kernel, by decide +kernel, by decide +kernel, by decide +kernel⟩
  case hA => exact ⟨by assumption, l3.1, by assumption, l5.1, l7.1, fun q hq => Nat.ne_of_lt (l1 q hq), fun q hq => Nat.ne_of_lt (allLt_to l3.2.2 q hq)⟩
  case g1 => assumption
  case g2 => exact l3.1
  case g3 => assumption
  case g4 => exact l5.1
  case g5 => exact l7.1
  case g6 => exact fun q hq => Nat.ne_of_lt (l1 q hq)
  case e3 => exact l1
end

end

section
section
variable {w : World} {p : Program} {loose : List Str} {mean : ExcName → Option Value} {mg mb : Str → Option Value}
theorem LexD.made {sx q1 q2 : Addr} {wc : Str} {h0 h1 h2 h3 h4 h5 h6 h7 h8 h9 h10 h11 h12 h13 h14 h15 h16 h17 h18 : Int} {k0 k1 k2 k3 k4 k5 k6 k7 k8 k9 k10 k11 k12 k13 k14 k15 k16 k17 k18 v4 v5 v6 v8 v9 v10 v11 v13 v14 v15 v18 : Tok} : LexD (dictOf [⟨h0, .str (Str.ofString "instream") k0, .ref sx⟩, ⟨h1, .str (Str.ofString "infile") k1, .none⟩, ⟨h2, .str (Str.ofString "posix") k2, .bool true⟩, ⟨h3, .str (Str.ofString "eof") k3, .none⟩, ⟨h4, .str (Str.ofString "commenters") k4, .str (Str.ofString "") v4⟩, ⟨h5, .str (Str.ofString "wordchars") k5, .str wc v5⟩, ⟨h6, .str (Str.ofString "whitespace") k6, .str (Str.ofString " \t\r\n") v6⟩, ⟨h7, .str (Str.ofString "whitespace_split") k7, .bool true⟩, ⟨h8, .str (Str.ofString "quotes") k8, .str (Str.ofString "'\"") v8⟩, ⟨h9, .str (Str.ofString "escape") k9, .str (Str.ofString "\\") v9⟩, ⟨h10, .str (Str.ofString "escapedquotes") k10, .str (Str.ofString "\"") v10⟩, ⟨h11, .str (Str.ofString "state") k11, .str (Str.ofString " ") v11⟩, ⟨h12, .str (Str.ofString "pushback") k12, .ref q1⟩, ⟨h13, .str (Str.ofString "lineno") k13, .int 1 v13⟩, ⟨h14, .str (Str.ofString "debug") k14, .int 0 v14⟩, ⟨h15, .str (Str.ofString "token") k15, .str (Str.ofString "") v15⟩, ⟨h16, .str (Str.ofString "filestack") k16, .ref q2⟩, ⟨h17, .str (Str.ofString "source") k17, .none⟩, ⟨h18, .str (Str.ofString "_punctuation_chars") k18, .str (Str.ofString "") v18⟩] 19) sx q1 q2 wc .sp (SL []) :=
  ⟨fun i => [h0, h1, h2, h3, h4, h5, h6, h7, h8, h9, h10, h11, h12, h13, h14, h15, h16, h17, h18].getD i 0, fun i => ([k0, k1, k2, k3, k4, k5, k6, k7, k8, k9, k10, k11, k12, k13, k14, k15, k16, k17, k18] : List Tok).getD i (0 : Nat), fun i => ([0, 0, 0, 0, v4, v5, v6, 0, v8, v9, v10, v11, 0, v13, v14, v15, 0, 0, v18] : List Tok).getD i (0 : Nat), rfl⟩
theorem list_lex' {x dx sx sdx q1 q2 : Addr} {news : List (Addr × Obj)} {wc b : Str} (hA : LexAddrs x dx sx sdx q1 q2 news) (hb : b.length ≤ 5000) (hwc : WordChars wc) {ts : List (List Nat)} {o so : Obj} (HT : Toks .sp b.cps.toList ts) (hn : ts.length ≤ 1000) (hL : LexD o sx q1 q2 wc .sp (SL [])) (hS : SioD so b 0) :
    SpecX w p loose mean mg mb 26 210 (.type "list") [.ref x] ((q2, dqObj) :: (q1, dqObj) :: (sx, instObj 617 sdx) :: (sdx, so) :: (x, instObj 752 dx) :: (dx, o) :: news) (fun v news' => ∃ S vs c, Vals ts vs ∧ v = .ref S ∧ news' = (S, listObj vs.toArray c) :: news ∧ (∀ q ∈ news, q.1 < S)) := by
  intro dp un gd cn cs a ccd outer A₀ base h₀ L m s Q E hB hF hX hN hT hXB hTB hD hcs hdp hun hret
  refine list_lex hA hb hwc (pos := 0) (st := .sp) HT hn hL hS _ _ _ _ _ _ _ _ _ _ _ _ _ _ _ _ hB hF hX ?_ hT hXB hTB hD hcs hdp hun hret
  intro q hq
  refine hN q ?_
  simp only [List.mem_cons] at hq ⊢
  rcases hq with h | h | h | h | h | h | h <;> simp [h]
theorem split_spec (b : Str) (t : Tok) (news : List (Addr × Obj)) (hb : b.length ≤ 5000) {ts : List (List Nat)} (HT : Toks .sp b.cps.toList ts) (hn : ts.length ≤ 1000) :
   SpecX w p loose mean mg mb 40 300 (.ref 764) [.str b t] news
     (fun v news' => ∃ S vs c, Vals ts vs ∧ v = .ref S ∧ news' = (S, listObj vs.toArray c) :: news ∧ (∀ q ∈ news, q.1 < S)) := by
  unfold SpecX
  k_fill
  intro dp un gd cn cs a ccd outer A₀ base h₀ L m s Q E hB hF hX hN hT hXB hTB hD hcs hdp hun hret
  refine wpAny_call ?_
  k_dflt (refine' code_defS ?k1 ?k2 ?k3 ?k4 ?k5 ?XB ?TB ?D ?T0 ?kA ?k6 ?k7 ?k8 ?k9 ?kB ?_ ?cK ?c2 ?c3 ?c4 ?c5; (case kA => exact rfl); (case k2 => k_asm); (case k1 => k_asm); (case XB => assumption); (case TB => assumption); (case D => assumption); (case T0 => exact KtsTurn.refl); (case k3 => k_asm); (case k4 => k_asm); (case k5 => k_asm); (case k6 => k_is); (case k7 => k_is); (case k8 => k_room); (case k9 => exact binds_K (hX.keeps hF.keep) rfl (by k_is) rfl rfl rfl); (case kB => exact locs rfl); (case cK => first | assumption | exact rfl); (case c2 => exact rfl); (case c3 => exact rfl); (case c4 => exact rfl); (case c5 => decide); k_whole; intro g' L' h' FG' F' N' B' X' T' D'; (try dsimp only); (try k_fold))
  refine wpAny_noRaise ?_
  k_with_none
  k_with "my call" => (refine hold9 ?_)
  k_with "my truthy" => (first | refine truthy_known (by assumption) (by assumption) ?_ | refine truthy_known (b := false) (by decide +kernel) (by decide +kernel) ?_ | refine truthy_known (b := true) (by decide +kernel) (by decide +kernel) ?_)
  k_steps
  refine unhold9 ?_
  k_dflt (refine' lex_new hb ?r1 ?r2 ?r3 ?r4 ?r5 ?r6 ?r7 ?r8 ?_; (case r1 => k_asm); (case r2 => k_asm); (case r3 => k_asm); (case r4 => k_asm); (case r5 => k_asm); (case r6 => exact rfl); (case r7 => k_room); (case r8 => k_units))
  intro x9 dx9 sx9 sdx9 q9 r9 o9 so9 wc9 h9 tk9 F9 N9 LE9 SO9 W9 A9 A91 A92 A93 A94 A95 A96 M9
  refine hideG ?_
  intro G9
  obtain ⟨H9, Kk9, V9, rfl⟩ := LE9
  k_unfold
  (try k_sweep)
  k_with_none
  k_with "my truthy" => (first | refine truthy_known (by assumption) (by assumption) ?_ | refine truthy_known (b := false) (by decide +kernel) (by decide +kernel) ?_ | refine truthy_known (b := true) (by decide +kernel) (by decide +kernel) ?_)
  k_steps
  rename LexAddrs _ _ _ _ _ _ _ => hA9
  rename WordChars _ => hW9
  rename SioD _ _ _ => hS9
  k_dflt (refine' SpecX.use (list_lex' hA9 hb hW9 HT hn LexD.made hS9) ?r1 ?r2 ?r3 ?r4 ?r5 ?r6 ?r7 ?r8 ?r9 ?r10 ?r11 ?_)
  case r4 => k_asm
  case r1 => k_asm
  case r2 => k_asm
  case r3 => k_asm
  case r5 => k_asm
  case r6 => assumption
  case r7 => assumption
  case r8 => assumption
  case r9 => exact rfl
  case r10 => k_room
  case r11 => k_units
  intro v9 n9 h9 tk9 g9 T9 B9 F9 X9 N9 P9 D9 Q9
  refine hideG ?_
  intro G9
  obtain ⟨S9, vs9, c9, hv9, rfl, rfl, hS9⟩ := Q9
  k_unfold
  k_steps
  have kT := ‹KtsTurn (outer.filterMap (·.frame)) h₀ _›
  exact hret _ _ _ _ _ kT (by assumption) (by assumption) (by assumption) (by assumption) (by assumption) (by assumption) ⟨S9, vs9, c9, hv9, rfl, rfl, hS9⟩
end

end

section
/-! sorted_list_difference (64) -/
def sdTest (fd : FuncData) : PySem.Expr := match fd.body with
  | .stmts (_ :: _ :: _ :: .While t _ _ _ :: _) => t
  | _ => default
def sdBody (fd : FuncData) : List Stmt := match fd.body with
  | .stmts (_ :: _ :: _ :: .While _ b _ _ :: _) => b
  | _ => default
def sdLocals (ea aa ma ua : Addr) (iv jv : Value) (ext : List (Str × Value)) : Str → Option Value :=
  fun y => List.lookup y ((Str.ofString "expected", Value.ref ea) :: (Str.ofString "actual", Value.ref aa) :: (Str.ofString "i", iv) :: (Str.ofString "j", jv) :: (Str.ofString "missing", Value.ref ma) :: (Str.ofString "unexpected", Value.ref ua) :: ext)
def AtSd (g : Heap) (L ea aa ma ua : Addr) (E A M U : Array Value) (ce ca : Nat) (news : List (Addr × Obj)) (i j : Nat) (h : Heap) : Prop :=
  ∃ ext ti tj cm cu, (ext = [] ∨ ∃ u v, ext = [(Str.ofString "e", u), (Str.ofString "a", v)]) ∧ Fr g L h (sdLocals ea aa ma ua (.int (i : Int) ti) (.int (j : Int) tj) ext) ∧
    News g L h ((ma, listObj M cm) :: (ua, listObj U cu) :: (ea, listObj E ce) :: (aa, listObj A ca) :: news)
/-- the addresses apart -/
def SdAddrs (ea aa ma ua : Addr) (news : List (Addr × Obj)) : Prop :=
  ea ≠ ma ∧ aa ≠ ma ∧ ea ≠ ua ∧ aa ≠ ua ∧ (∀ q ∈ news, q.1 ≠ ma) ∧ (∀ q ∈ news, q.1 ≠ ua) ∧ ma ≠ ua
section
variable {prog : Program} {w : World} {A : Around} {E : Value → Shared → Prop} {s : Shared} {x y : Str} {t u : Tok} {b : Bool} {Q : Value → Shared → Prop}
theorem lt_known (e : decide (x.cps.toList < y.cps.toList) = b) (h : Q (.bool b) s) : wpAny (model prog w) A (compareOp .Lt (.str x t) (.str y u)) Q E s := lt_str (by rw [e]; exact h)
theorem gt_known (e : decide (y.cps.toList < x.cps.toList) = b) (h : Q (.bool b) s) : wpAny (model prog w) A (compareOp .Gt (.str x t) (.str y u)) Q E s := P.gt_str (by rw [e]; exact h)
end
theorem sd_ext {g : Heap} {L : Addr} {h : Heap} {m : Str → Option Value} {ea aa ma ua : Addr} {iv jv iv' jv' ev av : Value} {ext : List (Str × Value)} (hext : ext = [] ∨ ∃ u v, ext = [(Str.ofString "e", u), (Str.ofString "a", v)])
    (F : Fr g L h m) (h1 : m (Str.ofString "expected") = some (.ref ea)) (h2 : m (Str.ofString "actual") = some (.ref aa)) (h3 : m (Str.ofString "i") = some iv') (h4 : m (Str.ofString "j") = some jv') (h5 : m (Str.ofString "missing") = some (.ref ma)) (h6 : m (Str.ofString "unexpected") = some (.ref ua))
    (h7 : m (Str.ofString "e") = some ev) (h8 : m (Str.ofString "a") = some av)
    (h9 : ∀ y, y ≠ Str.ofString "expected" → y ≠ Str.ofString "actual" → y ≠ Str.ofString "i" → y ≠ Str.ofString "j" → y ≠ Str.ofString "missing" → y ≠ Str.ofString "unexpected" → y ≠ Str.ofString "e" → y ≠ Str.ofString "a" → m y = sdLocals ea aa ma ua iv jv ext y) :
    Fr g L h (sdLocals ea aa ma ua iv' jv' [(Str.ofString "e", ev), (Str.ofString "a", av)]) := by
  refine Fr.ext' F fun y => ?_
  by_cases n1 : y = Str.ofString "expected"
  · subst n1; exact h1
  by_cases n2 : y = Str.ofString "actual"
  · subst n2; exact h2
  by_cases n3 : y = Str.ofString "i"
  · subst n3; exact h3
  by_cases n4 : y = Str.ofString "j"
  · subst n4; exact h4
  by_cases n5 : y = Str.ofString "missing"
  · subst n5; exact h5
  by_cases n6 : y = Str.ofString "unexpected"
  · subst n6; exact h6
  by_cases n7 : y = Str.ofString "e"
  · subst n7; exact h7
  by_cases n8 : y = Str.ofString "a"
  · subst n8; exact h8
  rw [h9 y n1 n2 n3 n4 n5 n6 n7 n8]
  have z1 := beq_eq_false_iff_ne.mpr n1
  have z2 := beq_eq_false_iff_ne.mpr n2
  have z3 := beq_eq_false_iff_ne.mpr n3
  have z4 := beq_eq_false_iff_ne.mpr n4
  have z5 := beq_eq_false_iff_ne.mpr n5
  have z6 := beq_eq_false_iff_ne.mpr n6
  have z7 := beq_eq_false_iff_ne.mpr n7
  have z8 := beq_eq_false_iff_ne.mpr n8
  rcases hext with rfl | ⟨u, v, rfl⟩ <;> simp only [sdLocals, List.lookup, z1, z2, z3, z4, z5, z6, z7, z8]

end

section
/-! an IndexError of our own frame, kept in the ledger -/
abbrev exO (t tb ctx : Value) : Obj := { cls := .type "IndexError", dict := none, data := .fields #[t, tb, ctx, .none, .bool false, .none], slots := #[] }
section
variable {prog : Program} {w : World} {α : Type} {A : Around} {E : Value → Shared → Prop} {s : Shared} {h₀ : Heap} {L : Addr} {m : Str → Option Value} {news : List (Addr × Obj)}
theorem un_entry : entryFor table "proto.unchain" = some Builtin.«proto.unchain» := entryFor_of_tree (by kernel_rfl)
theorem un_plain : plainId "proto.unchain" = true := by decide +kernel
theorem raise_plain {msg : String} {Q : α → Shared → Prop} (hh : A.handled = none) (F : Fr h₀ L s.heap m) (N : News h₀ L s.heap news)
    (h : ∀ e t h' tk', Fr h₀ L h' m → News h₀ L h' ((e, exO t .none .none) :: news) → (∀ q ∈ news, q.1 < e) → E (.ref e) { s with heap := h', toks := tk' }) :
    wpAny (model prog w) A (raiseErrorWords "IndexError" msg : Sem α) Q E s := by
  unfold raiseErrorWords
  refine wpAny_bind (wpAny_mkText (wpAny_bind ?_))
  unfold newExc newTuple
  refine wpAny_bind (wpAny_newObj_type ?_)
  refine wpAny_bind (m := firstArgMember _ _) (wpAny_of_eq (a := Value.none) (by simp only [firstArgMember, plainExc_IndexError.first]; rfl) ?_)
  rw [plainExc_IndexError.own]
  refine wpAny_newObj_type ?_
  unfold raiseNew
  refine wpAny_bind (wpAny_handled ?_)
  rw [hh]
  refine wpAny_throw (h _ (.ref s.heap.objs.size) _ _ ((F.push _).push _) ?_ ?_)
  · exact News.push (F.push _) (News.pushKeep N _) _
  · intro q hq
    have := Heap.lt_size (N q hq).1
    rw [Heap.size_push]
    exact Nat.lt_succ_of_lt this
theorem raiseNew_marked {Q : α → Shared → Prop} {e e0 : Addr} {t t0 tb0 : Value} (hh : A.handled = some (.ref e0)) (hne : e0 ≠ e) (he : s.heap.get? e = some (exO t .none .none)) (he0 : s.heap.get? e0 = some (exO t0 tb0 .none))
    (h : E (.ref e) { s with heap := s.heap.update e (Obj.mapFields (·.setIfInBounds 2 (.ref e0))) }) : wpAny (model prog w) A (raiseNew (.ref e) : Sem α) Q E s := by
  unfold raiseNew
  refine wpAny_bind (wpAny_handled ?_)
  rw [hh]
  have hb : (Value.ref e0 != Value.ref e) = true := by simp [hne]
  dsimp only
  rw [if_pos hb]
  refine wpAny_bind (wpAny_holding (wpAny_runValue (codeAny_builtin un_entry ?_)))
  rw [Around.under_plainId un_plain _]
  unfold Builtin.«proto.unchain»
  refine wpAny_bind (wpAny_field he0 rfl (x := .none) rfl ?_)
  refine wpAny_pure ?_
  refine wpAny_bind ?_
  show wpAny _ _ (setField (.ref e) 2 (.ref e0)) _ _ _
  exact wpAny_setField he rfl (by simp) (wpAny_throw h)
theorem raise_marked {msg : String} {Q : α → Shared → Prop} {e0 : Addr} {t0 tb0 : Value} (hh : A.handled = some (.ref e0)) (F : Fr h₀ L s.heap m) (N : News h₀ L s.heap news) (hm : (e0, exO t0 tb0 .none) ∈ news)
    (h : ∀ e t h' tk', Fr h₀ L h' m → News h₀ L h' ((e, exO t .none (.ref e0)) :: news) → (∀ q ∈ news, q.1 < e) → E (.ref e) { s with heap := h', toks := tk' }) :
    wpAny (model prog w) A (raiseErrorWords "IndexError" msg : Sem α) Q E s := by
  unfold raiseErrorWords
  refine wpAny_bind (wpAny_mkText (wpAny_bind ?_))
  unfold newExc newTuple
  refine wpAny_bind (wpAny_newObj_type ?_)
  refine wpAny_bind (m := firstArgMember _ _) (wpAny_of_eq (a := Value.none) (by simp only [firstArgMember, plainExc_IndexError.first]; rfl) ?_)
  rw [plainExc_IndexError.own]
  refine wpAny_newObj_type ?_
  have F1 := F.push { cls := .type "tuple", data := .seq ([Value.str (Str.ofString msg) s.toks]).toArray }
  have N1 := News.pushKeep N { cls := .type "tuple", data := .seq ([Value.str (Str.ofString msg) s.toks]).toArray }
  have F2 := F1.push (exO (.ref s.heap.objs.size) .none .none)
  have N2 := News.push F1 N1 (exO (.ref s.heap.objs.size) .none .none)
  have hlt : ∀ q ∈ news, q.1 < (s.heap.push { cls := .type "tuple", data := .seq ([Value.str (Str.ofString msg) s.toks]).toArray }).objs.size := fun q hq => Heap.lt_size (N1 q hq).1
  have hne : e0 ≠ (s.heap.push { cls := .type "tuple", data := .seq ([Value.str (Str.ofString msg) s.toks]).toArray }).objs.size := Nat.ne_of_lt (hlt _ hm)
  refine raiseNew_marked hh hne (N2 _ (.head _)).1 (N2 _ (.tail _ hm)).1 ?_
  have sb := Heap.SameBut.update ((s.heap.push { cls := .type "tuple", data := .seq ([Value.str (Str.ofString msg) s.toks]).toArray }).push (exO (.ref s.heap.objs.size) .none .none)) (s.heap.push { cls := .type "tuple", data := .seq ([Value.str (Str.ofString msg) s.toks]).toArray }).objs.size (Obj.mapFields (·.setIfInBounds 2 (.ref e0)))
  have ho := Heap.get?_update_self (Obj.mapFields (·.setIfInBounds 2 (.ref e0))) (N2 _ (.head _)).1 rfl
  exact h _ (.ref s.heap.objs.size) _ _ (F2.change sb (N2 _ (.head _)).2.1 (N2 _ (.head _)).2.2) (N2.setHead (fun q hq => Nat.ne_of_lt (hlt q hq)) sb ho) hlt
open PySem.Builtin PySem.Builtin.List in
theorem item_out {l : Addr} {items : Array Value} {c : Nat} {k : Int} {u : Tok} {value slice : Expr} {Q : Value → Shared → Prop} (hd : A.handled = none) (F : Fr h₀ L s.heap m) (N : News h₀ L s.heap news) (hl : (l, { cls := .type "list", dict := none, data := .seq items c, slots := #[] }) ∈ news)
    (h0 : 0 ≤ k) (hfit : k < 2 ^ 63) (hout : items.size ≤ k.toNat)
    (h : ∀ e t h' tk', Fr h₀ L h' m → News h₀ L h' ((e, exO t .none .none) :: news) → (∀ q ∈ news, q.1 < e) → E (.ref e) { s with heap := h', toks := tk' })
    (hs : subscripted slice false (.ref l) (.int k u) = operate [.ref l, .int k u] (getItem (.ref l) (.int k u)) := by with_unfolding_all rfl) (hg : ∀ r, letTemporaryGo value (.ref l) r = pure () := by intro _; with_unfolding_all rfl) :
    wpAny (model prog w) A (subscriptTail value slice (.ref l) (.int k u)) Q E s := by
  have hL : s.heap.IsList l items := N.isList hl
  refine subscriptTail_builtin hL.typeIs slot_list_getitem.lookup ?_ hs hg
  refine hideG ?_
  intro G9
  obtain ⟨o, ho, hc, ne, hdd⟩ := id hL
  k_unfold
  unfold getItem
  try with_reducible refine wpAny_holding ?_
  first | refine wpAny_bind (wpAny_pure ?_) | skip
  refine wpAny_bind (wpAny_sequenceKey hL.typeIs (by decide) ?_)
  refine wpAny_bind (wpAny_callSpecial?_slot (name := Str.ofString "__getitem__") hL.typeIs slot_list_getitem
    (wpAny_call_entry slot_list_getitem hL.typeIs entry_list_getitem ?_ (args_list_getitem _ _)))
  show wpAny _ _ (Builtin.List.listSubscript? (.int k u) >>= _) _ _ s
  refine wpAny_bind (wpAny_listSubscript_int (fitsIndex_of h0 hfit) ?_)
  clear hfit
  obtain ⟨j, rfl⟩ := Int.eq_ofNat_of_zero_le h0
  have hx' : items[j]? = none := Array.getElem?_eq_none hout
  show wpAny _ _ ((seqItemAt l j >>= fun r => pure (r.map (j, ·))) >>= _) _ _ s
  refine wpAny_bind (wpAny_bind (wpAny_seqItemAt ho hdd (wpAny_pure ?_)))
  rw [hx']
  refine wpAny_bind (wpAny_rule ?_)
  exact wpAny_bind (raise_plain hd F N h)
open PySem.Builtin PySem.Builtin.List in
theorem item_outM {l e0 : Addr} {t0 tb0 : Value} {items : Array Value} {c : Nat} {k : Int} {u : Tok} {value slice : Expr} {Q : Value → Shared → Prop} (hd : A.handled = some (.ref e0)) (F : Fr h₀ L s.heap m) (N : News h₀ L s.heap news) (hl : (l, { cls := .type "list", dict := none, data := .seq items c, slots := #[] }) ∈ news) (hm : (e0, exO t0 tb0 .none) ∈ news)
    (h0 : 0 ≤ k) (hfit : k < 2 ^ 63) (hout : items.size ≤ k.toNat)
    (h : ∀ e t h' tk', Fr h₀ L h' m → News h₀ L h' ((e, exO t .none (.ref e0)) :: news) → (∀ q ∈ news, q.1 < e) → E (.ref e) { s with heap := h', toks := tk' })
    (hs : subscripted slice false (.ref l) (.int k u) = operate [.ref l, .int k u] (getItem (.ref l) (.int k u)) := by with_unfolding_all rfl) (hg : ∀ r, letTemporaryGo value (.ref l) r = pure () := by intro _; with_unfolding_all rfl) :
    wpAny (model prog w) A (subscriptTail value slice (.ref l) (.int k u)) Q E s := by
  have hL : s.heap.IsList l items := N.isList hl
  refine subscriptTail_builtin hL.typeIs slot_list_getitem.lookup ?_ hs hg
  refine hideG ?_
  intro G9
  obtain ⟨o, ho, hc, ne, hdd⟩ := id hL
  k_unfold
  unfold getItem
  try with_reducible refine wpAny_holding ?_
  first | refine wpAny_bind (wpAny_pure ?_) | skip
  refine wpAny_bind (wpAny_sequenceKey hL.typeIs (by decide) ?_)
  refine wpAny_bind (wpAny_callSpecial?_slot (name := Str.ofString "__getitem__") hL.typeIs slot_list_getitem
    (wpAny_call_entry slot_list_getitem hL.typeIs entry_list_getitem ?_ (args_list_getitem _ _)))
  show wpAny _ _ (Builtin.List.listSubscript? (.int k u) >>= _) _ _ s
  refine wpAny_bind (wpAny_listSubscript_int (fitsIndex_of h0 hfit) ?_)
  clear hfit
  obtain ⟨j, rfl⟩ := Int.eq_ofNat_of_zero_le h0
  have hx' : items[j]? = none := Array.getElem?_eq_none hout
  show wpAny _ _ ((seqItemAt l j >>= fun r => pure (r.map (j, ·))) >>= _) _ _ s
  refine wpAny_bind (wpAny_bind (wpAny_seqItemAt ho hdd (wpAny_pure ?_)))
  rw [hx']
  refine wpAny_bind (wpAny_rule ?_)
  exact wpAny_bind (raise_marked hd F N hm h)
end

end

section
/-! noteFrame, setFlight and the handler for an IndexError in the ledger -/
abbrev tbO (fs : Array Value) : Obj := { cls := .type "traceback", dict := none, data := .fields fs, slots := #[] }
section
variable {prog : Program} {w : World} {A A₀ : Around} {E : Value → Shared → Prop} {s : Shared} {base g : Heap} {outer : List Env} {L a : Addr} {m : Str → Option Value} {news : List (Addr × Obj)} {name : Str} {scope : Scope} {cd : Value}
  {p : Program} {loose : List Str} {mean : ExcName → Option Value} {mg mb : Str → Option Value} {KF : Frag}
theorem note_new {Q : Unit → Shared → Prop} {e : Addr} {t ctx : Value} (hA : A.frames = some (envOf name scope L a cd :: outer)) (hk : scope.kind = .function) (K : Below A₀ base outer g) (XB : KF.In base) (TB : Top p loose mean mg mb base) (D : KtsDicts (outer.filterMap (·.frame)) g)
    (F : Fr g L s.heap m) (N : News g L s.heap ((e, exO t .none ctx) :: news)) (hne : ∀ q ∈ news, q.1 ≠ e)
    (h : ∀ h' g' T fs, KtsTurn (outer.filterMap (·.frame)) g g' → Below A₀ base outer g' → Fr g' L h' m → KF.In g' → Top p loose mean mg mb g' → KtsDicts (outer.filterMap (·.frame)) g' →
      3 < fs.size → fs[3]? = some (rawInt L) → (∀ q ∈ (e, exO t .none ctx) :: news, q.1 < T) →
      News g' L h' ((T, tbO fs) :: (e, exO t (.ref T) ctx) :: news) → Q () { s with heap := h' }) :
    wpAny (model prog w) A (noteFrame (.ref e) (envOf name scope L a cd)) Q E s := by
  have K' := K.push (name := name) (a := a) (cd := cd) F hk
  have he : s.heap.get? e = some (exO t .none ctx) := (N _ (.head _)).1
  unfold noteFrame
  simp only [show (envOf name scope L a cd).frame = some L from rfl]
  refine wpAny_bind (wpAny_field he rfl (x := .none) rfl ?_)
  rw [if_neg (by decide)]
  have hene : e ∉ (envOf name scope L a cd :: outer).filterMap (·.frame) := fun hm => by
    refine hideG ?_
    intro G9
    obtain ⟨_, o, ho, hnf⟩ := K'.frames.mem hm
    k_unfold
    rw [he] at ho; injection ho with ho; subst ho; exact hnf _ rfl
  refine wpAny_bind (wpAny_frameOf_fun hA K'.frames rfl fun h₁ hs₁ => ?_)
  refine wpAny_bind (wpAny_entryPlaceOf fun pl hpl => ?_)
  unfold EntryCells.newEntry newFields
  refine wpAny_bind (wpAny_newObj_type ?_ (hpl.sizeOk5 _ _ _ _ _))
  have he₁ : h₁.get? e = some (exO t .none ctx) := (hs₁.2.1 e hene).trans he
  generalize hfs : ([Value.none, .ref L, .none, rawInt L, .none] ++ (if pl.isEmpty then List.replicate 6 Value.none else pl)).toArray = fs
  have hfs3 : fs[3]? = some (rawInt L) := by
    rw [← hfs]
    rcases hpl with rfl | ⟨_, _, _, _, _, _, _, rfl⟩ <;> simp
  have hfsz : 3 < fs.size := (Array.getElem?_eq_some_iff.mp hfs3).1
  have he₂ := Heap.get?_push_of_some (h := h₁) (tbO fs) he₁
  refine wpAny_setField he₂ rfl (by simp) ?_
  have hfr0 : ∀ b ∈ outer.filterMap (·.frame), ∃ o, g.get? b = some o := fun b hb => by
    refine hideG ?_
    intro G9
    obtain ⟨_, o, ho, _⟩ := K.frames.mem hb
    k_unfold
    exact ⟨o, ho⟩
  have hgL := kts_self F
  have hnm : ∀ b, b ≠ L → b ∉ outer.filterMap (·.frame) → b ∉ (envOf name scope L a cd :: outer).filterMap (·.frame) := fun b h1 h2 hm => by
    rcases kts_mem hm with z | z
    · exact h1 z
    · exact h2 z
  obtain ⟨T1, S1⟩ := kts_turn_at (h := h₁) (fs := outer.filterMap (·.frame)) (g := g) hfr0
    (fun b o e1 nm => (hs₁.2.1 b (hnm b (fun q => by rw [q, hgL] at e1; cases e1) nm)).trans (F.keep b o e1))
    (fun b o e1 _ => hs₁.2.2 b o (F.keep b o e1))
  have hge : (ktsHeap h₁ (outer.filterMap (·.frame)) g).get? e = none := T1.none_ _ (N _ (.head _)).2.2
  have hLlt : L < h₁.objs.size := by rw [hs₁.1]; exact F.ns.lt
  have hTe : h₁.objs.size ≠ e := Nat.ne_of_gt (Heap.lt_size he₁)
  have keep : ∀ b o, b ≠ e → h₁.get? b = some o → ((h₁.push (tbO fs)).update e (Obj.mapFields (·.setIfInBounds 1 (Value.ref h₁.objs.size)))).get? b = some o := fun b o hbe hb => by
    rw [Heap.get?_update_other _ _ (Ne.symm hbe)]
    exact Heap.get?_push_of_some _ hb
  have hns : Heap.UpToSlots s.heap ((h₁.push (tbO fs)).update e (Obj.mapFields (·.setIfInBounds 1 (Value.ref h₁.objs.size)))) := fun b o hb hnf => by
    obtain ⟨sl, hsl⟩ := hs₁.2.2 b o hb
    exact ⟨sl, keep b _ (fun q => by rw [q, he] at hb; injection hb with hb; subst hb; exact hnf _ rfl) hsl⟩
  have B' : Below A₀ base outer (ktsHeap h₁ (outer.filterMap (·.frame)) g) := ⟨K.stack, fun b o e1 => T1.other b o (K.stays b o e1) (fun hm => by
    rw [(K.frames.mem hm).1] at e1
    cases e1), K.frames.of_keeps fun b o e1 _ => by
    obtain ⟨sl, hsl⟩ := T1.up e1
    exact ⟨_, hsl, rfl⟩⟩
  have hTn : ∀ b, h₁.objs.size ≤ b → (ktsHeap h₁ (outer.filterMap (·.frame)) g).get? b = none := fun b hb => Heap.get?_none_of_le (by rw [T1.size]; exact Nat.le_trans (Nat.le_trans F.above (Nat.le_of_lt hLlt)) hb)
  have hnf : ∀ q ∈ (e, exO t .none ctx) :: news, q.1 ∉ (envOf name scope L a cd :: outer).filterMap (·.frame) := fun q hq => hnm q.1 (N q hq).2.1 (fun hm => by
    obtain ⟨o, ho⟩ := hfr0 _ hm
    rw [(N q hq).2.2] at ho; cases ho)
  refine h _ _ h₁.objs.size fs T1 B' ⟨hns.ns F.ns, fun b o e1 => keep b o (fun q => by rw [q, hge] at e1; cases e1) (S1 b o e1), by rw [T1.size]; exact F.above⟩ (XB.keeps B'.stays) (TB.keeps B'.stays) (D.turn T1) hfsz hfs3 ?_ ?_
  · intro q hq
    rw [hs₁.1]
    exact Heap.lt_size (N q hq).1
  · intro q hq
    rcases List.mem_cons.mp hq with rfl | hq
    · exact ⟨(Heap.get?_update_other _ _ (Ne.symm hTe)).trans (Heap.get?_push_size h₁ rfl), Nat.ne_of_gt hLlt, hTn _ (Nat.le_refl _)⟩
    · rcases List.mem_cons.mp hq with rfl | hq
      · exact ⟨Heap.get?_update_self (Obj.mapFields (·.setIfInBounds 1 (Value.ref h₁.objs.size))) he₂ rfl, (N _ (.head _)).2.1, hge⟩
      · exact ⟨keep _ _ (hne q hq) ((hs₁.2.1 _ (hnf q (.tail _ hq))).trans (N q (.tail _ hq)).1), (N q (.tail _ hq)).2.1, T1.none_ _ (N q (.tail _ hq)).2.2⟩
theorem note_again {Q : Unit → Shared → Prop} {e T : Addr} {t ctx : Value} {fs : Array Value} (N : News g L s.heap ((T, tbO fs) :: (e, exO t (.ref T) ctx) :: news)) (h3 : fs[3]? = some (rawInt L)) (h : Q () s) :
    wpAny (model prog w) A (noteFrame (.ref e) (envOf name scope L a cd)) Q E s :=
  wpAny_noteFrame_inFlight (tb := T) rfl (N _ (.tail _ (.head _))).1 rfl rfl (N _ (.head _)).1 rfl h3 h
theorem set_flight {Q : Unit → Shared → Prop} {e T : Addr} {t ctx : Value} {fs : Array Value} {fl : Option Addr} (F : Fr g L s.heap m) (N : News g L s.heap ((T, tbO fs) :: (e, exO t (.ref T) ctx) :: news)) (hsz : 3 < fs.size) (hT : ∀ q ∈ (e, exO t .none ctx) :: news, q.1 < T)
    (h : ∀ h', Fr g L h' m → News g L h' ((T, tbO (fs.setIfInBounds 3 (fl.elim .none fun f => rawInt f))) :: (e, exO t (.ref T) ctx) :: news) → Q () { s with heap := h' }) :
    wpAny (model prog w) A (setFlight (.ref e) fl) Q E s := by
  unfold setFlight
  refine wpAny_bind (wpAny_field (N _ (.tail _ (.head _))).1 rfl (x := .ref T) rfl ?_)
  rw [if_pos (show (Value.ref T != Value.none) = true from by simp)]
  refine wpAny_setField (N _ (.head _)).1 rfl hsz ?_
  have sb := Heap.SameBut.update s.heap T (Obj.mapFields (·.setIfInBounds 3 (fl.elim Value.none fun f => rawInt f)))
  have ho := Heap.get?_update_self (Obj.mapFields (·.setIfInBounds 3 (fl.elim Value.none fun f => rawInt f))) (N _ (.head _)).1 rfl
  refine h _ (F.change sb (N _ (.head _)).2.1 (N _ (.head _)).2.2) (N.setHead (fun q hq => ?_) sb ho)
  rcases List.mem_cons.mp hq with rfl | hq
  · exact Nat.ne_of_lt (hT (e, exO t .none ctx) (.head _))
  · exact Nat.ne_of_lt (hT _ (.tail _ hq))
theorem pass_on {Q : Flow → Shared → Prop} {e T : Addr} {t ctx : Value} {fs : Array Value} {what : String} (F : Fr g L s.heap m) (N : News g L s.heap ((T, tbO fs) :: (e, exO t (.ref T) ctx) :: news)) (hsz : 3 < fs.size) (hT : ∀ q ∈ (e, exO t .none ctx) :: news, q.1 < T)
    (h : ∀ h', Fr g L h' m → News g L h' ((T, tbO (fs.setIfInBounds 3 (rawInt L))) :: (e, exO t (.ref T) ctx) :: news) → E (.ref e) { s with heap := h' }) :
    wpAny (model prog w) A (PySem.passOn what (.ref e) (envOf name scope L a cd) : Sem Flow) Q E s := by
  unfold PySem.passOn
  refine wpAny_bind (wpAny_field (N _ (.tail _ (.head _))).1 rfl (x := .ref T) rfl ?_)
  rw [if_neg (show ¬ ((Value.ref T == Value.none) = true) from by simp)]
  refine wpAny_bind (set_flight F N hsz hT fun h' F' N' => ?_)
  exact wpAny_throw (h h' F' N')
theorem handler {Q : Flow → Shared → Prop} {e T : Addr} {t ctx : Value} {fs : Array Value} {np pos : Pos} {b₀ : Stmt} {suite : List Stmt} {rest : List ExceptHandler} (F : Fr g L s.heap m) (N : News g L s.heap ((T, tbO fs) :: (e, exO t (.ref T) ctx) :: news)) (hsz : 3 < fs.size) (hT : ∀ q ∈ (e, exO t .none ctx) :: news, q.1 < T)
    (X : KF.In g) (P : Top p loose mean mg mb g) (ex : nsIn KF mainGlobals (Str.ofString "IndexError") = some none) (hk : scope.kind = .function) (hx : (envOf name scope L a cd).kindOf (Str.ofString "IndexError") = some .globalImplicit)
    (h : ∀ h', Fr g L h' m → News g L h' ((T, tbO (fs.setIfInBounds 3 .none)) :: (e, exO t (.ref T) ctx) :: news) → wpAny (model prog w) (A.mark (some (.ref e))) (execs (b₀ :: suite) (envOf name scope L a cd)) Q E { s with heap := h' })
    (hE : PassesOwnAt (model prog w) (A.mark (some (.ref e))) A (envOf name scope L a cd) E) :
    wpAny (model prog w) A (handleBy (.ref e) (envOf name scope L a cd) (.ExceptHandler (some (.Name (Str.ofString "IndexError") np)) none (b₀ :: suite) pos :: rest)) Q E s := by
  have he : s.heap.get? e = some (exO t (.ref T) ctx) := (N _ (.tail _ (.head _))).1
  refine wpAny_handleBy_cons (codeAny_handlers_test (name_B F X (topRead_of P) ex PyProof.Rows.Boot.«IndexError» (by decide) ?_ hk hx (by decide))) (by intro q; cases q)
  refine wpAny_excMatches_type (b := true) (show s.TypeIs (.ref e) "IndexError" from ⟨_, he, rfl⟩) PySem.F.isExc_IndexError PySem.F.notTuple_IndexError (by rw [isSubtype_type]; kernel_rfl!) ?_
  refine codeAny_handlers_suite ?_
  refine set_flight (fl := none) F N hsz hT fun h' F' N' => ?_
  exact wpAny_passesOwnAt hE (h h' F' N')
end
section
variable {prog : Program} {w : World} {A : Around} {E : Value → Shared → Prop} {s : Shared} {env : Env}
theorem try_fin {body : List Stmt} {f₀ : Stmt} {fs : List Stmt} {pos : Pos} {Q : Flow → Shared → Prop} (hE : PassesOwn (model prog w) A env E) (hE2 : ∀ e, PassesOwnAt (model prog w) (A.mark (some e)) A env E)
    (h : wpAny (model prog w) A (execs body env)
      (fun f s₁ => match f with
        | .next => wpAny (model prog w) A (execs (f₀ :: fs) env) (fun g s' => match g with | .next => Q .next s' | g => Q g s') E s₁
        | f => wpAny (model prog w) A (execs (f₀ :: fs) env) (fun g s' => match g with | .next => Q f s' | g => Q g s') E s₁)
      (fun e s₁ => wpAny (model prog w) A (noteFrame e env) (fun _ s₂ => e ≠ byPass ∧ wpAny (model prog w) A (noteFrame e env) (fun _ s₀ => wpAny (model prog w) A (setFlight e none) (fun _ s₁ =>
        wpAny (model prog w) (A.mark (some e)) (execs (f₀ :: fs) env) (fun g s₂ => match g with | .next => wpAny (model prog w) A (PySem.passOn "try.finally" e env) Q E s₂ | g => wpAny (model prog w) A (setFlight e none) (fun _ s₃ => Q g s₃) E s₂) E s₁) E s₀) E s₂) (fun _ _ => False) s₁) s) :
    wpAny (model prog w) A (exec (.Try body [] [] (f₀ :: fs) pos) env) Q E s := by
  refine wpAny_Try_finally (wpAny_mono h (fun f s₁ h₁ => ?_) (fun e s₁ h₁ => ?_))
  · cases f <;> first | exact wpAny_execs_nil (wpAny_passesOwn hE h₁) | exact wpAny_passesOwn hE h₁
  · exact wpAny_mono h₁ (fun _ s₂ h₂ => ⟨h₂.1, wpAny_mono h₂.2 (fun _ s₀ h₀ => wpAny_mono h₀ (fun _ s₁ h => wpAny_passesOwnAt (hE2 e) h) (fun _ _ x => x)) (fun _ _ x => x)⟩) (fun _ _ x => x.elim)
end

end
local macro_rules | `(tactic| walk_at "subscriptTail") => `(tactic| k_extra "my sub")
local macro_rules | `(tactic| walk_at "compareOp Lt str str") => `(tactic| k_extra "my lt")
local macro_rules | `(tactic| walk_at "compareOp Gt str str") => `(tactic| k_extra "my gt")
local macro_rules | `(tactic| walk_at "call builtin:list.append") => `(tactic| k_extra "my append")

section
section
variable {w : World} {p : Program} {loose : List Str} {mean : ExcName → Option Value} {mg mb : Str → Option Value}
theorem sd_lt {dp un : Nat} {gd : Option (List Code)} {outer : List Env} {A₀ : Around} {base g : Heap} {fd : FuncData} {L ea aa ma ua : Addr} {E A M U : Array Value} {ce ca : Nat} {news : List (Addr × Obj)} {i j : Nat} {s : Shared} {Q : Flow → Shared → Prop}
   (hfd : fnAt (Mine.hd.heap_1 w.params) 64 = some fd) (hB : Below A₀ base outer g) (hX : (Mine.hd.heap_1 w.params).In g) (hT : Top p loose mean mg mb g) (hd : dp + 10 < recursionLimit) (hu : un + 50 < cLine)
   (hz : SdAddrs ea aa ma ua news) (hi : E.size ≤ 1000) (hj : A.size ≤ 1000) (hM : M.size ≤ 1000) (hU : U.size ≤ 1000)
   {x y z z' : Str} {t u v v' : Tok} (hE : E[i]? = some (.str x t)) (hA : A[j]? = some (.str y u)) (hxy : decide (x.cps.toList < y.cps.toList) = true) (hE2 : E[i + 1]? = some (.str z v)) (hzx : (z == x) = false)
   (H : AtSd g L ea aa ma ua E A M U ce ca news i j s.heap)
   (next : ∀ h' tk', AtSd g L ea aa ma ua E A (M.push (.str x t)) U ce ca news (i + 1) j h' → LR PySem.Challenge.rw_of0086_01.row.prog w (ktrTop dp un gd fd.qualname fd.scope L 64 fd.code [] outer) (envOf fd.qualname fd.scope L 64 fd.code) (sdTest fd) (sdBody fd) [] Q { s with heap := h', toks := tk' }) :
   LR PySem.Challenge.rw_of0086_01.row.prog w (ktrTop dp un gd fd.qualname fd.scope L 64 fd.code [] outer) (envOf fd.qualname fd.scope L 64 fd.code) (sdTest fd) (sdBody fd) [] Q s := by
  revert hfd
  k_fill
  intro hfd
  refine' (fun (e9 : fd = _) => ?main9) (Option.some.inj (hfd.symm.trans (fnAt_of ?hl9)))
  case hl9 => k_dflt k_is
  subst e9
  clear hfd
  refine hideG ?_
  intro G9
  obtain ⟨ext, ti, tj, cm, cu, hext, F, N⟩ := H
  obtain ⟨z1, z2, z3, z4, z5, z6, z7⟩ := hz
  k_unfold
  dsimp only [sdTest, sdBody] at next ⊢
  have hi1 : i < E.size := (Array.getElem?_eq_some_iff.mp hE).1
  have hj1 : j < A.size := (Array.getElem?_eq_some_iff.mp hA).1
  have hE' : E[(i : Int).toNat]? = some (.str x t) := by simpa using hE
  have hA' : A[(j : Int).toNat]? = some (.str y u) := by simpa using hA
  have z8 : ua ≠ ma := fun q => z7 q.symm
  have y1 : ∀ q ∈ (ua, listObj U cu) :: (ea, listObj E ce) :: (aa, listObj A ca) :: news, q.1 ≠ ma := by walk_at "my alls"
  have y2 : ∀ q ∈ (ea, listObj E ce) :: (aa, listObj A ca) :: news, q.1 ≠ ua := by walk_at "my alls"
  have hE2' : E[((i : Int) + 1).toNat]? = some (.str z v) := by
    rw [show ((i : Int) + 1).toNat = i + 1 by omega]; exact hE2
  k_with_none
  k_with "my sub" => (k_dflt (refine item_list (News.isList (by k_asm) (by k_mem)) (by omega) (by omega) (by assumption) ?_))
  k_with "my eq" => (first | refine eq_known (by assumption) ?_)
  k_with "my lt" => (first | refine lt_known (by assumption) ?_)
  k_with "my gt" => (first | refine gt_known (by assumption) ?_)
  k_with "my append" => (k_dflt (first | refine append_head (by k_asm) (by k_asm) y1 ?_ (by show M.size ≤ 16777216; omega) | refine append_second (by k_asm) (by k_asm) z7 y2 ?_ (by show U.size ≤ 16777216; omega)); intro h9 F9 N9)
  k_with "my while" => (k_dflt (refine whl_start 0 (whl_turn (k := 0) (by passes_own) ?_)))
  refine lr_turn ?_
  k_steps
  (with_reducible rename Fr _ _ _ _ => kF)
  refine next _ _ ?_
  refine ⟨[(Str.ofString "e", _), (Str.ofString "a", _)], _, _, _, _, .inr ⟨_, _, rfl⟩, sd_ext (iv := .int (i : Int) ti) (jv := .int (j : Int) tj) hext kF rfl rfl rfl rfl rfl rfl rfl rfl ?_, by k_asm⟩
  intro y n1 n2 n3 n4 n5 n6 n7 n8
  simp only [n1, n2, n3, n4, n5, n6, n7, n8, if_false]

end


end

section
section
variable {w : World} {p : Program} {loose : List Str} {mean : ExcName → Option Value} {mg mb : Str → Option Value}
theorem sd_gt {dp un : Nat} {gd : Option (List Code)} {outer : List Env} {A₀ : Around} {base g : Heap} {fd : FuncData} {L ea aa ma ua : Addr} {E A M U : Array Value} {ce ca : Nat} {news : List (Addr × Obj)} {i j : Nat} {s : Shared} {Q : Flow → Shared → Prop}
   (hfd : fnAt (Mine.hd.heap_1 w.params) 64 = some fd) (hB : Below A₀ base outer g) (hX : (Mine.hd.heap_1 w.params).In g) (hT : Top p loose mean mg mb g) (hd : dp + 10 < recursionLimit) (hu : un + 50 < cLine)
   (hz : SdAddrs ea aa ma ua news) (hi : E.size ≤ 1000) (hj : A.size ≤ 1000) (hM : M.size ≤ 1000) (hU : U.size ≤ 1000)
   {x y z z' : Str} {t u v v' : Tok} (hE : E[i]? = some (.str x t)) (hA : A[j]? = some (.str y u)) (hxy : decide (x.cps.toList < y.cps.toList) = false) (hyx : decide (y.cps.toList < x.cps.toList) = true) (hA2 : A[j + 1]? = some (.str z' v')) (hzx : (z' == y) = false)
   (H : AtSd g L ea aa ma ua E A M U ce ca news i j s.heap)
   (next : ∀ h' tk', AtSd g L ea aa ma ua E A M (U.push (.str y u)) ce ca news i (j + 1) h' → LR PySem.Challenge.rw_of0086_01.row.prog w (ktrTop dp un gd fd.qualname fd.scope L 64 fd.code [] outer) (envOf fd.qualname fd.scope L 64 fd.code) (sdTest fd) (sdBody fd) [] Q { s with heap := h', toks := tk' }) :
   LR PySem.Challenge.rw_of0086_01.row.prog w (ktrTop dp un gd fd.qualname fd.scope L 64 fd.code [] outer) (envOf fd.qualname fd.scope L 64 fd.code) (sdTest fd) (sdBody fd) [] Q s := by
  revert hfd
  k_fill
  intro hfd
  refine' (fun (e9 : fd = _) => ?main9) (Option.some.inj (hfd.symm.trans (fnAt_of ?hl9)))
  case hl9 => k_dflt k_is
  subst e9
  clear hfd
  refine hideG ?_
  intro G9
  obtain ⟨ext, ti, tj, cm, cu, hext, F, N⟩ := H
  obtain ⟨z1, z2, z3, z4, z5, z6, z7⟩ := hz
  k_unfold
  dsimp only [sdTest, sdBody] at next ⊢
  have hi1 : i < E.size := (Array.getElem?_eq_some_iff.mp hE).1
  have hj1 : j < A.size := (Array.getElem?_eq_some_iff.mp hA).1
  have hE' : E[(i : Int).toNat]? = some (.str x t) := by simpa using hE
  have hA' : A[(j : Int).toNat]? = some (.str y u) := by simpa using hA
  have z8 : ua ≠ ma := fun q => z7 q.symm
  have y1 : ∀ q ∈ (ua, listObj U cu) :: (ea, listObj E ce) :: (aa, listObj A ca) :: news, q.1 ≠ ma := by walk_at "my alls"
  have y2 : ∀ q ∈ (ea, listObj E ce) :: (aa, listObj A ca) :: news, q.1 ≠ ua := by walk_at "my alls"
  have hA2' : A[((j : Int) + 1).toNat]? = some (.str z' v') := by
    rw [show ((j : Int) + 1).toNat = j + 1 by omega]; exact hA2
  k_with_none
  k_with "my sub" => (k_dflt (refine item_list (News.isList (by k_asm) (by k_mem)) (by omega) (by omega) (by assumption) ?_))
  k_with "my eq" => (first | refine eq_known (by assumption) ?_)
  k_with "my lt" => (first | refine lt_known (by assumption) ?_)
  k_with "my gt" => (first | refine gt_known (by assumption) ?_)
  k_with "my append" => (k_dflt (first | refine append_head (by k_asm) (by k_asm) y1 ?_ (by show M.size ≤ 16777216; omega) | refine append_second (by k_asm) (by k_asm) z7 y2 ?_ (by show U.size ≤ 16777216; omega)); intro h9 F9 N9)
  k_with "my while" => (k_dflt (refine whl_start 0 (whl_turn (k := 0) (by passes_own) ?_)))
  refine lr_turn ?_
  k_steps
  (with_reducible rename Fr _ _ _ _ => kF)
  refine next _ _ ?_
  refine ⟨[(Str.ofString "e", _), (Str.ofString "a", _)], _, _, _, _, .inr ⟨_, _, rfl⟩, sd_ext (iv := .int (i : Int) ti) (jv := .int (j : Int) tj) hext kF rfl rfl rfl rfl rfl rfl rfl rfl ?_, by k_asm⟩
  intro y n1 n2 n3 n4 n5 n6 n7 n8
  simp only [n1, n2, n3, n4, n5, n6, n7, n8, if_false]

end


end

section
section
variable {w : World} {p : Program} {loose : List Str} {mean : ExcName → Option Value} {mg mb : Str → Option Value}
theorem sd_eq {dp un : Nat} {gd : Option (List Code)} {outer : List Env} {A₀ : Around} {base g : Heap} {fd : FuncData} {L ea aa ma ua : Addr} {E A M U : Array Value} {ce ca : Nat} {news : List (Addr × Obj)} {i j : Nat} {s : Shared} {Q : Flow → Shared → Prop}
   (hfd : fnAt (Mine.hd.heap_1 w.params) 64 = some fd) (hB : Below A₀ base outer g) (hX : (Mine.hd.heap_1 w.params).In g) (hT : Top p loose mean mg mb g) (hd : dp + 10 < recursionLimit) (hu : un + 50 < cLine)
   (hz : SdAddrs ea aa ma ua news) (hi : E.size ≤ 1000) (hj : A.size ≤ 1000) (hM : M.size ≤ 1000) (hU : U.size ≤ 1000)
   {x y z z' : Str} {t u v v' : Tok} (hE : E[i]? = some (.str x t)) (hA : A[j]? = some (.str y u)) (hxy : decide (x.cps.toList < y.cps.toList) = false) (hyx : decide (y.cps.toList < x.cps.toList) = false) (hE2 : E[i + 1]? = some (.str z v)) (hzx : (z == x) = false) (hA2 : A[j + 1]? = some (.str z' v')) (hzy : (z' == y) = false)
   (H : AtSd g L ea aa ma ua E A M U ce ca news i j s.heap)
   (next : ∀ h' tk', AtSd g L ea aa ma ua E A M U ce ca news (i + 1) (j + 1) h' → LR PySem.Challenge.rw_of0086_01.row.prog w (ktrTop dp un gd fd.qualname fd.scope L 64 fd.code [] outer) (envOf fd.qualname fd.scope L 64 fd.code) (sdTest fd) (sdBody fd) [] Q { s with heap := h', toks := tk' }) :
   LR PySem.Challenge.rw_of0086_01.row.prog w (ktrTop dp un gd fd.qualname fd.scope L 64 fd.code [] outer) (envOf fd.qualname fd.scope L 64 fd.code) (sdTest fd) (sdBody fd) [] Q s := by
  revert hfd
  k_fill
  intro hfd
  refine' (fun (e9 : fd = _) => ?main9) (Option.some.inj (hfd.symm.trans (fnAt_of ?hl9)))
  case hl9 => k_dflt k_is
  subst e9
  clear hfd
  refine hideG ?_
  intro G9
  obtain ⟨ext, ti, tj, cm, cu, hext, F, N⟩ := H
  obtain ⟨z1, z2, z3, z4, z5, z6, z7⟩ := hz
  k_unfold
  dsimp only [sdTest, sdBody] at next ⊢
  have hi1 : i < E.size := (Array.getElem?_eq_some_iff.mp hE).1
  have hj1 : j < A.size := (Array.getElem?_eq_some_iff.mp hA).1
  have hE' : E[(i : Int).toNat]? = some (.str x t) := by simpa using hE
  have hA' : A[(j : Int).toNat]? = some (.str y u) := by simpa using hA
  have z8 : ua ≠ ma := fun q => z7 q.symm
  have y1 : ∀ q ∈ (ua, listObj U cu) :: (ea, listObj E ce) :: (aa, listObj A ca) :: news, q.1 ≠ ma := by walk_at "my alls"
  have y2 : ∀ q ∈ (ea, listObj E ce) :: (aa, listObj A ca) :: news, q.1 ≠ ua := by walk_at "my alls"
  have hE2' : E[((i : Int) + 1).toNat]? = some (.str z v) := by
    rw [show ((i : Int) + 1).toNat = i + 1 by omega]; exact hE2
  have hA2' : A[((j : Int) + 1).toNat]? = some (.str z' v') := by
    rw [show ((j : Int) + 1).toNat = j + 1 by omega]; exact hA2
  k_with_none
  k_with "my sub" => (k_dflt (refine item_list (News.isList (by k_asm) (by k_mem)) (by omega) (by omega) (by assumption) ?_))
  k_with "my eq" => (first | refine eq_known (by assumption) ?_)
  k_with "my lt" => (first | refine lt_known (by assumption) ?_)
  k_with "my gt" => (first | refine gt_known (by assumption) ?_)
  k_with "my append" => (k_dflt (first | refine append_head (by k_asm) (by k_asm) y1 ?_ (by show M.size ≤ 16777216; omega) | refine append_second (by k_asm) (by k_asm) z7 y2 ?_ (by show U.size ≤ 16777216; omega)); intro h9 F9 N9)
  k_with "my while" => (k_dflt (refine whl_start 0 (whl_turn (k := 0) (by passes_own) ?_)))
  refine lr_turn ?_
  k_steps
  (with_reducible rename Fr _ _ _ _ => kF)
  refine next _ _ ?_
  refine ⟨[(Str.ofString "e", _), (Str.ofString "a", _)], _, _, _, _, .inr ⟨_, _, rfl⟩, sd_ext (iv := .int (i : Int) ti) (jv := .int (j : Int) tj) hext kF rfl rfl rfl rfl rfl rfl rfl rfl ?_, by k_asm⟩
  intro y n1 n2 n3 n4 n5 n6 n7 n8
  simp only [n1, n2, n3, n4, n5, n6, n7, n8, if_false]

end


end

section
def sdSuite (fd : FuncData) : List Stmt := match sdBody fd with
  | [.Try _ [.ExceptHandler _ _ b _] _ _ _] => b
  | _ => default
section
variable {prog : Program} {w : World} {A : Around} {E : Value → Shared → Prop} {s : Shared} {h₀ : Heap} {L : Addr} {m : Str → Option Value}
theorem ext_any {D b : Addr} {its its2 : Array Value} {n n2 : Nat} {own rest : List (Addr × Obj)} {Q : Value → Shared → Prop} (F : Fr h₀ L s.heap m) (N : News h₀ L s.heap ((b, listObj its2 n2) :: (own ++ (D, listObj its n) :: rest)))
    (h1 : ∀ q ∈ own, q.1 ≠ D) (h2 : ∀ q ∈ rest, q.1 ≠ D) (hz : its.size ≤ 1000) (hz2 : its2.size ≤ 1000)
    (h : ∀ h' n', Fr h₀ L h' m → News h₀ L h' (own ++ (D, listObj (its ++ its2) n') :: rest) → Q .none { s with heap := h' }) : wpAny (model prog w) A (call (.builtin "list.extend") [.ref D, .ref b]) Q E s := by
  have z := N (D, listObj its n) (.tail _ (List.mem_append.mpr (.inr (.head _))))
  have hd : ¬(!its.isEmpty && Builtin.List.listTooLong (its.size + its2.size)) = true := by
    have : Builtin.List.listTooLong (its.size + its2.size) = false := by
      have e : (2 : Nat) ^ 24 = 16777216 := by decide
      unfold Builtin.List.listTooLong sizeLine
      exact decide_eq_false (by omega)
    simp [this]
  refine call_meets PySem.F.slot_list_extend ⟨_, z.1, rfl⟩ PySem.F.entry_list_extend (PySem.F.args_list_extend_2 _ _) (PySem.AutoSeq1.list_extend_list_list_0 D its n b its2 n2 hd (by show its.size ≤ 16777216; omega) (by show its.size + its2.size ≤ 16777217; omega)) ⟨z.1, (N _ (.head _)).1, ?_⟩
  obtain ⟨c2, hc2⟩ : ∃ c2, Obj.mapSeq (fun x => x ++ its2) (listObj its n) = listObj (its ++ its2) c2 := ⟨_, rfl⟩
  have ho := (Heap.get?_update_self (Obj.mapSeq (fun x => x ++ its2)) z.1 rfl).trans (congrArg some hc2)
  have sb := Heap.SameBut.update s.heap D (Obj.mapSeq (fun x => x ++ its2))
  exact h _ c2 (F.change sb z.2.1 z.2.2) (News.setIn (news_tail N) h1 h2 sb ho)
theorem nt2 {h : Heap} {a b : Addr × Obj} {l : List (Addr × Obj)} (N : News h₀ L h (a :: b :: l)) : News h₀ L h l := news_tail (news_tail N)
theorem nt4 {h : Heap} {a b c d : Addr × Obj} {l : List (Addr × Obj)} (N : News h₀ L h (a :: b :: c :: d :: l)) : News h₀ L h l := nt2 (nt2 N)
theorem pick_from (E : Array Value) (i : Nat) : slicePick E (some (i : Int)) none none = (E.toList.drop i).toArray := by
  have e : sliceBounds (some (i : Int)) none none E.size = (((min i E.size : Nat) : Int), ((E.size : Nat) : Int), 1) := by
    simp only [sliceBounds, Option.getD_none, show (1 : Int) > 0 by decide, if_true, if_neg (show ¬ ((i : Int) < 0) by omega)]
    congr 1
    omega
  rw [kmk_pick_nat _ e]
  have hl : E.size = E.toList.length := by simp
  rw [hl, kmk_drop_min, List.take_of_length_le (by rw [List.length_drop]; omega)]
end
section
local macro_rules | `(tactic| walk_at "call builtin:list.extend") => `(tactic| k_extra "my extend")
variable {w : World} {p : Program} {loose : List Str} {mean : ExcName → Option Value} {mg mb : Str → Option Value}
theorem sd_suite {dp un : Nat} {gd : Option (List Code)} {outer : List Env} {A₀ : Around} {base g : Heap} {fd : FuncData} {L ea aa ma ua ex : Addr} {E A M U : Array Value} {ce ca cm cu : Nat} {news : List (Addr × Obj)} {i j : Nat} {ti tj : Tok} {ext : List (Str × Value)} {s : Shared} {Q : Flow → Shared → Prop} {EE : Value → Shared → Prop}
   (hfd : fnAt (Mine.hd.heap_1 w.params) 64 = some fd) (hB : Below A₀ base outer g) (hX : (Mine.hd.heap_1 w.params).In g) (hT : Top p loose mean mg mb g) (hd : dp + 10 < recursionLimit) (hu : un + 50 < cLine)
   (hz : SdAddrs ea aa ma ua news) (hi : E.size ≤ 1000) (hj : A.size ≤ 1000) (hM : M.size ≤ 1000) (hU : U.size ≤ 1000)
   (F : Fr g L s.heap (sdLocals ea aa ma ua (.int (i : Int) ti) (.int (j : Int) tj) ext)) (N : News g L s.heap ((ma, listObj M cm) :: (ua, listObj U cu) :: (ea, listObj E ce) :: (aa, listObj A ca) :: news))
   (next : ∀ h' tk' cm' cu', Fr g L h' (sdLocals ea aa ma ua (.int (i : Int) ti) (.int (j : Int) tj) ext) → News g L h' ((ma, listObj (M ++ (E.toList.drop i).toArray) cm') :: (ua, listObj (U ++ (A.toList.drop j).toArray) cu') :: (ea, listObj E ce) :: (aa, listObj A ca) :: news) → Q .brk { s with heap := h', toks := tk' }) :
   wpAny (model PySem.Challenge.rw_of0086_01.row.prog w) ((ktrTop dp un gd fd.qualname fd.scope L 64 fd.code [] outer).mark (some (.ref ex))) (execs (sdSuite fd) (envOf fd.qualname fd.scope L 64 fd.code)) Q EE s := by
  revert hfd
  k_fill
  intro hfd
  refine' (fun (e9 : fd = _) => ?main9) (Option.some.inj (hfd.symm.trans (fnAt_of ?hl9)))
  case hl9 => k_dflt k_is
  subst e9
  clear hfd
  refine hideG ?_
  intro G9
  obtain ⟨z1, z2, z3, z4, z5, z6, z7⟩ := hz
  k_unfold
  dsimp only [sdSuite, sdBody]
  have z8 : ua ≠ ma := fun q => z7 q.symm
  have y1 : ∀ q ∈ (ua, listObj U cu) :: (ea, listObj E ce) :: (aa, listObj A ca) :: news, q.1 ≠ ma := by walk_at "my alls"
  have y2 : ∀ q ∈ (ea, listObj E ce) :: (aa, listObj A ca) :: news, q.1 ≠ ua := by walk_at "my alls"
  refine wpAny_noRaise ?_
  have hE1 : (slicePick E (some (i : Int)) none none).size ≤ 1000 := by rw [pick_from]; simp; omega
  have hA1 : (slicePick A (some (j : Int)) none none).size ≤ 1000 := by rw [pick_from]; simp; omega
  k_with_none
  k_with "my extend" => (k_dflt (first | refine ext_any (own := []) (by k_asm) (by k_asm) (List.forall_mem_nil _) y1 hM hE1 ?_ | refine ext_any (own := [(ma, _)]) (by k_asm) (by k_asm) (List.forall_mem_cons.mpr ⟨z7, List.forall_mem_nil _⟩) y2 hU hA1 ?_); intro h9 n9 F9 N9; simp only [List.nil_append, List.cons_append] at N9)
  k_steps
  rw [pick_from E i, pick_from A j] at N9
  exact next _ _ _ _ (by k_asm) N9
end

end
local macro_rules | `(tactic| walk_at "noteFrame ref") => `(tactic| k_extra "my note")
local macro_rules | `(tactic| walk_at "setFlight ref") => `(tactic| k_extra "my flight")
local macro_rules | `(tactic| walk_at "setFlight") => `(tactic| k_extra "my flight")
local macro_rules | `(tactic| walk_at "handleBy ref") => `(tactic| k_extra "my handler")
local macro_rules | `(tactic| walk_at "And") => `(tactic| k_extra "my and")
local macro_rules | `(tactic| walk_at "exec Try cons nil") => `(tactic| k_extra "my try")
local macro_rules | `(tactic| walk_at "passOn") => `(tactic| k_extra "my pass")

section
section
variable {w : World} {p : Program} {loose : List Str} {mean : ExcName → Option Value} {mg mb : Str → Option Value}
theorem sd_xlt {dp un : Nat} {gd : Option (List Code)} {outer : List Env} {A₀ : Around} {base g : Heap} {fd : FuncData} {L ea aa ma ua : Addr} {E A M U : Array Value} {ce ca : Nat} {news : List (Addr × Obj)} {i j : Nat} {s : Shared} {Q : Flow → Shared → Prop}
   (hfd : fnAt (Mine.hd.heap_1 w.params) 64 = some fd) (hXB : (Mine.hd.heap_1 w.params).In base) (hTB : Top p loose mean mg mb base) (hD : KtsDicts (outer.filterMap (·.frame)) g) (hB : Below A₀ base outer g) (hX : (Mine.hd.heap_1 w.params).In g) (hT : Top p loose mean mg mb g) (hd : dp + 10 < recursionLimit) (hu : un + 50 < cLine)
   (hz : SdAddrs ea aa ma ua news) (hi : E.size ≤ 1000) (hj : A.size ≤ 1000) (hM : M.size < 1000) (hU : U.size < 1000)
   {x y z z' : Str} {t u v v' : Tok} (hE : E[i]? = some (.str x t)) (hA : A[j]? = some (.str y u)) (hxy : decide (x.cps.toList < y.cps.toList) = true) (hE2 : E.size = i + 1)
   (H : AtSd g L ea aa ma ua E A M U ce ca news i j s.heap)
   (next : ∀ h' tk' g' cm' cu' iv jv ev av, KtsTurn (outer.filterMap (·.frame)) g g' → Below A₀ base outer g' → Fr g' L h' (sdLocals ea aa ma ua iv jv [(Str.ofString "e", ev), (Str.ofString "a", av)]) → (Mine.hd.heap_1 w.params).In g' → Top p loose mean mg mb g' → KtsDicts (outer.filterMap (·.frame)) g' →
      News g' L h' ((ma, listObj ((M.push (.str x t)) ++ (E.toList.drop (i + 1)).toArray) cm') :: (ua, listObj (U ++ (A.toList.drop (j)).toArray) cu') :: (ea, listObj E ce) :: (aa, listObj A ca) :: news) → Q .next { s with heap := h', toks := tk' }) :
   LR PySem.Challenge.rw_of0086_01.row.prog w (ktrTop dp un gd fd.qualname fd.scope L 64 fd.code [] outer) (envOf fd.qualname fd.scope L 64 fd.code) (sdTest fd) (sdBody fd) [] Q s := by
  revert hfd
  k_fill
  intro hfd
  refine' (fun (e9 : fd = _) => ?main9) (Option.some.inj (hfd.symm.trans (fnAt_of ?hl9)))
  case hl9 => k_dflt k_is
  subst e9
  refine hideG ?_
  intro G9
  obtain ⟨ext, ti, tj, cm, cu, hext, F, N⟩ := H
  k_unfold
  have hz0 := hz
  refine hideG ?_
  intro G9
  obtain ⟨z1, z2, z3, z4, z5, z6, z7⟩ := hz
  k_unfold
  dsimp only [sdTest, sdBody] at next ⊢
  have hi1 : i < E.size := (Array.getElem?_eq_some_iff.mp hE).1
  have hj1 : j < A.size := (Array.getElem?_eq_some_iff.mp hA).1
  have hE' : E[(i : Int).toNat]? = some (.str x t) := by simpa using hE
  have hA' : A[(j : Int).toNat]? = some (.str y u) := by simpa using hA
  have z8 : ua ≠ ma := fun q => z7 q.symm
  have y1 : ∀ q ∈ (ua, listObj U cu) :: (ea, listObj E ce) :: (aa, listObj A ca) :: news, q.1 ≠ ma := by walk_at "my alls"
  have y2 : ∀ q ∈ (ea, listObj E ce) :: (aa, listObj A ca) :: news, q.1 ≠ ua := by walk_at "my alls"
  k_with_none
  k_with "my sub" => (k_dflt (first | refine item_list (News.isList (by k_asm) (by k_mem)) (by omega) (by omega) (by assumption) ?_ | (refine item_out rfl (by k_asm) (by k_asm) (by k_mem) (by omega) (by omega) (by omega) ?_; intro e9 t9 h9 tk9 F9 N9 l9) | (refine item_outM rfl (by k_asm) (by k_asm) (by k_mem) (by k_mem) (by omega) (by omega) (by omega) ?_; intro e9 t9 h9 tk9 F9 N9 l9)))
  k_with "my eq" => (first | refine eq_known (by assumption) ?_)
  k_with "my lt" => (first | refine lt_known (by assumption) ?_)
  k_with "my gt" => (first | refine gt_known (by assumption) ?_)
  k_with "my append" => (k_dflt (first | refine append_head (by k_asm) (by k_asm) y1 ?_ (by show M.size ≤ 16777216; omega) | refine append_second (by k_asm) (by k_asm) z7 y2 ?_ (by show U.size ≤ 16777216; omega)); intro h9 F9 N9)
  k_with "my while" => (k_dflt (refine whl_start 0 (whl_turn (k := 0) (by passes_own) ?_)))
  k_with "my note" => (k_dflt (first | (refine' note_again ?N1 ?i1 ?_; (case N1 => k_asm); (case i1 => first | assumption | (rw [Array.getElem?_setIfInBounds_self_of_lt (by simpa using s8)]))) | (refine' note_new rfl rfl ?B1 hXB hTB ?D1 F9 N9 (fun q hq => Nat.ne_of_lt (l9 q hq)) ?_; (case B1 => assumption); (case D1 => assumption); intro h8 g8 T8 f8 K8 B8 F8 X8 P8 D8 s8 i8 l8 N8)))
  k_with "my flight" => (k_dflt (refine' set_flight ?F1 ?N1 ?s1 ?l1 ?_; (case F1 => k_asm); (case N1 => k_asm); (case s1 => first | assumption | (simp only [Array.size_setIfInBounds]; assumption)); (case l1 => exact l8)); intro h7 F7 N7)
  k_with "my and" => (refine ⟨ref_ne_byPass _, ?_⟩)
  k_with "my try" => (k_dflt (refine try_fin (by passes_own) (by intro _; passes_own) ?_))
  k_with "my pass" => (k_dflt (refine' pass_on ?F1 ?N1 ?s1 ?l1 ?_; (case F1 => k_asm); (case N1 => k_asm); (case s1 => first | assumption | (simp only [Array.size_setIfInBounds]; assumption)); (case l1 => exact l8)); intro h7 F7 N7)
  k_with "my handler" => (k_dflt (refine' handler ?F2 ?N2 ?s2 ?l2 ?X2 ?P2 ?e2 rfl rfl ?_ ?E2; (case F2 => k_asm); (case N2 => k_asm); (case s2 => first | assumption | (simp only [Array.size_setIfInBounds]; assumption)); (case l2 => exact l8); (case X2 => k_asm); (case P2 => k_asm); (case e2 => k_is); (case E2 => passes_own)); intro h6 F6 N6; k_dflt (refine' sd_suite (i := i + 1) (j := j) (M := (M.push (.str x t))) (U := U) hfd B8 X8 P8 hd hu hz0 hi hj ?sM ?sU (sd_ext (iv := .int (i : Int) ti) (jv := .int (j : Int) tj) hext F6 rfl rfl rfl rfl rfl rfl rfl rfl ?x9) (nt2 N6) ?_; (case sM => first | omega | (rw [Array.size_push]; omega)); (case sU => first | omega | (rw [Array.size_push]; omega)); (case x9 => intro y n1 n2 n3 n4 n5 n6 n7 n8; simp only [n1, n2, n3, n4, n5, n6, n7, n8, if_false]); intro h5 tk5 cm5 cu5 F5 N5))
  refine lr_turn ?_
  k_steps
  exact next _ _ _ _ _ _ _ _ _ K8 B8 F5 X8 P8 D8 N5

end


end

section
section
variable {w : World} {p : Program} {loose : List Str} {mean : ExcName → Option Value} {mg mb : Str → Option Value}
theorem sd_xgt {dp un : Nat} {gd : Option (List Code)} {outer : List Env} {A₀ : Around} {base g : Heap} {fd : FuncData} {L ea aa ma ua : Addr} {E A M U : Array Value} {ce ca : Nat} {news : List (Addr × Obj)} {i j : Nat} {s : Shared} {Q : Flow → Shared → Prop}
   (hfd : fnAt (Mine.hd.heap_1 w.params) 64 = some fd) (hXB : (Mine.hd.heap_1 w.params).In base) (hTB : Top p loose mean mg mb base) (hD : KtsDicts (outer.filterMap (·.frame)) g) (hB : Below A₀ base outer g) (hX : (Mine.hd.heap_1 w.params).In g) (hT : Top p loose mean mg mb g) (hd : dp + 10 < recursionLimit) (hu : un + 50 < cLine)
   (hz : SdAddrs ea aa ma ua news) (hi : E.size ≤ 1000) (hj : A.size ≤ 1000) (hM : M.size < 1000) (hU : U.size < 1000)
   {x y z z' : Str} {t u v v' : Tok} (hE : E[i]? = some (.str x t)) (hA : A[j]? = some (.str y u)) (hxy : decide (x.cps.toList < y.cps.toList) = false) (hyx : decide (y.cps.toList < x.cps.toList) = true) (hA2 : A.size = j + 1)
   (H : AtSd g L ea aa ma ua E A M U ce ca news i j s.heap)
   (next : ∀ h' tk' g' cm' cu' iv jv ev av, KtsTurn (outer.filterMap (·.frame)) g g' → Below A₀ base outer g' → Fr g' L h' (sdLocals ea aa ma ua iv jv [(Str.ofString "e", ev), (Str.ofString "a", av)]) → (Mine.hd.heap_1 w.params).In g' → Top p loose mean mg mb g' → KtsDicts (outer.filterMap (·.frame)) g' →
      News g' L h' ((ma, listObj (M ++ (E.toList.drop (i)).toArray) cm') :: (ua, listObj ((U.push (.str y u)) ++ (A.toList.drop (j + 1)).toArray) cu') :: (ea, listObj E ce) :: (aa, listObj A ca) :: news) → Q .next { s with heap := h', toks := tk' }) :
   LR PySem.Challenge.rw_of0086_01.row.prog w (ktrTop dp un gd fd.qualname fd.scope L 64 fd.code [] outer) (envOf fd.qualname fd.scope L 64 fd.code) (sdTest fd) (sdBody fd) [] Q s := by
  revert hfd
  k_fill
  intro hfd
  refine' (fun (e9 : fd = _) => ?main9) (Option.some.inj (hfd.symm.trans (fnAt_of ?hl9)))
  case hl9 => k_dflt k_is
  subst e9
  refine hideG ?_
  intro G9
  obtain ⟨ext, ti, tj, cm, cu, hext, F, N⟩ := H
  k_unfold
  have hz0 := hz
  refine hideG ?_
  intro G9
  obtain ⟨z1, z2, z3, z4, z5, z6, z7⟩ := hz
  k_unfold
  dsimp only [sdTest, sdBody] at next ⊢
  have hi1 : i < E.size := (Array.getElem?_eq_some_iff.mp hE).1
  have hj1 : j < A.size := (Array.getElem?_eq_some_iff.mp hA).1
  have hE' : E[(i : Int).toNat]? = some (.str x t) := by simpa using hE
  have hA' : A[(j : Int).toNat]? = some (.str y u) := by simpa using hA
  have z8 : ua ≠ ma := fun q => z7 q.symm
  have y1 : ∀ q ∈ (ua, listObj U cu) :: (ea, listObj E ce) :: (aa, listObj A ca) :: news, q.1 ≠ ma := by walk_at "my alls"
  have y2 : ∀ q ∈ (ea, listObj E ce) :: (aa, listObj A ca) :: news, q.1 ≠ ua := by walk_at "my alls"
  k_with_none
  k_with "my sub" => (k_dflt (first | refine item_list (News.isList (by k_asm) (by k_mem)) (by omega) (by omega) (by assumption) ?_ | (refine item_out rfl (by k_asm) (by k_asm) (by k_mem) (by omega) (by omega) (by omega) ?_; intro e9 t9 h9 tk9 F9 N9 l9) | (refine item_outM rfl (by k_asm) (by k_asm) (by k_mem) (by k_mem) (by omega) (by omega) (by omega) ?_; intro e9 t9 h9 tk9 F9 N9 l9)))
  k_with "my eq" => (first | refine eq_known (by assumption) ?_)
  k_with "my lt" => (first | refine lt_known (by assumption) ?_)
  k_with "my gt" => (first | refine gt_known (by assumption) ?_)
  k_with "my append" => (k_dflt (first | refine append_head (by k_asm) (by k_asm) y1 ?_ (by show M.size ≤ 16777216; omega) | refine append_second (by k_asm) (by k_asm) z7 y2 ?_ (by show U.size ≤ 16777216; omega)); intro h9 F9 N9)
  k_with "my while" => (k_dflt (refine whl_start 0 (whl_turn (k := 0) (by passes_own) ?_)))
  k_with "my note" => (k_dflt (first | (refine' note_again ?N1 ?i1 ?_; (case N1 => k_asm); (case i1 => first | assumption | (rw [Array.getElem?_setIfInBounds_self_of_lt (by simpa using s8)]))) | (refine' note_new rfl rfl ?B1 hXB hTB ?D1 F9 N9 (fun q hq => Nat.ne_of_lt (l9 q hq)) ?_; (case B1 => assumption); (case D1 => assumption); intro h8 g8 T8 f8 K8 B8 F8 X8 P8 D8 s8 i8 l8 N8)))
  k_with "my flight" => (k_dflt (refine' set_flight ?F1 ?N1 ?s1 ?l1 ?_; (case F1 => k_asm); (case N1 => k_asm); (case s1 => first | assumption | (simp only [Array.size_setIfInBounds]; assumption)); (case l1 => exact l8)); intro h7 F7 N7)
  k_with "my and" => (refine ⟨ref_ne_byPass _, ?_⟩)
  k_with "my try" => (k_dflt (refine try_fin (by passes_own) (by intro _; passes_own) ?_))
  k_with "my pass" => (k_dflt (refine' pass_on ?F1 ?N1 ?s1 ?l1 ?_; (case F1 => k_asm); (case N1 => k_asm); (case s1 => first | assumption | (simp only [Array.size_setIfInBounds]; assumption)); (case l1 => exact l8)); intro h7 F7 N7)
  k_with "my handler" => (k_dflt (refine' handler ?F2 ?N2 ?s2 ?l2 ?X2 ?P2 ?e2 rfl rfl ?_ ?E2; (case F2 => k_asm); (case N2 => k_asm); (case s2 => first | assumption | (simp only [Array.size_setIfInBounds]; assumption)); (case l2 => exact l8); (case X2 => k_asm); (case P2 => k_asm); (case e2 => k_is); (case E2 => passes_own)); intro h6 F6 N6; k_dflt (refine' sd_suite (i := i) (j := j + 1) (M := M) (U := (U.push (.str y u))) hfd B8 X8 P8 hd hu hz0 hi hj ?sM ?sU (sd_ext (iv := .int (i : Int) ti) (jv := .int (j : Int) tj) hext F6 rfl rfl rfl rfl rfl rfl rfl rfl ?x9) (nt2 N6) ?_; (case sM => first | omega | (rw [Array.size_push]; omega)); (case sU => first | omega | (rw [Array.size_push]; omega)); (case x9 => intro y n1 n2 n3 n4 n5 n6 n7 n8; simp only [n1, n2, n3, n4, n5, n6, n7, n8, if_false]); intro h5 tk5 cm5 cu5 F5 N5))
  refine lr_turn ?_
  k_steps
  exact next _ _ _ _ _ _ _ _ _ K8 B8 F5 X8 P8 D8 N5

end


end

section
section
variable {w : World} {p : Program} {loose : List Str} {mean : ExcName → Option Value} {mg mb : Str → Option Value}
theorem sd_xeq1 {dp un : Nat} {gd : Option (List Code)} {outer : List Env} {A₀ : Around} {base g : Heap} {fd : FuncData} {L ea aa ma ua : Addr} {E A M U : Array Value} {ce ca : Nat} {news : List (Addr × Obj)} {i j : Nat} {s : Shared} {Q : Flow → Shared → Prop}
   (hfd : fnAt (Mine.hd.heap_1 w.params) 64 = some fd) (hXB : (Mine.hd.heap_1 w.params).In base) (hTB : Top p loose mean mg mb base) (hD : KtsDicts (outer.filterMap (·.frame)) g) (hB : Below A₀ base outer g) (hX : (Mine.hd.heap_1 w.params).In g) (hT : Top p loose mean mg mb g) (hd : dp + 10 < recursionLimit) (hu : un + 50 < cLine)
   (hz : SdAddrs ea aa ma ua news) (hi : E.size ≤ 1000) (hj : A.size ≤ 1000) (hM : M.size < 1000) (hU : U.size < 1000)
   {x y z z' : Str} {t u v v' : Tok} (hE : E[i]? = some (.str x t)) (hA : A[j]? = some (.str y u)) (hxy : decide (x.cps.toList < y.cps.toList) = false) (hyx : decide (y.cps.toList < x.cps.toList) = false) (hE2 : E.size = i + 1) (hA2 : A[j + 1]? = some (.str z' v')) (hzy : (z' == y) = false)
   (H : AtSd g L ea aa ma ua E A M U ce ca news i j s.heap)
   (next : ∀ h' tk' g' cm' cu' iv jv ev av, KtsTurn (outer.filterMap (·.frame)) g g' → Below A₀ base outer g' → Fr g' L h' (sdLocals ea aa ma ua iv jv [(Str.ofString "e", ev), (Str.ofString "a", av)]) → (Mine.hd.heap_1 w.params).In g' → Top p loose mean mg mb g' → KtsDicts (outer.filterMap (·.frame)) g' →
      News g' L h' ((ma, listObj (M ++ (E.toList.drop (i + 1)).toArray) cm') :: (ua, listObj (U ++ (A.toList.drop (j + 1)).toArray) cu') :: (ea, listObj E ce) :: (aa, listObj A ca) :: news) → Q .next { s with heap := h', toks := tk' }) :
   LR PySem.Challenge.rw_of0086_01.row.prog w (ktrTop dp un gd fd.qualname fd.scope L 64 fd.code [] outer) (envOf fd.qualname fd.scope L 64 fd.code) (sdTest fd) (sdBody fd) [] Q s := by
  revert hfd
  k_fill
  intro hfd
  refine' (fun (e9 : fd = _) => ?main9) (Option.some.inj (hfd.symm.trans (fnAt_of ?hl9)))
  case hl9 => k_dflt k_is
  subst e9
  refine hideG ?_
  intro G9
  obtain ⟨ext, ti, tj, cm, cu, hext, F, N⟩ := H
  k_unfold
  have hz0 := hz
  refine hideG ?_
  intro G9
  obtain ⟨z1, z2, z3, z4, z5, z6, z7⟩ := hz
  k_unfold
  dsimp only [sdTest, sdBody] at next ⊢
  have hi1 : i < E.size := (Array.getElem?_eq_some_iff.mp hE).1
  have hj1 : j < A.size := (Array.getElem?_eq_some_iff.mp hA).1
  have hE' : E[(i : Int).toNat]? = some (.str x t) := by simpa using hE
  have hA' : A[(j : Int).toNat]? = some (.str y u) := by simpa using hA
  have z8 : ua ≠ ma := fun q => z7 q.symm
  have y1 : ∀ q ∈ (ua, listObj U cu) :: (ea, listObj E ce) :: (aa, listObj A ca) :: news, q.1 ≠ ma := by walk_at "my alls"
  have y2 : ∀ q ∈ (ea, listObj E ce) :: (aa, listObj A ca) :: news, q.1 ≠ ua := by walk_at "my alls"
  have hA2' : A[((j : Int) + 1).toNat]? = some (.str z' v') := by
    rw [show ((j : Int) + 1).toNat = j + 1 by omega]; exact hA2
  k_with_none
  k_with "my sub" => (k_dflt (first | refine item_list (News.isList (by k_asm) (by k_mem)) (by omega) (by omega) (by assumption) ?_ | (refine item_out rfl (by k_asm) (by k_asm) (by k_mem) (by omega) (by omega) (by omega) ?_; intro e9 t9 h9 tk9 F9 N9 l9) | (refine item_outM rfl (by k_asm) (by k_asm) (by k_mem) (by k_mem) (by omega) (by omega) (by omega) ?_; intro e9 t9 h9 tk9 F9 N9 l9)))
  k_with "my eq" => (first | refine eq_known (by assumption) ?_)
  k_with "my lt" => (first | refine lt_known (by assumption) ?_)
  k_with "my gt" => (first | refine gt_known (by assumption) ?_)
  k_with "my append" => (k_dflt (first | refine append_head (by k_asm) (by k_asm) y1 ?_ (by show M.size ≤ 16777216; omega) | refine append_second (by k_asm) (by k_asm) z7 y2 ?_ (by show U.size ≤ 16777216; omega)); intro h9 F9 N9)
  k_with "my while" => (k_dflt (refine whl_start 0 (whl_turn (k := 0) (by passes_own) ?_)))
  k_with "my note" => (k_dflt (first | (refine' note_again ?N1 ?i1 ?_; (case N1 => k_asm); (case i1 => first | assumption | (rw [Array.getElem?_setIfInBounds_self_of_lt (by simpa using s8)]))) | (refine' note_new rfl rfl ?B1 hXB hTB ?D1 F9 N9 (fun q hq => Nat.ne_of_lt (l9 q hq)) ?_; (case B1 => assumption); (case D1 => assumption); intro h8 g8 T8 f8 K8 B8 F8 X8 P8 D8 s8 i8 l8 N8)))
  k_with "my flight" => (k_dflt (refine' set_flight ?F1 ?N1 ?s1 ?l1 ?_; (case F1 => k_asm); (case N1 => k_asm); (case s1 => first | assumption | (simp only [Array.size_setIfInBounds]; assumption)); (case l1 => exact l8)); intro h7 F7 N7)
  k_with "my and" => (refine ⟨ref_ne_byPass _, ?_⟩)
  k_with "my try" => (k_dflt (refine try_fin (by passes_own) (by intro _; passes_own) ?_))
  k_with "my pass" => (k_dflt (refine' pass_on ?F1 ?N1 ?s1 ?l1 ?_; (case F1 => k_asm); (case N1 => k_asm); (case s1 => first | assumption | (simp only [Array.size_setIfInBounds]; assumption)); (case l1 => exact l8)); intro h7 F7 N7)
  k_with "my handler" => (k_dflt (refine' handler ?F2 ?N2 ?s2 ?l2 ?X2 ?P2 ?e2 rfl rfl ?_ ?E2; (case F2 => k_asm); (case N2 => k_asm); (case s2 => first | assumption | (simp only [Array.size_setIfInBounds]; assumption)); (case l2 => exact l8); (case X2 => k_asm); (case P2 => k_asm); (case e2 => k_is); (case E2 => passes_own)); intro h6 F6 N6; k_dflt (refine' sd_suite (i := i + 1) (j := j + 1) (M := M) (U := U) hfd B8 X8 P8 hd hu hz0 hi hj ?sM ?sU (sd_ext (iv := .int (i : Int) ti) (jv := .int (j : Int) tj) hext F6 rfl rfl rfl rfl rfl rfl rfl rfl ?x9) (nt2 N6) ?_; (case sM => first | omega | (rw [Array.size_push]; omega)); (case sU => first | omega | (rw [Array.size_push]; omega)); (case x9 => intro y n1 n2 n3 n4 n5 n6 n7 n8; simp only [n1, n2, n3, n4, n5, n6, n7, n8, if_false]); intro h5 tk5 cm5 cu5 F5 N5))
  refine lr_turn ?_
  k_steps
  exact next _ _ _ _ _ _ _ _ _ K8 B8 F5 X8 P8 D8 N5

end


end

section
section
variable {w : World} {p : Program} {loose : List Str} {mean : ExcName → Option Value} {mg mb : Str → Option Value}
theorem sd_xeq2 {dp un : Nat} {gd : Option (List Code)} {outer : List Env} {A₀ : Around} {base g : Heap} {fd : FuncData} {L ea aa ma ua : Addr} {E A M U : Array Value} {ce ca : Nat} {news : List (Addr × Obj)} {i j : Nat} {s : Shared} {Q : Flow → Shared → Prop}
   (hfd : fnAt (Mine.hd.heap_1 w.params) 64 = some fd) (hXB : (Mine.hd.heap_1 w.params).In base) (hTB : Top p loose mean mg mb base) (hD : KtsDicts (outer.filterMap (·.frame)) g) (hB : Below A₀ base outer g) (hX : (Mine.hd.heap_1 w.params).In g) (hT : Top p loose mean mg mb g) (hd : dp + 10 < recursionLimit) (hu : un + 50 < cLine)
   (hz : SdAddrs ea aa ma ua news) (hi : E.size ≤ 1000) (hj : A.size ≤ 1000) (hM : M.size < 1000) (hU : U.size < 1000)
   {x y z z' : Str} {t u v v' : Tok} (hE : E[i]? = some (.str x t)) (hA : A[j]? = some (.str y u)) (hxy : decide (x.cps.toList < y.cps.toList) = false) (hyx : decide (y.cps.toList < x.cps.toList) = false) (hE2 : E.size = i + 1) (hA2 : A.size = j + 1)
   (H : AtSd g L ea aa ma ua E A M U ce ca news i j s.heap)
   (next : ∀ h' tk' g' cm' cu' iv jv ev av, KtsTurn (outer.filterMap (·.frame)) g g' → Below A₀ base outer g' → Fr g' L h' (sdLocals ea aa ma ua iv jv [(Str.ofString "e", ev), (Str.ofString "a", av)]) → (Mine.hd.heap_1 w.params).In g' → Top p loose mean mg mb g' → KtsDicts (outer.filterMap (·.frame)) g' →
      News g' L h' ((ma, listObj (M ++ (E.toList.drop (i + 1)).toArray) cm') :: (ua, listObj (U ++ (A.toList.drop (j + 1)).toArray) cu') :: (ea, listObj E ce) :: (aa, listObj A ca) :: news) → Q .next { s with heap := h', toks := tk' }) :
   LR PySem.Challenge.rw_of0086_01.row.prog w (ktrTop dp un gd fd.qualname fd.scope L 64 fd.code [] outer) (envOf fd.qualname fd.scope L 64 fd.code) (sdTest fd) (sdBody fd) [] Q s := by
  revert hfd
  k_fill
  intro hfd
  refine' (fun (e9 : fd = _) => ?main9) (Option.some.inj (hfd.symm.trans (fnAt_of ?hl9)))
  case hl9 => k_dflt k_is
  subst e9
  refine hideG ?_
  intro G9
  obtain ⟨ext, ti, tj, cm, cu, hext, F, N⟩ := H
  k_unfold
  have hz0 := hz
  refine hideG ?_
  intro G9
  obtain ⟨z1, z2, z3, z4, z5, z6, z7⟩ := hz
  k_unfold
  dsimp only [sdTest, sdBody] at next ⊢
  have hi1 : i < E.size := (Array.getElem?_eq_some_iff.mp hE).1
  have hj1 : j < A.size := (Array.getElem?_eq_some_iff.mp hA).1
  have hE' : E[(i : Int).toNat]? = some (.str x t) := by simpa using hE
  have hA' : A[(j : Int).toNat]? = some (.str y u) := by simpa using hA
  have z8 : ua ≠ ma := fun q => z7 q.symm
  have y1 : ∀ q ∈ (ua, listObj U cu) :: (ea, listObj E ce) :: (aa, listObj A ca) :: news, q.1 ≠ ma := by walk_at "my alls"
  have y2 : ∀ q ∈ (ea, listObj E ce) :: (aa, listObj A ca) :: news, q.1 ≠ ua := by walk_at "my alls"
  k_with_none
  k_with "my sub" => (k_dflt (first | refine item_list (News.isList (by k_asm) (by k_mem)) (by omega) (by omega) (by assumption) ?_ | (refine item_out rfl (by k_asm) (by k_asm) (by k_mem) (by omega) (by omega) (by omega) ?_; intro e9 t9 h9 tk9 F9 N9 l9) | (refine item_outM rfl (by k_asm) (by k_asm) (by k_mem) (by k_mem) (by omega) (by omega) (by omega) ?_; intro e9 t9 h9 tk9 F9 N9 l9)))
  k_with "my eq" => (first | refine eq_known (by assumption) ?_)
  k_with "my lt" => (first | refine lt_known (by assumption) ?_)
  k_with "my gt" => (first | refine gt_known (by assumption) ?_)
  k_with "my append" => (k_dflt (first | refine append_head (by k_asm) (by k_asm) y1 ?_ (by show M.size ≤ 16777216; omega) | refine append_second (by k_asm) (by k_asm) z7 y2 ?_ (by show U.size ≤ 16777216; omega)); intro h9 F9 N9)
  k_with "my while" => (k_dflt (refine whl_start 0 (whl_turn (k := 0) (by passes_own) ?_)))
  k_with "my note" => (k_dflt (first | (refine' note_again ?N1 ?i1 ?_; (case N1 => k_asm); (case i1 => first | assumption | (rw [Array.getElem?_setIfInBounds_self_of_lt (by simpa using s8)]))) | (refine' note_new rfl rfl ?B1 hXB hTB ?D1 F9 N9 (fun q hq => Nat.ne_of_lt (l9 q hq)) ?_; (case B1 => assumption); (case D1 => assumption); intro h8 g8 T8 f8 K8 B8 F8 X8 P8 D8 s8 i8 l8 N8)))
  k_with "my flight" => (k_dflt (refine' set_flight ?F1 ?N1 ?s1 ?l1 ?_; (case F1 => k_asm); (case N1 => k_asm); (case s1 => first | assumption | (simp only [Array.size_setIfInBounds]; assumption)); (case l1 => exact l8)); intro h7 F7 N7)
  k_with "my and" => (refine ⟨ref_ne_byPass _, ?_⟩)
  k_with "my try" => (k_dflt (refine try_fin (by passes_own) (by intro _; passes_own) ?_))
  k_with "my pass" => (k_dflt (refine' pass_on ?F1 ?N1 ?s1 ?l1 ?_; (case F1 => k_asm); (case N1 => k_asm); (case s1 => first | assumption | (simp only [Array.size_setIfInBounds]; assumption)); (case l1 => exact l8)); intro h7 F7 N7)
  k_with "my handler" => (k_dflt (refine' handler ?F2 ?N2 ?s2 ?l2 ?X2 ?P2 ?e2 rfl rfl ?_ ?E2; (case F2 => k_asm); (case N2 => k_asm); (case s2 => first | assumption | (simp only [Array.size_setIfInBounds]; assumption)); (case l2 => exact l8); (case X2 => k_asm); (case P2 => k_asm); (case e2 => k_is); (case E2 => passes_own)); intro h6 F6 N6; k_dflt (refine' sd_suite (i := i + 1) (j := j + 1) (M := M) (U := U) hfd B8 X8 P8 hd hu hz0 hi hj ?sM ?sU (sd_ext (iv := .int (i : Int) ti) (jv := .int (j : Int) tj) hext F6 rfl rfl rfl rfl rfl rfl rfl rfl ?x9) (nt4 N6) ?_; (case sM => first | omega | (rw [Array.size_push]; omega)); (case sU => first | omega | (rw [Array.size_push]; omega)); (case x9 => intro y n1 n2 n3 n4 n5 n6 n7 n8; simp only [n1, n2, n3, n4, n5, n6, n7, n8, if_false]); intro h5 tk5 cm5 cu5 F5 N5))
  refine lr_turn ?_
  k_steps
  exact next _ _ _ _ _ _ _ _ _ (KtsTurn.trans (by assumption) K8) B8 F5 X8 P8 D8 N5

end


end

section
section
variable {w : World} {p : Program} {loose : List Str} {mean : ExcName → Option Value} {mg mb : Str → Option Value}
theorem sd_xeq3 {dp un : Nat} {gd : Option (List Code)} {outer : List Env} {A₀ : Around} {base g : Heap} {fd : FuncData} {L ea aa ma ua : Addr} {E A M U : Array Value} {ce ca : Nat} {news : List (Addr × Obj)} {i j : Nat} {s : Shared} {Q : Flow → Shared → Prop}
   (hfd : fnAt (Mine.hd.heap_1 w.params) 64 = some fd) (hXB : (Mine.hd.heap_1 w.params).In base) (hTB : Top p loose mean mg mb base) (hD : KtsDicts (outer.filterMap (·.frame)) g) (hB : Below A₀ base outer g) (hX : (Mine.hd.heap_1 w.params).In g) (hT : Top p loose mean mg mb g) (hd : dp + 10 < recursionLimit) (hu : un + 50 < cLine)
   (hz : SdAddrs ea aa ma ua news) (hi : E.size ≤ 1000) (hj : A.size ≤ 1000) (hM : M.size < 1000) (hU : U.size < 1000)
   {x y z z' : Str} {t u v v' : Tok} (hE : E[i]? = some (.str x t)) (hA : A[j]? = some (.str y u)) (hxy : decide (x.cps.toList < y.cps.toList) = false) (hyx : decide (y.cps.toList < x.cps.toList) = false) (hE2 : E[i + 1]? = some (.str z v)) (hzx : (z == x) = false) (hA2 : A.size = j + 1)
   (H : AtSd g L ea aa ma ua E A M U ce ca news i j s.heap)
   (next : ∀ h' tk' g' cm' cu' iv jv ev av, KtsTurn (outer.filterMap (·.frame)) g g' → Below A₀ base outer g' → Fr g' L h' (sdLocals ea aa ma ua iv jv [(Str.ofString "e", ev), (Str.ofString "a", av)]) → (Mine.hd.heap_1 w.params).In g' → Top p loose mean mg mb g' → KtsDicts (outer.filterMap (·.frame)) g' →
      News g' L h' ((ma, listObj (M ++ (E.toList.drop (i + 1)).toArray) cm') :: (ua, listObj (U ++ (A.toList.drop (j + 1)).toArray) cu') :: (ea, listObj E ce) :: (aa, listObj A ca) :: news) → Q .next { s with heap := h', toks := tk' }) :
   LR PySem.Challenge.rw_of0086_01.row.prog w (ktrTop dp un gd fd.qualname fd.scope L 64 fd.code [] outer) (envOf fd.qualname fd.scope L 64 fd.code) (sdTest fd) (sdBody fd) [] Q s := by
  revert hfd
  k_fill
  intro hfd
  refine' (fun (e9 : fd = _) => ?main9) (Option.some.inj (hfd.symm.trans (fnAt_of ?hl9)))
  case hl9 => k_dflt k_is
  subst e9
  refine hideG ?_
  intro G9
  obtain ⟨ext, ti, tj, cm, cu, hext, F, N⟩ := H
  k_unfold
  have hz0 := hz
  refine hideG ?_
  intro G9
  obtain ⟨z1, z2, z3, z4, z5, z6, z7⟩ := hz
  k_unfold
  dsimp only [sdTest, sdBody] at next ⊢
  have hi1 : i < E.size := (Array.getElem?_eq_some_iff.mp hE).1
  have hj1 : j < A.size := (Array.getElem?_eq_some_iff.mp hA).1
  have hE' : E[(i : Int).toNat]? = some (.str x t) := by simpa using hE
  have hA' : A[(j : Int).toNat]? = some (.str y u) := by simpa using hA
  have z8 : ua ≠ ma := fun q => z7 q.symm
  have y1 : ∀ q ∈ (ua, listObj U cu) :: (ea, listObj E ce) :: (aa, listObj A ca) :: news, q.1 ≠ ma := by walk_at "my alls"
  have y2 : ∀ q ∈ (ea, listObj E ce) :: (aa, listObj A ca) :: news, q.1 ≠ ua := by walk_at "my alls"
  have hE2' : E[((i : Int) + 1).toNat]? = some (.str z v) := by
    rw [show ((i : Int) + 1).toNat = i + 1 by omega]; exact hE2
  k_with_none
  k_with "my sub" => (k_dflt (first | refine item_list (News.isList (by k_asm) (by k_mem)) (by omega) (by omega) (by assumption) ?_ | (refine item_out rfl (by k_asm) (by k_asm) (by k_mem) (by omega) (by omega) (by omega) ?_; intro e9 t9 h9 tk9 F9 N9 l9) | (refine item_outM rfl (by k_asm) (by k_asm) (by k_mem) (by k_mem) (by omega) (by omega) (by omega) ?_; intro e9 t9 h9 tk9 F9 N9 l9)))
  k_with "my eq" => (first | refine eq_known (by assumption) ?_)
  k_with "my lt" => (first | refine lt_known (by assumption) ?_)
  k_with "my gt" => (first | refine gt_known (by assumption) ?_)
  k_with "my append" => (k_dflt (first | refine append_head (by k_asm) (by k_asm) y1 ?_ (by show M.size ≤ 16777216; omega) | refine append_second (by k_asm) (by k_asm) z7 y2 ?_ (by show U.size ≤ 16777216; omega)); intro h9 F9 N9)
  k_with "my while" => (k_dflt (refine whl_start 0 (whl_turn (k := 0) (by passes_own) ?_)))
  k_with "my note" => (k_dflt (first | (refine' note_again ?N1 ?i1 ?_; (case N1 => k_asm); (case i1 => first | assumption | (rw [Array.getElem?_setIfInBounds_self_of_lt (by simpa using s8)]))) | (refine' note_new rfl rfl ?B1 hXB hTB ?D1 F9 N9 (fun q hq => Nat.ne_of_lt (l9 q hq)) ?_; (case B1 => assumption); (case D1 => assumption); intro h8 g8 T8 f8 K8 B8 F8 X8 P8 D8 s8 i8 l8 N8)))
  k_with "my flight" => (k_dflt (refine' set_flight ?F1 ?N1 ?s1 ?l1 ?_; (case F1 => k_asm); (case N1 => k_asm); (case s1 => first | assumption | (simp only [Array.size_setIfInBounds]; assumption)); (case l1 => exact l8)); intro h7 F7 N7)
  k_with "my and" => (refine ⟨ref_ne_byPass _, ?_⟩)
  k_with "my try" => (k_dflt (refine try_fin (by passes_own) (by intro _; passes_own) ?_))
  k_with "my pass" => (k_dflt (refine' pass_on ?F1 ?N1 ?s1 ?l1 ?_; (case F1 => k_asm); (case N1 => k_asm); (case s1 => first | assumption | (simp only [Array.size_setIfInBounds]; assumption)); (case l1 => exact l8)); intro h7 F7 N7)
  k_with "my handler" => (k_dflt (refine' handler ?F2 ?N2 ?s2 ?l2 ?X2 ?P2 ?e2 rfl rfl ?_ ?E2; (case F2 => k_asm); (case N2 => k_asm); (case s2 => first | assumption | (simp only [Array.size_setIfInBounds]; assumption)); (case l2 => exact l8); (case X2 => k_asm); (case P2 => k_asm); (case e2 => k_is); (case E2 => passes_own)); intro h6 F6 N6; k_dflt (refine' sd_suite (i := i + 1) (j := j + 1) (M := M) (U := U) hfd B8 X8 P8 hd hu hz0 hi hj ?sM ?sU (sd_ext (iv := .int (i : Int) ti) (jv := .int (j : Int) tj) hext F6 rfl rfl rfl rfl rfl rfl rfl rfl ?x9) (nt2 N6) ?_; (case sM => first | omega | (rw [Array.size_push]; omega)); (case sU => first | omega | (rw [Array.size_push]; omega)); (case x9 => intro y n1 n2 n3 n4 n5 n6 n7 n8; simp only [n1, n2, n3, n4, n5, n6, n7, n8, if_false]); intro h5 tk5 cm5 cu5 F5 N5))
  refine lr_turn ?_
  k_steps
  exact next _ _ _ _ _ _ _ _ _ K8 B8 F5 X8 P8 D8 N5

end


end

section
/-- what sorted_list_difference gives for sorted lists -/
def sdI (x : List Nat) (xs : List (List Nat)) (f : List (List Nat) → List (List Nat) × List (List Nat)) : List (List Nat) → List (List Nat) × List (List Nat)
  | [] => (x :: xs, [])
  | y :: ys =>
    if x < y then (x :: (f (y :: ys)).1, (f (y :: ys)).2)
    else if y < x then ((sdI x xs f ys).1, y :: (sdI x xs f ys).2)
    else f ys
def sdL : List (List Nat) → List (List Nat) → List (List Nat) × List (List Nat)
  | [] => fun ys => ([], ys)
  | x :: xs => sdI x xs (sdL xs)
theorem sdL_nil (ys : List (List Nat)) : sdL [] ys = ([], ys) := rfl
theorem sdL_nil2 (xs : List (List Nat)) : sdL xs [] = (xs, []) := by cases xs <;> rfl
theorem sdL_lt {x y : List Nat} {xs ys : List (List Nat)} (h : x < y) : sdL (x :: xs) (y :: ys) = (x :: (sdL xs (y :: ys)).1, (sdL xs (y :: ys)).2) := if_pos h
theorem sdL_gt {x y : List Nat} {xs ys : List (List Nat)} (h : ¬ x < y) (h' : y < x) : sdL (x :: xs) (y :: ys) = ((sdL (x :: xs) ys).1, y :: (sdL (x :: xs) ys).2) := (if_neg h).trans (if_pos h')
theorem sdL_eq {x y : List Nat} {xs ys : List (List Nat)} (h : ¬ x < y) (h' : ¬ y < x) : sdL (x :: xs) (y :: ys) = sdL xs ys := (if_neg h).trans (if_neg h')
section
variable {w : World} {p : Program} {loose : List Str} {mean : ExcName → Option Value} {mg mb : Str → Option Value}
theorem sl_ne {x z : List Nat} (h : x < z) : ((SL z) == (SL x)) = false := by
  refine beq_eq_false_iff_ne.mpr fun e => ?_
  have : z = x := by
    have := congrArg (fun s : Str => s.cps.toList) e
    simpa using this
  subst this
  exact absurd h (List.lt_irrefl _)
theorem sd_loop {dp un : Nat} {gd : Option (List Code)} {outer : List Env} {A₀ : Around} {base g : Heap} {fd : FuncData} {L ea aa ma ua : Addr} {vE vA : List Value} {tE tA : List (List Nat)} {ce ca : Nat} {news : List (Addr × Obj)} {Q : Flow → Shared → Prop}
   (hfd : fnAt (Mine.hd.heap_1 w.params) 64 = some fd) (hXB : (Mine.hd.heap_1 w.params).In base) (hTB : Top p loose mean mg mb base) (hD : KtsDicts (outer.filterMap (·.frame)) g) (hB : Below A₀ base outer g) (hX : (Mine.hd.heap_1 w.params).In g) (hT : Top p loose mean mg mb g) (hd : dp + 10 < recursionLimit) (hu : un + 50 < cLine)
   (hz : SdAddrs ea aa ma ua news) (hE : Vals tE vE) (hA : Vals tA vA) (sE : tE.Pairwise (· < ·)) (sA : tA.Pairwise (· < ·)) (lE : tE.length ≤ 400) (lA : tA.length ≤ 400) :
   ∀ (n i j : Nat) (M U : Array Value) (tM tU : List (List Nat)) (s : Shared), (tE.length - i) + (tA.length - j) ≤ n → i < tE.length → j < tA.length → M.size + U.size ≤ i + j → Vals tM M.toList → Vals tU U.toList →
   AtSd g L ea aa ma ua vE.toArray vA.toArray M U ce ca news i j s.heap →
   (∀ h' tk' g' cm' cu' iv jv ev av vm vu, Vals (tM ++ (sdL (tE.drop i) (tA.drop j)).1) vm → Vals (tU ++ (sdL (tE.drop i) (tA.drop j)).2) vu → KtsTurn (outer.filterMap (·.frame)) g g' → Below A₀ base outer g' → Fr g' L h' (sdLocals ea aa ma ua iv jv [(Str.ofString "e", ev), (Str.ofString "a", av)]) → (Mine.hd.heap_1 w.params).In g' → Top p loose mean mg mb g' → KtsDicts (outer.filterMap (·.frame)) g' →
      News g' L h' ((ma, listObj vm.toArray cm') :: (ua, listObj vu.toArray cu') :: (ea, listObj vE.toArray ce) :: (aa, listObj vA.toArray ca) :: news) → Q .next { s with heap := h', toks := tk' }) →
   LR PySem.Challenge.rw_of0086_01.row.prog w (ktrTop dp un gd fd.qualname fd.scope L 64 fd.code [] outer) (envOf fd.qualname fd.scope L 64 fd.code) (sdTest fd) (sdBody fd) [] Q s := by
  have szE : vE.toArray.size = tE.length := by simp [hE.length]
  have szA : vA.toArray.size = tA.length := by simp [hA.length]
  intro n
  induction n with
  | zero => intro i j M U tM tU s h1 h2 h3; lia
  | succ n ih =>
    intro i j M U tM tU s hn hi hj hMU hvM hvU H next
    refine hideG ?_
    intro G9
    obtain ⟨x, hx⟩ : ∃ x, tE[i]? = some x := ⟨_, List.getElem?_eq_getElem hi⟩
    obtain ⟨y, hy⟩ : ∃ y, tA[j]? = some y := ⟨_, List.getElem?_eq_getElem hj⟩
    obtain ⟨t, ht⟩ := hE.get i x hx
    obtain ⟨u, hu'⟩ := hA.get j y hy
    k_unfold
    have dE : tE.drop i = x :: tE.drop (i + 1) := by
      rw [List.drop_eq_getElem_cons hi]
      rw [List.getElem?_eq_getElem hi] at hx
      rw [Option.some.inj hx]
    have dA : tA.drop j = y :: tA.drop (j + 1) := by
      rw [List.drop_eq_getElem_cons hj]
      rw [List.getElem?_eq_getElem hj] at hy
      rw [Option.some.inj hy]
    have lM : M.size < 1000 := by lia
    have lU : U.size < 1000 := by lia
    have ht' : vE.toArray[i]? = some (.str (SL x) t) := by simpa using ht
    have hu2 : vA.toArray[j]? = some (.str (SL y) u) := by simpa using hu'
    rw [dE, dA] at next
    -- what stands behind
    have nE : ∀ z, tE[i + 1]? = some z → ∃ k, vE.toArray[i + 1]? = some (.str (SL z) k) ∧ ((SL z) == (SL x)) = false := fun z hz' => by
      obtain ⟨k, hk⟩ := hE.get _ z hz'
      refine ⟨k, by simpa using hk, sl_ne ?_⟩
      have h1 : i + 1 < tE.length := (List.getElem?_eq_some_iff.mp hz').1
      have := List.pairwise_iff_getElem.mp sE i (i + 1) hi h1 (by lia)
      rw [List.getElem?_eq_getElem hi] at hx
      rw [List.getElem?_eq_getElem h1] at hz'
      rw [Option.some.inj hx, Option.some.inj hz'] at this
      exact this
    have nA : ∀ z, tA[j + 1]? = some z → ∃ k, vA.toArray[j + 1]? = some (.str (SL z) k) ∧ ((SL z) == (SL y)) = false := fun z hz' => by
      obtain ⟨k, hk⟩ := hA.get _ z hz'
      refine ⟨k, by simpa using hk, sl_ne ?_⟩
      have h1 : j + 1 < tA.length := (List.getElem?_eq_some_iff.mp hz').1
      have := List.pairwise_iff_getElem.mp sA j (j + 1) hj h1 (by lia)
      rw [List.getElem?_eq_getElem hj] at hy
      rw [List.getElem?_eq_getElem h1] at hz'
      rw [Option.some.inj hy, Option.some.inj hz'] at this
      exact this
    by_cases hlt : x < y
    · rw [sdL_lt hlt] at next
      by_cases he : i + 1 < tE.length
      · obtain ⟨k, hk, hne⟩ := nE _ (List.getElem?_eq_getElem he)
        refine sd_lt hfd hB hX hT hd hu hz (by lia) (by lia) (by lia) (by lia) ht' hu2 (by simpa using hlt) hk hne (z' := SL []) (v' := u) H fun h' tk' H' => ?_
        refine ih (i + 1) j _ U (tM ++ [x]) tU _ (by lia) he hj (by rw [Array.size_push]; lia) (by rw [Array.toList_push]; exact hvM.append Vals.one) hvU H' ?_
        rw [dA, List.append_assoc]
        exact fun h' tk' g' cm' cu' iv jv ev av vm vu a1 a2 => next h' tk' g' cm' cu' iv jv ev av vm vu a1 a2
      · refine sd_xlt hfd hXB hTB hD hB hX hT hd hu hz (by lia) (by lia) (by lia) (by lia) (z := SL []) (z' := SL []) (v := u) (v' := u) ht' hu2 (by simpa using hlt) (by lia) H ?_
        intro h' tk' g' cm' cu' iv jv ev av K' B' F' X' P' D' N'
        refine next h' tk' g' cm' cu' iv jv ev av (M.push (.str (SL x) t) ++ ((vE.toArray).toList.drop (i + 1)).toArray).toList (U ++ ((vA.toArray).toList.drop j).toArray).toList ?_ ?_ K' B' F' X' P' D' N'
        · have e1 : tE.drop (i + 1) = [] := List.drop_of_length_le (by lia)
          have e2 : vE.drop (i + 1) = [] := List.drop_of_length_le (by rw [hE.length]; lia)
          rw [e1, sdL_nil]
          simpa [e2] using hvM.append Vals.one
        · have e1 : tE.drop (i + 1) = [] := List.drop_of_length_le (by lia)
          rw [e1, sdL_nil, ← dA]
          simpa using hvU.append (hA.drop j)
    · by_cases hgt : y < x
      · rw [sdL_gt hlt hgt] at next
        by_cases he : j + 1 < tA.length
        · obtain ⟨k, hk, hne⟩ := nA _ (List.getElem?_eq_getElem he)
          refine sd_gt hfd hB hX hT hd hu hz (by lia) (by lia) (by lia) (by lia) ht' hu2 (by simpa using hlt) (by simpa using hgt) hk hne (z := SL []) (v := u) H fun h' tk' H' => ?_
          refine ih i (j + 1) M _ tM (tU ++ [y]) _ (by lia) hi he (by rw [Array.size_push]; lia) hvM (by rw [Array.toList_push]; exact hvU.append Vals.one) H' ?_
          rw [dE, List.append_assoc]
          exact fun h' tk' g' cm' cu' iv jv ev av vm vu a1 a2 => next h' tk' g' cm' cu' iv jv ev av vm vu a1 a2
        · refine sd_xgt hfd hXB hTB hD hB hX hT hd hu hz (by lia) (by lia) (by lia) (by lia) (z := SL []) (z' := SL []) (v := u) (v' := u) ht' hu2 (by simpa using hlt) (by simpa using hgt) (by lia) H ?_
          intro h' tk' g' cm' cu' iv jv ev av K' B' F' X' P' D' N'
          refine next h' tk' g' cm' cu' iv jv ev av (M ++ ((vE.toArray).toList.drop i).toArray).toList (U.push (.str (SL y) u) ++ ((vA.toArray).toList.drop (j + 1)).toArray).toList ?_ ?_ K' B' F' X' P' D' N'
          · have e1 : tA.drop (j + 1) = [] := List.drop_of_length_le (by lia)
            rw [e1, sdL_nil2, ← dE]
            simpa using hvM.append (hE.drop i)
          · have e1 : tA.drop (j + 1) = [] := List.drop_of_length_le (by lia)
            have e2 : vA.drop (j + 1) = [] := List.drop_of_length_le (by rw [hA.length]; lia)
            rw [e1, sdL_nil2]
            simpa [e2] using hvU.append Vals.one
      · rw [sdL_eq hlt hgt] at next
        by_cases he : i + 1 < tE.length
        · obtain ⟨k, hk, hne⟩ := nE _ (List.getElem?_eq_getElem he)
          by_cases he2 : j + 1 < tA.length
          · obtain ⟨k2, hk2, hne2⟩ := nA _ (List.getElem?_eq_getElem he2)
            refine sd_eq hfd hB hX hT hd hu hz (by lia) (by lia) (by lia) (by lia) ht' hu2 (by simpa using hlt) (by simpa using hgt) hk hne hk2 hne2 H fun h' tk' H' => ?_
            exact ih (i + 1) (j + 1) M U tM tU _ (by lia) he he2 (by lia) hvM hvU H' next
          · refine sd_xeq3 hfd hXB hTB hD hB hX hT hd hu hz (by lia) (by lia) (by lia) (by lia) (z' := SL []) (v' := u) ht' hu2 (by simpa using hlt) (by simpa using hgt) hk hne (by lia) H ?_
            intro h' tk' g' cm' cu' iv jv ev av K' B' F' X' P' D' N'
            refine next h' tk' g' cm' cu' iv jv ev av (M ++ ((vE.toArray).toList.drop (i + 1)).toArray).toList (U ++ ((vA.toArray).toList.drop (j + 1)).toArray).toList ?_ ?_ K' B' F' X' P' D' N'
            · have e1 : tA.drop (j + 1) = [] := List.drop_of_length_le (by lia)
              rw [e1, sdL_nil2]
              simpa using hvM.append (hE.drop (i + 1))
            · have e1 : tA.drop (j + 1) = [] := List.drop_of_length_le (by lia)
              have e2 : vA.drop (j + 1) = [] := List.drop_of_length_le (by rw [hA.length]; lia)
              rw [e1, sdL_nil2]
              simpa [e2] using hvU
        · by_cases he2 : j + 1 < tA.length
          · obtain ⟨k2, hk2, hne2⟩ := nA _ (List.getElem?_eq_getElem he2)
            refine sd_xeq1 hfd hXB hTB hD hB hX hT hd hu hz (by lia) (by lia) (by lia) (by lia) (z := SL []) (v := u) ht' hu2 (by simpa using hlt) (by simpa using hgt) (by lia) hk2 hne2 H ?_
            intro h' tk' g' cm' cu' iv jv ev av K' B' F' X' P' D' N'
            refine next h' tk' g' cm' cu' iv jv ev av (M ++ ((vE.toArray).toList.drop (i + 1)).toArray).toList (U ++ ((vA.toArray).toList.drop (j + 1)).toArray).toList ?_ ?_ K' B' F' X' P' D' N'
            · have e1 : tE.drop (i + 1) = [] := List.drop_of_length_le (by lia)
              have e2 : vE.drop (i + 1) = [] := List.drop_of_length_le (by rw [hE.length]; lia)
              rw [e1, sdL_nil]
              simpa [e2] using hvM
            · have e1 : tE.drop (i + 1) = [] := List.drop_of_length_le (by lia)
              rw [e1, sdL_nil]
              simpa using hvU.append (hA.drop (j + 1))
          · refine sd_xeq2 hfd hXB hTB hD hB hX hT hd hu hz (by lia) (by lia) (by lia) (by lia) (z := SL []) (v := u) (z' := SL []) (v' := u) ht' hu2 (by simpa using hlt) (by simpa using hgt) (by lia) (by lia) H ?_
            intro h' tk' g' cm' cu' iv jv ev av K' B' F' X' P' D' N'
            have e1 : tE.drop (i + 1) = [] := List.drop_of_length_le (by lia)
            have e2 : vE.drop (i + 1) = [] := List.drop_of_length_le (by rw [hE.length]; lia)
            have e3 : tA.drop (j + 1) = [] := List.drop_of_length_le (by lia)
            have e4 : vA.drop (j + 1) = [] := List.drop_of_length_le (by rw [hA.length]; lia)
            refine next h' tk' g' cm' cu' iv jv ev av (M ++ ((vE.toArray).toList.drop (i + 1)).toArray).toList (U ++ ((vA.toArray).toList.drop (j + 1)).toArray).toList ?_ ?_ K' B' F' X' P' D' N'
            · rw [e1, sdL_nil]
              simpa [e2] using hvM
            · rw [e1, sdL_nil, e3]
              simpa [e4] using hvU
end

end

section
section
variable {w : World} {p : Program} {loose : List Str} {mean : ExcName → Option Value} {mg mb : Str → Option Value}
theorem allLt_to' {d : Nat} : ∀ {l : List (Addr × Obj)}, AllLt d l → ∀ p ∈ l, p.1 < d
  | [], _, _, hp => nomatch hp
  | _ :: _, h, p, hp => by
    rcases List.mem_cons.mp hp with rfl | hp
    · exact h.1
    · exact allLt_to' h.2 p hp
theorem sd_start {g : Heap} {L : Addr} {h : Heap} {m : Str → Option Value} {ea aa ma ua : Addr} (F : Fr g L h m) (h1 : m (Str.ofString "expected") = some (.ref ea)) (h2 : m (Str.ofString "actual") = some (.ref aa)) (h3 : ∃ ti, m (Str.ofString "i") = some (.int 0 ti)) (h4 : ∃ tj, m (Str.ofString "j") = some (.int 0 tj))
    (h5 : m (Str.ofString "missing") = some (.ref ma)) (h6 : m (Str.ofString "unexpected") = some (.ref ua))
    (h9 : ∀ y, y ≠ Str.ofString "expected" → y ≠ Str.ofString "actual" → y ≠ Str.ofString "i" → y ≠ Str.ofString "j" → y ≠ Str.ofString "missing" → y ≠ Str.ofString "unexpected" → m y = none) :
    ∃ ti tj, Fr g L h (sdLocals ea aa ma ua (.int ((0 : Nat) : Int) ti) (.int ((0 : Nat) : Int) tj) []) := by
  obtain ⟨ti, h3⟩ := h3
  obtain ⟨tj, h4⟩ := h4
  refine ⟨ti, tj, Fr.ext' F fun y => ?_⟩
  by_cases n1 : y = Str.ofString "expected"
  · subst n1; exact h1
  by_cases n2 : y = Str.ofString "actual"
  · subst n2; exact h2
  by_cases n3 : y = Str.ofString "i"
  · subst n3; exact h3
  by_cases n4 : y = Str.ofString "j"
  · subst n4; exact h4
  by_cases n5 : y = Str.ofString "missing"
  · subst n5; exact h5
  by_cases n6 : y = Str.ofString "unexpected"
  · subst n6; exact h6
  rw [h9 y n1 n2 n3 n4 n5 n6]
  have z1 := beq_eq_false_iff_ne.mpr n1
  have z2 := beq_eq_false_iff_ne.mpr n2
  have z3 := beq_eq_false_iff_ne.mpr n3
  have z4 := beq_eq_false_iff_ne.mpr n4
  have z5 := beq_eq_false_iff_ne.mpr n5
  have z6 := beq_eq_false_iff_ne.mpr n6
  simp only [sdLocals, List.lookup, z1, z2, z3, z4, z5, z6]
theorem sld_spec {ea aa : Addr} {vE vA : List Value} {tE tA : List (List Nat)} {ce ca : Nat} {news : List (Addr × Obj)} (hE : Vals tE vE) (hA : Vals tA vA) (sE : tE.Pairwise (· < ·)) (sA : tA.Pairwise (· < ·)) (lE : tE.length ≤ 400) (lA : tA.length ≤ 400) (nE : 0 < tE.length) (nA : 0 < tA.length) :
   SpecX w p loose mean mg mb 20 80 (.ref 64) [.ref ea, .ref aa] ((ea, listObj vE.toArray ce) :: (aa, listObj vA.toArray ca) :: news)
     (fun v news' => ∃ T ma ua vm vu cm cu, Vals (sdL tE tA).1 vm ∧ Vals (sdL tE tA).2 vu ∧ v = .ref T ∧ news' = (T, { cls := .type "tuple", data := .seq #[.ref ma, .ref ua] }) :: (ma, listObj vm.toArray cm) :: (ua, listObj vu.toArray cu) :: (ea, listObj vE.toArray ce) :: (aa, listObj vA.toArray ca) :: news) := by
  unfold SpecX
  k_fill
  intro dp un gd cn cs a ccd outer A₀ base h₀ L m s Q E hB hF hX hN hT hXB hTB hD hcs hdp hun hret
  refine wpAny_call ?_
  k_dflt (refine' code_defS ?k1 ?k2 ?k3 ?k4 ?k5 ?XB ?TB ?D ?T0 ?kA ?k6 ?k7 ?k8 ?k9 ?kB ?_ ?cK ?c2 ?c3 ?c4 ?c5; (case kA => exact rfl); (case k2 => k_asm); (case k1 => k_asm); (case XB => assumption); (case TB => assumption); (case D => assumption); (case T0 => exact KtsTurn.refl); (case k3 => k_asm); (case k4 => k_asm); (case k5 => k_asm); (case k6 => k_is); (case k7 => k_is); (case k8 => k_room); (case k9 => first | exact BindsTo.of_eq rfl | exact binds_K (hX.keeps hF.keep) rfl (by k_is) rfl rfl rfl); (case kB => exact locs rfl); (case cK => first | assumption | exact rfl); (case c2 => exact rfl); (case c3 => exact rfl); (case c4 => exact rfl); (case c5 => decide); k_whole; intro g' L' h' FG' F' N' B' X' T' D'; (try dsimp only); (try k_fold))
  refine wpAny_noRaise ?_
  k_with_none
  k_with "my while" => (refine lr_start ?_)
  k_steps
  refine' (fun (hfd : fnAt (Mine.hd.heap_1 w.params) 64 = some _) => ?main9) (fnAt_of ?hl9)
  case hl9 => k_dflt k_is
  (with_reducible rename Fr _ _ _ _ => kF)
  (with_reducible rename News g' L' _ ((_, W.listOf _ _) :: _) => kN)
  rename (_ < _) ∧ (_ < _) ∧ AllLt _ news => l1
  rename (_ < _) ∧ (_ < _) ∧ (_ < _) ∧ AllLt _ news => l2
  k_dflt (refine' sd_loop (ce := ce) (ca := ca) hfd hXB hTB ?D1 ?B1 ?X1 ?T1 ?d1 ?u1 ?z1 hE hA sE sA lE lA (tE.length + tA.length) 0 0 #[] #[] [] [] _ ?n1 nE nA ?m1 .nil .nil ?H1 ?_)
  case D1 => assumption
  case B1 => assumption
  case X1 => assumption
  case T1 => assumption
  case d1 => (try simp only [depth_deeper]); (try dsimp only [ktrTop]); omega
  case u1 => (try simp only [units_deeper]); (try dsimp only [ktrTop]); omega
  case n1 => omega
  case m1 => exact Nat.zero_le _
  case z1 =>
    refine ⟨Nat.ne_of_lt l1.1, Nat.ne_of_lt l1.2.1, Nat.ne_of_lt l2.2.1, Nat.ne_of_lt l2.2.2.1, fun q hq => Nat.ne_of_lt (allLt_to' l1.2.2 q hq), fun q hq => Nat.ne_of_lt (allLt_to' l2.2.2.2 q hq), Nat.ne_of_lt l2.1⟩
  case H1 =>
    obtain ⟨ti, tj, F1⟩ := sd_start kF rfl rfl ⟨_, rfl⟩ ⟨_, rfl⟩ rfl rfl (by
      intro y n1 n2 n3 n4 n5 n6
      simp only [n1, n2, n3, n4, n5, n6, if_false]
      show List.lookup y [(Str.ofString "actual", Value.ref aa), (Str.ofString "expected", Value.ref ea)] = none
      simp only [List.lookup, beq_eq_false_iff_ne.mpr n1, beq_eq_false_iff_ne.mpr n2])
    refine ⟨[], ti, tj, 0, 0, .inl rfl, F1, ?_⟩
    intro q hq
    refine kN q ?_
    simp only [List.mem_cons] at hq ⊢
    rcases hq with h | h | h | h | h <;> simp [h]
  intro h5 tk5 g5 cm5 cu5 iv5 jv5 ev5 av5 vm5 vu5 hm5 hu5 K5 B5 F5 X5 P5 D5 N5
  k_steps
  have kT := ‹KtsTurn (outer.filterMap (·.frame)) h₀ _›
  exact hret _ _ _ _ _ kT (by assumption) (by assumption) (by assumption) (by assumption) (by assumption) (by assumption) ⟨_, _, _, vm5, vu5, cm5, cu5, by simpa using hm5, by simpa using hu5, rfl, rfl⟩
end

end

section
/-! a list comprehension whose element may turn the ground -/
open LCg in
section
variable {prog : Program} {w : World} {A : Around} {s : Shared} {L : Addr} {m : Str → Option Value} {env : Env}
/-- the end of an element's evaluation -/
def XEnd (G : Heap → Prop) (L : Addr) (m : Str → Option Value) (s₁ : Shared) (I : Addr) (oI : Obj) (C : Addr) (oC : Obj) (D : Addr) (oD : Obj) (S : List (Addr × Obj) → Prop) (rest : Value → List (Addr × Obj) → Prop) (y : Value) (s₂ : Shared) : Prop :=
  ∃ g h' tk news', s₂ = { s₁ with heap := h', toks := tk } ∧ G g ∧ Fr g L h' m ∧ News g L h' ((I, oI) :: (C, oC) :: (D, oD) :: news') ∧ Off3 I C D news' ∧ S news' ∧ rest y news'
/-- one turn: with item v at index i and the items ys made so far -/
def XTurn (prog : Program) (w : World) (A : Around) (G : Heap → Prop) (L : Addr) (m : Str → Option Value) (env : Env) (ifs : List Expr) (elt : Expr) (x : Str) (scope : Scope) (cl : List (Str × Addr)) (s : Shared) (S : List (Addr × Obj) → Prop) (P : Nat → Value → Prop)
    (J : Nat → List Value → List (Addr × Obj) → Prop) (i : Nat) (ys : List Value) (news : List (Addr × Obj)) : Prop :=
  ∀ g v I oI C oC D m₂ h tk (E' : Value → Shared → Prop), G g → P i v → NsObj oC m₂ → m₂ x = some v → Fr g L h m → News g L h ((I, oI) :: (C, oC) :: (D, lst ys) :: news) → Off3 I C D news → ((@Ne Nat I C) ∧ (@Ne Nat I D) ∧ (@Ne Nat C D)) →
    wpAny (model prog w) A (forIn ifs true fun c r => if r = true then do let ok ← isTrue c (compEnvC scope cl C env) (eval c (compEnvC scope cl C env)); pure (ForInStep.yield ok) else pure (ForInStep.yield r)) (fun ok s₃ =>
      if ok = true then wpAny (model prog w) A (eval elt (compEnvC scope cl C env)) (XEnd G L m s I oI C oC D (lst ys) S fun y news' => J (i + 1) (ys ++ [y]) news') E' s₃
      else XEnd G L m s I oI C oC D (lst ys) S (fun _ news' => J (i + 1) ys news') .none s₃) E' { s with heap := h, toks := tk }
theorem xblock {E : Value → Shared → Prop} {G : Heap → Prop} {g : Heap} {elt iter : Expr} {ifs : List Expr} {x : Str} {px : Pos} {scope : Scope} {cl : List (Str × Addr)} {pos : Pos} {s₂ : Shared} {I : Addr} {fp : List Addr} {n : Nat} {P : Nat → Value → Prop} {St : Nat → Heap → Prop} {S : List (Addr × Obj) → Prop} {news : List (Addr × Obj)}
    {J : Nat → List Value → List (Addr × Obj) → Prop} {RR : Value → Addr → Result → Shared → Prop}
    (W : Walks prog w A I fp [I] n P St) (hsz : n ≤ sizeLine) (hIo : ∀ i h, St i h → ∃ o, h.get? I = some o)
    (hSt : ∀ i g h h' o nw, St i h → h.get? I = some o → h'.get? I = some o → News g L h' nw → S nw → St i h')
    (hcell : ∀ y ∈ scope.names, y.2 ≠ .cell) (hkind : scope.kind = .function) (hx : scope.names.lookup x = some .local) (hst : St 0 s₂.heap) (hfp : ∀ b ∈ fp, b < s₂.heap.objs.size)
    (hG : G g) (F : Fr g L s₂.heap m) (N : News g L s₂.heap news) (hIL : L ≠ I) (hI₀ : g.get? I = none) (off : ∀ p ∈ news, p.1 ≠ I) (hS : S news) (hJ : J 0 [] news)
    (R : ∀ i ys news', i < n → S news' → J i ys news' → XTurn prog w A G L m env ifs elt x scope cl s₂ S P J i ys news')
    (hRR : ∀ g D C h tk m' ys news', G g → Fr g L h m → News g L h ((D, lst ys) :: news') → Off1 D news' → h.Ns C m' → g.get? C = none → g.get? D = none → C ≠ L → D ≠ L → C ≠ D → (∀ p ∈ news', p.1 ≠ C) → J n ys news' → RR (.ref D) C (.ok .next) { s₂ with heap := h, toks := tk }) :
    wpAny (model prog w) A (newList []) (fun acc s₃ => wpAny (model prog w) A (newFunctionEnv scope env.globals cl [] env.qual none .none (some env)) (fun cenv s₄ =>
      codeAny (model prog w) A (.compStart (.ListComp elt [⟨.Name x px, iter, ifs, 0⟩] scope pos) 0 (.ref I) acc { cenv with scope := relabel scope env }) (RR acc cenv.locals) s₄) E s₃) E s₂ := by
  refine wpAny_newObj_type (wpAny_newFunctionEnv hcell (by intro y hy; simp at hy) (fun h₁ hns₁ hsb₁ => ?_) hkind)
  dsimp only at hns₁ hsb₁ ⊢
  generalize hH2 : s₂.heap.push { cls := .type "list", dict := none, data := .seq ([] : List Value).toArray } = H2 at hns₁ hsb₁ ⊢
  have hC : H2.objs.size = s₂.heap.objs.size + 1 := by rw [← hH2, Heap.size_push]
  have hDC : s₂.heap.objs.size ≠ H2.objs.size := by rw [hC]; exact Nat.ne_of_lt (Nat.lt_succ_self _)
  have below : ∀ b, b < s₂.heap.objs.size → b ≠ H2.objs.size ∧ b ≠ s₂.heap.objs.size := fun b hb => ⟨by rw [hC]; exact Nat.ne_of_lt (Nat.lt_succ_of_lt hb), Nat.ne_of_lt hb⟩
  have hDf : s₂.heap.objs.size ∉ fp := fun hm => Nat.lt_irrefl _ (hfp _ hm)
  have hCf : H2.objs.size ∉ fp := fun hm => by have := hfp _ hm; rw [hC] at this; exact Nat.lt_irrefl _ (Nat.lt_of_succ_lt this)
  have hIf : I ∈ fp := W.sub I (List.mem_singleton.mpr rfl)
  have hIlt : I < s₂.heap.objs.size := hfp I hIf
  have old : ∀ b o, s₂.heap.get? b = some o → h₁.get? b = some o := fun b o e => hsb₁.extBut b o (below b (Heap.lt_size e)).1 (Heap.get?_push_of_some _ (hH2 ▸ Heap.get?_push_of_some _ e))
  have hacc : h₁.get? s₂.heap.objs.size = some (lst []) := hsb₁.extBut _ _ hDC (Heap.get?_push_of_some _ (hH2 ▸ Heap.get?_push_size _ rfl))
  have hst₁ : St 0 h₁ := W.frame _ _ _ hst fun b _ o e => old b o e
  have fresh₀ : ∀ a, s₂.heap.objs.size ≤ a → g.get? a = none := fun a ha => Heap.get?_none_of_le (Nat.le_trans (Nat.le_trans F.above (Nat.le_of_lt F.ns.lt)) ha)
  have hD₀ : g.get? s₂.heap.objs.size = none := fresh₀ _ (Nat.le_refl _)
  have hC₀ : g.get? H2.objs.size = none := fresh₀ _ (by rw [hC]; exact Nat.le_succ _)
  have hLlt : L < s₂.heap.objs.size := F.ns.lt
  have hDL : s₂.heap.objs.size ≠ L := Ne.symm (below L hLlt).2
  have hCL : H2.objs.size ≠ L := Ne.symm (below L hLlt).1
  have hCI : I ≠ H2.objs.size := (below I hIlt).1
  have hDI : I ≠ s₂.heap.objs.size := (below I hIlt).2
  have off₀ : Off3 I H2.objs.size s₂.heap.objs.size news := Off3.of fun p hp => ⟨off p hp, (below _ (Heap.lt_size (N p hp).1)).1, (below _ (Heap.lt_size (N p hp).1)).2⟩
  have loop : ∀ s₃ : Shared, s₃ = { s₂ with heap := h₁, toks := s₂.toks + ([] : List (Str × Value)).length } →
      codeAny (model prog w) A (.compLoop (.ListComp elt [⟨.Name x px, iter, ifs, 0⟩] scope pos) 0 (.ref I) (.ref s₂.heap.objs.size) (compEnvC scope cl H2.objs.size env))
        (RR (.ref s₂.heap.objs.size) H2.objs.size) s₃ := by
    rintro s₃ rfl
    refine codeAny_compLoop_tests
      (fun k s' => ∃ h' tk i ys m' g' news', s' = { s₂ with heap := h', toks := tk } ∧ i ≤ n ∧ k = n + 1 - i ∧ ys.length ≤ i ∧ St i h' ∧ G g' ∧ Fr g' L h' m ∧ h'.Ns H2.objs.size m' ∧ g'.get? I = none ∧ g'.get? H2.objs.size = none ∧
        News g' L h' ((s₂.heap.objs.size, lst ys) :: news') ∧ Off3 I H2.objs.size s₂.heap.objs.size news' ∧ S news' ∧ J i ys news') ?_ (n + 1)
      ⟨h₁, _, 0, [], _, g, news, rfl, Nat.zero_le _, rfl, Nat.le_refl _, hst₁, hG, F.keeps old, hns₁, hI₀, hC₀, fun p hp => ?_, off₀, hS, hJ⟩
    · rintro k s' ⟨h', tk, i, ys, m', g', news', rfl, hi, rfl, hyl, hst', hG', F', hn', hgI, hgC, N', off', hS', hJ'⟩
      have off3 := off'.mem
      by_cases hlt : i < n
      · refine W.item i _ _ _ hlt hst' fun v h₂ tk₂ hPv hst₂ hk₂ => ?_
        refine wpAny_assign_Name (wpAny_storeName_local (lookup_relabel_local hx) (hn'.at' fun o e => hk₂ _ o (by simpa using Ne.symm hCI) e) (fun h₃ hn₃ hs₃ => ?_) (by simp [compEnvC, relabel, hkind]))
        have hst₃ : St (i + 1) h₃ := W.frame _ _ _ hst₂ fun b hb o e => hs₃.extBut b o (fun q => hCf (by have q' : b = H2.objs.size := q; rw [← q']; exact hb)) e
        refine hideG ?_
        intro G9
        obtain ⟨oI, heI⟩ := hIo _ _ hst₃
        obtain ⟨oC, heC, hoC⟩ := ns_obj hn₃
        k_unfold
        have F₃ : Fr g' L h₃ m := (fr_but F' hk₂ hIL hgI).change hs₃ hCL hgC
        have N₂ : News g' L h₂ ((s₂.heap.objs.size, lst ys) :: news') := news_but N' hk₂ fun p hp => by
          rcases List.mem_cons.mp hp with rfl | hp
          · exact Ne.symm hDI
          · exact (off3 p hp).1
        have N₃ : News g' L h₃ ((I, oI) :: (H2.objs.size, oC) :: (s₂.heap.objs.size, lst ys) :: news') := fun p hp => by
          rcases List.mem_cons.mp hp with rfl | hp
          · exact ⟨heI, Ne.symm hIL, hgI⟩
          · rcases List.mem_cons.mp hp with rfl | hp
            · exact ⟨heC, hCL, hgC⟩
            · have z := N₂ p hp
              refine ⟨hs₃.extBut _ _ ?_ z.1, z.2⟩
              rcases List.mem_cons.mp hp with rfl | hp
              · exact hDC
              · exact (off3 p hp).2.1
        refine wpAny_mono (R i ys news' hlt hS' hJ' g' v I oI H2.objs.size oC s₂.heap.objs.size _ h₃ _ _ hG' hPv hoC (by simp) F₃ N₃ off' ⟨hCI, hDI, Ne.symm hDC⟩) (fun ok s₃ h₃' => ?_) fun _ _ e => e
        cases ok with
        | false =>
          simp only [Bool.false_eq_true, if_false] at h₃' ⊢
          refine hideG ?_
          intro G9
          obtain ⟨g₄, h₄, tk₄, news₄, rfl, hG₄, F₄, N₄, off₄, hS₄, J₄⟩ := h₃'
          k_unfold
          have zI := N₄ (I, oI) List.mem_cons_self
          have zC := N₄ (H2.objs.size, oC) (List.mem_cons_of_mem _ List.mem_cons_self)
          have N₄' : News g₄ L h₄ news₄ := fun p hp => N₄ p (List.mem_cons_of_mem _ (List.mem_cons_of_mem _ (List.mem_cons_of_mem _ hp)))
          have hst₄ : St (i + 1) h₄ := hSt _ _ _ _ _ _ hst₃ heI zI.1 N₄' hS₄
          exact ⟨n + 1 - (i + 1), by omega, h₄, tk₄, i + 1, ys, _, g₄, news₄, rfl, hlt, rfl, by omega, hst₄, hG₄, F₄, hoC.ns zC.1, zI.2.2, zC.2.2, fun p hp => N₄ p (List.mem_cons_of_mem _ (List.mem_cons_of_mem _ hp)), off₄, hS₄, J₄⟩
        | true =>
          simp only [if_true] at h₃' ⊢
          refine wpAny_mono h₃' (fun y s₄ h₄ => ?_) fun _ _ e => e
          refine hideG ?_
          intro G9
          obtain ⟨g₄, h₄, tk₄, news₄, rfl, hG₄, F₄, N₄, off₄, hS₄, J₄⟩ := h₄
          k_unfold
          have zI := N₄ (I, oI) List.mem_cons_self
          have zC := N₄ (H2.objs.size, oC) (List.mem_cons_of_mem _ List.mem_cons_self)
          have zD := N₄ (s₂.heap.objs.size, lst ys) (List.mem_cons_of_mem _ (List.mem_cons_of_mem _ List.mem_cons_self))
          have N₄' : News g₄ L h₄ news₄ := fun p hp => N₄ p (List.mem_cons_of_mem _ (List.mem_cons_of_mem _ (List.mem_cons_of_mem _ hp)))
          have hst₄ : St (i + 1) h₄ := hSt _ _ _ _ _ _ hst₃ heI zI.1 N₄' hS₄
          refine append_at (hsz := by show ys.toArray.size ≤ sizeLine; rw [List.size_toArray]; exact Nat.le_trans hyl (Nat.le_trans hi hsz)) zD.1 fun h₅ hs₅ hD₅ => ?_
          have off4 := off₄.mem
          refine ⟨n + 1 - (i + 1), by omega, h₅, tk₄, i + 1, ys ++ [y], _, g₄, news₄, rfl, hlt, rfl, by rw [List.length_append, List.length_singleton]; omega, W.frame _ _ _ hst₄ fun b hb o e => hs₅.extBut b o (fun q => hDf (q ▸ hb)) e, hG₄, F₄.change hs₅ hDL zD.2.2,
            (hoC.ns zC.1).sameBut hs₅ (Ne.symm hDC), zI.2.2, zC.2.2, fun p hp => ?_, off₄, hS₄, J₄⟩
          rcases List.mem_cons.mp hp with rfl | hp
          · exact ⟨hD₅.trans (congrArg some (lst_snoc ys y)), hDL, zD.2.2⟩
          · exact ⟨hs₅.extBut _ _ (off4 p hp).2.2 (N₄' p hp).1, (N₄' p hp).2⟩
      · obtain rfl : i = n := Nat.le_antisymm hi (Nat.not_lt.mp hlt)
        refine W.done _ _ _ hst' fun h₂ tk₂ hk₂ => ?_
        exact hRR _ _ _ h₂ tk₂ _ ys news' hG' (fr_but F' hk₂ hIL hgI) (news_but N' hk₂ fun p hp => by
          rcases List.mem_cons.mp hp with rfl | hp
          · exact Ne.symm hDI
          · exact (off3 p hp).1) off'.one (hn'.at' fun o e => hk₂ _ o (by simpa using Ne.symm hCI) e) hgC (N' _ (.head _)).2.2 hCL hDL (Ne.symm hDC) (fun p hp => (off3 p hp).2.1) hJ'
    · rcases List.mem_cons.mp hp with rfl | hp
      · exact ⟨hacc, hDL, hD₀⟩
      · exact ⟨old _ _ (N p hp).1, (N p hp).2⟩
  exact codeAny_compStart_list (loop _ rfl) (W.self 0 _ _ _ hst₁ (loop _ rfl))
end

end

section
open LCg in
section
variable {prog : Program} {w : World} {A : Around} {s : Shared} {L : Addr} {m : Str → Option Value} {env : Env} {E : Value → Shared → Prop} {G : Heap → Prop} {g : Heap} {elt iter : Expr} {ifs : List Expr} {x : Str} {px : Pos} {scope : Scope} {cl : List (Str × Addr)} {pos : Pos} {news : List (Addr × Obj)}
    {J : Nat → List Value → List (Addr × Obj) → Prop} {RR : Value → Addr → Result → Shared → Prop}
/-- what is left to do when the iterable is known -/
def XGo (prog : Program) (w : World) (A : Around) (env : Env) (elt iter : Expr) (ifs : List Expr) (x : Str) (px : Pos) (scope : Scope) (cl : List (Str × Addr)) (pos : Pos) (E : Value → Shared → Prop) (RR : Value → Addr → Result → Shared → Prop) (xv : Value) (s₁ : Shared) : Prop :=
  wpAny (model prog w) A (pyIter xv) (fun it s₂ => wpAny (model prog w) A (newList []) (fun acc s₃ => wpAny (model prog w) A (newFunctionEnv scope env.globals cl [] env.qual none .none (some env)) (fun cenv s₄ =>
      codeAny (model prog w) A (.compStart (.ListComp elt [⟨.Name x px, iter, ifs, 0⟩] scope pos) 0 it acc { cenv with scope := relabel scope env }) (RR acc cenv.locals) s₄) E s₃) E s₂) E s₁
theorem compE {Q : Value → Shared → Prop} (hclos : closureFor scope env = pure cl) (hkind : scope.kind = .function) (hnames : ∀ y ∈ scope.names, y.2 = .local → scope.names.lookup y.1 = some .local)
    (h : wpAny (model prog w) A (eval iter env) (XGo prog w A env elt iter ifs x px scope cl pos E (compPost (model prog w) A E none Q)) E s)
    (hs : ∀ x, foldedSetIterable iter env x = pure x := by intro _; rfl) :
    wpAny (model prog w) A (eval (.ListComp elt [⟨.Name x px, iter, ifs, 0⟩] scope pos) env) Q E s := by
  rw [eval_ListComp]
  exact wpAny_comprehension_free (use := none) rfl hs hclos hkind hnames h
theorem compA {y : Str} {py spos : Pos} {Q : Flow → Shared → Prop} (hsw : swapsWith (.ListComp elt [⟨.Name x px, iter, ifs, 0⟩] scope pos) (some (.Name y py)) spos.line env = pure true)
    (hclos : closureFor scope env = pure cl) (hkind : scope.kind = .function) (hnames : ∀ y ∈ scope.names, y.2 = .local → scope.names.lookup y.1 = some .local)
    (h : wpAny (model prog w) A (eval iter env) (XGo prog w A env elt iter ifs x px scope cl pos E (compPost (model prog w) A E (some (assign (.Name y py) env)) (fun _ s' => Q .next s'))) E s)
    (hs : ∀ x, foldedSetIterable iter env x = pure x := by intro _; rfl) :
    wpAny (model prog w) A (exec (.Assign [.Name y py] (.ListComp elt [⟨.Name x px, iter, ifs, 0⟩] scope pos) spos) env) Q E s := by
  rw [exec_Assign_Name_used _ _ _ _ hsw]
  refine wpAny_bind (wpAny_standAt (wpAny_bind ?_))
  show wpAny _ A (do let _ ← comprehension (.ListComp elt [⟨.Name x px, iter, ifs, 0⟩] scope pos) scope env _ (newList []) false (eval iter env) (some (assign (.Name y py) env))) _ _ s
  exact wpAny_bind (wpAny_mono (wpAny_comprehension_free (use := some (assign (.Name y py) env)) (Q := fun _ s' => Q .next s') rfl hs hclos hkind hnames h) (fun _ s' hq => wpAny_pure (wpAny_pure hq)) fun _ _ e => e)
/-- the two ends: the list as a value, and bound to a name -/
theorem finE {Q : Value → Shared → Prop} {n : Nat} (fin : ∀ g D h tk ys news', G g → Fr g L h m → News g L h ((D, lst ys) :: news') → Off1 D news' → J n ys news' → Q (.ref D) { s with heap := h, toks := tk }) :
    ∀ g D C h tk m' ys news', G g → Fr g L h m → News g L h ((D, lst ys) :: news') → Off1 D news' → h.Ns C m' → g.get? C = none → g.get? D = none → C ≠ L → D ≠ L → C ≠ D → (∀ p ∈ news', p.1 ≠ C) → J n ys news' → compPost (model prog w) A E none Q (.ref D) C (.ok .next) { s with heap := h, toks := tk } := by
  intro g D C h tk m' ys news' hG F' N' o1 hn hC₀ hD₀ hCL hDL hCD offC hJ
  refine ⟨m', hn, fun h'' hs'' => fin g D h'' tk ys news' hG (F'.change hs'' hCL hC₀) (fun p hp => ?_) o1 hJ⟩
  refine ⟨hs''.extBut _ _ ?_ (N' p hp).1, (N' p hp).2⟩
  rcases List.mem_cons.mp hp with rfl | hp
  · exact Ne.symm hCD
  · exact offC p hp
theorem finA {y : Str} {py : Pos} {Q : Flow → Shared → Prop} {n : Nat} (hLe : env.locals = L) (hy : env.kindOf y = some .local) (hp : (env.scope.kind == .class || (env.scope.kind == .module && env.locals != env.globals)) = false)
    (fin : ∀ g D h tk ys news', G g → Fr g L h (fun z => if z = y then some (.ref D) else m z) → News g L h ((D, lst ys) :: news') → Off1 D news' → J n ys news' → Q .next { s with heap := h, toks := tk }) :
    ∀ g D C h tk m' ys news', G g → Fr g L h m → News g L h ((D, lst ys) :: news') → Off1 D news' → h.Ns C m' → g.get? C = none → g.get? D = none → C ≠ L → D ≠ L → C ≠ D → (∀ p ∈ news', p.1 ≠ C) → J n ys news' → compPost (model prog w) A E (some (assign (.Name y py) env)) (fun _ s' => Q .next s') (.ref D) C (.ok .next) { s with heap := h, toks := tk } := by
  subst hLe
  intro g D C h' tk m' ys news' hG F' N' o1 hn hC₀ hD₀ hCL hDL hCD offC hJ
  show wpAny _ A (assign (.Name y py) env (.ref D)) _ _ _
  refine wpAny_assign_Name (wpAny_storeName_local hy F'.ns (fun h₂ hn₂ hs₂ => ?_) hp)
  have hL₀ : g.get? env.locals = none := Heap.get?_none_of_le F'.above
  have F₂ : Fr g env.locals h₂ (fun z => if z = y then some (.ref D) else m z) := ⟨hn₂, fun b o e => hs₂.extBut b o (fun q => by rw [q, hL₀] at e; cases e) (F'.keep b o e), F'.above⟩
  refine ⟨m', hn.sameBut hs₂ hCL, fun h'' hs'' => fin g D h'' _ ys news' hG (F₂.change hs'' hCL hC₀) (fun p hp => ?_) o1 hJ⟩
  have z : h₂.get? p.1 = some p.2 := hs₂.extBut _ _ (N' p hp).2.1 (N' p hp).1
  refine ⟨hs''.extBut _ _ ?_ z, (N' p hp).2⟩
  rcases List.mem_cons.mp hp with rfl | hp
  · exact Ne.symm hCD
  · exact offC p hp
theorem finE1 {Q : Value → Shared → Prop} {g : Heap} {D C : Addr} {h : Heap} {tk : Nat} {m' : Str → Option Value} {ys : List Value} {news' : List (Addr × Obj)} (F' : Fr g L h m) (N' : News g L h ((D, lst ys) :: news')) (hn : h.Ns C m') (hC₀ : g.get? C = none) (hCL : C ≠ L) (hCD : C ≠ D) (offC : ∀ p ∈ news', p.1 ≠ C)
    (k : ∀ h'', Fr g L h'' m → News g L h'' ((D, lst ys) :: news') → Q (.ref D) { s with heap := h'', toks := tk }) : compPost (model prog w) A E none Q (.ref D) C (.ok .next) { s with heap := h, toks := tk } := by
  refine ⟨m', hn, fun h'' hs'' => k h'' (F'.change hs'' hCL hC₀) (fun p hp => ?_)⟩
  refine ⟨hs''.extBut _ _ ?_ (N' p hp).1, (N' p hp).2⟩
  rcases List.mem_cons.mp hp with rfl | hp
  · exact Ne.symm hCD
  · exact offC p hp
theorem finA1 {y : Str} {py : Pos} {Q : Value → Shared → Prop} {g : Heap} {D C : Addr} {h : Heap} {tk : Nat} {m' : Str → Option Value} {ys : List Value} {news' : List (Addr × Obj)} (hLe : env.locals = L) (F' : Fr g L h m) (N' : News g L h ((D, lst ys) :: news')) (hn : h.Ns C m') (hC₀ : g.get? C = none) (hCL : C ≠ L) (hCD : C ≠ D) (offC : ∀ p ∈ news', p.1 ≠ C)
    (hy : env.kindOf y = some .local) (hp : (env.scope.kind == .class || (env.scope.kind == .module && env.locals != env.globals)) = false)
    (k : ∀ h'' tk'', Fr g L h'' (fun z => if z = y then some (.ref D) else m z) → News g L h'' ((D, lst ys) :: news') → Q .none { s with heap := h'', toks := tk'' }) : compPost (model prog w) A E (some (assign (.Name y py) env)) Q (.ref D) C (.ok .next) { s with heap := h, toks := tk } := by
  subst hLe
  show wpAny _ A (assign (.Name y py) env (.ref D)) _ _ _
  refine wpAny_assign_Name (wpAny_storeName_local hy F'.ns (fun h₂ hn₂ hs₂ => ?_) hp)
  have hL₀ : g.get? env.locals = none := Heap.get?_none_of_le F'.above
  have F₂ : Fr g env.locals h₂ (fun z => if z = y then some (.ref D) else m z) := ⟨hn₂, fun b o e => hs₂.extBut b o (fun q => by rw [q, hL₀] at e; cases e) (F'.keep b o e), F'.above⟩
  refine ⟨m', hn.sameBut hs₂ hCL, fun h'' hs'' => k h'' _ (F₂.change hs'' hCL hC₀) (fun p hp => ?_)⟩
  have z : h₂.get? p.1 = some p.2 := hs₂.extBut _ _ (N' p hp).2.1 (N' p hp).1
  refine ⟨hs''.extBut _ _ ?_ z, (N' p hp).2⟩
  rcases List.mem_cons.mp hp with rfl | hp
  · exact Ne.symm hCD
  · exact offC p hp
/-- over a list of the ledger -/
theorem xgo_list {ax : Addr} {its : Array Value} {c : Nat} (hh : A.handled = none) (hG : G g) (F : Fr g L s.heap m) (N : News g L s.heap news) (hm : (ax, ({ cls := .type "list", dict := none, data := .seq its c, slots := #[] } : Obj)) ∈ news) (hsz : its.size ≤ sizeLine)
    (hcell : ∀ y ∈ scope.names, y.2 ≠ .cell) (hkind : scope.kind = .function) (hx : scope.names.lookup x = some .local) (hJ : J 0 [] news)
    (R : ∀ i ys news', i < its.size → (ax, ({ cls := .type "list", dict := none, data := .seq its c, slots := #[] } : Obj)) ∈ news' → J i ys news' → XTurn prog w A G L m env ifs elt x scope cl s (fun nw => (ax, ({ cls := .type "list", dict := none, data := .seq its c, slots := #[] } : Obj)) ∈ nw) (fun i v => its[i]? = some v) J i ys news')
    (hRR : ∀ g D C h tk m' ys news', G g → Fr g L h m → News g L h ((D, lst ys) :: news') → Off1 D news' → h.Ns C m' → g.get? C = none → g.get? D = none → C ≠ L → D ≠ L → C ≠ D → (∀ p ∈ news', p.1 ≠ C) → J its.size ys news' → RR (.ref D) C (.ok .next) { s with heap := h, toks := tk }) :
    XGo prog w A env elt iter ifs x px scope cl pos E RR (.ref ax) s := by
  unfold XGo
  have hl : s.heap.IsList ax its := N.isList hm
  have hlt : ax < s.heap.objs.size := Heap.lt_size (N _ hm).1
  refine wpAny_pyIter_list hl ?_
  have up : ∀ b o, s.heap.get? b = some o → (s.heap.push { cls := .type "list_iterator", data := .fields #[.ref ax, .int 0 0] }).get? b = some o := fun b o e => Heap.get?_push_of_some _ e
  refine xblock (g := g) (G := G) (S := fun nw => (ax, ({ cls := .type "list", dict := none, data := .seq its c, slots := #[] } : Obj)) ∈ nw) (J := J) (Walks.list hh s.heap.objs.size ax (Nat.ne_of_lt hlt) its) hsz (fun i h st => by obtain ⟨o, e, _⟩ := st.1; exact ⟨o, e⟩) ?_ hcell hkind hx ⟨⟨_, Heap.get?_push_size _ rfl, rfl, rfl⟩, hl.push _⟩ (fun b hb => ?_)
    hG (F.keeps up) (N.grown up) (Nat.ne_of_lt F.ns.lt) (next_is_new F) (fun p hp => Nat.ne_of_lt (Heap.lt_size (N p hp).1)) hm hJ (fun i ys news' h1 h2 h3 => R i ys news' h1 h2 h3) hRR
  · intro i g h h' o nw st e e' N' hS
    exact ⟨by obtain ⟨o', q, r⟩ := st.1; rw [e] at q; cases q; exact ⟨o, e', r⟩, N'.isList hS⟩
  · show b < (s.heap.push _).objs.size
    rw [Heap.size_push]
    rcases List.mem_cons.mp hb with rfl | hb
    · exact Nat.lt_succ_self _
    · rw [List.mem_singleton.mp hb]; exact Nat.lt_succ_of_lt hlt
/-- over a tuple of the ledger -/
theorem xgo_tuple {ax : Addr} {its : Array Value} {c : Nat} (hh : A.handled = none) (hG : G g) (F : Fr g L s.heap m) (N : News g L s.heap news) (hm : (ax, ({ cls := .type "tuple", dict := none, data := .seq its c, slots := #[] } : Obj)) ∈ news) (hsz : its.size ≤ sizeLine)
    (hcell : ∀ y ∈ scope.names, y.2 ≠ .cell) (hkind : scope.kind = .function) (hx : scope.names.lookup x = some .local) (hJ : J 0 [] news)
    (R : ∀ i ys news', i < its.size → (ax, ({ cls := .type "tuple", dict := none, data := .seq its c, slots := #[] } : Obj)) ∈ news' → J i ys news' → XTurn prog w A G L m env ifs elt x scope cl s (fun nw => (ax, ({ cls := .type "tuple", dict := none, data := .seq its c, slots := #[] } : Obj)) ∈ nw) (fun i v => its[i]? = some v) J i ys news')
    (hRR : ∀ g D C h tk m' ys news', G g → Fr g L h m → News g L h ((D, lst ys) :: news') → Off1 D news' → h.Ns C m' → g.get? C = none → g.get? D = none → C ≠ L → D ≠ L → C ≠ D → (∀ p ∈ news', p.1 ≠ C) → J its.size ys news' → RR (.ref D) C (.ok .next) { s with heap := h, toks := tk }) :
    XGo prog w A env elt iter ifs x px scope cl pos E RR (.ref ax) s := by
  unfold XGo
  have hl : s.heap.IsTuple ax its := N.isTup hm
  have hlt : ax < s.heap.objs.size := Heap.lt_size (N _ hm).1
  refine wpAny_pyIter_tuple hl ?_
  have up : ∀ b o, s.heap.get? b = some o → (s.heap.push { cls := .type "tuple_iterator", data := .fields #[.ref ax, .int 0 0] }).get? b = some o := fun b o e => Heap.get?_push_of_some _ e
  refine xblock (g := g) (G := G) (S := fun nw => (ax, ({ cls := .type "tuple", dict := none, data := .seq its c, slots := #[] } : Obj)) ∈ nw) (J := J) (Walks.tuple hh s.heap.objs.size ax (Nat.ne_of_lt hlt) its) hsz (fun i h st => by obtain ⟨o, e, _⟩ := st.1; exact ⟨o, e⟩) ?_ hcell hkind hx ⟨⟨_, Heap.get?_push_size _ rfl, rfl, rfl⟩, hl.push _⟩ (fun b hb => ?_)
    hG (F.keeps up) (N.grown up) (Nat.ne_of_lt F.ns.lt) (next_is_new F) (fun p hp => Nat.ne_of_lt (Heap.lt_size (N p hp).1)) hm hJ (fun i ys news' h1 h2 h3 => R i ys news' h1 h2 h3) hRR
  · intro i g h h' o nw st e e' N' hS
    exact ⟨by obtain ⟨o', q, r⟩ := st.1; rw [e] at q; cases q; exact ⟨o, e', r⟩, N'.isTup hS⟩
  · show b < (s.heap.push _).objs.size
    rw [Heap.size_push]
    rcases List.mem_cons.mp hb with rfl | hb
    · exact Nat.lt_succ_self _
    · rw [List.mem_singleton.mp hb]; exact Nat.lt_succ_of_lt hlt
/-- over the signs of a text (of signs under 128) -/
theorem xgo_str {b : Str} {t : Tok} (hh : A.handled = none) (hG : G g) (F : Fr g L s.heap m) (N : News g L s.heap news) (ha : b.cps.all (· < 128) = true) (hsz : b.cps.size ≤ sizeLine)
    (hcell : ∀ y ∈ scope.names, y.2 ≠ .cell) (hkind : scope.kind = .function) (hx : scope.names.lookup x = some .local) (hJ : J 0 [] news)
    (R : ∀ i ys news', i < b.cps.size → J i ys news' → XTurn prog w A G L m env ifs elt x scope cl s (fun _ => True) (SignAt b) J i ys news')
    (hRR : ∀ g D C h tk m' ys news', G g → Fr g L h m → News g L h ((D, lst ys) :: news') → Off1 D news' → h.Ns C m' → g.get? C = none → g.get? D = none → C ≠ L → D ≠ L → C ≠ D → (∀ p ∈ news', p.1 ≠ C) → J b.cps.size ys news' → RR (.ref D) C (.ok .next) { s with heap := h, toks := tk }) :
    XGo prog w A env elt iter ifs x px scope cl pos E RR (.str b t) s := by
  unfold XGo
  refine wpAny_pyIter_ascii ha ?_
  have up : ∀ b' o, s.heap.get? b' = some o → (s.heap.push { cls := .type "str_ascii_iterator", data := .fields #[.str b t, .int 0 0] }).get? b' = some o := fun b o e => Heap.get?_push_of_some _ e
  refine xblock (g := g) (G := G) (S := fun _ => True) (J := J) (Walks.strAscii hh s.heap.objs.size b t) hsz (fun i h st => by obtain ⟨o, e, _⟩ := st; exact ⟨o, e⟩) ?_ hcell hkind hx ⟨_, Heap.get?_push_size _ rfl, rfl, rfl⟩ (fun b' hb => ?_)
    hG (F.keeps up) (N.grown up) (Nat.ne_of_lt F.ns.lt) (next_is_new F) (fun p hp => Nat.ne_of_lt (Heap.lt_size (N p hp).1)) trivial hJ (fun i ys news' h1 _ h3 => R i ys news' h1 h3) hRR
  · intro i g h h' o nw st e e' N' hS
    obtain ⟨o', q, r⟩ := st
    rw [e] at q; cases q
    exact ⟨o, e', r⟩
  · rw [List.mem_singleton.mp hb]
    show s.heap.objs.size < (s.heap.push _).objs.size
    rw [Heap.size_push]; exact Nat.lt_succ_self _
end

end

section
/-! _formatparam('k', w) and quote(v), sign by sign -/
def escL (w : List Nat) : List Nat := subst 34 [92, 34] (subst 92 [92, 92] w)
def fparam (w : List Nat) : List Nat := if w = [] then [107] else [107, 61, 34] ++ escL w ++ [34]
def okB (c : Nat) : Bool := c == 37 || c == 61 || c == 65 || c == 97 || c == 107
def quoteL (v : List Nat) : List Nat := if v = [] then [39, 39] else if v.all okB then v else [39] ++ subst 39 [39, 34, 39, 34, 39] v ++ [39]
theorem subst_length (c : Nat) (z : List Nat) (n : Nat) (hz : z.length ≤ n) (hn : 1 ≤ n) : ∀ l : List Nat, (subst c z l).length ≤ n * l.length
  | [] => Nat.zero_le _
  | d :: l => by
    have ih := subst_length c z n hz hn l
    have e : subst c z (d :: l) = (if d = c then z else [d]) ++ subst c z l := rfl
    rw [e, List.length_append, List.length_cons, Nat.mul_succ]
    have : (if d = c then z else [d]).length ≤ n := by split <;> first | exact hz | (simp; lia)
    lia
theorem sl_of (s : Str) (l : List Nat) (h : s.cps.toList = l) : s = SL l := by
  obtain ⟨a⟩ := s
  subst h
  rfl
theorem rep_sl (l z : List Nat) (c : Nat) : Txt.replace (SL l) (SL [c]) (SL z) = SL (subst c z l) := sl_of _ _ (by
  have := replace_subst (SL l) (SL z) c
  simpa using this)
section
variable {w : World} {p : Program} {loose : List Str} {mean : ExcName → Option Value} {mg mb : Str → Option Value} {news : List (Addr × Obj)}
theorem fparam_spec (v : List Nat) (t u : Tok) (hl : v.length ≤ 200) :
   Spec w p loose mean mg mb 10 50 57 [.str (Str.ofString "k") t, .str (SL v) u] news (fun r news' => ∃ t', r = .str (SL (fparam v)) t' ∧ news' = news) := by
  by_cases hv : v = []
  · subst hv
    exact formatparam_none (SL []) t u rfl
  · have h1 : Txt.replace (SL v) (Str.ofString "\\") (Str.ofString "\\\\") = SL (subst 92 [92, 92] v) := rep_sl v [92, 92] 92
    have h2 : Txt.replace (SL (subst 92 [92, 92] v)) (Str.ofString "\"") (Str.ofString "\\\"") = SL (escL v) := rep_sl _ [92, 34] 34
    have l1 := subst_length 92 [92, 92] 2 (by decide) (by decide) v
    have l2 := subst_length 34 [92, 34] 2 (by decide) (by decide) (subst 92 [92, 92] v)
    have hpos : 0 < v.length := List.length_pos_iff.mpr hv
    have key := formatparam_some (w := w) (p := p) (loose := loose) (mean := mean) (mg := mg) (mb := mb) (news := news) (SL v) t u (by show v.toArray.size ≤ 1000; simp; lia) (by show 0 < v.toArray.size; simpa using hpos)
      (by rw [h1]; show (subst 92 [92, 92] v).toArray.size ≤ 5000; simp; lia) (by rw [h1, h2]; show (escL v).toArray.size ≤ 9000; unfold escL; simp; lia)
    rw [h1, h2] at key
    have e : Str.empty ++ Str.ofString "k" ++ Str.ofString "=\"" ++ SL (escL v) ++ Str.ofString "\"" = SL (fparam v) := by
      refine sl_of _ _ ?_
      unfold fparam
      rw [if_neg hv]
      simp [str_append_toList]
      rfl
    rw [e] at key
    exact key
theorem okB_iff (c : Nat) : okB c = true ↔ okS c := by
  unfold okB okS
  simp [or_assoc]
theorem quote_spec (v : List Nat) (t : Tok) (hl : v.length ≤ 900) (hs : ∀ c ∈ v, okS c ∨ badS c) :
   Spec w p loose mean mg mb 10 50 772 [.str (SL v) t] news (fun r news' => ∃ t', r = .str (SL (quoteL v)) t' ∧ news' = news) := by
  by_cases hv : v = []
  · subst hv
    exact quote_empty (SL []) t rfl
  · have hpos : 0 < v.length := List.length_pos_iff.mpr hv
    have hsz : (SL v).length = v.length := by show v.toArray.size = _; simp
    by_cases ha : v.all okB = true
    · have e : quoteL v = v := by unfold quoteL; rw [if_neg hv, if_pos ha]
      rw [e]
      exact quote_safe (SL v) t (by lia) (by lia) (fun c hc => (okB_iff c).mp (List.all_eq_true.mp ha c (by simpa using hc)))
    · have e : quoteL v = [39] ++ subst 39 [39, 34, 39, 34, 39] v ++ [39] := by unfold quoteL; rw [if_neg hv, if_neg ha]
      have h1 : Txt.replace (SL v) (Str.ofString "'") (Str.ofString "'\"'\"'") = SL (subst 39 [39, 34, 39, 34, 39] v) := rep_sl v [39, 34, 39, 34, 39] 39
      have l1 := subst_length 39 [39, 34, 39, 34, 39] 5 (by decide) (by decide) v
      have key := quote_bad (w := w) (p := p) (loose := loose) (mean := mean) (mg := mg) (mb := mb) (news := news) (SL v) t (by lia) (by lia) (fun c hc => hs c (by simpa using hc)) (by
        obtain ⟨c, hc, hn⟩ : ∃ c ∈ v, okB c = false := by simpa using ha
        refine ⟨c, by simpa using hc, (hs c hc).resolve_left fun h => ?_⟩
        rw [(okB_iff c).mpr h] at hn; cases hn) (by rw [h1]; show (subst 39 [39, 34, 39, 34, 39] v).toArray.size ≤ 5000; simp; lia)
      rw [h1] at key
      have e2 : Str.ofString "'" ++ SL (subst 39 [39, 34, 39, 34, 39] v) ++ Str.ofString "'" = SL (quoteL v) := by
        refine sl_of _ _ ?_
        rw [e]
        simp [str_append_toList]
        rfl
      rw [e2] at key
      exact key
end

end

section
/-! sorted over texts -/
theorem Vals.strs {ts : List (List Nat)} {vs : List Value} (h : Vals ts vs) : StrsAre vs (ts.map SL) := by
  induction h with
  | nil => exact .nil
  | cons _ ih => exact .cons _ _ ih
theorem vals_of_strs {vs : List Value} {ss : List Str} (h : StrsAre vs ss) : Vals (ss.map fun s => s.cps.toList) vs := by
  induction h with
  | nil => exact .nil
  | cons x t _ ih => exact Vals.cons (t := x.cps.toList) (k := t) ih
theorem rising_pairwise : ∀ (q : Str) (l : List Str), risingS q l = true → (∀ x ∈ l, ¬ x.cps.toList < q.cps.toList) ∧ l.Pairwise (fun a b => ¬ b.cps.toList < a.cps.toList)
  | _, [], _ => ⟨(fun _ h => nomatch h), List.Pairwise.nil⟩
  | q, x :: r, h => by
    unfold risingS at h
    have h' := h
    rw [Bool.and_eq_true] at h'
    obtain ⟨h1, h2⟩ := h'
    obtain ⟨a, b⟩ := rising_pairwise x r h2
    have hx : ¬ x.cps.toList < q.cps.toList := by
      rw [ltCps_eq] at h1
      simpa using h1
    refine ⟨fun y hy => ?_, List.pairwise_cons.mpr ⟨a, b⟩⟩
    rcases List.mem_cons.mp hy with rfl | hy
    · exact hx
    · intro hlt
      have h3 := a y hy
      have e1 : x.cps.toList ≤ y.cps.toList := List.not_lt.mp h3
      have e2 : q.cps.toList ≤ x.cps.toList := List.not_lt.mp hx
      exact (List.not_lt.mpr (List.le_trans e2 e1)) hlt
section
variable {prog : Program} {w : World} {A : Around} {E : Value → Shared → Prop} {s : Shared} {h₀ : Heap} {L : Addr} {m : Str → Option Value} {news : List (Addr × Obj)}
theorem sort_vals {l : Addr} {vs : List Value} {ts : List (List Nat)} {c : Nat} {Q : Value → Shared → Prop} (F : Fr h₀ L s.heap m) (N : News h₀ L s.heap news) (hm : (l, listObj vs.toArray c) ∈ news) (hv : Vals ts vs) (h64 : ts.length < 64)
    (h : ∀ D h' vs' ts' e, Fr h₀ L h' m → News h₀ L h' ((D, listObj vs'.toArray e) :: news) → (∀ q ∈ news, q.1 < D) → Vals ts' vs' → ts'.Perm ts → ts'.Pairwise (fun a b => ¬ b < a) → Q (.ref D) { s with heap := h' }) :
    wpAny (model prog w) A (call (.builtin "sorted") [.ref l]) Q E s := by
  refine sorted_N_str F N (N.isList hm) hv.strs (by rw [hv.length]; exact h64) fun h' vs' ss' e F' N' a1 a2 a3 => ?_
  refine h _ h' vs' (ss'.map fun s => s.cps.toList) e F' N' (fun q hq => Nat.lt_succ_of_lt (Heap.lt_size (N q hq).1)) (vals_of_strs a1) ?_ ?_
  · have := a2.map (fun s : Str => s.cps.toList)
    simpa [List.map_map, Function.comp_def] using this
  · rw [List.pairwise_map]
    cases ss' with
    | nil => exact .nil
    | cons x r => exact List.pairwise_cons.mpr (rising_pairwise x r a3)
end

end

section
/-- the grounds of a frame whose callees catch -/
def Gd (w : World) (p : Program) (loose : List Str) (mean : ExcName → Option Value) (mg mb : Str → Option Value) (A₀ : Around) (base : Heap) (outer : List Env) (g0 g : Heap) : Prop :=
  Below A₀ base outer g ∧ (Mine.hd.heap_1 w.params).In g ∧ Top p loose mean mg mb g ∧ KtsDicts (outer.filterMap (·.frame)) g ∧ KtsTurn (outer.filterMap (·.frame)) g0 g
/-- sorted writings of the words ws -/
def SortedOf (f : List Nat → List Nat) (ws : List (List Nat)) (xs : List Value) : Prop := ∃ ts, Vals ts xs ∧ ts.Perm (ws.map f) ∧ ts.Pairwise (fun a b => ¬ b < a)
def IsStrs (nw : List (Addr × Obj)) (v : Value) (ts : List (List Nat)) : Prop := ∃ a vs c, v = .ref a ∧ (a, listObj vs.toArray c) ∈ nw ∧ Vals ts vs
inductive AllP {α : Type} (P : Value → α → Prop) : List Value → List α → Prop where
  | nil : AllP P [] []
  | cons {v a vs as} : P v a → AllP P vs as → AllP P (v :: vs) (a :: as)
theorem AllP.imp {α : Type} {P P' : Value → α → Prop} (h : ∀ v a, P v a → P' v a) {vs : List Value} {as : List α} (x : AllP P vs as) : AllP P' vs as := by
  induction x with
  | nil => exact .nil
  | cons hp _ ih => exact .cons (h _ _ hp) ih
theorem AllP.snoc {α : Type} {P : Value → α → Prop} {vs : List Value} {as : List α} {v : Value} {a : α} (x : AllP P vs as) (hp : P v a) : AllP P (vs ++ [v]) (as ++ [a]) := by
  induction x with
  | nil => exact .cons hp .nil
  | cons h _ ih => exact .cons h ih
theorem AllP.length {α : Type} {P : Value → α → Prop} {vs : List Value} {as : List α} (x : AllP P vs as) : vs.length = as.length := by
  induction x with
  | nil => rfl
  | cons _ _ ih => simp [ih]
def IsRows (nw : List (Addr × Obj)) (v : Value) (tss : List (List (List Nat))) : Prop := ∃ a vs c, v = .ref a ∧ (a, listObj vs.toArray c) ∈ nw ∧ AllP (IsStrs nw) vs tss
theorem IsStrs.mono {nw nw' : List (Addr × Obj)} {v : Value} {ts : List (List Nat)} (h : ∀ q ∈ nw, q ∈ nw') (x : IsStrs nw v ts) : IsStrs nw' v ts := by
  obtain ⟨a, vs, c, rfl, hm, hv⟩ := x
  exact ⟨a, vs, c, rfl, h _ hm, hv⟩
theorem IsRows.mono {nw nw' : List (Addr × Obj)} {v : Value} {tss : List (List (List Nat))} (h : ∀ q ∈ nw, q ∈ nw') (x : IsRows nw v tss) : IsRows nw' v tss := by
  obtain ⟨a, vs, c, rfl, hm, hv⟩ := x
  exact ⟨a, vs, c, rfl, h _ hm, hv.imp fun _ _ => IsStrs.mono h⟩
def IsNest (nw : List (Addr × Obj)) (v : Value) (t3 : List (List (List (List Nat)))) : Prop := ∃ a vs c, v = .ref a ∧ (a, listObj vs.toArray c) ∈ nw ∧ AllP (IsRows nw) vs t3
theorem Vals.snoc {ts : List (List Nat)} {vs : List Value} {t : List Nat} {k : Tok} (h : Vals ts vs) : Vals (ts ++ [t]) (vs ++ [.str (SL t) k]) := h.append Vals.one
theorem take_snoc {α : Type} {l : List α} {i : Nat} {x : α} (h : l[i]? = some x) : l.take (i + 1) = l.take i ++ [x] := by
  rw [List.take_succ, h]; rfl
theorem off3_cons {I C D t : Addr} {o : Obj} {nw : List (Addr × Obj)} (h1 : I < t) (h2 : C < t) (h3 : D < t) (off : LCg.Off3 I C D nw) : LCg.Off3 I C D ((t, o) :: nw) := ⟨⟨Nat.ne_of_gt h1, Nat.ne_of_gt h2, Nat.ne_of_gt h3⟩, off⟩
def joinL : List (List Nat) → List Nat
  | [] => []
  | [x] => x
  | x :: y :: r => x ++ [32] ++ joinL (y :: r)
theorem join_sl : ∀ l : List (List Nat), Str.join (Str.ofString " ") (l.map SL) = SL (joinL l)
  | [] => rfl
  | [x] => rfl
  | x :: y :: r => by
    have ih := join_sl (y :: r)
    show (SL x ++ Str.ofString " ") ++ Str.join (Str.ofString " ") ((y :: r).map SL) = _
    rw [ih]
    show (⟨(x.toArray ++ #[32]) ++ (joinL (y :: r)).toArray⟩ : Str) = ⟨(x ++ [32] ++ joinL (y :: r)).toArray⟩
    simp
theorem txt_join (l : List (List Nat)) : Txt.join (Str.ofString " ") (l.map SL) = SL (joinL l) := by
  show Builtin.Str.glued _ _ = _
  rw [StrLaws.glued_eq_join]
  exact join_sl l
theorem strict_of {ts : List (List Nat)} (hn : ts.Nodup) (h : ts.Pairwise (fun a b => ¬ b < a)) : ts.Pairwise (· < ·) := by
  have hn' : ts.Pairwise (fun a b => a ≠ b) := hn
  refine (List.pairwise_and_iff.mpr ⟨h, hn'⟩).imp ?_
  intro a b hab
  obtain ⟨h1, h2⟩ := hab
  have h3 : a ≤ b := List.not_lt.mp h1
  exact Std.lt_of_le_of_ne h3 h2
/-- holds a goal back from the walk -/
def Hold (P : Prop) : Prop := P
theorem hold {P : Prop} (h : Hold P) : P := h
theorem unhold {P : Prop} (h : P) : Hold P := h
theorem off1_mem {D : Addr} : ∀ {l : List (Addr × Obj)}, LCg.Off1 D l → ∀ q ∈ l, q.1 ≠ D
  | [], _, _, h => nomatch h
  | _ :: _, x, q, h => by
    rcases List.mem_cons.mp h with rfl | h
    · exact x.1
    · exact off1_mem x.2 q h
theorem news_skip2 {h₀ : Heap} {L : Addr} {h : Heap} {a b c : Addr × Obj} {l : List (Addr × Obj)} (N : News h₀ L h (a :: b :: c :: l)) : News h₀ L h (a :: l) := fun q hq => by
  rcases List.mem_cons.mp hq with rfl | hq
  · exact N _ (.head _)
  · exact N _ (.tail _ (.tail _ (.tail _ hq)))
theorem news_skip1 {h₀ : Heap} {L : Addr} {h : Heap} {a b : Addr × Obj} {l : List (Addr × Obj)} (N : News h₀ L h (a :: b :: l)) : News h₀ L h (a :: l) := fun q hq => by
  rcases List.mem_cons.mp hq with rfl | hq
  · exact N _ (.head _)
  · exact N _ (.tail _ (.tail _ hq))
theorem news_skip4 {h₀ : Heap} {L : Addr} {h : Heap} {a b c d e : Addr × Obj} {l : List (Addr × Obj)} (N : News h₀ L h (a :: b :: c :: d :: e :: l)) : News h₀ L h (a :: l) := news_skip2 (news_skip2 N)
theorem news_skip6 {h₀ : Heap} {L : Addr} {h : Heap} {a b c d e f g : Addr × Obj} {l : List (Addr × Obj)} (N : News h₀ L h (a :: b :: c :: d :: e :: f :: g :: l)) : News h₀ L h (a :: l) := news_skip2 (news_skip4 N)
/-! a ledger's rows put in another order, each shape once -/
section
variable {g : Heap} {L : Addr} {h : Heap} {a b c d e i x y s : Addr × Obj} {l ex : List (Addr × Obj)}
theorem news_rot3 (N : News g L h (x :: i :: c :: d :: l)) : News g L h (i :: c :: d :: x :: l) := fun q hq => N q (by
  simp only [List.mem_cons] at hq ⊢
  rcases hq with h | h | h | h | h <;> simp [h])
theorem news_mid3 (N : News g L h (x :: (ex ++ (s :: i :: c :: d :: l)))) : News g L h (i :: c :: d :: x :: (ex ++ (s :: l))) := fun q hq => N q (by
  simp only [List.mem_cons, List.mem_append] at hq ⊢
  rcases hq with h | h | h | h | h | h | h <;> simp [h])
theorem news_mid6 (N : News g L h (x :: (ex ++ (a :: b :: e :: i :: c :: d :: l)))) : News g L h (i :: c :: d :: x :: (ex ++ l)) := fun q hq => N q (by
  simp only [List.mem_cons, List.mem_append] at hq ⊢
  rcases hq with h | h | h | h | h | h <;> simp [h])
theorem news_front4 (N : News g L h (i :: c :: d :: (ex ++ (a :: b :: x :: y :: l)))) : News g L h (a :: b :: x :: y :: i :: c :: d :: (ex ++ (a :: b :: x :: y :: l))) := fun q hq => N q (by
  simp only [List.mem_cons, List.mem_append] at hq ⊢
  rcases hq with h | h | h | h | h | h | h | h | h | h | h | h | h <;> simp [h])
theorem news_rot9 (N : News g L h (x :: y :: a :: b :: e :: s :: i :: c :: d :: l)) : News g L h (i :: c :: d :: x :: y :: l) := fun q hq => N q (by
  simp only [List.mem_cons] at hq ⊢
  rcases hq with h | h | h | h | h | h <;> simp [h])
end

end

section
inductive Zip2 {α β : Type} (P : α → β → Prop) : List α → List β → Prop where
  | nil : Zip2 P [] []
  | cons {a b as bs} : P a b → Zip2 P as bs → Zip2 P (a :: as) (b :: bs)
theorem Zip2.length {α β : Type} {P : α → β → Prop} {as : List α} {bs : List β} (h : Zip2 P as bs) : as.length = bs.length := by
  induction h with
  | nil => rfl
  | cons _ _ ih => simp [ih]
theorem Zip2.get {α β : Type} {P : α → β → Prop} {as : List α} {bs : List β} (h : Zip2 P as bs) : ∀ (i : Nat) (a : α), as[i]? = some a → ∃ b, bs[i]? = some b ∧ P a b := by
  induction h with
  | nil => intro i a e; simp at e
  | @cons a0 b0 as bs hp _ ih =>
    intro i a e
    cases i with
    | zero => simp at e; subst e; exact ⟨b0, rfl, hp⟩
    | succ i => simpa using ih i a (by simpa using e)
/-- split(' '.join(side)), and split of each token: rd -/
def Reads (side : List (List Nat)) (rd : List (List (List Nat))) : Prop :=
  ∃ tks, Toks .sp (joinL side) tks ∧ (joinL side).length ≤ 5000 ∧ tks.length ≤ 1000 ∧ (side.map (·.length)).sum + side.length ≤ 100000 ∧ Zip2 (fun tk r => Toks .sp tk r ∧ tk.length ≤ 5000 ∧ r.length ≤ 1000) tks rd
/-- the same with the header outside: [text[:2]] + split(text[2:]) for each token -/
def Reads2 (side : List (List Nat)) (rd : List (List (List Nat))) : Prop :=
  ∃ tks, Toks .sp (joinL side) tks ∧ (joinL side).length ≤ 5000 ∧ tks.length ≤ 1000 ∧ (side.map (·.length)).sum + side.length ≤ 100000 ∧ Zip2 (fun tk r => ∃ r', Toks .sp (tk.drop 2) r' ∧ r = tk.take 2 :: r' ∧ 2 ≤ tk.length ∧ tk.length ≤ 5000 ∧ r'.length ≤ 900) tks rd

end
local macro_rules | `(tactic| walk_at "exec Assign cons ListComp") => `(tactic| k_extra "my assign")
local macro_rules | `(tactic| walk_at "eval ListComp") => `(tactic| k_extra "my comp")
local macro_rules | `(tactic| walk_at "call builtin:str.join") => `(tactic| k_extra "my join")
local macro_rules | `(tactic| walk_at "call builtin:sorted") => `(tactic| k_extra "my sorted")

section
def shellT (x : List Nat) : List Nat := quoteL (fparam x)
section
variable {w : World} {p : Program} {loose : List Str} {mean : ExcName → Option Value} {mg mb : Str → Option Value}
theorem with_shell {R r0 r1 : Addr} {w0 w1 : List (List Nat)} {v0 v1 : List Value} {c c0 c1 : Nat} {news : List (Addr × Obj)} {rd0 rd1 : List (List (List Nat))} (h0 : Vals w0 v0) (h1 : Vals w1 v1) (l0 : w0.length < 64) (l1 : w1.length < 64)
   (b0 : ∀ x ∈ w0, x.length ≤ 200 ∧ (fparam x).length ≤ 900 ∧ ∀ d ∈ fparam x, okS d ∨ badS d) (b1 : ∀ x ∈ w1, x.length ≤ 200 ∧ (fparam x).length ≤ 900 ∧ ∀ d ∈ fparam x, okS d ∨ badS d)
   (n0 : (w0.map shellT).Nodup) (n1 : (w1.map shellT).Nodup) (e0 : w0 ≠ []) (e1 : w1 ≠ [])
   (hrd : ∀ ts0 ts1 : List (List Nat), ts0.Perm (w0.map shellT) → ts1.Perm (w1.map shellT) → ts0.Pairwise (· < ·) → ts1.Pairwise (· < ·) → Reads (sdL ts0 ts1).1 rd0 ∧ Reads (sdL ts0 ts1).2 rd1) :
   SpecX w p loose mean mg mb 60 400 (.ref 794) [.ref R] ((R, listObj #[.ref r0, .ref r1] c) :: (r0, listObj v0.toArray c0) :: (r1, listObj v1.toArray c1) :: news)
     (fun v news' => IsNest news' v [rd0, rd1] ∧ ∀ q ∈ (R, listObj #[.ref r0, .ref r1] c) :: (r0, listObj v0.toArray c0) :: (r1, listObj v1.toArray c1) :: news, q ∈ news') := by
  unfold SpecX
  k_fill
  intro dp un gd cn cs a ccd outer A₀ base h₀ L m s Q E hB hF hX hN hT hXB hTB hD hcs hdp hun hret
  refine wpAny_call ?_
  k_dflt (refine' code_defS ?k1 ?k2 ?k3 ?k4 ?k5 ?XB ?TB ?D ?T0 ?kA ?k6 ?k7 ?k8 ?k9 ?kB ?_ ?cK ?c2 ?c3 ?c4 ?c5; (case kA => exact rfl); (case k2 => k_asm); (case k1 => k_asm); (case XB => assumption); (case TB => assumption); (case D => assumption); (case T0 => exact KtsTurn.refl); (case k3 => k_asm); (case k4 => k_asm); (case k5 => k_asm); (case k6 => k_is); (case k7 => k_is); (case k8 => k_room); (case k9 => first | exact BindsTo.of_eq rfl | exact binds_K (hX.keeps hF.keep) rfl (by k_is) rfl rfl rfl); (case kB => exact locs rfl); (case cK => first | assumption | exact rfl); (case c2 => exact rfl); (case c3 => exact rfl); (case c4 => exact rfl); (case c5 => decide); k_whole; intro g' L' h' FG' F' N' B' X' T' D'; (try dsimp only); (try k_fold))
  refine wpAny_noRaise ?_
  k_with_none
  k_with "my assign" => (k_dflt (refine compA (by with_unfolding_all rfl) (by rfl) (by rfl) (by decide) ?_))
  k_with "my comp" => (k_dflt (refine compE (by rfl) (by rfl) (by decide) ?_))
  k_steps
  k_dflt (refine' xgo_list (g := g') (G := Gd w p loose mean mg mb (ktrTop dp un gd cn cs L a ccd [] outer) base (envX cn cs L a ccd [] :: outer) g') (J := fun i ys nw => (∀ q ∈ (R, listObj #[.ref r0, .ref r1] c) :: (r0, listObj v0.toArray c0) :: (r1, listObj v1.toArray c1) :: news, q ∈ nw) ∧ ∃ ts : List (List (List Nat)), ts = [w0, w1].take i ∧ AllP (fun v ws => ∃ t xs e, v = .ref t ∧ (t, listObj xs.toArray e) ∈ nw ∧ SortedOf shellT ws xs) ys ts) (c := c) rfl ⟨B', X', T', D', KtsTurn.refl⟩ ?F1 ?N1 ?m1 ?s1 (by decide) (by rfl) (by rfl) ⟨fun q hq => hq, [], rfl, .nil⟩ ?R1 ?RR1)
  case F1 => k_asm
  case N1 => k_asm
  case m1 => exact .head _
  case s1 => show 2 ≤ 16777216; decide
  case R1 =>
    intro i ys nw hi hS hJ g v I oI C oC D m₂ h tk E' hG hP hC hm F N off ne
    refine hideG ?_
    intro G9
    obtain ⟨hsub, ts, rfl, hall⟩ := hJ
    obtain ⟨hBg, hXg, hTg, hDg, hKg⟩ := hG
    obtain ⟨rr, vv, ww, cc, rfl, hrr, hvv, hll, hbb, htk⟩ : ∃ rr vv ww cc, v = .ref rr ∧ (rr, listObj vv.toArray cc) ∈ nw ∧ Vals ww vv ∧ ww.length < 64 ∧ (∀ x ∈ ww, x.length ≤ 200 ∧ (fparam x).length ≤ 900 ∧ ∀ d ∈ fparam x, okS d ∨ badS d) ∧ [w0, w1].take (i + 1) = [w0, w1].take i ++ [ww] := by
      have hi2 : i < 2 := hi
      rcases i with _ | _ | i
      · exact ⟨r0, v0, w0, c0, (Option.some.inj hP).symm, hsub _ (.tail _ (.head _)), h0, l0, b0, rfl⟩
      · exact ⟨r1, v1, w1, c1, (Option.some.inj hP).symm, hsub _ (.tail _ (.tail _ (.head _))), h1, l1, b1, rfl⟩
      · lia
    k_unfold
    refine wpAny_tests_nil ?_
    simp only [if_true]
    refine wpAny_noRaise ?_
    k_with_none
    k_with "my comp" => (k_dflt (refine compE (by rfl) (by rfl) (by decide) ?_))
    k_with "my sorted" => (k_dflt (refine sort_vals (by k_asm) (by k_asm) (.head _) (by assumption) (by assumption) ?_); intro D8 h8 vs8 ts8 e8 F8 N8 l8 hv8 hp8 hs8)
    k_steps
    k_dflt (refine' xgo_list (g := g) (G := fun gg => gg = g) (J := fun j zs nw2 => nw2 = (I, oI) :: (C, oC) :: (D, LCg.lst ys) :: nw ∧ Vals ((ww.take j).map shellT) zs) (c := cc) rfl rfl ?F2 ?N2 ?m2 ?s2 (by decide) (by rfl) (by rfl) ⟨rfl, .nil⟩ ?R2 ?RR2)
    case F2 => k_asm
    case N2 => k_asm
    case m2 => exact .tail _ (.tail _ (.tail _ hrr))
    case s2 => show vv.toArray.size ≤ 16777216; rw [List.size_toArray, hvv.length]; lia
    case R2 =>
      intro j zs nw2 hj hS2 hJ2 g2 v2 I2 oI2 C2 oC2 D2 m3 h2 tk2 E2 hG2 hP2 hC2 hm2 F2 N2 off2 ne2
      obtain ⟨rfl, hz⟩ := hJ2
      subst hG2
      have hj2 : j < ww.length := by have : j < vv.toArray.size := hj; rw [List.size_toArray, hvv.length] at this; exact this
      obtain ⟨x, hx⟩ : ∃ x, ww[j]? = some x := ⟨_, List.getElem?_eq_getElem hj2⟩
      obtain ⟨tx, hvx⟩ := hvv.get j x hx
      have hv2 : v2 = .str (SL x) tx := by
        have e1 : vv.toArray[j]? = some v2 := hP2
        have e2 : vv.toArray[j]? = some (.str (SL x) tx) := by simpa using hvx
        exact Option.some.inj (e1.symm.trans e2)
      subst hv2
      obtain ⟨bx1, bx2, bx3⟩ := hbb x (List.mem_of_getElem? hx)
      refine wpAny_tests_nil ?_
      simp only [if_true]
      refine wpAny_noRaise ?_
      k_with_none
      k_with "my call" => (k_dflt (first | (refine' Spec.use (fparam_spec x _ _ bx1) ?r1 ?r2 ?r3 ?r4 ?r5 ?r6 ?r7 ?r8 ?_; (case r1 => k_asm); (case r2 => k_asm); (case r3 => k_asm); (case r4 => k_asm); (case r5 => k_asm); (case r6 => exact rfl); (case r7 => k_room); (case r8 => k_units)) | (refine' Spec.use (quote_spec (fparam x) _ bx2 bx3) ?r1 ?r2 ?r3 ?r4 ?r5 ?r6 ?r7 ?r8 ?_; (case r1 => k_asm); (case r2 => k_asm); (case r3 => k_asm); (case r4 => k_asm); (case r5 => k_asm); (case r6 => exact rfl); (case r7 => k_room); (case r8 => k_units))); intro v9 n9 h9 tk9 F9 N9 P9; refine hideG ?_; intro G9; obtain ⟨t9, rfl, rfl⟩ := P9; k_unfold; (try dsimp only); (try k_fold))
      k_steps
      k_dflt (refine ⟨g2, _, _, _, rfl, rfl, ?F3, ?N3, off2, .tail _ (.tail _ (.tail _ hrr)), rfl, ?V3⟩)
      case F3 => k_asm
      case N3 => k_asm
      case V3 =>
        rw [take_snoc hx, List.map_append]
        exact hz.append Vals.one
    case RR2 =>
      intro g3 D3 C3 h3 tk3 m3 zs3 nw3 hG3 F3 N3 o3 hn3 hC3 hD3 hCL3 hDL3 hCD3 offC3 hJ3
      obtain ⟨rfl, hz3⟩ := hJ3
      subst hG3
      have hz4 : Vals (ww.map shellT) zs3 := by
        have e : vv.toArray.size = ww.length := by rw [List.size_toArray, hvv.length]
        rw [e, List.take_length] at hz3
        exact hz3
      have hl4 : (ww.map shellT).length < 64 := by rw [List.length_map]; exact hll
      k_dflt (refine finE1 F3 N3 hn3 hC3 hCL3 hCD3 offC3 ?_)
      intro h4 F4 N4
      k_steps
      k_dflt (refine sort_vals F4 N4 (c := zs3.length) (.head _) hz4 hl4 ?_)
      intro D5 h5 vs5 ts5 e5 F5 N5 l5 hv5 hp5 hs5
      k_steps
      k_dflt (refine ⟨g3, h5, _, (D5, listObj vs5.toArray e5) :: nw, rfl, ⟨hBg, hXg, hTg, hDg, hKg⟩, F5, ?N6, off3_cons (l5 _ (.tail _ (.head _))) (l5 _ (.tail _ (.tail _ (.head _)))) (l5 _ (.tail _ (.tail _ (.tail _ (.head _))))) off, .tail _ hS, fun q hq => .tail _ (hsub q hq), _, htk.symm, ?A6⟩)
      case N6 => exact news_rot3 (news_skip1 N5)
      case A6 =>
        refine AllP.snoc (hall.imp fun v ws hv => ?_) ⟨D5, vs5, e5, rfl, .head _, ts5, hv5, hp5, hs5⟩
        refine hideG ?_
        intro G9
        obtain ⟨t6, xs6, e6, a6, b6, c6⟩ := hv
        k_unfold
        exact ⟨t6, xs6, e6, a6, .tail _ b6, c6⟩
  case RR1 =>
    intro g3 D3 C3 h3 tk3 m3 zs3 nw3 hG3 F3 N3 o3 hn3 hC3 hD3 hCL3 hDL3 hCD3 offC3 hJ3
    refine hideG ?_
    intro G9
    obtain ⟨hsub3, ts3, hts3, hall3⟩ := hJ3
    obtain ⟨hBg, hXg, hTg, hDg, hKg⟩ := hG3
    obtain ⟨t0, x0, f0, t1, x1, f1, ts0, ts1, rfl, hm0, hm1, hx0, hx1, hp0, hp1, hs0, hs1⟩ : ∃ t0 x0 f0 t1 x1 f1 ts0 ts1, zs3 = [.ref t0, .ref t1] ∧ (t0, listObj x0.toArray f0) ∈ nw3 ∧ (t1, listObj x1.toArray f1) ∈ nw3 ∧ Vals ts0 x0 ∧ Vals ts1 x1 ∧ ts0.Perm (w0.map shellT) ∧ ts1.Perm (w1.map shellT) ∧ ts0.Pairwise (· < ·) ∧ ts1.Pairwise (· < ·) := by
      have e2 : ts3 = [w0, w1] := hts3
      subst e2
      cases hall3 with
      | cons a1 r1 =>
        cases r1 with
        | cons a2 r2 =>
          cases r2
          obtain ⟨t0, x0, f0, rfl, hm0, ts0, hv0, hp0, hs0⟩ := a1
          obtain ⟨t1, x1, f1, rfl, hm1, ts1, hv1, hp1, hs1⟩ := a2
          exact ⟨t0, x0, f0, t1, x1, f1, ts0, ts1, rfl, hm0, hm1, hv0, hv1, hp0, hp1, strict_of (hp0.nodup_iff.mpr n0) hs0, strict_of (hp1.nodup_iff.mpr n1) hs1⟩
    obtain ⟨hrA, hrB⟩ := hrd ts0 ts1 hp0 hp1 hs0 hs1
    k_unfold
    have ln0 : ts0.length = w0.length := by rw [hp0.length_eq, List.length_map]
    have ln1 : ts1.length = w1.length := by rw [hp1.length_eq, List.length_map]
    have ne0 : 0 < w0.length := List.length_pos_iff.mpr e0
    have ne1 : 0 < w1.length := List.length_pos_iff.mpr e1
    k_dflt (refine' finA1 ?e0 F3 N3 hn3 hC3 hCL3 hCD3 offC3 ?e1 ?e2 ?_; (case e0 => rfl); (case e1 => rfl); (case e2 => rfl))
    intro h4 tk4 F4 N4
    dsimp only
    k_with_none
    k_with "my comp" => (k_dflt (refine compE (by rfl) (by rfl) (by decide) ?_))
    k_with "my call" => (refine hold ?_)
    k_steps
    refine unhold ?_
    k_dflt (refine' SpecX.use (sld_spec (ea := t0) (aa := t1) (ce := f0) (ca := f1) (news := (D3, LCg.lst [.ref t0, .ref t1]) :: nw3) hx0 hx1 hs0 hs1 (by lia) (by lia) (by lia) (by lia)) hBg F4 hXg ?r4 hTg hXB hTB hDg rfl ?r10 ?r11 ?_)
    case r4 =>
      intro q hq
      simp only [List.mem_cons] at hq
      rcases hq with rfl | rfl | rfl | hq
      · exact N4 _ (.tail _ hm0)
      · exact N4 _ (.tail _ hm1)
      · exact N4 _ (.head _)
      · exact N4 _ (.tail _ hq)
    case r10 => k_room
    case r11 => k_units
    intro v5 n5 h5 tk5 g5 K5 B5 F5 X5 N5 P5 D5 Q5
    refine hideG ?_
    intro G9
    obtain ⟨T5, ma, ua, vm, vu, cm, cu, hvm, hvu, rfl, rfl⟩ := Q5
    k_unfold
    k_steps
    k_dflt (refine' xgo_tuple (g := g5) (G := Gd w p loose mean mg mb (ktrTop dp un gd cn cs L a ccd [] outer) base (envX cn cs L a ccd [] :: outer) g') (J := fun i ys nw => (∀ q ∈ (R, listObj #[.ref r0, .ref r1] c) :: (r0, listObj v0.toArray c0) :: (r1, listObj v1.toArray c1) :: news, q ∈ nw) ∧ (ma, listObj vm.toArray cm) ∈ nw ∧ (ua, listObj vu.toArray cu) ∈ nw ∧ AllP (IsRows nw) ys ([rd0, rd1].take i)) (c := 0) rfl ⟨B5, X5, P5, D5, hKg.trans K5⟩ F5 N5 (.head _) ?s5 (by decide) (by rfl) (by rfl) ⟨fun q hq => .tail _ (.tail _ (.tail _ (.tail _ (.tail _ (.tail _ (hsub3 q hq)))))), .tail _ (.head _), .tail _ (.tail _ (.head _)), .nil⟩ ?R5 ?RR5)
    case s5 => show 2 ≤ 16777216; decide
    case R5 =>
      intro i ys nw hi hS hJ g v I oI C oC D m₂ h tk E' hG hP hC hm F N off ne
      refine hideG ?_
      intro G9
      obtain ⟨hsub, hma, hua, hall⟩ := hJ
      obtain ⟨hBi, hXi, hTi, hDi, hKi⟩ := hG
      obtain ⟨sa, sv, side, sc, rd, rfl, hsa, hsv, hRd, htk⟩ : ∃ sa sv side sc rd, v = .ref sa ∧ (sa, listObj sv.toArray sc) ∈ nw ∧ Vals side sv ∧ Reads side rd ∧ [rd0, rd1].take (i + 1) = [rd0, rd1].take i ++ [rd] := by
        have hi2 : i < 2 := hi
        rcases i with _ | _ | i
        · exact ⟨ma, vm, _, cm, rd0, (Option.some.inj hP).symm, hma, hvm, hrA, rfl⟩
        · exact ⟨ua, vu, _, cu, rd1, (Option.some.inj hP).symm, hua, hvu, hrB, rfl⟩
        · lia
      obtain ⟨tks, hT1, hl1, hl2, hw, hz⟩ := hRd
      k_unfold
      refine wpAny_tests_nil ?_
      simp only [if_true]
      refine wpAny_noRaise ?_
      k_with_none
      k_with "my comp" => (k_dflt (refine compE (by rfl) (by rfl) (by decide) ?_))
      k_with "my call" => (refine hold ?_)
      k_with "my join" => (refine hold ?_)
      k_steps
      refine unhold ?_
      k_dflt (refine join_listW (N.isList (.tail _ (.tail _ (.tail _ hsa)))) hsv.strs (by decide) ?w5 ?_)
      case w5 =>
        have e : ((side.map SL).map (·.length)) = side.map (·.length) := by rw [List.map_map]; congr 1
        rw [e, List.length_map]; lia
      intro t6 tk6'
      rw [txt_join]
      k_steps
      refine unhold ?_
      k_dflt (refine' SpecX.use (split_spec (SL (joinL side)) _ _ ?b6 hT1 hl2) hBi F hXi N hTi hXB hTB hDi rfl ?r10 ?r11 ?_)
      case b6 => show (joinL side).toArray.size ≤ 5000; simpa using hl1
      case r10 => k_room
      case r11 => k_units
      intro v6 n6 h6 tk6 g6 K6 B6 F6 X6 N6 P6 D6 Q6
      refine hideG ?_
      intro G9
      obtain ⟨S6, vs6, c6, hv6, rfl, rfl, hl6⟩ := Q6
      k_unfold
      k_steps
      k_dflt (refine' xgo_list (g := g6) (G := Gd w p loose mean mg mb (ktrTop dp un gd cn cs L a ccd [] outer) base (envX cn cs L a ccd [] :: outer) g') (J := fun j zs nw2 => ∃ exx, nw2 = exx ++ ((S6, listObj vs6.toArray c6) :: (I, oI) :: (C, oC) :: (D, LCg.lst ys) :: nw) ∧ (∀ q ∈ exx, I < q.1 ∧ C < q.1 ∧ D < q.1) ∧ AllP (IsStrs exx) zs (rd.take j)) (c := c6) rfl ⟨B6, X6, P6, D6, hKi.trans K6⟩ F6 N6 (.head _) ?s6 (by decide) (by rfl) (by rfl) ⟨[], rfl, (fun _ h => nomatch h), .nil⟩ ?R6 ?RR6)
      case s6 => show vs6.toArray.size ≤ 16777216; rw [List.size_toArray, hv6.length]; lia
      case R6 =>
        intro j zs nw2 hj hS2 hJ2 g2 v2 I2 oI2 C2 oC2 D2 m3 h2 tk2 E2 hG2 hP2 hC2 hm2 F2 N2 off2 ne2
        refine hideG ?_
        intro G9
        obtain ⟨exx, rfl, hex, hzs⟩ := hJ2
        obtain ⟨hBj, hXj, hTj, hDj, hKj⟩ := hG2
        k_unfold
        have hj2 : j < tks.length := by have : j < vs6.toArray.size := hj; rw [List.size_toArray, hv6.length] at this; exact this
        obtain ⟨x, hx⟩ : ∃ x, tks[j]? = some x := ⟨_, List.getElem?_eq_getElem hj2⟩
        obtain ⟨tx, hvx⟩ := hv6.get j x hx
        have hv2 : v2 = .str (SL x) tx := by
          have e1 : vs6.toArray[j]? = some v2 := hP2
          have e2 : vs6.toArray[j]? = some (.str (SL x) tx) := by simpa using hvx
          exact Option.some.inj (e1.symm.trans e2)
        subst hv2
        refine hideG ?_
        intro G9
        obtain ⟨r, hr, hTr, hxl, hrl⟩ := hz.get j x hx
        k_unfold
        refine wpAny_tests_nil ?_
        simp only [if_true]
        refine wpAny_noRaise ?_
        k_with_none
        k_with "my call" => (refine hold ?_)
        k_steps
        refine unhold ?_
        k_dflt (refine' SpecX.use (split_spec (SL x) _ _ ?b7 hTr hrl) hBj F2 hXj N2 hTj hXB hTB hDj rfl ?r10 ?r11 ?_)
        case b7 => show x.toArray.size ≤ 5000; simpa using hxl
        case r10 => k_room
        case r11 => k_units
        intro v7 n7 h7 tk7 g7 K7 B7 F7 X7 N7 P7 D7 Q7
        refine hideG ?_
        intro G9
        obtain ⟨S7, vs7, c7, hv7, rfl, rfl, hl7⟩ := Q7
        k_unfold
        k_steps
        k_dflt (refine ⟨g7, h7, _, (S7, listObj vs7.toArray c7) :: (exx ++ ((S6, listObj vs6.toArray c6) :: (I, oI) :: (C, oC) :: (D, LCg.lst ys) :: nw)), rfl, ⟨B7, X7, P7, D7, hKj.trans K7⟩, F7, ?N8, off3_cons (hl7 _ (.head _)) (hl7 _ (.tail _ (.head _))) (hl7 _ (.tail _ (.tail _ (.head _)))) off2, .tail _ hS2, (S7, listObj vs7.toArray c7) :: exx, rfl, ?h8, ?A8⟩)
        case N8 => exact news_rot3 N7
        case h8 =>
          intro q hq
          rcases List.mem_cons.mp hq with rfl | hq
          · have a1 : (I, oI) ∈ exx ++ ((S6, listObj vs6.toArray c6) :: (I, oI) :: (C, oC) :: (D, LCg.lst ys) :: nw) := by simp
            have a2 : (C, oC) ∈ exx ++ ((S6, listObj vs6.toArray c6) :: (I, oI) :: (C, oC) :: (D, LCg.lst ys) :: nw) := by simp
            have a3 : (D, LCg.lst ys) ∈ exx ++ ((S6, listObj vs6.toArray c6) :: (I, oI) :: (C, oC) :: (D, LCg.lst ys) :: nw) := by simp
            exact ⟨hl7 _ (.tail _ (.tail _ (.tail _ a1))), hl7 _ (.tail _ (.tail _ (.tail _ a2))), hl7 _ (.tail _ (.tail _ (.tail _ a3)))⟩
          · exact hex q hq
        case A8 =>
          rw [take_snoc hr]
          refine AllP.snoc (hzs.imp fun v ts hv => hv.mono fun q hq => .tail _ hq) ⟨S7, vs7, c7, rfl, .head _, hv7⟩
      case RR6 =>
        intro g3 D4 C3 h3 tk3 m3 zs3 nw4 hG3 F3 N3 o3 hn3 hC3 hD3 hCL3 hDL3 hCD3 offC3 hJ3
        refine hideG ?_
        intro G9
        obtain ⟨exx, rfl, hex, hzs⟩ := hJ3
        k_unfold
        have hzs2 : AllP (IsStrs exx) zs3 rd := by
          have e : vs6.toArray.size = rd.length := by rw [List.size_toArray, hv6.length, hz.length]
          rw [e, List.take_length] at hzs
          exact hzs
        have hD4 : ∀ q ∈ exx ++ ((S6, listObj vs6.toArray c6) :: (I, oI) :: (C, oC) :: (D, LCg.lst ys) :: nw), q.1 ≠ D4 := off1_mem o3
        k_dflt (refine finE1 F3 N3 hn3 hC3 hCL3 hCD3 offC3 ?_)
        intro h4 F4 N4
        k_steps
        k_dflt (refine ⟨g3, h4, _, (D4, LCg.lst zs3) :: (exx ++ ((S6, listObj vs6.toArray c6) :: nw)), rfl, hG3, F4, ?N9, ?O9, ?S9, ?B9, ?M9, ?U9, ?A9⟩)
        case N9 => exact news_mid3 N4
        case O9 =>
          refine LCg.Off3.of fun q hq => ?_
          simp only [List.mem_cons, List.mem_append] at hq
          rcases hq with rfl | h | rfl | h
          · exact ⟨fun e => hD4 (I, oI) (by simp) e.symm, fun e => hD4 (C, oC) (by simp) e.symm, fun e => hD4 (D, LCg.lst ys) (by simp) e.symm⟩
          · have := hex q h
            exact ⟨Nat.ne_of_gt this.1, Nat.ne_of_gt this.2.1, Nat.ne_of_gt this.2.2⟩
          · exact ⟨Nat.ne_of_gt (hl6 _ (.head _)), Nat.ne_of_gt (hl6 _ (.tail _ (.head _))), Nat.ne_of_gt (hl6 _ (.tail _ (.tail _ (.head _))))⟩
          · exact off.mem q h
        case S9 => exact .tail _ (List.mem_append_right _ (.tail _ hS))
        case B9 => exact fun q hq => .tail _ (List.mem_append_right _ (.tail _ (hsub q hq)))
        case M9 => exact .tail _ (List.mem_append_right _ (.tail _ hma))
        case U9 => exact .tail _ (List.mem_append_right _ (.tail _ hua))
        case A9 =>
          rw [htk]
          refine AllP.snoc (hall.imp fun v ts hv => hv.mono fun q hq => .tail _ (List.mem_append_right _ (.tail _ hq))) ⟨D4, zs3, zs3.length, rfl, .head _, hzs2.imp fun v ts hv => hv.mono fun q hq => .tail _ (List.mem_append_left _ hq)⟩
    case RR5 =>
      intro g3 D4 C3 h3 tk3 m3 zs3 nw4 hG3 F3 N3 o3 hn3 hC3 hD3 hCL3 hDL3 hCD3 offC3 hJ3
      refine hideG ?_
      intro G9
      obtain ⟨hsub, hma, hua, hall⟩ := hJ3
      obtain ⟨hBi, hXi, hTi, hDi, hKi⟩ := hG3
      k_unfold
      k_dflt (refine finE1 F3 N3 hn3 hC3 hCL3 hCD3 offC3 ?_)
      intro h4 F4 N4
      k_steps
      have kT := ‹KtsTurn (outer.filterMap (·.frame)) h₀ _›
      exact hret _ _ _ _ _ kT (by assumption) (by assumption) (by assumption) (by assumption) (by assumption) (by assumption) ⟨⟨D4, zs3, zs3.length, rfl, .head _, hall.imp fun _ _ hv => hv.mono fun q hq => .tail _ hq⟩, fun q hq => .tail _ (hsub q hq)⟩
end

end

section
def headT (x : List Nat) : List Nat := fparam (quoteL x)
section
variable {w : World} {p : Program} {loose : List Str} {mean : ExcName → Option Value} {mg mb : Str → Option Value}
theorem with_header {R r0 r1 : Addr} {w0 w1 : List (List Nat)} {v0 v1 : List Value} {c c0 c1 : Nat} {news : List (Addr × Obj)} {rd0 rd1 : List (List (List Nat))} (h0 : Vals w0 v0) (h1 : Vals w1 v1) (l0 : w0.length < 64) (l1 : w1.length < 64)
   (b0 : ∀ x ∈ w0, (quoteL x).length ≤ 200 ∧ x.length ≤ 900 ∧ ∀ d ∈ x, okS d ∨ badS d) (b1 : ∀ x ∈ w1, (quoteL x).length ≤ 200 ∧ x.length ≤ 900 ∧ ∀ d ∈ x, okS d ∨ badS d)
   (n0 : (w0.map headT).Nodup) (n1 : (w1.map headT).Nodup) (e0 : w0 ≠ []) (e1 : w1 ≠ [])
   (hrd : ∀ ts0 ts1 : List (List Nat), ts0.Perm (w0.map headT) → ts1.Perm (w1.map headT) → ts0.Pairwise (· < ·) → ts1.Pairwise (· < ·) → Reads2 (sdL ts0 ts1).1 rd0 ∧ Reads2 (sdL ts0 ts1).2 rd1) :
   SpecX w p loose mean mg mb 60 400 (.ref 799) [.ref R] ((R, listObj #[.ref r0, .ref r1] c) :: (r0, listObj v0.toArray c0) :: (r1, listObj v1.toArray c1) :: news)
     (fun v news' => IsNest news' v [rd0, rd1] ∧ ∀ q ∈ (R, listObj #[.ref r0, .ref r1] c) :: (r0, listObj v0.toArray c0) :: (r1, listObj v1.toArray c1) :: news, q ∈ news') := by
  unfold SpecX
  k_fill
  intro dp un gd cn cs a ccd outer A₀ base h₀ L m s Q E hB hF hX hN hT hXB hTB hD hcs hdp hun hret
  refine wpAny_call ?_
  k_dflt (refine' code_defS ?k1 ?k2 ?k3 ?k4 ?k5 ?XB ?TB ?D ?T0 ?kA ?k6 ?k7 ?k8 ?k9 ?kB ?_ ?cK ?c2 ?c3 ?c4 ?c5; (case kA => exact rfl); (case k2 => k_asm); (case k1 => k_asm); (case XB => assumption); (case TB => assumption); (case D => assumption); (case T0 => exact KtsTurn.refl); (case k3 => k_asm); (case k4 => k_asm); (case k5 => k_asm); (case k6 => k_is); (case k7 => k_is); (case k8 => k_room); (case k9 => first | exact BindsTo.of_eq rfl | exact binds_K (hX.keeps hF.keep) rfl (by k_is) rfl rfl rfl); (case kB => exact locs rfl); (case cK => first | assumption | exact rfl); (case c2 => exact rfl); (case c3 => exact rfl); (case c4 => exact rfl); (case c5 => decide); k_whole; intro g' L' h' FG' F' N' B' X' T' D'; (try dsimp only); (try k_fold))
  refine wpAny_noRaise ?_
  k_with_none
  k_with "my assign" => (k_dflt (refine compA (by with_unfolding_all rfl) (by rfl) (by rfl) (by decide) ?_))
  k_with "my comp" => (k_dflt (refine compE (by rfl) (by rfl) (by decide) ?_))
  k_steps
  k_dflt (refine' xgo_list (g := g') (G := Gd w p loose mean mg mb (ktrTop dp un gd cn cs L a ccd [] outer) base (envX cn cs L a ccd [] :: outer) g') (J := fun i ys nw => (∀ q ∈ (R, listObj #[.ref r0, .ref r1] c) :: (r0, listObj v0.toArray c0) :: (r1, listObj v1.toArray c1) :: news, q ∈ nw) ∧ ∃ ts : List (List (List Nat)), ts = [w0, w1].take i ∧ AllP (fun v ws => ∃ t xs e, v = .ref t ∧ (t, listObj xs.toArray e) ∈ nw ∧ SortedOf headT ws xs) ys ts) (c := c) rfl ⟨B', X', T', D', KtsTurn.refl⟩ ?F1 ?N1 ?m1 ?s1 (by decide) (by rfl) (by rfl) ⟨fun q hq => hq, [], rfl, .nil⟩ ?R1 ?RR1)
  case F1 => k_asm
  case N1 => k_asm
  case m1 => exact .head _
  case s1 => show 2 ≤ 16777216; decide
  case R1 =>
    intro i ys nw hi hS hJ g v I oI C oC D m₂ h tk E' hG hP hC hm F N off ne
    refine hideG ?_
    intro G9
    obtain ⟨hsub, ts, rfl, hall⟩ := hJ
    obtain ⟨hBg, hXg, hTg, hDg, hKg⟩ := hG
    obtain ⟨rr, vv, ww, cc, rfl, hrr, hvv, hll, hbb, htk⟩ : ∃ rr vv ww cc, v = .ref rr ∧ (rr, listObj vv.toArray cc) ∈ nw ∧ Vals ww vv ∧ ww.length < 64 ∧ (∀ x ∈ ww, (quoteL x).length ≤ 200 ∧ x.length ≤ 900 ∧ ∀ d ∈ x, okS d ∨ badS d) ∧ [w0, w1].take (i + 1) = [w0, w1].take i ++ [ww] := by
      have hi2 : i < 2 := hi
      rcases i with _ | _ | i
      · exact ⟨r0, v0, w0, c0, (Option.some.inj hP).symm, hsub _ (.tail _ (.head _)), h0, l0, b0, rfl⟩
      · exact ⟨r1, v1, w1, c1, (Option.some.inj hP).symm, hsub _ (.tail _ (.tail _ (.head _))), h1, l1, b1, rfl⟩
      · lia
    k_unfold
    refine wpAny_tests_nil ?_
    simp only [if_true]
    refine wpAny_noRaise ?_
    k_with_none
    k_with "my comp" => (k_dflt (refine compE (by rfl) (by rfl) (by decide) ?_))
    k_with "my sorted" => (k_dflt (refine sort_vals (by k_asm) (by k_asm) (.head _) (by assumption) (by assumption) ?_); intro D8 h8 vs8 ts8 e8 F8 N8 l8 hv8 hp8 hs8)
    k_steps
    k_dflt (refine' xgo_list (g := g) (G := fun gg => gg = g) (J := fun j zs nw2 => nw2 = (I, oI) :: (C, oC) :: (D, LCg.lst ys) :: nw ∧ Vals ((ww.take j).map headT) zs) (c := cc) rfl rfl ?F2 ?N2 ?m2 ?s2 (by decide) (by rfl) (by rfl) ⟨rfl, .nil⟩ ?R2 ?RR2)
    case F2 => k_asm
    case N2 => k_asm
    case m2 => exact .tail _ (.tail _ (.tail _ hrr))
    case s2 => show vv.toArray.size ≤ 16777216; rw [List.size_toArray, hvv.length]; lia
    case R2 =>
      intro j zs nw2 hj hS2 hJ2 g2 v2 I2 oI2 C2 oC2 D2 m3 h2 tk2 E2 hG2 hP2 hC2 hm2 F2 N2 off2 ne2
      obtain ⟨rfl, hz⟩ := hJ2
      subst hG2
      have hj2 : j < ww.length := by have : j < vv.toArray.size := hj; rw [List.size_toArray, hvv.length] at this; exact this
      obtain ⟨x, hx⟩ : ∃ x, ww[j]? = some x := ⟨_, List.getElem?_eq_getElem hj2⟩
      obtain ⟨tx, hvx⟩ := hvv.get j x hx
      have hv2 : v2 = .str (SL x) tx := by
        have e1 : vv.toArray[j]? = some v2 := hP2
        have e2 : vv.toArray[j]? = some (.str (SL x) tx) := by simpa using hvx
        exact Option.some.inj (e1.symm.trans e2)
      subst hv2
      obtain ⟨bx1, bx2, bx3⟩ := hbb x (List.mem_of_getElem? hx)
      refine wpAny_tests_nil ?_
      simp only [if_true]
      refine wpAny_noRaise ?_
      k_with_none
      k_with "my call" => (k_dflt (first | (refine' Spec.use (fparam_spec (quoteL x) _ _ bx1) ?r1 ?r2 ?r3 ?r4 ?r5 ?r6 ?r7 ?r8 ?_; (case r1 => k_asm); (case r2 => k_asm); (case r3 => k_asm); (case r4 => k_asm); (case r5 => k_asm); (case r6 => exact rfl); (case r7 => k_room); (case r8 => k_units)) | (refine' Spec.use (quote_spec x _ bx2 bx3) ?r1 ?r2 ?r3 ?r4 ?r5 ?r6 ?r7 ?r8 ?_; (case r1 => k_asm); (case r2 => k_asm); (case r3 => k_asm); (case r4 => k_asm); (case r5 => k_asm); (case r6 => exact rfl); (case r7 => k_room); (case r8 => k_units))); intro v9 n9 h9 tk9 F9 N9 P9; refine hideG ?_; intro G9; obtain ⟨t9, rfl, rfl⟩ := P9; k_unfold; (try dsimp only); (try k_fold))
      k_steps
      k_dflt (refine ⟨g2, _, _, _, rfl, rfl, ?F3, ?N3, off2, .tail _ (.tail _ (.tail _ hrr)), rfl, ?V3⟩)
      case F3 => k_asm
      case N3 => k_asm
      case V3 =>
        rw [take_snoc hx, List.map_append]
        exact hz.append Vals.one
    case RR2 =>
      intro g3 D3 C3 h3 tk3 m3 zs3 nw3 hG3 F3 N3 o3 hn3 hC3 hD3 hCL3 hDL3 hCD3 offC3 hJ3
      obtain ⟨rfl, hz3⟩ := hJ3
      subst hG3
      have hz4 : Vals (ww.map headT) zs3 := by
        have e : vv.toArray.size = ww.length := by rw [List.size_toArray, hvv.length]
        rw [e, List.take_length] at hz3
        exact hz3
      have hl4 : (ww.map headT).length < 64 := by rw [List.length_map]; exact hll
      k_dflt (refine finE1 F3 N3 hn3 hC3 hCL3 hCD3 offC3 ?_)
      intro h4 F4 N4
      k_steps
      k_dflt (refine sort_vals F4 N4 (c := zs3.length) (.head _) hz4 hl4 ?_)
      intro D5 h5 vs5 ts5 e5 F5 N5 l5 hv5 hp5 hs5
      k_steps
      k_dflt (refine ⟨g3, h5, _, (D5, listObj vs5.toArray e5) :: nw, rfl, ⟨hBg, hXg, hTg, hDg, hKg⟩, F5, ?N6, off3_cons (l5 _ (.tail _ (.head _))) (l5 _ (.tail _ (.tail _ (.head _)))) (l5 _ (.tail _ (.tail _ (.tail _ (.head _))))) off, .tail _ hS, fun q hq => .tail _ (hsub q hq), _, htk.symm, ?A6⟩)
      case N6 => exact news_rot3 (news_skip1 N5)
      case A6 =>
        refine AllP.snoc (hall.imp fun v ws hv => ?_) ⟨D5, vs5, e5, rfl, .head _, ts5, hv5, hp5, hs5⟩
        refine hideG ?_
        intro G9
        obtain ⟨t6, xs6, e6, a6, b6, c6⟩ := hv
        k_unfold
        exact ⟨t6, xs6, e6, a6, .tail _ b6, c6⟩
  case RR1 =>
    intro g3 D3 C3 h3 tk3 m3 zs3 nw3 hG3 F3 N3 o3 hn3 hC3 hD3 hCL3 hDL3 hCD3 offC3 hJ3
    refine hideG ?_
    intro G9
    obtain ⟨hsub3, ts3, hts3, hall3⟩ := hJ3
    obtain ⟨hBg, hXg, hTg, hDg, hKg⟩ := hG3
    obtain ⟨t0, x0, f0, t1, x1, f1, ts0, ts1, rfl, hm0, hm1, hx0, hx1, hp0, hp1, hs0, hs1⟩ : ∃ t0 x0 f0 t1 x1 f1 ts0 ts1, zs3 = [.ref t0, .ref t1] ∧ (t0, listObj x0.toArray f0) ∈ nw3 ∧ (t1, listObj x1.toArray f1) ∈ nw3 ∧ Vals ts0 x0 ∧ Vals ts1 x1 ∧ ts0.Perm (w0.map headT) ∧ ts1.Perm (w1.map headT) ∧ ts0.Pairwise (· < ·) ∧ ts1.Pairwise (· < ·) := by
      have e2 : ts3 = [w0, w1] := hts3
      subst e2
      cases hall3 with
      | cons a1 r1 =>
        cases r1 with
        | cons a2 r2 =>
          cases r2
          obtain ⟨t0, x0, f0, rfl, hm0, ts0, hv0, hp0, hs0⟩ := a1
          obtain ⟨t1, x1, f1, rfl, hm1, ts1, hv1, hp1, hs1⟩ := a2
          exact ⟨t0, x0, f0, t1, x1, f1, ts0, ts1, rfl, hm0, hm1, hv0, hv1, hp0, hp1, strict_of (hp0.nodup_iff.mpr n0) hs0, strict_of (hp1.nodup_iff.mpr n1) hs1⟩
    obtain ⟨hrA, hrB⟩ := hrd ts0 ts1 hp0 hp1 hs0 hs1
    k_unfold
    have ln0 : ts0.length = w0.length := by rw [hp0.length_eq, List.length_map]
    have ln1 : ts1.length = w1.length := by rw [hp1.length_eq, List.length_map]
    have ne0 : 0 < w0.length := List.length_pos_iff.mpr e0
    have ne1 : 0 < w1.length := List.length_pos_iff.mpr e1
    k_dflt (refine' finA1 ?e0 F3 N3 hn3 hC3 hCL3 hCD3 offC3 ?e1 ?e2 ?_; (case e0 => rfl); (case e1 => rfl); (case e2 => rfl))
    intro h4 tk4 F4 N4
    dsimp only
    k_with_none
    k_with "my comp" => (k_dflt (refine compE (by rfl) (by rfl) (by decide) ?_))
    k_with "my call" => (refine hold ?_)
    k_steps
    refine unhold ?_
    k_dflt (refine' SpecX.use (sld_spec (ea := t0) (aa := t1) (ce := f0) (ca := f1) (news := (D3, LCg.lst [.ref t0, .ref t1]) :: nw3) hx0 hx1 hs0 hs1 (by lia) (by lia) (by lia) (by lia)) hBg F4 hXg ?r4 hTg hXB hTB hDg rfl ?r10 ?r11 ?_)
    case r4 =>
      intro q hq
      simp only [List.mem_cons] at hq
      rcases hq with rfl | rfl | rfl | hq
      · exact N4 _ (.tail _ hm0)
      · exact N4 _ (.tail _ hm1)
      · exact N4 _ (.head _)
      · exact N4 _ (.tail _ hq)
    case r10 => k_room
    case r11 => k_units
    intro v5 n5 h5 tk5 g5 K5 B5 F5 X5 N5 P5 D5 Q5
    refine hideG ?_
    intro G9
    obtain ⟨T5, ma, ua, vm, vu, cm, cu, hvm, hvu, rfl, rfl⟩ := Q5
    k_unfold
    k_steps
    k_dflt (refine' xgo_tuple (g := g5) (G := Gd w p loose mean mg mb (ktrTop dp un gd cn cs L a ccd [] outer) base (envX cn cs L a ccd [] :: outer) g') (J := fun i ys nw => (∀ q ∈ (R, listObj #[.ref r0, .ref r1] c) :: (r0, listObj v0.toArray c0) :: (r1, listObj v1.toArray c1) :: news, q ∈ nw) ∧ (ma, listObj vm.toArray cm) ∈ nw ∧ (ua, listObj vu.toArray cu) ∈ nw ∧ AllP (IsRows nw) ys ([rd0, rd1].take i)) (c := 0) rfl ⟨B5, X5, P5, D5, hKg.trans K5⟩ F5 N5 (.head _) ?s5 (by decide) (by rfl) (by rfl) ⟨fun q hq => .tail _ (.tail _ (.tail _ (.tail _ (.tail _ (.tail _ (hsub3 q hq)))))), .tail _ (.head _), .tail _ (.tail _ (.head _)), .nil⟩ ?R5 ?RR5)
    case s5 => show 2 ≤ 16777216; decide
    case R5 =>
      intro i ys nw hi hS hJ g v I oI C oC D m₂ h tk E' hG hP hC hm F N off ne
      refine hideG ?_
      intro G9
      obtain ⟨hsub, hma, hua, hall⟩ := hJ
      obtain ⟨hBi, hXi, hTi, hDi, hKi⟩ := hG
      obtain ⟨sa, sv, side, sc, rd, rfl, hsa, hsv, hRd, htk⟩ : ∃ sa sv side sc rd, v = .ref sa ∧ (sa, listObj sv.toArray sc) ∈ nw ∧ Vals side sv ∧ Reads2 side rd ∧ [rd0, rd1].take (i + 1) = [rd0, rd1].take i ++ [rd] := by
        have hi2 : i < 2 := hi
        rcases i with _ | _ | i
        · exact ⟨ma, vm, _, cm, rd0, (Option.some.inj hP).symm, hma, hvm, hrA, rfl⟩
        · exact ⟨ua, vu, _, cu, rd1, (Option.some.inj hP).symm, hua, hvu, hrB, rfl⟩
        · lia
      obtain ⟨tks, hT1, hl1, hl2, hw, hz⟩ := hRd
      k_unfold
      refine wpAny_tests_nil ?_
      simp only [if_true]
      refine wpAny_noRaise ?_
      k_with_none
      k_with "my comp" => (k_dflt (refine compE (by rfl) (by rfl) (by decide) ?_))
      k_with "my call" => (refine hold ?_)
      k_with "my join" => (refine hold ?_)
      k_steps
      refine unhold ?_
      k_dflt (refine join_listW (N.isList (.tail _ (.tail _ (.tail _ hsa)))) hsv.strs (by decide) ?w5 ?_)
      case w5 =>
        have e : ((side.map SL).map (·.length)) = side.map (·.length) := by rw [List.map_map]; congr 1
        rw [e, List.length_map]; lia
      intro t6 tk6'
      rw [txt_join]
      k_steps
      refine unhold ?_
      k_dflt (refine' SpecX.use (split_spec (SL (joinL side)) _ _ ?b6 hT1 hl2) hBi F hXi N hTi hXB hTB hDi rfl ?r10 ?r11 ?_)
      case b6 => show (joinL side).toArray.size ≤ 5000; simpa using hl1
      case r10 => k_room
      case r11 => k_units
      intro v6 n6 h6 tk6 g6 K6 B6 F6 X6 N6 P6 D6 Q6
      refine hideG ?_
      intro G9
      obtain ⟨S6, vs6, c6, hv6, rfl, rfl, hl6⟩ := Q6
      k_unfold
      k_steps
      k_dflt (refine' xgo_list (g := g6) (G := Gd w p loose mean mg mb (ktrTop dp un gd cn cs L a ccd [] outer) base (envX cn cs L a ccd [] :: outer) g') (J := fun j zs nw2 => ∃ exx, nw2 = exx ++ ((S6, listObj vs6.toArray c6) :: (I, oI) :: (C, oC) :: (D, LCg.lst ys) :: nw) ∧ (∀ q ∈ exx, I < q.1 ∧ C < q.1 ∧ D < q.1) ∧ AllP (IsStrs exx) zs (rd.take j)) (c := c6) rfl ⟨B6, X6, P6, D6, hKi.trans K6⟩ F6 N6 (.head _) ?s6 (by decide) (by rfl) (by rfl) ⟨[], rfl, (fun _ h => nomatch h), .nil⟩ ?R6 ?RR6)
      case s6 => show vs6.toArray.size ≤ 16777216; rw [List.size_toArray, hv6.length]; lia
      case R6 =>
        intro j zs nw2 hj hS2 hJ2 g2 v2 I2 oI2 C2 oC2 D2 m3 h2 tk2 E2 hG2 hP2 hC2 hm2 F2 N2 off2 ne2
        refine hideG ?_
        intro G9
        obtain ⟨exx, rfl, hex, hzs⟩ := hJ2
        obtain ⟨hBj, hXj, hTj, hDj, hKj⟩ := hG2
        k_unfold
        have hj2 : j < tks.length := by have : j < vs6.toArray.size := hj; rw [List.size_toArray, hv6.length] at this; exact this
        obtain ⟨x, hx⟩ : ∃ x, tks[j]? = some x := ⟨_, List.getElem?_eq_getElem hj2⟩
        obtain ⟨tx, hvx⟩ := hv6.get j x hx
        have hv2 : v2 = .str (SL x) tx := by
          have e1 : vs6.toArray[j]? = some v2 := hP2
          have e2 : vs6.toArray[j]? = some (.str (SL x) tx) := by simpa using hvx
          exact Option.some.inj (e1.symm.trans e2)
        subst hv2
        refine hideG ?_
        intro G9
        obtain ⟨r, hr, r', hTr, rfl, hx2, hxl, hrl⟩ := hz.get j x hx
        k_unfold
        refine wpAny_tests_nil ?_
        simp only [if_true]
        refine wpAny_noRaise ?_
        k_with_none
        k_with "my call" => (refine hold ?_)
        k_steps
        refine unhold ?_
        have es1 : Txt.slice (SL x) none (some 2) = SL (x.take 2) := slice_to (SL x) 2 (by show 2 ≤ x.toArray.size; simpa using hx2)
        have es2 : Txt.slice (SL x) (some 2) none = SL (x.drop 2) := slice_from (SL x) 2 (by show 2 ≤ x.toArray.size; simpa using hx2)
        (with_reducible rename Fr _ _ _ _ => kF)
        (with_reducible rename News _ _ _ _ => kN)
        rw [es2]
        rw [es1] at kN
        k_dflt (refine' SpecX.use (split_spec (SL (x.drop 2)) _ _ ?b7 hTr (by lia)) hBj kF hXj kN hTj hXB hTB hDj rfl ?r10 ?r11 ?_)
        case b7 => show (x.drop 2).toArray.size ≤ 5000; simp; lia
        case r10 => k_room
        case r11 => k_units
        intro v7 n7 h7 tk7 g7 K7 B7 F7 X7 N7 P7 D7 Q7
        refine hideG ?_
        intro G9
        obtain ⟨S7, vs7, c7, hv7, rfl, rfl, hl7⟩ := Q7
        k_unfold
        k_steps
        k_dflt (refine' add_arrays F7 N7 (N7.isList (.tail _ (.head _))) (N7.isList (.head _)) ?G8 ?z8)
        case z8 =>
          show 1 + vs7.toArray.size ≤ 16777216
          rw [List.size_toArray, hv7.length]; lia
        have hlt8 := fun q hq => Heap.lt_size (N7 q hq).1
        intro h8 F8 N8
        dsimp only at N8 F8
        generalize h7.objs.size = S8 at N8 F8 hlt8 ⊢
        k_steps
        obtain ⟨tw, N8'⟩ : ∃ tw, News g7 L' h8 ((S8, listObj (Value.str (SL (x.take 2)) tw :: vs7).toArray 0) :: (I2, oI2) :: (C2, oC2) :: (D2, LCg.lst zs) :: (exx ++ ((S6, listObj vs6.toArray c6) :: (I, oI) :: (C, oC) :: (D, LCg.lst ys) :: nw))) := ⟨_, news_skip2 N8⟩
        k_dflt (refine ⟨g7, h8, _, (S8, listObj (Value.str (SL (x.take 2)) tw :: vs7).toArray 0) :: (exx ++ ((S6, listObj vs6.toArray c6) :: (I, oI) :: (C, oC) :: (D, LCg.lst ys) :: nw)), rfl, ⟨B7, X7, P7, D7, hKj.trans K7⟩, F8, ?NA, off3_cons (hlt8 _ (.tail _ (.tail _ (.head _)))) (hlt8 _ (.tail _ (.tail _ (.tail _ (.head _))))) (hlt8 _ (.tail _ (.tail _ (.tail _ (.tail _ (.head _)))))) off2, .tail _ hS2, (S8, listObj (Value.str (SL (x.take 2)) tw :: vs7).toArray 0) :: exx, rfl, ?HA, ?A8⟩)
        case NA => exact news_rot3 N8'
        case HA =>
          intro q hq
          rcases List.mem_cons.mp hq with rfl | hq
          · have a1 : (I, oI) ∈ exx ++ ((S6, listObj vs6.toArray c6) :: (I, oI) :: (C, oC) :: (D, LCg.lst ys) :: nw) := by simp
            have a2 : (C, oC) ∈ exx ++ ((S6, listObj vs6.toArray c6) :: (I, oI) :: (C, oC) :: (D, LCg.lst ys) :: nw) := by simp
            have a3 : (D, LCg.lst ys) ∈ exx ++ ((S6, listObj vs6.toArray c6) :: (I, oI) :: (C, oC) :: (D, LCg.lst ys) :: nw) := by simp
            exact ⟨hlt8 _ (.tail _ (.tail _ (.tail _ (.tail _ (.tail _ a1))))), hlt8 _ (.tail _ (.tail _ (.tail _ (.tail _ (.tail _ a2))))), hlt8 _ (.tail _ (.tail _ (.tail _ (.tail _ (.tail _ a3)))))⟩
          · exact hex q hq
        case A8 =>
          rw [take_snoc hr]
          refine AllP.snoc (hzs.imp fun v ts hv => hv.mono fun q hq => .tail _ hq) ⟨S8, _, 0, rfl, .head _, Vals.cons hv7⟩
      case RR6 =>
        intro g3 D4 C3 h3 tk3 m3 zs3 nw4 hG3 F3 N3 o3 hn3 hC3 hD3 hCL3 hDL3 hCD3 offC3 hJ3
        refine hideG ?_
        intro G9
        obtain ⟨exx, rfl, hex, hzs⟩ := hJ3
        k_unfold
        have hzs2 : AllP (IsStrs exx) zs3 rd := by
          have e : vs6.toArray.size = rd.length := by rw [List.size_toArray, hv6.length, hz.length]
          rw [e, List.take_length] at hzs
          exact hzs
        have hD4 : ∀ q ∈ exx ++ ((S6, listObj vs6.toArray c6) :: (I, oI) :: (C, oC) :: (D, LCg.lst ys) :: nw), q.1 ≠ D4 := off1_mem o3
        k_dflt (refine finE1 F3 N3 hn3 hC3 hCL3 hCD3 offC3 ?_)
        intro h4 F4 N4
        k_steps
        k_dflt (refine ⟨g3, h4, _, (D4, LCg.lst zs3) :: (exx ++ ((S6, listObj vs6.toArray c6) :: nw)), rfl, hG3, F4, ?N9, ?O9, ?S9, ?B9, ?M9, ?U9, ?A9⟩)
        case N9 => exact news_mid3 N4
        case O9 =>
          refine LCg.Off3.of fun q hq => ?_
          simp only [List.mem_cons, List.mem_append] at hq
          rcases hq with rfl | h | rfl | h
          · exact ⟨fun e => hD4 (I, oI) (by simp) e.symm, fun e => hD4 (C, oC) (by simp) e.symm, fun e => hD4 (D, LCg.lst ys) (by simp) e.symm⟩
          · have := hex q h
            exact ⟨Nat.ne_of_gt this.1, Nat.ne_of_gt this.2.1, Nat.ne_of_gt this.2.2⟩
          · exact ⟨Nat.ne_of_gt (hl6 _ (.head _)), Nat.ne_of_gt (hl6 _ (.tail _ (.head _))), Nat.ne_of_gt (hl6 _ (.tail _ (.tail _ (.head _))))⟩
          · exact off.mem q h
        case S9 => exact .tail _ (List.mem_append_right _ (.tail _ hS))
        case B9 => exact fun q hq => .tail _ (List.mem_append_right _ (.tail _ (hsub q hq)))
        case M9 => exact .tail _ (List.mem_append_right _ (.tail _ hma))
        case U9 => exact .tail _ (List.mem_append_right _ (.tail _ hua))
        case A9 =>
          rw [htk]
          refine AllP.snoc (hall.imp fun v ts hv => hv.mono fun q hq => .tail _ (List.mem_append_right _ (.tail _ hq))) ⟨D4, zs3, zs3.length, rfl, .head _, hzs2.imp fun v ts hv => hv.mono fun q hq => .tail _ (List.mem_append_left _ hq)⟩
    case RR5 =>
      intro g3 D4 C3 h3 tk3 m3 zs3 nw4 hG3 F3 N3 o3 hn3 hC3 hD3 hCL3 hDL3 hCD3 offC3 hJ3
      refine hideG ?_
      intro G9
      obtain ⟨hsub, hma, hua, hall⟩ := hJ3
      obtain ⟨hBi, hXi, hTi, hDi, hKi⟩ := hG3
      k_unfold
      k_dflt (refine finE1 F3 N3 hn3 hC3 hCL3 hCD3 offC3 ?_)
      intro h4 F4 N4
      k_steps
      have kT := ‹KtsTurn (outer.filterMap (·.frame)) h₀ _›
      exact hret _ _ _ _ _ kT (by assumption) (by assumption) (by assumption) (by assumption) (by assumption) (by assumption) ⟨⟨D4, zs3, zs3.length, rfl, .head _, hall.imp fun _ _ hv => hv.mono fun q hq => .tail _ hq⟩, fun q hq => .tail _ (hsub q hq)⟩
end

end

section
open PySem.SeqAt in
section
variable {prog : Program} {w : World} {A : Around} {E : Value → Shared → Prop} {s : Shared} {h₀ : Heap} {L : Addr} {m : Str → Option Value} {news : List (Addr × Obj)}
theorem all_true (n : Nat) : (List.range n).all (fun _ => true) = true := List.all_eq_true.mpr fun _ _ => rfl
theorem eq_nil {a b : Addr} {its : Array Value} {c d : Nat} {Q : Value → Shared → Prop} (N : News h₀ L s.heap news) (ha : (a, listObj its c) ∈ news) (hb : (b, listObj #[] d) ∈ news) (hu : A.units + 5 < cLine) (h : Q (.bool its.isEmpty) s) :
    wpAny (model prog w) A (compareOp .Eq (.ref a) (.ref b)) Q E s := by
  show wpAny _ _ (richCompare .Eq (.ref a) (.ref b)) _ _ _
  by_cases he : its.size = 0
  · refine RcAt.lists (e := fun _ => true) (N.isList ha) (N.isList hb) (by simpa using he) (by lia) ?_ prog w E Q ?_
    · intro j h1 h2; simp at h2
    · have e1 : its.isEmpty = true := by simpa [Array.isEmpty] using he
      rw [e1] at h
      rw [all_true]
      exact h
  · refine RcAt.lists_lengths (N.isList ha) (N.isList hb) (by simpa using he) (by lia) prog w E Q ?_
    have e1 : its.isEmpty = false := by simpa [Array.isEmpty] using he
    rw [e1] at h
    exact h
theorem eqAt_of {a b : Addr} (h : a ≠ b → RcAt A s (.ref a) (.ref b) true) : EqAt A s (.ref a) (.ref b) true := by
  by_cases e : a = b
  · subst e
    intro prog w E Q hq
    unfold eqBool
    refine wpAny_holding ?_
    rw [if_pos (by simp)]
    exact wpAny_bind (wpAny_rule (wpAny_pure hq))
  · exact .of_refs e (h e)
theorem rc_all {α : Type} {P P' : Value → α → Prop} {a b : Addr} {vs vs' : List Value} {as : List α} {c c' : Nat} (N : News h₀ L s.heap news) (ha : (a, listObj vs.toArray c) ∈ news) (hb : (b, listObj vs'.toArray c') ∈ news) (hu : A.units + 1 < cLine)
    (h1 : AllP P vs as) (h2 : AllP P' vs' as) (he : ∀ x y z, P x z → P' y z → EqAt A.in1 s x y true) : RcAt A s (.ref a) (.ref b) true := by
  have hsz : vs.toArray.size = vs'.toArray.size := by rw [List.size_toArray, List.size_toArray, h1.length, h2.length]
  have key : ∀ (vs vs' : List Value) (as : List α), AllP P vs as → AllP P' vs' as → ∀ (j : Nat) (g1 : j < vs.length) (g2 : j < vs'.length), EqAt A.in1 s vs[j] vs'[j] true := by
    intro vs vs' as x1
    induction x1 generalizing vs' with
    | nil => intro _ j g1; exact absurd g1 (by simp)
    | cons hp _ ih =>
      intro x2 j g1 g2
      cases x2 with
      | cons hp' x2' =>
        cases j with
        | zero => exact he _ _ _ hp hp'
        | succ j => exact ih _ x2' j (by simpa using g1) (by simpa using g2)
  have := RcAt.lists (A := A) (e := fun _ => true) (N.isList ha) (N.isList hb) hsz (by lia) (fun j g1 g2 => by
    have g1' : j < vs.length := by simpa using g1
    have g2' : j < vs'.length := by simpa using g2
    simpa using key vs vs' as h1 h2 j g1' g2')
  rw [all_true] at this
  exact this
theorem vals_allP {ts : List (List Nat)} {vs : List Value} (h : Vals ts vs) : AllP (fun v t => ∃ k, v = .str (SL t) k) vs ts := by
  induction h with
  | nil => exact .nil
  | cons _ ih => exact .cons ⟨_, rfl⟩ ih
theorem eq_strs {x y : Value} {ts : List (List Nat)} (N : News h₀ L s.heap news) (hx : IsStrs news x ts) (hy : IsStrs news y ts) (hu : A.units + 2 < cLine) : EqAt A s x y true := by
  obtain ⟨a, vs, c, rfl, ha, hv⟩ := hx
  obtain ⟨b, vs', c', rfl, hb, hv'⟩ := hy
  refine eqAt_of fun _ => rc_all N ha hb (by lia) (vals_allP hv) (vals_allP hv') ?_
  rintro x y z ⟨k, rfl⟩ ⟨k', rfl⟩
  have := EqAt.str_str (A := A.in1) (s := s) (SL z) k (SL z) k'
  simpa using this
theorem eq_rows {x y : Value} {tss : List (List (List Nat))} (N : News h₀ L s.heap news) (hx : IsRows news x tss) (hy : IsRows news y tss) (hu : A.units + 4 < cLine) : EqAt A s x y true := by
  obtain ⟨a, vs, c, rfl, ha, hv⟩ := hx
  obtain ⟨b, vs', c', rfl, hb, hv'⟩ := hy
  exact eqAt_of fun _ => rc_all N ha hb (by lia) hv hv' fun x y z h1 h2 => eq_strs N h1 h2 (by show A.units + 1 + 2 < cLine; lia)
theorem eq_nest {x y : Value} {t3 : List (List (List (List Nat)))} {Q : Value → Shared → Prop} (N : News h₀ L s.heap news) (hx : IsNest news x t3) (hy : IsNest news y t3) (hu : A.units + 6 < cLine) (h : Q (.bool true) s) :
    wpAny (model prog w) A (compareOp .Eq x y) Q E s := by
  obtain ⟨a, vs, c, rfl, ha, hv⟩ := hx
  obtain ⟨b, vs', c', rfl, hb, hv'⟩ := hy
  show wpAny _ _ (richCompare .Eq (.ref a) (.ref b)) _ _ _
  exact rc_all N ha hb (by lia) hv hv' (fun x y z h1 h2 => eq_rows N h1 h2 (by show A.units + 1 + 4 < cLine; lia)) prog w E Q h
end

end

section
/-! a for loop over a list of the ledger, turn by turn (no exception, no break) -/
open LCg in
section
variable {prog : Program} {w : World} {A : Around} {s : Shared} {g : Heap} {L : Addr} {m : Str → Option Value} {env : Env}
/-- the end of a turn -/
def ForEnd (g : Heap) (L : Addr) (s : Shared) (I : Addr) (oI : Obj) (S : Addr × Obj) (rest : (Str → Option Value) → List (Addr × Obj) → Prop) (f : Flow) (s' : Shared) : Prop :=
  f = .next ∧ ∃ h' tk' m' news', s' = { s with heap := h', toks := tk' } ∧ Fr g L h' m' ∧ News g L h' ((I, oI) :: news') ∧ (∀ q ∈ news', q.1 ≠ I) ∧ S ∈ news' ∧ rest m' news'
/-- what is left to do when the iterable is known -/
def ForGo (prog : Program) (w : World) (A : Around) (env : Env) (v : Str) (px : Pos) (body : List Stmt) (Q : Flow → Shared → Prop) (E : Value → Shared → Prop) (xv : Value) (s₁ : Shared) : Prop :=
  wpAny (model prog w) A (pyIter xv) (fun it s₂ => codeAny (model prog w) A (.forLoop (.Name v px) it body [] env) (fun r s' => match r with | .ok f => Q f s' | .error e => cameBackBy (model prog w) A env E e s') s₂) E s₁
theorem for_go {v : Str} {px pos : Pos} {iter : Expr} {body : List Stmt} {Q : Flow → Shared → Prop} {E : Value → Shared → Prop}
    (h : wpAny (model prog w) A (eval iter env) (ForGo prog w A env v px body Q E) E s) (hs : ∀ x, foldedSetIterable iter env x = pure x := by intro _; rfl) :
    wpAny (model prog w) A (exec (.For (.Name v px) iter body [] pos) env) Q E s := wpAny_For h hs
theorem for_list {v : Str} {px : Pos} {body : List Stmt} {Q : Flow → Shared → Prop} {E : Value → Shared → Prop} {ax : Addr} {its : Array Value} {c : Nat} {news : List (Addr × Obj)} {J : Nat → (Str → Option Value) → List (Addr × Obj) → Prop}
    (hh : A.handled = none) (hLe : env.locals = L) (hy : env.kindOf v = some .local) (hp : (env.scope.kind == .class || (env.scope.kind == .module && env.locals != env.globals)) = false)
    (F : Fr g L s.heap m) (N : News g L s.heap news) (hm : (ax, ({ cls := .type "list", dict := none, data := .seq its c, slots := #[] } : Obj)) ∈ news) (hJ : J 0 m news)
    (turn : ∀ i m news x I oI h tk (E' : Value → Shared → Prop), i < its.size → J i m news → its[i]? = some x → (ax, ({ cls := .type "list", dict := none, data := .seq its c, slots := #[] } : Obj)) ∈ news →
      Fr g L h (fun z => if z = v then some x else m z) → News g L h ((I, oI) :: news) → (∀ q ∈ news, q.1 ≠ I) →
      wpAny (model prog w) A (execs body env) (ForEnd g L s I oI (ax, { cls := .type "list", dict := none, data := .seq its c, slots := #[] }) (J (i + 1))) E' { s with heap := h, toks := tk })
    (fin : ∀ m news h tk, J its.size m news → Fr g L h m → News g L h news → Q .next { s with heap := h, toks := tk }) :
    ForGo prog w A env v px body Q E (.ref ax) s := by
  subst hLe
  unfold ForGo
  have hl : s.heap.IsList ax its := N.isList hm
  have hlt : ax < s.heap.objs.size := Heap.lt_size (N _ hm).1
  refine wpAny_pyIter_list hl ?_
  have up : ∀ b o, s.heap.get? b = some o → (s.heap.push { cls := .type "list_iterator", data := .fields #[.ref ax, .int 0 0] }).get? b = some o := fun b o e => Heap.get?_push_of_some _ e
  have W := Walks.list (prog := prog) (w := w) hh s.heap.objs.size ax (Nat.ne_of_lt hlt) its
  have hIL : env.locals ≠ s.heap.objs.size := Nat.ne_of_lt F.ns.lt
  have hgI : g.get? s.heap.objs.size = none := next_is_new F
  refine codeAny_forLoop (fun k s' => ∃ h' tk i m' news', s' = { s with heap := h', toks := tk } ∧ i ≤ its.size ∧ k = its.size + 1 - i ∧ (h'.IsListIter s.heap.objs.size ax i ∧ h'.IsList ax its) ∧ Fr g env.locals h' m' ∧ News g env.locals h' news' ∧ (∀ q ∈ news', q.1 ≠ s.heap.objs.size) ∧ (ax, ({ cls := .type "list", dict := none, data := .seq its c, slots := #[] } : Obj)) ∈ news' ∧ J i m' news') ?_ (its.size + 1)
    ⟨_, s.toks, 0, m, news, rfl, Nat.zero_le _, rfl, ⟨⟨_, Heap.get?_push_size _ rfl, rfl, rfl⟩, hl.push _⟩, F.keeps up, N.grown up, fun p hp => Nat.ne_of_lt (Heap.lt_size (N p hp).1), hm, hJ⟩
  rintro k s' ⟨h', tk, i, m', news', rfl, hi, rfl, hst, F', N', off', hm', hJ'⟩
  by_cases hlt' : i < its.size
  · refine W.item i _ _ _ hlt' hst fun x h₂ tk₂ hP hst₂ hk₂ => ?_
    have F₂ := fr_but F' hk₂ hIL hgI
    have N₂ := news_but N' hk₂ off'
    obtain ⟨oI, heI, rI⟩ := id hst₂.1
    refine wpAny_assign_Name (wpAny_storeName_local hy F₂.ns (fun h₃ hn₃ hs₃ => ?_) hp)
    have hL₀ : g.get? env.locals = none := Heap.get?_none_of_le F₂.above
    have F₃ : Fr g env.locals h₃ (fun z => if z = v then some x else m' z) := ⟨hn₃, fun b o e => hs₃.extBut b o (fun q => by rw [q, hL₀] at e; cases e) (F₂.keep b o e), F₂.above⟩
    have N₃ : News g env.locals h₃ ((s.heap.objs.size, oI) :: news') := fun p hp => by
      rcases List.mem_cons.mp hp with rfl | hp
      · exact ⟨hs₃.extBut _ _ (Ne.symm hIL) heI, Ne.symm hIL, hgI⟩
      · exact ⟨hs₃.extBut _ _ (N₂ p hp).2.1 (N₂ p hp).1, (N₂ p hp).2⟩
    refine wpAny_mono (turn i m' news' x s.heap.objs.size oI h₃ _ _ hlt' hJ' hP hm' F₃ N₃ off') (fun f s₃ h₃' => ?_) fun _ _ e => e
    refine hideG ?_
    intro G9
    obtain ⟨rfl, h₄, tk₄, m₄, news₄, rfl, F₄, N₄, off₄, hm₄, J₄⟩ := h₃'
    k_unfold
    refine ⟨its.size + 1 - (i + 1), by omega, h₄, tk₄, i + 1, m₄, news₄, rfl, hlt', rfl, ⟨⟨oI, (N₄ _ (.head _)).1, rI⟩, N₄.isList (.tail _ hm₄)⟩, F₄, fun p hp => N₄ p (.tail _ hp), off₄, hm₄, J₄⟩
  · obtain rfl : i = its.size := Nat.le_antisymm hi (Nat.not_lt.mp hlt')
    refine W.done _ _ _ hst fun h₂ tk₂ hk₂ => ?_
    exact wpAny_execs_nil (fin m' news' h₂ tk₂ hJ' (fr_but F' hk₂ hIL hgI) (news_but N' hk₂ off'))
end

end
local macro_rules | `(tactic| walk_at "compareOp Eq ref ref") => `(tactic| k_extra "my eqs")

section
def rkS (c : Nat) : Int := if c = 34 then 183 else 2 * (c : Int)
def safeC (c : Nat) : Bool := c == 37 || c == 65 || c == 97
def rk (b : Bool) (x : List Nat) : List Int := if b then (if x = [] then [999] else x.map rkS ++ [68]) else if x ≠ [] ∧ x.filter (fun c => !safeC c) = [] then x.map rkS ++ [68] else [78] ++ x.map rkS ++ [77]
theorem allLt_3 {d : Nat} : ∀ {l : List (Addr × Obj)}, AllLt d l → ∀ p ∈ l, p.1 < d
  | [], _, _, hp => nomatch hp
  | _ :: _, h, p, hp => by
    rcases List.mem_cons.mp hp with rfl | hp
    · exact h.1
    · exact allLt_3 h.2 p hp
theorem contains_all : ∀ c, c < 128 → Txt.contains (Str.ofString "%Aa") ⟨#[c]⟩ = safeC c := by decide +kernel
theorem contains_safe (c : Nat) (h : c < 128) : Txt.contains (Str.ofString "%Aa") ⟨#[c]⟩ = safeC c := contains_all c h
section
variable {w : World} {p : Program} {loose : List Str} {mean : ExcName → Option Value} {mg mb : Str → Option Value} {news : List (Addr × Obj)}
theorem ranks_T (x : List Nat) (t : Tok) (hl : x.length ≤ 100) (ha : ∀ c ∈ x, c < 128) (hx : x ≠ []) :
   Spec w p loose mean mg mb 10 50 784 [.str (SL x) t, .bool true] news (fun v news' => ∃ D vs c, v = .ref D ∧ news' = (D, listObj vs.toArray c) :: news ∧ IntsAre vs (x.map rkS ++ [68]) ∧ ∀ q ∈ news, q.1 < D) := by
  unfold Spec
  k_fill
  intro dp un gd cn cs a ccd cl outer A₀ base h₀ L m s Q E hB hF hX hN hT hcs hdp hun hret
  refine wpAny_call ?_
  k_dflt (refine' code_def ?k1 ?k2 ?k3 ?k4 ?k5 ?kA ?kF ?kK ?k6 ?k7 ?k8 ?k9 ?kB ?_ ?c2 ?c3 ?c4 ?c5; (case kA => exact rfl); (case kF => exact rfl); (case kK => first | assumption | exact rfl); (case k1 => k_asm); (case k2 => k_asm); (case k3 => k_asm); (case k4 => k_asm); (case k5 => k_asm); (case k6 => k_is); (case k7 => k_is); (case k8 => k_room); (case k9 => first | exact BindsTo.of_eq rfl | exact binds_K (by k_in) rfl (by k_is) rfl rfl rfl); (case c5 => decide); (case kB => exact locs rfl); (case c2 => exact rfl); (case c3 => exact rfl); (case c4 => exact rfl); k_whole; intro g' L' h' FG' F' N' B' X' T'; (try dsimp only); (try k_fold))
  refine wpAny_noRaise ?_
  k_with_none
  k_with "my assign" => (k_dflt (refine compA (by with_unfolding_all rfl) (by rfl) (by rfl) (by decide) ?_))
  k_with "my comp" => (k_dflt (refine compE (by rfl) (by rfl) (by decide) ?_))
  k_steps
  k_dflt (refine' xgo_str (g := g') (G := fun gg => gg = g') (J := fun i ys nw => nw = news ∧ IntsAre ys ((x.take i).map rkS)) rfl rfl ?F1 ?N1 ?a1 ?s1 (by decide) (by rfl) (by rfl) ⟨rfl, .nil⟩ ?R1 ?RR1)
  case F1 => k_asm
  case N1 => k_asm
  case a1 => show (x.toArray).all (· < 128) = true; simpa using ha
  case s1 => show x.toArray.size ≤ 16777216; rw [List.size_toArray]; omega
  case R1 =>
    intro i ys nw hi hJ g v I oI C oC D m₂ h tk E' hG hP hC hm F N off ne
    obtain ⟨rfl, hys⟩ := hJ
    subst hG
    refine hideG ?_
    intro G9
    obtain ⟨c, u, hc, rfl⟩ := hP
    k_unfold
    have hc' : x[i]? = some c := by simpa using hc
    refine wpAny_tests_nil ?_
    simp only [if_true]
    refine wpAny_noRaise ?_
    by_cases h34 : c = 34
    · subst h34
      k_with_none
      k_with "my eq" => (refine eq_known (b := true) (by decide +kernel) ?_)
      k_steps
      k_dflt (refine ⟨g, _, _, nw, rfl, rfl, ?F2, ?N2, off, trivial, rfl, ?I2⟩)
      case F2 => k_asm
      case N2 => k_asm
      case I2 =>
        rw [take_snoc hc', List.map_append]
        exact hys.append (.cons _ _ .nil)
    · have hne : ((⟨#[c]⟩ : Str) == Str.ofString "\"") = false := by
        refine beq_eq_false_iff_ne.mpr fun e => h34 ?_
        have h9 : [c] = [34] := congrArg (fun s : Str => s.cps.toList) e
        exact (List.cons.inj h9).1
      k_with_none
      k_with "my eq" => (refine eq_known hne ?_)
      k_steps
      have er : rkS c = 2 * (c : Int) := by unfold rkS; rw [if_neg h34]
      k_dflt (refine ⟨g, _, _, nw, rfl, rfl, ?F3, ?N3, off, trivial, rfl, ?I3⟩)
      case F3 => k_asm
      case N3 => k_asm
      case I3 =>
        rw [take_snoc hc', List.map_append, List.map_cons, er]
        exact hys.append (.cons _ _ .nil)
  case RR1 =>
    intro g3 D3 C3 h3 tk3 m3 zs3 nw3 hG3 F3 N3 o3 hn3 hC3 hD3 hCL3 hDL3 hCD3 offC3 hJ3
    obtain ⟨rfl, hys⟩ := hJ3
    subst hG3
    have esz : x.take (SL x).cps.size = x := List.take_of_length_le (by show x.length ≤ x.toArray.size; simp)
    rw [esz] at hys
    k_dflt (refine' finA1 ?e0 F3 N3 hn3 hC3 hCL3 hCD3 offC3 ?e1 ?e2 ?_; (case e0 => rfl); (case e1 => rfl); (case e2 => rfl))
    intro h4 tk4 F4 N4
    dsimp only
    have hne : ((SL x) != Str.ofString "") = true := by
      simp only [bne_iff_ne, ne_eq]
      intro e
      have h9 : x = [] := congrArg (fun s : Str => s.cps.toList) e
      exact hx h9
    k_with_none
    k_with "my ne" => (refine ne_known hne ?_)
    k_with "my comp" => (k_dflt (refine compE (by rfl) (by rfl) (by decide) ?_))
    k_steps
    rename (_ < _) ∧ (_ < _) ∧ AllLt _ _ => kfr
    have hI9 := ‹IntsAre _ _›
    refine' hret _ _ _ _ ?e1' ?e2' ?e3'
    case e1' => k_asm
    case e2' => exact news_skip2 (by k_asm)
    case e3' => exact ⟨_, _, _, rfl, rfl, hI9, allLt_3 kfr.2.2⟩
theorem ranks_TN (x : List Nat) (t : Tok) (hl : x.length ≤ 100) (ha : ∀ c ∈ x, c < 128) (hx : x = []) :
   Spec w p loose mean mg mb 10 50 784 [.str (SL x) t, .bool true] news (fun v news' => ∃ D vs c, v = .ref D ∧ news' = (D, listObj vs.toArray c) :: news ∧ IntsAre vs ([999]) ∧ ∀ q ∈ news, q.1 < D) := by
  unfold Spec
  k_fill
  intro dp un gd cn cs a ccd cl outer A₀ base h₀ L m s Q E hB hF hX hN hT hcs hdp hun hret
  refine wpAny_call ?_
  k_dflt (refine' code_def ?k1 ?k2 ?k3 ?k4 ?k5 ?kA ?kF ?kK ?k6 ?k7 ?k8 ?k9 ?kB ?_ ?c2 ?c3 ?c4 ?c5; (case kA => exact rfl); (case kF => exact rfl); (case kK => first | assumption | exact rfl); (case k1 => k_asm); (case k2 => k_asm); (case k3 => k_asm); (case k4 => k_asm); (case k5 => k_asm); (case k6 => k_is); (case k7 => k_is); (case k8 => k_room); (case k9 => first | exact BindsTo.of_eq rfl | exact binds_K (by k_in) rfl (by k_is) rfl rfl rfl); (case c5 => decide); (case kB => exact locs rfl); (case c2 => exact rfl); (case c3 => exact rfl); (case c4 => exact rfl); k_whole; intro g' L' h' FG' F' N' B' X' T'; (try dsimp only); (try k_fold))
  refine wpAny_noRaise ?_
  k_with_none
  k_with "my assign" => (k_dflt (refine compA (by with_unfolding_all rfl) (by rfl) (by rfl) (by decide) ?_))
  k_with "my comp" => (k_dflt (refine compE (by rfl) (by rfl) (by decide) ?_))
  k_steps
  k_dflt (refine' xgo_str (g := g') (G := fun gg => gg = g') (J := fun i ys nw => nw = news ∧ IntsAre ys ((x.take i).map rkS)) rfl rfl ?F1 ?N1 ?a1 ?s1 (by decide) (by rfl) (by rfl) ⟨rfl, .nil⟩ ?R1 ?RR1)
  case F1 => k_asm
  case N1 => k_asm
  case a1 => show (x.toArray).all (· < 128) = true; simpa using ha
  case s1 => show x.toArray.size ≤ 16777216; rw [List.size_toArray]; omega
  case R1 =>
    intro i ys nw hi hJ g v I oI C oC D m₂ h tk E' hG hP hC hm F N off ne
    obtain ⟨rfl, hys⟩ := hJ
    subst hG
    refine hideG ?_
    intro G9
    obtain ⟨c, u, hc, rfl⟩ := hP
    k_unfold
    have hc' : x[i]? = some c := by simpa using hc
    refine wpAny_tests_nil ?_
    simp only [if_true]
    refine wpAny_noRaise ?_
    by_cases h34 : c = 34
    · subst h34
      k_with_none
      k_with "my eq" => (refine eq_known (b := true) (by decide +kernel) ?_)
      k_steps
      k_dflt (refine ⟨g, _, _, nw, rfl, rfl, ?F2, ?N2, off, trivial, rfl, ?I2⟩)
      case F2 => k_asm
      case N2 => k_asm
      case I2 =>
        rw [take_snoc hc', List.map_append]
        exact hys.append (.cons _ _ .nil)
    · have hne : ((⟨#[c]⟩ : Str) == Str.ofString "\"") = false := by
        refine beq_eq_false_iff_ne.mpr fun e => h34 ?_
        have h9 : [c] = [34] := congrArg (fun s : Str => s.cps.toList) e
        exact (List.cons.inj h9).1
      k_with_none
      k_with "my eq" => (refine eq_known hne ?_)
      k_steps
      have er : rkS c = 2 * (c : Int) := by unfold rkS; rw [if_neg h34]
      k_dflt (refine ⟨g, _, _, nw, rfl, rfl, ?F3, ?N3, off, trivial, rfl, ?I3⟩)
      case F3 => k_asm
      case N3 => k_asm
      case I3 =>
        rw [take_snoc hc', List.map_append, List.map_cons, er]
        exact hys.append (.cons _ _ .nil)
  case RR1 =>
    intro g3 D3 C3 h3 tk3 m3 zs3 nw3 hG3 F3 N3 o3 hn3 hC3 hD3 hCL3 hDL3 hCD3 offC3 hJ3
    obtain ⟨rfl, hys⟩ := hJ3
    subst hG3
    have esz : x.take (SL x).cps.size = x := List.take_of_length_le (by show x.length ≤ x.toArray.size; simp)
    rw [esz] at hys
    k_dflt (refine' finA1 ?e0 F3 N3 hn3 hC3 hCL3 hCD3 offC3 ?e1 ?e2 ?_; (case e0 => rfl); (case e1 => rfl); (case e2 => rfl))
    intro h4 tk4 F4 N4
    dsimp only
    have hne : ((SL x) != Str.ofString "") = false := by subst hx; decide
    k_with_none
    k_with "my ne" => (refine ne_known hne ?_)
    k_with "my comp" => (k_dflt (refine compE (by rfl) (by rfl) (by decide) ?_))
    k_steps
    refine' hret _ _ _ _ ?e1' ?e2' ?e3'
    case e1' => k_asm
    case e2' => exact news_skip1 (by k_asm)
    case e3' => exact ⟨_, [_], 0, rfl, rfl, .cons _ _ .nil, allLt_3 (‹(_ < _) ∧ AllLt _ _›).2⟩
theorem ranks_FN (x : List Nat) (t : Tok) (hl : x.length ≤ 100) (ha : ∀ c ∈ x, c < 128) (hx : x = []) :
   Spec w p loose mean mg mb 10 50 784 [.str (SL x) t, .bool false] news (fun v news' => ∃ D vs c, v = .ref D ∧ news' = (D, listObj vs.toArray c) :: news ∧ IntsAre vs ([78] ++ x.map rkS ++ [77]) ∧ ∀ q ∈ news, q.1 < D) := by
  unfold Spec
  k_fill
  intro dp un gd cn cs a ccd cl outer A₀ base h₀ L m s Q E hB hF hX hN hT hcs hdp hun hret
  refine wpAny_call ?_
  k_dflt (refine' code_def ?k1 ?k2 ?k3 ?k4 ?k5 ?kA ?kF ?kK ?k6 ?k7 ?k8 ?k9 ?kB ?_ ?c2 ?c3 ?c4 ?c5; (case kA => exact rfl); (case kF => exact rfl); (case kK => first | assumption | exact rfl); (case k1 => k_asm); (case k2 => k_asm); (case k3 => k_asm); (case k4 => k_asm); (case k5 => k_asm); (case k6 => k_is); (case k7 => k_is); (case k8 => k_room); (case k9 => first | exact BindsTo.of_eq rfl | exact binds_K (by k_in) rfl (by k_is) rfl rfl rfl); (case c5 => decide); (case kB => exact locs rfl); (case c2 => exact rfl); (case c3 => exact rfl); (case c4 => exact rfl); k_whole; intro g' L' h' FG' F' N' B' X' T'; (try dsimp only); (try k_fold))
  refine wpAny_noRaise ?_
  k_with_none
  k_with "my assign" => (k_dflt (refine compA (by with_unfolding_all rfl) (by rfl) (by rfl) (by decide) ?_))
  k_with "my comp" => (k_dflt (refine compE (by rfl) (by rfl) (by decide) ?_))
  k_steps
  k_dflt (refine' xgo_str (g := g') (G := fun gg => gg = g') (J := fun i ys nw => nw = news ∧ IntsAre ys ((x.take i).map rkS)) rfl rfl ?F1 ?N1 ?a1 ?s1 (by decide) (by rfl) (by rfl) ⟨rfl, .nil⟩ ?R1 ?RR1)
  case F1 => k_asm
  case N1 => k_asm
  case a1 => show (x.toArray).all (· < 128) = true; simpa using ha
  case s1 => show x.toArray.size ≤ 16777216; rw [List.size_toArray]; omega
  case R1 =>
    intro i ys nw hi hJ g v I oI C oC D m₂ h tk E' hG hP hC hm F N off ne
    obtain ⟨rfl, hys⟩ := hJ
    subst hG
    refine hideG ?_
    intro G9
    obtain ⟨c, u, hc, rfl⟩ := hP
    k_unfold
    have hc' : x[i]? = some c := by simpa using hc
    refine wpAny_tests_nil ?_
    simp only [if_true]
    refine wpAny_noRaise ?_
    by_cases h34 : c = 34
    · subst h34
      k_with_none
      k_with "my eq" => (refine eq_known (b := true) (by decide +kernel) ?_)
      k_steps
      k_dflt (refine ⟨g, _, _, nw, rfl, rfl, ?F2, ?N2, off, trivial, rfl, ?I2⟩)
      case F2 => k_asm
      case N2 => k_asm
      case I2 =>
        rw [take_snoc hc', List.map_append]
        exact hys.append (.cons _ _ .nil)
    · have hne : ((⟨#[c]⟩ : Str) == Str.ofString "\"") = false := by
        refine beq_eq_false_iff_ne.mpr fun e => h34 ?_
        have h9 : [c] = [34] := congrArg (fun s : Str => s.cps.toList) e
        exact (List.cons.inj h9).1
      k_with_none
      k_with "my eq" => (refine eq_known hne ?_)
      k_steps
      have er : rkS c = 2 * (c : Int) := by unfold rkS; rw [if_neg h34]
      k_dflt (refine ⟨g, _, _, nw, rfl, rfl, ?F3, ?N3, off, trivial, rfl, ?I3⟩)
      case F3 => k_asm
      case N3 => k_asm
      case I3 =>
        rw [take_snoc hc', List.map_append, List.map_cons, er]
        exact hys.append (.cons _ _ .nil)
  case RR1 =>
    intro g3 D3 C3 h3 tk3 m3 zs3 nw3 hG3 F3 N3 o3 hn3 hC3 hD3 hCL3 hDL3 hCD3 offC3 hJ3
    obtain ⟨rfl, hys⟩ := hJ3
    subst hG3
    have esz : x.take (SL x).cps.size = x := List.take_of_length_le (by show x.length ≤ x.toArray.size; simp)
    rw [esz] at hys
    k_dflt (refine' finA1 ?e0 F3 N3 hn3 hC3 hCL3 hCD3 offC3 ?e1 ?e2 ?_; (case e0 => rfl); (case e1 => rfl); (case e2 => rfl))
    intro h4 tk4 F4 N4
    dsimp only
    have hne : ((SL x) != Str.ofString "") = false := by subst hx; decide
    k_with_none
    k_with "my ne" => (refine ne_known hne ?_)
    k_with "my comp" => (k_dflt (refine compE (by rfl) (by rfl) (by decide) ?_))
    k_steps
    rename (_ < _) ∧ (_ < _) ∧ (_ < _) ∧ (_ < _) ∧ AllLt _ _ => kfr
    have hI9 := ‹IntsAre _ _›
    refine' hret _ _ _ _ ?e1' ?e2' ?e3'
    case e1' => k_asm
    case e2' => exact news_skip4 (by k_asm)
    case e3' => exact ⟨_, _, _, rfl, rfl, hI9, allLt_3 kfr.2.2.2.2⟩
end


end

section
section
variable {w : World} {p : Program} {loose : List Str} {mean : ExcName → Option Value} {mg mb : Str → Option Value} {news : List (Addr × Obj)}
theorem ranks_FS (x : List Nat) (t : Tok) (hl : x.length ≤ 100) (ha : ∀ c ∈ x, c < 128) (hx : x ≠ []) (hf : x.filter (fun c => !safeC c) = []) :
   Spec w p loose mean mg mb 10 50 784 [.str (SL x) t, .bool false] news (fun v news' => ∃ D vs c, v = .ref D ∧ news' = (D, listObj vs.toArray c) :: news ∧ IntsAre vs (x.map rkS ++ [68]) ∧ ∀ q ∈ news, q.1 < D) := by
  unfold Spec
  k_fill
  intro dp un gd cn cs a ccd cl outer A₀ base h₀ L m s Q E hB hF hX hN hT hcs hdp hun hret
  refine wpAny_call ?_
  k_dflt (refine' code_def ?k1 ?k2 ?k3 ?k4 ?k5 ?kA ?kF ?kK ?k6 ?k7 ?k8 ?k9 ?kB ?_ ?c2 ?c3 ?c4 ?c5; (case kA => exact rfl); (case kF => exact rfl); (case kK => first | assumption | exact rfl); (case k1 => k_asm); (case k2 => k_asm); (case k3 => k_asm); (case k4 => k_asm); (case k5 => k_asm); (case k6 => k_is); (case k7 => k_is); (case k8 => k_room); (case k9 => first | exact BindsTo.of_eq rfl | exact binds_K (by k_in) rfl (by k_is) rfl rfl rfl); (case c5 => decide); (case kB => exact locs rfl); (case c2 => exact rfl); (case c3 => exact rfl); (case c4 => exact rfl); k_whole; intro g' L' h' FG' F' N' B' X' T'; (try dsimp only); (try k_fold))
  refine wpAny_noRaise ?_
  k_with_none
  k_with "my assign" => (k_dflt (refine compA (by with_unfolding_all rfl) (by rfl) (by rfl) (by decide) ?_))
  k_with "my comp" => (k_dflt (refine compE (by rfl) (by rfl) (by decide) ?_))
  k_steps
  k_dflt (refine' xgo_str (g := g') (G := fun gg => gg = g') (J := fun i ys nw => nw = news ∧ IntsAre ys ((x.take i).map rkS)) rfl rfl ?F1 ?N1 ?a1 ?s1 (by decide) (by rfl) (by rfl) ⟨rfl, .nil⟩ ?R1 ?RR1)
  case F1 => k_asm
  case N1 => k_asm
  case a1 => show (x.toArray).all (· < 128) = true; simpa using ha
  case s1 => show x.toArray.size ≤ 16777216; rw [List.size_toArray]; omega
  case R1 =>
    intro i ys nw hi hJ g v I oI C oC D m₂ h tk E' hG hP hC hm F N off ne
    obtain ⟨rfl, hys⟩ := hJ
    subst hG
    refine hideG ?_
    intro G9
    obtain ⟨c, u, hc, rfl⟩ := hP
    k_unfold
    have hc' : x[i]? = some c := by simpa using hc
    refine wpAny_tests_nil ?_
    simp only [if_true]
    refine wpAny_noRaise ?_
    by_cases h34 : c = 34
    · subst h34
      k_with_none
      k_with "my eq" => (refine eq_known (b := true) (by decide +kernel) ?_)
      k_steps
      k_dflt (refine ⟨g, _, _, nw, rfl, rfl, ?F2, ?N2, off, trivial, rfl, ?I2⟩)
      case F2 => k_asm
      case N2 => k_asm
      case I2 =>
        rw [take_snoc hc', List.map_append]
        exact hys.append (.cons _ _ .nil)
    · have hne : ((⟨#[c]⟩ : Str) == Str.ofString "\"") = false := by
        refine beq_eq_false_iff_ne.mpr fun e => h34 ?_
        have h9 : [c] = [34] := congrArg (fun s : Str => s.cps.toList) e
        exact (List.cons.inj h9).1
      k_with_none
      k_with "my eq" => (refine eq_known hne ?_)
      k_steps
      have er : rkS c = 2 * (c : Int) := by unfold rkS; rw [if_neg h34]
      k_dflt (refine ⟨g, _, _, nw, rfl, rfl, ?F3, ?N3, off, trivial, rfl, ?I3⟩)
      case F3 => k_asm
      case N3 => k_asm
      case I3 =>
        rw [take_snoc hc', List.map_append, List.map_cons, er]
        exact hys.append (.cons _ _ .nil)
  case RR1 =>
    intro g3 D3 C3 h3 tk3 m3 zs3 nw3 hG3 F3 N3 o3 hn3 hC3 hD3 hCL3 hDL3 hCD3 offC3 hJ3
    obtain ⟨rfl, hys⟩ := hJ3
    subst hG3
    have esz : x.take (SL x).cps.size = x := List.take_of_length_le (by show x.length ≤ x.toArray.size; simp)
    rw [esz] at hys
    k_dflt (refine' finA1 ?e0 F3 N3 hn3 hC3 hCL3 hCD3 offC3 ?e1 ?e2 ?_; (case e0 => rfl); (case e1 => rfl); (case e2 => rfl))
    intro h4 tk4 F4 N4
    dsimp only
    have hne : ((SL x) != Str.ofString "") = true := by
      simp only [bne_iff_ne, ne_eq]
      intro e
      have h9 : x = [] := congrArg (fun s : Str => s.cps.toList) e
      exact hx h9
    k_with_none
    k_with "my ne" => (refine ne_known hne ?_)
    k_with "my comp" => (k_dflt (refine compE (by rfl) (by rfl) (by decide) ?_))
    k_steps
    k_dflt (refine' xgo_str (g := g3) (G := fun gg => gg = g3) (J := fun i ys nw => nw = (D3, LCg.lst zs3) :: nw3 ∧ ∃ fs, fs = (x.take i).filter (fun c => !safeC c) ∧ Vals (fs.map fun c => [c]) ys) rfl rfl ?F5 ?N5 ?a5 ?s5 (by decide) (by rfl) (by rfl) ⟨rfl, [], rfl, .nil⟩ ?R5 ?RR5)
    case F5 => k_asm
    case N5 => k_asm
    case a5 => show (x.toArray).all (· < 128) = true; simpa using ha
    case s5 => show x.toArray.size ≤ 16777216; rw [List.size_toArray]; omega
    case R5 =>
      intro i ys nw hi hJ g v I oI C oC D m₂ h tk E' hG hP hC hm F N off ne
      refine hideG ?_
      intro G9
      obtain ⟨rfl, fs, rfl, hys2⟩ := hJ
      k_unfold
      subst hG
      refine hideG ?_
      intro G9
      obtain ⟨c, u, hc, rfl⟩ := hP
      k_unfold
      have hc' : x[i]? = some c := by simpa using hc
      have hct : Txt.contains (Str.ofString "%Aa") ⟨#[c]⟩ = safeC c := contains_safe c (ha c (List.mem_of_getElem? hc'))
      refine wpAny_tests_one ?_
      refine wpAny_noRaise ?_
      cases hsc : safeC c with
      | true =>
        rw [hsc] at hct
        k_with_none
        k_with "my notin" => (refine notin_known hct ?_)
        k_steps
        k_dflt (refine ⟨g, _, _, _, rfl, rfl, ?F6, ?N6, off, trivial, rfl, _, rfl, ?I6⟩)
        case F6 => k_asm
        case N6 => k_asm
        case I6 =>
          rw [take_snoc hc', List.filter_append]
          simpa [hsc] using hys2
      | false =>
        rw [hsc] at hct
        k_with_none
        k_with "my notin" => (refine notin_known hct ?_)
        k_steps
        k_dflt (refine ⟨g, _, _, _, rfl, rfl, ?F7, ?N7, off, trivial, rfl, _, rfl, ?I7⟩)
        case F7 => k_asm
        case N7 => k_asm
        case I7 =>
          rw [take_snoc hc', List.filter_append, List.map_append]
          have e : ([c].filter fun c => !safeC c) = [c] := by simp [hsc]
          rw [e]
          exact hys2.append Vals.one
    case RR5 =>
      intro g5 D5 C5 h5 tk5 m5 zs5 nw5 hG5 F5 N5 o5 hn5 hC5 hD5 hCL5 hDL5 hCD5 offC5 hJ5
      refine hideG ?_
      intro G9
      obtain ⟨rfl, fs, rfl, hys5⟩ := hJ5
      k_unfold
      subst hG5
      rw [esz] at hys5
      k_dflt (refine finE1 F5 N5 hn5 hC5 hCL5 hCD5 offC5 ?_)
      intro h6 F6 N6
      k_with_none
      k_with "my eqs" => (refine hold ?_)
      k_steps
      refine unhold ?_
      (with_reducible rename News _ _ _ _ => kN)
      have hzl : zs5.toArray.isEmpty = true := by
        have hl9 := hys5.length
        rw [List.length_map] at hl9
        rw [hf] at hl9; simpa using hl9
      k_dflt (refine' eq_nil kN (.tail _ (.head _)) (.head _) ?u9 ?_)
      case u9 => k_units
      rw [hzl]
      k_steps
      rename (_ < _) ∧ (_ < _) ∧ (_ < _) ∧ (_ < _) ∧ AllLt _ _ => kfr
      have hI9 := ‹IntsAre _ _›
      refine' hret _ _ _ _ ?e1' ?e2' ?e3'
      case e1' => k_asm
      case e2' => exact news_skip4 (by k_asm)
      case e3' => exact ⟨_, _, _, rfl, rfl, hI9, allLt_3 kfr.2.2.2.2⟩
theorem ranks_FB (x : List Nat) (t : Tok) (hl : x.length ≤ 100) (ha : ∀ c ∈ x, c < 128) (hx : x ≠ []) (hf : x.filter (fun c => !safeC c) ≠ []) :
   Spec w p loose mean mg mb 10 50 784 [.str (SL x) t, .bool false] news (fun v news' => ∃ D vs c, v = .ref D ∧ news' = (D, listObj vs.toArray c) :: news ∧ IntsAre vs ([78] ++ x.map rkS ++ [77]) ∧ ∀ q ∈ news, q.1 < D) := by
  unfold Spec
  k_fill
  intro dp un gd cn cs a ccd cl outer A₀ base h₀ L m s Q E hB hF hX hN hT hcs hdp hun hret
  refine wpAny_call ?_
  k_dflt (refine' code_def ?k1 ?k2 ?k3 ?k4 ?k5 ?kA ?kF ?kK ?k6 ?k7 ?k8 ?k9 ?kB ?_ ?c2 ?c3 ?c4 ?c5; (case kA => exact rfl); (case kF => exact rfl); (case kK => first | assumption | exact rfl); (case k1 => k_asm); (case k2 => k_asm); (case k3 => k_asm); (case k4 => k_asm); (case k5 => k_asm); (case k6 => k_is); (case k7 => k_is); (case k8 => k_room); (case k9 => first | exact BindsTo.of_eq rfl | exact binds_K (by k_in) rfl (by k_is) rfl rfl rfl); (case c5 => decide); (case kB => exact locs rfl); (case c2 => exact rfl); (case c3 => exact rfl); (case c4 => exact rfl); k_whole; intro g' L' h' FG' F' N' B' X' T'; (try dsimp only); (try k_fold))
  refine wpAny_noRaise ?_
  k_with_none
  k_with "my assign" => (k_dflt (refine compA (by with_unfolding_all rfl) (by rfl) (by rfl) (by decide) ?_))
  k_with "my comp" => (k_dflt (refine compE (by rfl) (by rfl) (by decide) ?_))
  k_steps
  k_dflt (refine' xgo_str (g := g') (G := fun gg => gg = g') (J := fun i ys nw => nw = news ∧ IntsAre ys ((x.take i).map rkS)) rfl rfl ?F1 ?N1 ?a1 ?s1 (by decide) (by rfl) (by rfl) ⟨rfl, .nil⟩ ?R1 ?RR1)
  case F1 => k_asm
  case N1 => k_asm
  case a1 => show (x.toArray).all (· < 128) = true; simpa using ha
  case s1 => show x.toArray.size ≤ 16777216; rw [List.size_toArray]; omega
  case R1 =>
    intro i ys nw hi hJ g v I oI C oC D m₂ h tk E' hG hP hC hm F N off ne
    obtain ⟨rfl, hys⟩ := hJ
    subst hG
    refine hideG ?_
    intro G9
    obtain ⟨c, u, hc, rfl⟩ := hP
    k_unfold
    have hc' : x[i]? = some c := by simpa using hc
    refine wpAny_tests_nil ?_
    simp only [if_true]
    refine wpAny_noRaise ?_
    by_cases h34 : c = 34
    · subst h34
      k_with_none
      k_with "my eq" => (refine eq_known (b := true) (by decide +kernel) ?_)
      k_steps
      k_dflt (refine ⟨g, _, _, nw, rfl, rfl, ?F2, ?N2, off, trivial, rfl, ?I2⟩)
      case F2 => k_asm
      case N2 => k_asm
      case I2 =>
        rw [take_snoc hc', List.map_append]
        exact hys.append (.cons _ _ .nil)
    · have hne : ((⟨#[c]⟩ : Str) == Str.ofString "\"") = false := by
        refine beq_eq_false_iff_ne.mpr fun e => h34 ?_
        have h9 : [c] = [34] := congrArg (fun s : Str => s.cps.toList) e
        exact (List.cons.inj h9).1
      k_with_none
      k_with "my eq" => (refine eq_known hne ?_)
      k_steps
      have er : rkS c = 2 * (c : Int) := by unfold rkS; rw [if_neg h34]
      k_dflt (refine ⟨g, _, _, nw, rfl, rfl, ?F3, ?N3, off, trivial, rfl, ?I3⟩)
      case F3 => k_asm
      case N3 => k_asm
      case I3 =>
        rw [take_snoc hc', List.map_append, List.map_cons, er]
        exact hys.append (.cons _ _ .nil)
  case RR1 =>
    intro g3 D3 C3 h3 tk3 m3 zs3 nw3 hG3 F3 N3 o3 hn3 hC3 hD3 hCL3 hDL3 hCD3 offC3 hJ3
    obtain ⟨rfl, hys⟩ := hJ3
    subst hG3
    have esz : x.take (SL x).cps.size = x := List.take_of_length_le (by show x.length ≤ x.toArray.size; simp)
    rw [esz] at hys
    k_dflt (refine' finA1 ?e0 F3 N3 hn3 hC3 hCL3 hCD3 offC3 ?e1 ?e2 ?_; (case e0 => rfl); (case e1 => rfl); (case e2 => rfl))
    intro h4 tk4 F4 N4
    dsimp only
    have hne : ((SL x) != Str.ofString "") = true := by
      simp only [bne_iff_ne, ne_eq]
      intro e
      have h9 : x = [] := congrArg (fun s : Str => s.cps.toList) e
      exact hx h9
    k_with_none
    k_with "my ne" => (refine ne_known hne ?_)
    k_with "my comp" => (k_dflt (refine compE (by rfl) (by rfl) (by decide) ?_))
    k_steps
    k_dflt (refine' xgo_str (g := g3) (G := fun gg => gg = g3) (J := fun i ys nw => nw = (D3, LCg.lst zs3) :: nw3 ∧ ∃ fs, fs = (x.take i).filter (fun c => !safeC c) ∧ Vals (fs.map fun c => [c]) ys) rfl rfl ?F5 ?N5 ?a5 ?s5 (by decide) (by rfl) (by rfl) ⟨rfl, [], rfl, .nil⟩ ?R5 ?RR5)
    case F5 => k_asm
    case N5 => k_asm
    case a5 => show (x.toArray).all (· < 128) = true; simpa using ha
    case s5 => show x.toArray.size ≤ 16777216; rw [List.size_toArray]; omega
    case R5 =>
      intro i ys nw hi hJ g v I oI C oC D m₂ h tk E' hG hP hC hm F N off ne
      refine hideG ?_
      intro G9
      obtain ⟨rfl, fs, rfl, hys2⟩ := hJ
      k_unfold
      subst hG
      refine hideG ?_
      intro G9
      obtain ⟨c, u, hc, rfl⟩ := hP
      k_unfold
      have hc' : x[i]? = some c := by simpa using hc
      have hct : Txt.contains (Str.ofString "%Aa") ⟨#[c]⟩ = safeC c := contains_safe c (ha c (List.mem_of_getElem? hc'))
      refine wpAny_tests_one ?_
      refine wpAny_noRaise ?_
      cases hsc : safeC c with
      | true =>
        rw [hsc] at hct
        k_with_none
        k_with "my notin" => (refine notin_known hct ?_)
        k_steps
        k_dflt (refine ⟨g, _, _, _, rfl, rfl, ?F6, ?N6, off, trivial, rfl, _, rfl, ?I6⟩)
        case F6 => k_asm
        case N6 => k_asm
        case I6 =>
          rw [take_snoc hc', List.filter_append]
          simpa [hsc] using hys2
      | false =>
        rw [hsc] at hct
        k_with_none
        k_with "my notin" => (refine notin_known hct ?_)
        k_steps
        k_dflt (refine ⟨g, _, _, _, rfl, rfl, ?F7, ?N7, off, trivial, rfl, _, rfl, ?I7⟩)
        case F7 => k_asm
        case N7 => k_asm
        case I7 =>
          rw [take_snoc hc', List.filter_append, List.map_append]
          have e : ([c].filter fun c => !safeC c) = [c] := by simp [hsc]
          rw [e]
          exact hys2.append Vals.one
    case RR5 =>
      intro g5 D5 C5 h5 tk5 m5 zs5 nw5 hG5 F5 N5 o5 hn5 hC5 hD5 hCL5 hDL5 hCD5 offC5 hJ5
      refine hideG ?_
      intro G9
      obtain ⟨rfl, fs, rfl, hys5⟩ := hJ5
      k_unfold
      subst hG5
      rw [esz] at hys5
      k_dflt (refine finE1 F5 N5 hn5 hC5 hCL5 hCD5 offC5 ?_)
      intro h6 F6 N6
      k_with_none
      k_with "my eqs" => (refine hold ?_)
      k_steps
      refine unhold ?_
      (with_reducible rename News _ _ _ _ => kN)
      have hzl : zs5.toArray.isEmpty = false := by
        have hl9 := hys5.length
        rw [List.length_map] at hl9
        have h0 : 0 < (x.filter fun c => !safeC c).length := List.length_pos_iff.mpr hf
        have h1 : zs5 ≠ [] := fun e => by rw [e] at hl9; simp at hl9; omega
        cases zs5 with
        | nil => exact absurd rfl h1
        | cons _ _ => rfl
      k_dflt (refine' eq_nil kN (.tail _ (.head _)) (.head _) ?u9 ?_)
      case u9 => k_units
      rw [hzl]
      k_steps
      rename (_ < _) ∧ (_ < _) ∧ (_ < _) ∧ (_ < _) ∧ (_ < _) ∧ (_ < _) ∧ AllLt _ _ => kfr
      have hI9 := ‹IntsAre _ _›
      refine' hret _ _ _ _ ?e1' ?e2' ?e3'
      case e1' => k_asm
      case e2' => exact news_skip6 (by k_asm)
      case e3' => exact ⟨_, _, _, rfl, rfl, hI9, allLt_3 kfr.2.2.2.2.2.2⟩
end

section
variable {w : World} {p : Program} {loose : List Str} {mean : ExcName → Option Value} {mg mb : Str → Option Value} {news : List (Addr × Obj)}
theorem ranks_spec (x : List Nat) (t : Tok) (b : Bool) (hl : x.length ≤ 100) (ha : ∀ c ∈ x, c < 128) :
   Spec w p loose mean mg mb 10 50 784 [.str (SL x) t, .bool b] news (fun v news' => ∃ D vs c, v = .ref D ∧ news' = (D, listObj vs.toArray c) :: news ∧ IntsAre vs (rk b x) ∧ ∀ q ∈ news, q.1 < D) := by
  cases b with
  | true =>
    by_cases hx : x = []
    · have e : rk true x = [999] := by unfold rk; simp [hx]
      rw [e]; exact ranks_TN x t hl ha hx
    · have e : rk true x = x.map rkS ++ [68] := by unfold rk; simp [hx]
      rw [e]; exact ranks_T x t hl ha hx
  | false =>
    by_cases hx : x = []
    · have e : rk false x = [78] ++ x.map rkS ++ [77] := by unfold rk; simp [hx]
      rw [e]; exact ranks_FN x t hl ha hx
    · by_cases hf : x.filter (fun c => !safeC c) = []
      · have e : rk false x = x.map rkS ++ [68] := by
          unfold rk
          rw [if_neg (by decide), if_pos ⟨hx, hf⟩]
        rw [e]; exact ranks_FS x t hl ha hx hf
      · have e : rk false x = [78] ++ x.map rkS ++ [77] := by
          unfold rk
          rw [if_neg (by decide), if_neg (fun h => hf h.2)]
        rw [e]; exact ranks_FB x t hl ha hx hf
end

end
local macro_rules | `(tactic| walk_at "compareOp NotEq int int") => `(tactic| k_extra "my nei")

section
/-! _law_rows (779) -/
def signsL : List Nat := [32, 34, 37, 39, 65, 92, 97]
def lrStep (st : List (List Nat) × List (List Nat) × List Nat) (x : Int) : List (List Nat) × List (List Nat) × List Nat :=
  if (x.fmod 24).fmod 8 ≠ 0 then (st.1, st.2.1, st.2.2 ++ [signsL.getD ((x.fmod 24).fmod 8 - 1).toNat 0])
  else (if ((x.fmod 24).fdiv 8 = 0 ∨ (x.fmod 24).fdiv 8 = 2) ∧ st.2.2 ∉ st.1 then st.1 ++ [st.2.2] else st.1, if ((x.fmod 24).fdiv 8 = 1 ∨ (x.fmod 24).fdiv 8 = 2) ∧ st.2.2 ∉ st.2.1 then st.2.1 ++ [st.2.2] else st.2.1, [])
def lrAll (ns : List Int) : List (List Nat) × List (List Nat) × List Nat := ns.foldl lrStep ([], [[39]], [])
def lrLocals (d R : Addr) (wv : Value) (ext : List (Str × Value)) : Str → Option Value :=
  fun y => List.lookup y ((Str.ofString "draws", Value.ref d) :: (Str.ofString "rows", Value.ref R) :: (Str.ofString "word", wv) :: ext)
def extOk (ext : List (Str × Value)) : Prop := ext = [] ∨ (∃ a b, ext = [(Str.ofString "x", a), (Str.ofString "r", b)]) ∨ (∃ a b c, ext = [(Str.ofString "x", a), (Str.ofString "r", b), (Str.ofString "k", c)])
def lrBody (fd : FuncData) : List Stmt := match fd.body with
  | .stmts (_ :: _ :: .For _ _ b _ _ :: _) => b
  | _ => default
theorem lr_ext {d R : Addr} {wv wv' xv rv : Value} {ext : List (Str × Value)} {m : Str → Option Value} (hext : extOk ext)
    (h1 : m (Str.ofString "draws") = some (.ref d)) (h2 : m (Str.ofString "rows") = some (.ref R)) (h3 : m (Str.ofString "word") = some wv') (h4 : m (Str.ofString "x") = some xv) (h5 : m (Str.ofString "r") = some rv)
    (h9 : ∀ y, y ≠ Str.ofString "draws" → y ≠ Str.ofString "rows" → y ≠ Str.ofString "word" → y ≠ Str.ofString "x" → y ≠ Str.ofString "r" → m y = lrLocals d R wv ext y) :
    ∃ ext', extOk ext' ∧ ∀ y, m y = lrLocals d R wv' ext' y := by
  have key : ∀ kx : List (Str × Value), (kx = [] ∨ ∃ c, kx = [(Str.ofString "k", c)]) → (∀ y, y ≠ Str.ofString "x" → y ≠ Str.ofString "r" → List.lookup y ext = List.lookup y kx) → ∀ y, m y = lrLocals d R wv' ((Str.ofString "x", xv) :: (Str.ofString "r", rv) :: kx) y := by
    intro kx hkx hlk y
    by_cases n1 : y = Str.ofString "draws"
    · subst n1; exact h1
    by_cases n2 : y = Str.ofString "rows"
    · subst n2; exact h2
    by_cases n3 : y = Str.ofString "word"
    · subst n3; exact h3
    by_cases n4 : y = Str.ofString "x"
    · subst n4; exact h4
    by_cases n5 : y = Str.ofString "r"
    · subst n5; exact h5
    rw [h9 y n1 n2 n3 n4 n5]
    have z1 := beq_eq_false_iff_ne.mpr n1
    have z2 := beq_eq_false_iff_ne.mpr n2
    have z3 := beq_eq_false_iff_ne.mpr n3
    have z4 := beq_eq_false_iff_ne.mpr n4
    have z5 := beq_eq_false_iff_ne.mpr n5
    simp only [lrLocals, List.lookup, z1, z2, z3, z4, z5]
    exact hlk y n4 n5
  rcases hext with rfl | ⟨a, b, rfl⟩ | ⟨a, b, c, rfl⟩
  · exact ⟨_, .inr (.inl ⟨xv, rv, rfl⟩), key [] (.inl rfl) fun y _ _ => rfl⟩
  · refine ⟨_, .inr (.inl ⟨xv, rv, rfl⟩), key [] (.inl rfl) fun y n1 n2 => ?_⟩
    simp only [List.lookup, beq_eq_false_iff_ne.mpr n1, beq_eq_false_iff_ne.mpr n2]
  · refine ⟨_, .inr (.inr ⟨xv, rv, c, rfl⟩), key [(Str.ofString "k", c)] (.inr ⟨c, rfl⟩) fun y n1 n2 => ?_⟩
    simp only [List.lookup, beq_eq_false_iff_ne.mpr n1, beq_eq_false_iff_ne.mpr n2]
theorem lr_extF {g : Heap} {L : Addr} {h : Heap} {d R : Addr} {wv wv' xv rv : Value} {ext : List (Str × Value)} {m : Str → Option Value} (hext : extOk ext) (F : Fr g L h m)
    (h1 : m (Str.ofString "draws") = some (.ref d)) (h2 : m (Str.ofString "rows") = some (.ref R)) (h3 : m (Str.ofString "word") = some wv') (h4 : m (Str.ofString "x") = some xv) (h5 : m (Str.ofString "r") = some rv)
    (h9 : ∀ y, y ≠ Str.ofString "draws" → y ≠ Str.ofString "rows" → y ≠ Str.ofString "word" → y ≠ Str.ofString "x" → y ≠ Str.ofString "r" → m y = lrLocals d R wv ext y) :
    ∃ ext', extOk ext' ∧ Fr g L h (lrLocals d R wv' ext') := by
  obtain ⟨ext', he, hm⟩ := lr_ext hext h1 h2 h3 h4 h5 h9
  exact ⟨ext', he, Fr.ext' F hm⟩
theorem lr_extK {g : Heap} {L : Addr} {h : Heap} {d R : Addr} {wv wv' xv rv kv : Value} {ext : List (Str × Value)} {m : Str → Option Value} (hext : extOk ext) (F : Fr g L h m)
    (h1 : m (Str.ofString "draws") = some (.ref d)) (h2 : m (Str.ofString "rows") = some (.ref R)) (h3 : m (Str.ofString "word") = some wv') (h4 : m (Str.ofString "x") = some xv) (h5 : m (Str.ofString "r") = some rv) (h6 : m (Str.ofString "k") = some kv)
    (h9 : ∀ y, y ≠ Str.ofString "draws" → y ≠ Str.ofString "rows" → y ≠ Str.ofString "word" → y ≠ Str.ofString "x" → y ≠ Str.ofString "r" → y ≠ Str.ofString "k" → m y = lrLocals d R wv ext y) :
    ∃ ext', extOk ext' ∧ Fr g L h (lrLocals d R wv' ext') := by
  refine ⟨[(Str.ofString "x", xv), (Str.ofString "r", rv), (Str.ofString "k", kv)], .inr (.inr ⟨_, _, _, rfl⟩), Fr.ext' F fun y => ?_⟩
  by_cases n1 : y = Str.ofString "draws"
  · subst n1; exact h1
  by_cases n2 : y = Str.ofString "rows"
  · subst n2; exact h2
  by_cases n3 : y = Str.ofString "word"
  · subst n3; exact h3
  by_cases n4 : y = Str.ofString "x"
  · subst n4; exact h4
  by_cases n5 : y = Str.ofString "r"
  · subst n5; exact h5
  by_cases n6 : y = Str.ofString "k"
  · subst n6; exact h6
  rw [h9 y n1 n2 n3 n4 n5 n6]
  have z1 := beq_eq_false_iff_ne.mpr n1
  have z2 := beq_eq_false_iff_ne.mpr n2
  have z3 := beq_eq_false_iff_ne.mpr n3
  have z4 := beq_eq_false_iff_ne.mpr n4
  have z5 := beq_eq_false_iff_ne.mpr n5
  have z6 := beq_eq_false_iff_ne.mpr n6
  rcases hext with rfl | ⟨a, b, rfl⟩ | ⟨a, b, c, rfl⟩ <;> simp only [lrLocals, List.lookup, z1, z2, z3, z4, z5, z6]
theorem item_sign : ∀ k : Nat, k < 7 → Txt.item (Str.ofString " \"%'A\\a") (k : Int) = SL [signsL.getD k 0] := by decide +kernel
theorem nei_known {prog : Program} {w : World} {A : Around} {E : Value → Shared → Prop} {s : Shared} {a b : Int} {t u : Tok} {c : Bool} {Q : Value → Shared → Prop} (e : (a != b) = c) (h : Q (.bool c) s) : wpAny (model prog w) A (compareOp .NotEq (.int a t) (.int b u)) Q E s := ne_int (by rw [e]; exact h)
section
variable {w : World} {p : Program} {loose : List Str} {mean : ExcName → Option Value} {mg mb : Str → Option Value}
theorem lr_letter {dp un : Nat} {gd : Option (List Code)} {cl : List (Str × Addr)} {outer : List Env} {A₀ : Around} {base g : Heap} {fd : FuncData} {L d R : Addr} {news : List (Addr × Obj)} {word : List Nat} {x : Int} {t tw : Tok} {ext : List (Str × Value)} {s : Shared} {Q : Flow → Shared → Prop} {E : Value → Shared → Prop}
   (hfd : fnAt (Mine.hd.heap_1 w.params) 779 = some fd) (hB : Below A₀ base outer g) (hX : (Mine.hd.heap_1 w.params).In g) (hT : Top p loose mean mg mb g) (hd : dp + 10 < recursionLimit) (hu : un + 50 < cLine) (hext : extOk ext) (hw : word.length ≤ 100)
   (hx : (x.fmod 24).fmod 8 ≠ 0)
   (F : Fr g L s.heap (fun z => if z = Str.ofString "x" then some (.int x t) else lrLocals d R (.str (SL word) tw) ext z)) (N : News g L s.heap news)
   (next : ∀ h' tk' ext' tw', extOk ext' → Fr g L h' (lrLocals d R (.str (SL (word ++ [signsL.getD ((x.fmod 24).fmod 8 - 1).toNat 0])) tw') ext') → News g L h' news → Q .next { s with heap := h', toks := tk' }) :
   wpAny (model PySem.Challenge.rw_of0086_01.row.prog w) (ktrTop dp un gd fd.qualname fd.scope L 779 fd.code cl outer) (execs (lrBody fd) (envOf fd.qualname fd.scope L 779 fd.code)) Q E s := by
  revert hfd
  k_fill
  intro hfd
  refine' (fun (e9 : fd = _) => ?main9) (Option.some.inj (hfd.symm.trans (fnAt_of ?hl9)))
  case hl9 => k_dflt k_is
  subst e9
  clear hfd
  dsimp only [lrBody]
  have hx' : ((x.fmod 24).fmod 8 != 0) = true := by simpa using hx
  have hsl : (SL word).length ≤ 100 := by show word.toArray.size ≤ 100; simpa using hw
  have hrng : 0 ≤ (x.fmod 24).fmod 8 ∧ (x.fmod 24).fmod 8 < 8 := ⟨Int.fmod_nonneg_of_pos _ (by decide), Int.fmod_lt_of_pos _ (by decide)⟩
  refine wpAny_noRaise ?_
  k_with_none
  k_with "my nei" => (refine nei_known hx' ?_)
  k_steps
  (with_reducible rename Fr _ _ _ _ => kF)
  obtain ⟨ext', hext', F5⟩ := lr_extF (wv := .str (SL word) tw) hext kF rfl rfl rfl rfl rfl (by
    intro y n1 n2 n3 n4 n5
    simp only [n3, n4, n5, if_false])
  have es : SL word ++ Txt.item (Str.ofString " \"%'A\\a") ((x.fmod 24).fmod 8 - 1) = SL (word ++ [signsL.getD ((x.fmod 24).fmod 8 - 1).toNat 0]) := by
    obtain ⟨k, hk⟩ := Int.eq_ofNat_of_zero_le (show 0 ≤ (x.fmod 24).fmod 8 - 1 by omega)
    rw [hk, item_sign k (by omega)]
    show (⟨word.toArray ++ [signsL.getD k 0].toArray⟩ : Str) = ⟨(word ++ [signsL.getD ((k : Int).toNat) 0]).toArray⟩
    simp
  rw [es] at F5
  exact next _ _ ext' _ hext' F5 (by k_asm)
end

end
local macro_rules | `(tactic| walk_at "UnrEnd") => `(tactic| k_extra "my unr")
local macro_rules | `(tactic| walk_at "compareOp In int ref") => `(tactic| k_extra "my ini")
local macro_rules | `(tactic| walk_at "compareOp NotIn str ref") => `(tactic| k_extra "my notins")

section
section
variable {prog : Program} {w : World} {A : Around} {E : Value → Shared → Prop} {s : Shared} {h₀ : Heap} {L : Addr} {m : Str → Option Value}
theorem allLt_2 {d : Nat} : ∀ {l : List (Addr × Obj)}, AllLt d l → ∀ p ∈ l, p.1 < d
  | [], _, _, hp => nomatch hp
  | _ :: _, h, p, hp => by
    rcases List.mem_cons.mp hp with rfl | hp
    · exact h.1
    · exact allLt_2 h.2 p hp
theorem unr_tail {I : Addr} {it : Obj} {rest : (Str → Option Value) → List (Addr × Obj) → Prop} {h' : Heap} {tk : Nat} {m' : Str → Option Value} {q0 : Addr × Obj} {news' : List (Addr × Obj)} (F : Fr h₀ L h' m') (N : News h₀ L h' (q0 :: (I, it) :: news')) (off : ∀ p ∈ news', p.1 ≠ I) (r : rest m' news') : UnrEnd h₀ L s I it rest { s with heap := h', toks := tk } :=
  UnrEnd.intro F N news' (fun p hp => .tail _ hp) off r
theorem app_any {D : Addr} {its : Array Value} {n : Nat} {x : Value} {own rest : List (Addr × Obj)} {Q : Value → Shared → Prop} (F : Fr h₀ L s.heap m) (N : News h₀ L s.heap (own ++ (D, listObj its n) :: rest)) (h1 : ∀ q ∈ own, q.1 ≠ D) (h2 : ∀ q ∈ rest, q.1 ≠ D) (hz : its.size ≤ 1000)
    (h : ∀ h' n', Fr h₀ L h' m → News h₀ L h' (own ++ (D, listObj (its.push x) n') :: rest) → Q .none { s with heap := h' }) : wpAny (model prog w) A (call (.builtin "list.append") [.ref D, x]) Q E s := by
  have z := N (D, listObj its n) (List.mem_append.mpr (.inr (.head _)))
  refine append_at (hsz := by show its.size ≤ 16777216; omega) z.1 fun h' hs ho => h h' _ (F.change hs z.2.1 z.2.2) (News.setIn N h1 h2 hs ho)
end
section
variable {w : World} {p : Program} {loose : List Str} {mean : ExcName → Option Value} {mg mb : Str → Option Value}
theorem lr_0a {dp un : Nat} {gd : Option (List Code)} {cl : List (Str × Addr)} {outer : List Env} {A₀ : Around} {base g : Heap} {fd : FuncData} {L d R r0 r1 I : Addr} {oI : Obj} {w0 w1 : List (List Nat)} {v0 v1 : List Value} {c c0 c1 : Nat} {news : List (Addr × Obj)} {word : List Nat} {x : Int} {t tw : Tok} {ext : List (Str × Value)} {s : Shared} {Q : Flow → Shared → Prop} {E : Value → Shared → Prop}
   (hfd : fnAt (Mine.hd.heap_1 w.params) 779 = some fd) (hB : Below A₀ base outer g) (hX : (Mine.hd.heap_1 w.params).In g) (hT : Top p loose mean mg mb g) (hd : dp + 10 < recursionLimit) (hu : un + 50 < cLine) (hext : extOk ext)
   (hx : (x.fmod 24).fmod 8 = 0) (hq : (x.fmod 24).fdiv 8 = 0) (h0 : Vals w0 v0) (h1 : Vals w1 v1) (l0 : w0.length ≤ 100) (l1 : w1.length ≤ 100) (hn0 : (w0.map SL).any (· == SL word) = false)
   (z1 : r0 ≠ r1) (z2 : R ≠ r0) (z3 : R ≠ r1) (z4 : I ≠ r0) (z5 : I ≠ r1) (z6 : ∀ q ∈ news, q.1 ≠ r0) (z7 : ∀ q ∈ news, q.1 ≠ r1)
   (F : Fr g L s.heap (fun z => if z = Str.ofString "x" then some (.int x t) else lrLocals d R (.str (SL word) tw) ext z)) (N : News g L s.heap ((I, oI) :: (R, listObj #[.ref r0, .ref r1] c) :: (r0, listObj v0.toArray c0) :: (r1, listObj v1.toArray c1) :: news))
   (next : ∀ h' tk' ext' tw' c0' c1', extOk ext' → Fr g L h' (lrLocals d R (.str (SL []) tw') ext') → News g L h' ((I, oI) :: (R, listObj #[.ref r0, .ref r1] c) :: (r0, listObj (v0.toArray.push (.str (SL word) tw)) c0') :: (r1, listObj v1.toArray c1') :: news) → Q .next { s with heap := h', toks := tk' }) :
   wpAny (model PySem.Challenge.rw_of0086_01.row.prog w) (ktrTop dp un gd fd.qualname fd.scope L 779 fd.code cl outer) (execs (lrBody fd) (envOf fd.qualname fd.scope L 779 fd.code)) Q E s := by
  revert hfd
  k_fill
  intro hfd
  refine' (fun (e9 : fd = _) => ?main9) (Option.some.inj (hfd.symm.trans (fnAt_of ?hl9)))
  case hl9 => k_dflt k_is
  subst e9
  clear hfd
  dsimp only [lrBody]
  have hx' : ((x.fmod 24).fmod 8 != 0) = false := by simpa using hx
  have y1 : r1 ≠ r0 := fun e => z1 e.symm
  refine wpAny_noRaise ?_
  k_with_none
  k_with "my nei" => (refine nei_known hx' ?_)
  k_with "my ini" => (k_dflt (refine in_tuple_ints (News.isTup (by k_asm) (.head _)) (.cons _ _ (.cons _ _ .nil)) ?_); rw [hq]; dsimp only [List.any])
  k_with "my notins" => (k_dflt (first | (refine notin_list_strs (l := r0) (News.isList (by k_asm) (by k_mem)) h0.strs ?_; rw [hn0])); (try dsimp only [Bool.not_true, Bool.not_false]))
  k_with "my append" => (k_dflt (first | (refine app_any (D := r0) (own := [_, _, (I, oI), (R, _)]) (by k_asm) (by k_asm) (by intro q hq; simp only [List.mem_cons, List.not_mem_nil, or_false] at hq; rcases hq with rfl | rfl | rfl | rfl <;> first | assumption | (show @Ne Nat _ _; omega)) (List.forall_mem_cons.mpr ⟨y1, z6⟩) (by rw [List.size_toArray, h0.length]; omega) ?_)); intro h9 n9 F9 N9; simp only [List.nil_append, List.cons_append] at N9)
  k_with "my unr" => (k_dflt ((rename (_ < _) ∧ (_ < _) ∧ (_ < _) ∧ (_ < _) ∧ AllLt _ _ => kl); refine' unr_tail ?uF ?uN ?uo ?_; (case uN => k_asm); (case uF => k_asm); (case uo => exact List.forall_mem_cons.mpr ⟨Nat.ne_of_lt kl.1, List.forall_mem_cons.mpr ⟨Nat.ne_of_lt kl.2.1, List.forall_mem_cons.mpr ⟨Nat.ne_of_lt kl.2.2.1, List.forall_mem_cons.mpr ⟨Nat.ne_of_lt kl.2.2.2.1, fun q hq => Nat.ne_of_lt (allLt_2 kl.2.2.2.2 q hq)⟩⟩⟩⟩)))
  k_steps
  (with_reducible rename Fr _ _ _ _ => kF)
  obtain ⟨ext', hext', F5⟩ := lr_extK (wv := .str (SL word) tw) hext kF rfl rfl rfl rfl rfl rfl (by
    intro y n1 n2 n3 n4 n5 n6
    simp only [n1, n2, n3, n4, n5, n6, if_false])
  (with_reducible rename News _ _ _ _ => kN)
  first
    | exact next _ _ ext' _ _ _ hext' F5 kN
    | exact next _ _ ext' _ _ _ hext' F5 (news_tail kN)
    | exact next _ _ ext' _ _ _ hext' F5 (news_tail (news_tail kN))
theorem lr_0b {dp un : Nat} {gd : Option (List Code)} {cl : List (Str × Addr)} {outer : List Env} {A₀ : Around} {base g : Heap} {fd : FuncData} {L d R r0 r1 I : Addr} {oI : Obj} {w0 w1 : List (List Nat)} {v0 v1 : List Value} {c c0 c1 : Nat} {news : List (Addr × Obj)} {word : List Nat} {x : Int} {t tw : Tok} {ext : List (Str × Value)} {s : Shared} {Q : Flow → Shared → Prop} {E : Value → Shared → Prop}
   (hfd : fnAt (Mine.hd.heap_1 w.params) 779 = some fd) (hB : Below A₀ base outer g) (hX : (Mine.hd.heap_1 w.params).In g) (hT : Top p loose mean mg mb g) (hd : dp + 10 < recursionLimit) (hu : un + 50 < cLine) (hext : extOk ext)
   (hx : (x.fmod 24).fmod 8 = 0) (hq : (x.fmod 24).fdiv 8 = 0) (h0 : Vals w0 v0) (h1 : Vals w1 v1) (l0 : w0.length ≤ 100) (l1 : w1.length ≤ 100) (hn0 : (w0.map SL).any (· == SL word) = true)
   (z1 : r0 ≠ r1) (z2 : R ≠ r0) (z3 : R ≠ r1) (z4 : I ≠ r0) (z5 : I ≠ r1) (z6 : ∀ q ∈ news, q.1 ≠ r0) (z7 : ∀ q ∈ news, q.1 ≠ r1)
   (F : Fr g L s.heap (fun z => if z = Str.ofString "x" then some (.int x t) else lrLocals d R (.str (SL word) tw) ext z)) (N : News g L s.heap ((I, oI) :: (R, listObj #[.ref r0, .ref r1] c) :: (r0, listObj v0.toArray c0) :: (r1, listObj v1.toArray c1) :: news))
   (next : ∀ h' tk' ext' tw' c0' c1', extOk ext' → Fr g L h' (lrLocals d R (.str (SL []) tw') ext') → News g L h' ((I, oI) :: (R, listObj #[.ref r0, .ref r1] c) :: (r0, listObj v0.toArray c0') :: (r1, listObj v1.toArray c1') :: news) → Q .next { s with heap := h', toks := tk' }) :
   wpAny (model PySem.Challenge.rw_of0086_01.row.prog w) (ktrTop dp un gd fd.qualname fd.scope L 779 fd.code cl outer) (execs (lrBody fd) (envOf fd.qualname fd.scope L 779 fd.code)) Q E s := by
  revert hfd
  k_fill
  intro hfd
  refine' (fun (e9 : fd = _) => ?main9) (Option.some.inj (hfd.symm.trans (fnAt_of ?hl9)))
  case hl9 => k_dflt k_is
  subst e9
  clear hfd
  dsimp only [lrBody]
  have hx' : ((x.fmod 24).fmod 8 != 0) = false := by simpa using hx
  have y1 : r1 ≠ r0 := fun e => z1 e.symm
  refine wpAny_noRaise ?_
  k_with_none
  k_with "my nei" => (refine nei_known hx' ?_)
  k_with "my ini" => (k_dflt (refine in_tuple_ints (News.isTup (by k_asm) (.head _)) (.cons _ _ (.cons _ _ .nil)) ?_); rw [hq]; dsimp only [List.any])
  k_with "my notins" => (k_dflt (first | (refine notin_list_strs (l := r0) (News.isList (by k_asm) (by k_mem)) h0.strs ?_; rw [hn0])); (try dsimp only [Bool.not_true, Bool.not_false]))
  k_with "my append" => (k_dflt (first | skip); intro h9 n9 F9 N9; simp only [List.nil_append, List.cons_append] at N9)
  k_with "my unr" => (k_dflt ((rename (_ < _) ∧ (_ < _) ∧ (_ < _) ∧ (_ < _) ∧ AllLt _ _ => kl); refine' unr_tail ?uF ?uN ?uo ?_; (case uN => k_asm); (case uF => k_asm); (case uo => exact List.forall_mem_cons.mpr ⟨Nat.ne_of_lt kl.1, List.forall_mem_cons.mpr ⟨Nat.ne_of_lt kl.2.1, List.forall_mem_cons.mpr ⟨Nat.ne_of_lt kl.2.2.1, List.forall_mem_cons.mpr ⟨Nat.ne_of_lt kl.2.2.2.1, fun q hq => Nat.ne_of_lt (allLt_2 kl.2.2.2.2 q hq)⟩⟩⟩⟩)))
  k_steps
  (with_reducible rename Fr _ _ _ _ => kF)
  obtain ⟨ext', hext', F5⟩ := lr_extK (wv := .str (SL word) tw) hext kF rfl rfl rfl rfl rfl rfl (by
    intro y n1 n2 n3 n4 n5 n6
    simp only [n1, n2, n3, n4, n5, n6, if_false])
  (with_reducible rename News _ _ _ _ => kN)
  first
    | exact next _ _ ext' _ _ _ hext' F5 kN
    | exact next _ _ ext' _ _ _ hext' F5 (news_tail kN)
    | exact next _ _ ext' _ _ _ hext' F5 (news_tail (news_tail kN))
theorem lr_1a {dp un : Nat} {gd : Option (List Code)} {cl : List (Str × Addr)} {outer : List Env} {A₀ : Around} {base g : Heap} {fd : FuncData} {L d R r0 r1 I : Addr} {oI : Obj} {w0 w1 : List (List Nat)} {v0 v1 : List Value} {c c0 c1 : Nat} {news : List (Addr × Obj)} {word : List Nat} {x : Int} {t tw : Tok} {ext : List (Str × Value)} {s : Shared} {Q : Flow → Shared → Prop} {E : Value → Shared → Prop}
   (hfd : fnAt (Mine.hd.heap_1 w.params) 779 = some fd) (hB : Below A₀ base outer g) (hX : (Mine.hd.heap_1 w.params).In g) (hT : Top p loose mean mg mb g) (hd : dp + 10 < recursionLimit) (hu : un + 50 < cLine) (hext : extOk ext)
   (hx : (x.fmod 24).fmod 8 = 0) (hq : (x.fmod 24).fdiv 8 = 1) (h0 : Vals w0 v0) (h1 : Vals w1 v1) (l0 : w0.length ≤ 100) (l1 : w1.length ≤ 100) (hn1 : (w1.map SL).any (· == SL word) = false)
   (z1 : r0 ≠ r1) (z2 : R ≠ r0) (z3 : R ≠ r1) (z4 : I ≠ r0) (z5 : I ≠ r1) (z6 : ∀ q ∈ news, q.1 ≠ r0) (z7 : ∀ q ∈ news, q.1 ≠ r1)
   (F : Fr g L s.heap (fun z => if z = Str.ofString "x" then some (.int x t) else lrLocals d R (.str (SL word) tw) ext z)) (N : News g L s.heap ((I, oI) :: (R, listObj #[.ref r0, .ref r1] c) :: (r0, listObj v0.toArray c0) :: (r1, listObj v1.toArray c1) :: news))
   (next : ∀ h' tk' ext' tw' c0' c1', extOk ext' → Fr g L h' (lrLocals d R (.str (SL []) tw') ext') → News g L h' ((I, oI) :: (R, listObj #[.ref r0, .ref r1] c) :: (r0, listObj v0.toArray c0') :: (r1, listObj (v1.toArray.push (.str (SL word) tw)) c1') :: news) → Q .next { s with heap := h', toks := tk' }) :
   wpAny (model PySem.Challenge.rw_of0086_01.row.prog w) (ktrTop dp un gd fd.qualname fd.scope L 779 fd.code cl outer) (execs (lrBody fd) (envOf fd.qualname fd.scope L 779 fd.code)) Q E s := by
  revert hfd
  k_fill
  intro hfd
  refine' (fun (e9 : fd = _) => ?main9) (Option.some.inj (hfd.symm.trans (fnAt_of ?hl9)))
  case hl9 => k_dflt k_is
  subst e9
  clear hfd
  dsimp only [lrBody]
  have hx' : ((x.fmod 24).fmod 8 != 0) = false := by simpa using hx
  have y1 : r1 ≠ r0 := fun e => z1 e.symm
  refine wpAny_noRaise ?_
  k_with_none
  k_with "my nei" => (refine nei_known hx' ?_)
  k_with "my ini" => (k_dflt (refine in_tuple_ints (News.isTup (by k_asm) (.head _)) (.cons _ _ (.cons _ _ .nil)) ?_); rw [hq]; dsimp only [List.any])
  k_with "my notins" => (k_dflt (first | (refine notin_list_strs (l := r1) (News.isList (by k_asm) (by k_mem)) h1.strs ?_; rw [hn1])); (try dsimp only [Bool.not_true, Bool.not_false]))
  k_with "my append" => (k_dflt (first | (refine app_any (D := r1) (own := [_, _, (I, oI), (R, _), (r0, _)]) (by k_asm) (by k_asm) (by intro q hq; simp only [List.mem_cons, List.not_mem_nil, or_false] at hq; rcases hq with rfl | rfl | rfl | rfl | rfl <;> first | assumption | (show @Ne Nat _ _; omega)) z7 (by rw [List.size_toArray, h1.length]; omega) ?_)); intro h9 n9 F9 N9; simp only [List.nil_append, List.cons_append] at N9)
  k_with "my unr" => (k_dflt ((rename (_ < _) ∧ (_ < _) ∧ (_ < _) ∧ (_ < _) ∧ AllLt _ _ => kl); refine' unr_tail ?uF ?uN ?uo ?_; (case uN => k_asm); (case uF => k_asm); (case uo => exact List.forall_mem_cons.mpr ⟨Nat.ne_of_lt kl.1, List.forall_mem_cons.mpr ⟨Nat.ne_of_lt kl.2.1, List.forall_mem_cons.mpr ⟨Nat.ne_of_lt kl.2.2.1, List.forall_mem_cons.mpr ⟨Nat.ne_of_lt kl.2.2.2.1, fun q hq => Nat.ne_of_lt (allLt_2 kl.2.2.2.2 q hq)⟩⟩⟩⟩)))
  k_steps
  (with_reducible rename Fr _ _ _ _ => kF)
  obtain ⟨ext', hext', F5⟩ := lr_extK (wv := .str (SL word) tw) hext kF rfl rfl rfl rfl rfl rfl (by
    intro y n1 n2 n3 n4 n5 n6
    simp only [n1, n2, n3, n4, n5, n6, if_false])
  (with_reducible rename News _ _ _ _ => kN)
  first
    | exact next _ _ ext' _ _ _ hext' F5 kN
    | exact next _ _ ext' _ _ _ hext' F5 (news_tail kN)
    | exact next _ _ ext' _ _ _ hext' F5 (news_tail (news_tail kN))
theorem lr_1b {dp un : Nat} {gd : Option (List Code)} {cl : List (Str × Addr)} {outer : List Env} {A₀ : Around} {base g : Heap} {fd : FuncData} {L d R r0 r1 I : Addr} {oI : Obj} {w0 w1 : List (List Nat)} {v0 v1 : List Value} {c c0 c1 : Nat} {news : List (Addr × Obj)} {word : List Nat} {x : Int} {t tw : Tok} {ext : List (Str × Value)} {s : Shared} {Q : Flow → Shared → Prop} {E : Value → Shared → Prop}
   (hfd : fnAt (Mine.hd.heap_1 w.params) 779 = some fd) (hB : Below A₀ base outer g) (hX : (Mine.hd.heap_1 w.params).In g) (hT : Top p loose mean mg mb g) (hd : dp + 10 < recursionLimit) (hu : un + 50 < cLine) (hext : extOk ext)
   (hx : (x.fmod 24).fmod 8 = 0) (hq : (x.fmod 24).fdiv 8 = 1) (h0 : Vals w0 v0) (h1 : Vals w1 v1) (l0 : w0.length ≤ 100) (l1 : w1.length ≤ 100) (hn1 : (w1.map SL).any (· == SL word) = true)
   (z1 : r0 ≠ r1) (z2 : R ≠ r0) (z3 : R ≠ r1) (z4 : I ≠ r0) (z5 : I ≠ r1) (z6 : ∀ q ∈ news, q.1 ≠ r0) (z7 : ∀ q ∈ news, q.1 ≠ r1)
   (F : Fr g L s.heap (fun z => if z = Str.ofString "x" then some (.int x t) else lrLocals d R (.str (SL word) tw) ext z)) (N : News g L s.heap ((I, oI) :: (R, listObj #[.ref r0, .ref r1] c) :: (r0, listObj v0.toArray c0) :: (r1, listObj v1.toArray c1) :: news))
   (next : ∀ h' tk' ext' tw' c0' c1', extOk ext' → Fr g L h' (lrLocals d R (.str (SL []) tw') ext') → News g L h' ((I, oI) :: (R, listObj #[.ref r0, .ref r1] c) :: (r0, listObj v0.toArray c0') :: (r1, listObj v1.toArray c1') :: news) → Q .next { s with heap := h', toks := tk' }) :
   wpAny (model PySem.Challenge.rw_of0086_01.row.prog w) (ktrTop dp un gd fd.qualname fd.scope L 779 fd.code cl outer) (execs (lrBody fd) (envOf fd.qualname fd.scope L 779 fd.code)) Q E s := by
  revert hfd
  k_fill
  intro hfd
  refine' (fun (e9 : fd = _) => ?main9) (Option.some.inj (hfd.symm.trans (fnAt_of ?hl9)))
  case hl9 => k_dflt k_is
  subst e9
  clear hfd
  dsimp only [lrBody]
  have hx' : ((x.fmod 24).fmod 8 != 0) = false := by simpa using hx
  have y1 : r1 ≠ r0 := fun e => z1 e.symm
  refine wpAny_noRaise ?_
  k_with_none
  k_with "my nei" => (refine nei_known hx' ?_)
  k_with "my ini" => (k_dflt (refine in_tuple_ints (News.isTup (by k_asm) (.head _)) (.cons _ _ (.cons _ _ .nil)) ?_); rw [hq]; dsimp only [List.any])
  k_with "my notins" => (k_dflt (first | (refine notin_list_strs (l := r1) (News.isList (by k_asm) (by k_mem)) h1.strs ?_; rw [hn1])); (try dsimp only [Bool.not_true, Bool.not_false]))
  k_with "my append" => (k_dflt (first | skip); intro h9 n9 F9 N9; simp only [List.nil_append, List.cons_append] at N9)
  k_with "my unr" => (k_dflt ((rename (_ < _) ∧ (_ < _) ∧ (_ < _) ∧ (_ < _) ∧ AllLt _ _ => kl); refine' unr_tail ?uF ?uN ?uo ?_; (case uN => k_asm); (case uF => k_asm); (case uo => exact List.forall_mem_cons.mpr ⟨Nat.ne_of_lt kl.1, List.forall_mem_cons.mpr ⟨Nat.ne_of_lt kl.2.1, List.forall_mem_cons.mpr ⟨Nat.ne_of_lt kl.2.2.1, List.forall_mem_cons.mpr ⟨Nat.ne_of_lt kl.2.2.2.1, fun q hq => Nat.ne_of_lt (allLt_2 kl.2.2.2.2 q hq)⟩⟩⟩⟩)))
  k_steps
  (with_reducible rename Fr _ _ _ _ => kF)
  obtain ⟨ext', hext', F5⟩ := lr_extK (wv := .str (SL word) tw) hext kF rfl rfl rfl rfl rfl rfl (by
    intro y n1 n2 n3 n4 n5 n6
    simp only [n1, n2, n3, n4, n5, n6, if_false])
  (with_reducible rename News _ _ _ _ => kN)
  first
    | exact next _ _ ext' _ _ _ hext' F5 kN
    | exact next _ _ ext' _ _ _ hext' F5 (news_tail kN)
    | exact next _ _ ext' _ _ _ hext' F5 (news_tail (news_tail kN))
end


end

section
section
variable {w : World} {p : Program} {loose : List Str} {mean : ExcName → Option Value} {mg mb : Str → Option Value}
theorem lr_2aa {dp un : Nat} {gd : Option (List Code)} {cl : List (Str × Addr)} {outer : List Env} {A₀ : Around} {base g : Heap} {fd : FuncData} {L d R r0 r1 I : Addr} {oI : Obj} {w0 w1 : List (List Nat)} {v0 v1 : List Value} {c c0 c1 : Nat} {news : List (Addr × Obj)} {word : List Nat} {x : Int} {t tw : Tok} {ext : List (Str × Value)} {s : Shared} {Q : Flow → Shared → Prop} {E : Value → Shared → Prop}
   (hfd : fnAt (Mine.hd.heap_1 w.params) 779 = some fd) (hB : Below A₀ base outer g) (hX : (Mine.hd.heap_1 w.params).In g) (hT : Top p loose mean mg mb g) (hd : dp + 10 < recursionLimit) (hu : un + 50 < cLine) (hext : extOk ext)
   (hx : (x.fmod 24).fmod 8 = 0) (hq : (x.fmod 24).fdiv 8 = 2) (h0 : Vals w0 v0) (h1 : Vals w1 v1) (l0 : w0.length ≤ 100) (l1 : w1.length ≤ 100) (hn0 : (w0.map SL).any (· == SL word) = false) (hn1 : (w1.map SL).any (· == SL word) = false)
   (z1 : r0 ≠ r1) (z2 : R ≠ r0) (z3 : R ≠ r1) (z4 : I ≠ r0) (z5 : I ≠ r1) (z6 : ∀ q ∈ news, q.1 ≠ r0) (z7 : ∀ q ∈ news, q.1 ≠ r1)
   (F : Fr g L s.heap (fun z => if z = Str.ofString "x" then some (.int x t) else lrLocals d R (.str (SL word) tw) ext z)) (N : News g L s.heap ((I, oI) :: (R, listObj #[.ref r0, .ref r1] c) :: (r0, listObj v0.toArray c0) :: (r1, listObj v1.toArray c1) :: news))
   (next : ∀ h' tk' ext' tw' c0' c1', extOk ext' → Fr g L h' (lrLocals d R (.str (SL []) tw') ext') → News g L h' ((I, oI) :: (R, listObj #[.ref r0, .ref r1] c) :: (r0, listObj (v0.toArray.push (.str (SL word) tw)) c0') :: (r1, listObj (v1.toArray.push (.str (SL word) tw)) c1') :: news) → Q .next { s with heap := h', toks := tk' }) :
   wpAny (model PySem.Challenge.rw_of0086_01.row.prog w) (ktrTop dp un gd fd.qualname fd.scope L 779 fd.code cl outer) (execs (lrBody fd) (envOf fd.qualname fd.scope L 779 fd.code)) Q E s := by
  revert hfd
  k_fill
  intro hfd
  refine' (fun (e9 : fd = _) => ?main9) (Option.some.inj (hfd.symm.trans (fnAt_of ?hl9)))
  case hl9 => k_dflt k_is
  subst e9
  clear hfd
  dsimp only [lrBody]
  have hx' : ((x.fmod 24).fmod 8 != 0) = false := by simpa using hx
  have y1 : r1 ≠ r0 := fun e => z1 e.symm
  refine wpAny_noRaise ?_
  k_with_none
  k_with "my nei" => (refine nei_known hx' ?_)
  k_with "my ini" => (k_dflt (refine in_tuple_ints (News.isTup (by k_asm) (.head _)) (.cons _ _ (.cons _ _ .nil)) ?_); rw [hq]; dsimp only [List.any])
  k_with "my notins" => (k_dflt (first | (refine notin_list_strs (l := r0) (News.isList (by k_asm) (by k_mem)) h0.strs ?_; rw [hn0]) | (refine notin_list_strs (l := r1) (News.isList (by k_asm) (by k_mem)) h1.strs ?_; rw [hn1])); (try dsimp only [Bool.not_true, Bool.not_false]))
  k_with "my append" => (k_dflt (first | (refine app_any (D := r0) (own := [_, _, (I, oI), (R, _)]) (by k_asm) (by k_asm) (by intro q hq; simp only [List.mem_cons, List.not_mem_nil, or_false] at hq; rcases hq with rfl | rfl | rfl | rfl <;> first | assumption | (show @Ne Nat _ _; omega)) (List.forall_mem_cons.mpr ⟨y1, z6⟩) (by rw [List.size_toArray, h0.length]; omega) ?_) | (refine app_any (D := r1) (own := [_, _, (I, oI), (R, _), (r0, _)]) (by k_asm) (by k_asm) (by intro q hq; simp only [List.mem_cons, List.not_mem_nil, or_false] at hq; rcases hq with rfl | rfl | rfl | rfl | rfl <;> first | assumption | (show @Ne Nat _ _; omega)) z7 (by rw [List.size_toArray, h1.length]; omega) ?_)); intro h9 n9 F9 N9; simp only [List.nil_append, List.cons_append] at N9)
  k_with "my unr" => (k_dflt ((rename (_ < _) ∧ (_ < _) ∧ (_ < _) ∧ (_ < _) ∧ AllLt _ _ => kl); refine' unr_tail ?uF ?uN ?uo ?_; (case uN => k_asm); (case uF => k_asm); (case uo => exact List.forall_mem_cons.mpr ⟨Nat.ne_of_lt kl.1, List.forall_mem_cons.mpr ⟨Nat.ne_of_lt kl.2.1, List.forall_mem_cons.mpr ⟨Nat.ne_of_lt kl.2.2.1, List.forall_mem_cons.mpr ⟨Nat.ne_of_lt kl.2.2.2.1, fun q hq => Nat.ne_of_lt (allLt_2 kl.2.2.2.2 q hq)⟩⟩⟩⟩)))
  k_steps
  (with_reducible rename Fr _ _ _ _ => kF)
  obtain ⟨ext', hext', F5⟩ := lr_extK (wv := .str (SL word) tw) hext kF rfl rfl rfl rfl rfl rfl (by
    intro y n1 n2 n3 n4 n5 n6
    simp only [n1, n2, n3, n4, n5, n6, if_false])
  (with_reducible rename News _ _ _ _ => kN)
  (try rw [show (v0 ++ [Value.str (SL word) tw]).toArray = v0.toArray.push (.str (SL word) tw) by simp] at kN)
  (try rw [show (v1 ++ [Value.str (SL word) tw]).toArray = v1.toArray.push (.str (SL word) tw) by simp] at kN)
  first
    | exact next _ _ ext' _ _ _ hext' F5 kN
    | exact next _ _ ext' _ _ _ hext' F5 (news_tail kN)
    | exact next _ _ ext' _ _ _ hext' F5 (news_tail (news_tail kN))
theorem lr_2ab {dp un : Nat} {gd : Option (List Code)} {cl : List (Str × Addr)} {outer : List Env} {A₀ : Around} {base g : Heap} {fd : FuncData} {L d R r0 r1 I : Addr} {oI : Obj} {w0 w1 : List (List Nat)} {v0 v1 : List Value} {c c0 c1 : Nat} {news : List (Addr × Obj)} {word : List Nat} {x : Int} {t tw : Tok} {ext : List (Str × Value)} {s : Shared} {Q : Flow → Shared → Prop} {E : Value → Shared → Prop}
   (hfd : fnAt (Mine.hd.heap_1 w.params) 779 = some fd) (hB : Below A₀ base outer g) (hX : (Mine.hd.heap_1 w.params).In g) (hT : Top p loose mean mg mb g) (hd : dp + 10 < recursionLimit) (hu : un + 50 < cLine) (hext : extOk ext)
   (hx : (x.fmod 24).fmod 8 = 0) (hq : (x.fmod 24).fdiv 8 = 2) (h0 : Vals w0 v0) (h1 : Vals w1 v1) (l0 : w0.length ≤ 100) (l1 : w1.length ≤ 100) (hn0 : (w0.map SL).any (· == SL word) = false) (hn1 : (w1.map SL).any (· == SL word) = true)
   (z1 : r0 ≠ r1) (z2 : R ≠ r0) (z3 : R ≠ r1) (z4 : I ≠ r0) (z5 : I ≠ r1) (z6 : ∀ q ∈ news, q.1 ≠ r0) (z7 : ∀ q ∈ news, q.1 ≠ r1)
   (F : Fr g L s.heap (fun z => if z = Str.ofString "x" then some (.int x t) else lrLocals d R (.str (SL word) tw) ext z)) (N : News g L s.heap ((I, oI) :: (R, listObj #[.ref r0, .ref r1] c) :: (r0, listObj v0.toArray c0) :: (r1, listObj v1.toArray c1) :: news))
   (next : ∀ h' tk' ext' tw' c0' c1', extOk ext' → Fr g L h' (lrLocals d R (.str (SL []) tw') ext') → News g L h' ((I, oI) :: (R, listObj #[.ref r0, .ref r1] c) :: (r0, listObj (v0.toArray.push (.str (SL word) tw)) c0') :: (r1, listObj v1.toArray c1') :: news) → Q .next { s with heap := h', toks := tk' }) :
   wpAny (model PySem.Challenge.rw_of0086_01.row.prog w) (ktrTop dp un gd fd.qualname fd.scope L 779 fd.code cl outer) (execs (lrBody fd) (envOf fd.qualname fd.scope L 779 fd.code)) Q E s := by
  revert hfd
  k_fill
  intro hfd
  refine' (fun (e9 : fd = _) => ?main9) (Option.some.inj (hfd.symm.trans (fnAt_of ?hl9)))
  case hl9 => k_dflt k_is
  subst e9
  clear hfd
  dsimp only [lrBody]
  have hx' : ((x.fmod 24).fmod 8 != 0) = false := by simpa using hx
  have y1 : r1 ≠ r0 := fun e => z1 e.symm
  refine wpAny_noRaise ?_
  k_with_none
  k_with "my nei" => (refine nei_known hx' ?_)
  k_with "my ini" => (k_dflt (refine in_tuple_ints (News.isTup (by k_asm) (.head _)) (.cons _ _ (.cons _ _ .nil)) ?_); rw [hq]; dsimp only [List.any])
  k_with "my notins" => (k_dflt (first | (refine notin_list_strs (l := r0) (News.isList (by k_asm) (by k_mem)) h0.strs ?_; rw [hn0]) | (refine notin_list_strs (l := r1) (News.isList (by k_asm) (by k_mem)) h1.strs ?_; rw [hn1])); (try dsimp only [Bool.not_true, Bool.not_false]))
  k_with "my append" => (k_dflt (first | (refine app_any (D := r0) (own := [_, _, (I, oI), (R, _)]) (by k_asm) (by k_asm) (by intro q hq; simp only [List.mem_cons, List.not_mem_nil, or_false] at hq; rcases hq with rfl | rfl | rfl | rfl <;> first | assumption | (show @Ne Nat _ _; omega)) (List.forall_mem_cons.mpr ⟨y1, z6⟩) (by rw [List.size_toArray, h0.length]; omega) ?_)); intro h9 n9 F9 N9; simp only [List.nil_append, List.cons_append] at N9)
  k_with "my unr" => (k_dflt ((rename (_ < _) ∧ (_ < _) ∧ (_ < _) ∧ (_ < _) ∧ AllLt _ _ => kl); refine' unr_tail ?uF ?uN ?uo ?_; (case uN => k_asm); (case uF => k_asm); (case uo => exact List.forall_mem_cons.mpr ⟨Nat.ne_of_lt kl.1, List.forall_mem_cons.mpr ⟨Nat.ne_of_lt kl.2.1, List.forall_mem_cons.mpr ⟨Nat.ne_of_lt kl.2.2.1, List.forall_mem_cons.mpr ⟨Nat.ne_of_lt kl.2.2.2.1, fun q hq => Nat.ne_of_lt (allLt_2 kl.2.2.2.2 q hq)⟩⟩⟩⟩)))
  k_steps
  (with_reducible rename Fr _ _ _ _ => kF)
  obtain ⟨ext', hext', F5⟩ := lr_extK (wv := .str (SL word) tw) hext kF rfl rfl rfl rfl rfl rfl (by
    intro y n1 n2 n3 n4 n5 n6
    simp only [n1, n2, n3, n4, n5, n6, if_false])
  (with_reducible rename News _ _ _ _ => kN)
  (try rw [show (v0 ++ [Value.str (SL word) tw]).toArray = v0.toArray.push (.str (SL word) tw) by simp] at kN)
  (try rw [show (v1 ++ [Value.str (SL word) tw]).toArray = v1.toArray.push (.str (SL word) tw) by simp] at kN)
  first
    | exact next _ _ ext' _ _ _ hext' F5 kN
    | exact next _ _ ext' _ _ _ hext' F5 (news_tail kN)
    | exact next _ _ ext' _ _ _ hext' F5 (news_tail (news_tail kN))
theorem lr_2ba {dp un : Nat} {gd : Option (List Code)} {cl : List (Str × Addr)} {outer : List Env} {A₀ : Around} {base g : Heap} {fd : FuncData} {L d R r0 r1 I : Addr} {oI : Obj} {w0 w1 : List (List Nat)} {v0 v1 : List Value} {c c0 c1 : Nat} {news : List (Addr × Obj)} {word : List Nat} {x : Int} {t tw : Tok} {ext : List (Str × Value)} {s : Shared} {Q : Flow → Shared → Prop} {E : Value → Shared → Prop}
   (hfd : fnAt (Mine.hd.heap_1 w.params) 779 = some fd) (hB : Below A₀ base outer g) (hX : (Mine.hd.heap_1 w.params).In g) (hT : Top p loose mean mg mb g) (hd : dp + 10 < recursionLimit) (hu : un + 50 < cLine) (hext : extOk ext)
   (hx : (x.fmod 24).fmod 8 = 0) (hq : (x.fmod 24).fdiv 8 = 2) (h0 : Vals w0 v0) (h1 : Vals w1 v1) (l0 : w0.length ≤ 100) (l1 : w1.length ≤ 100) (hn0 : (w0.map SL).any (· == SL word) = true) (hn1 : (w1.map SL).any (· == SL word) = false)
   (z1 : r0 ≠ r1) (z2 : R ≠ r0) (z3 : R ≠ r1) (z4 : I ≠ r0) (z5 : I ≠ r1) (z6 : ∀ q ∈ news, q.1 ≠ r0) (z7 : ∀ q ∈ news, q.1 ≠ r1)
   (F : Fr g L s.heap (fun z => if z = Str.ofString "x" then some (.int x t) else lrLocals d R (.str (SL word) tw) ext z)) (N : News g L s.heap ((I, oI) :: (R, listObj #[.ref r0, .ref r1] c) :: (r0, listObj v0.toArray c0) :: (r1, listObj v1.toArray c1) :: news))
   (next : ∀ h' tk' ext' tw' c0' c1', extOk ext' → Fr g L h' (lrLocals d R (.str (SL []) tw') ext') → News g L h' ((I, oI) :: (R, listObj #[.ref r0, .ref r1] c) :: (r0, listObj v0.toArray c0') :: (r1, listObj (v1.toArray.push (.str (SL word) tw)) c1') :: news) → Q .next { s with heap := h', toks := tk' }) :
   wpAny (model PySem.Challenge.rw_of0086_01.row.prog w) (ktrTop dp un gd fd.qualname fd.scope L 779 fd.code cl outer) (execs (lrBody fd) (envOf fd.qualname fd.scope L 779 fd.code)) Q E s := by
  revert hfd
  k_fill
  intro hfd
  refine' (fun (e9 : fd = _) => ?main9) (Option.some.inj (hfd.symm.trans (fnAt_of ?hl9)))
  case hl9 => k_dflt k_is
  subst e9
  clear hfd
  dsimp only [lrBody]
  have hx' : ((x.fmod 24).fmod 8 != 0) = false := by simpa using hx
  have y1 : r1 ≠ r0 := fun e => z1 e.symm
  refine wpAny_noRaise ?_
  k_with_none
  k_with "my nei" => (refine nei_known hx' ?_)
  k_with "my ini" => (k_dflt (refine in_tuple_ints (News.isTup (by k_asm) (.head _)) (.cons _ _ (.cons _ _ .nil)) ?_); rw [hq]; dsimp only [List.any])
  k_with "my notins" => (k_dflt (first | (refine notin_list_strs (l := r0) (News.isList (by k_asm) (by k_mem)) h0.strs ?_; rw [hn0]) | (refine notin_list_strs (l := r1) (News.isList (by k_asm) (by k_mem)) h1.strs ?_; rw [hn1])); (try dsimp only [Bool.not_true, Bool.not_false]))
  k_with "my append" => (k_dflt (first | (refine app_any (D := r1) (own := [_, _, (I, oI), (R, _), (r0, _)]) (by k_asm) (by k_asm) (by intro q hq; simp only [List.mem_cons, List.not_mem_nil, or_false] at hq; rcases hq with rfl | rfl | rfl | rfl | rfl <;> first | assumption | (show @Ne Nat _ _; omega)) z7 (by rw [List.size_toArray, h1.length]; omega) ?_)); intro h9 n9 F9 N9; simp only [List.nil_append, List.cons_append] at N9)
  k_with "my unr" => (k_dflt ((rename (_ < _) ∧ (_ < _) ∧ (_ < _) ∧ (_ < _) ∧ AllLt _ _ => kl); refine' unr_tail ?uF ?uN ?uo ?_; (case uN => k_asm); (case uF => k_asm); (case uo => exact List.forall_mem_cons.mpr ⟨Nat.ne_of_lt kl.1, List.forall_mem_cons.mpr ⟨Nat.ne_of_lt kl.2.1, List.forall_mem_cons.mpr ⟨Nat.ne_of_lt kl.2.2.1, List.forall_mem_cons.mpr ⟨Nat.ne_of_lt kl.2.2.2.1, fun q hq => Nat.ne_of_lt (allLt_2 kl.2.2.2.2 q hq)⟩⟩⟩⟩)))
  k_steps
  (with_reducible rename Fr _ _ _ _ => kF)
  obtain ⟨ext', hext', F5⟩ := lr_extK (wv := .str (SL word) tw) hext kF rfl rfl rfl rfl rfl rfl (by
    intro y n1 n2 n3 n4 n5 n6
    simp only [n1, n2, n3, n4, n5, n6, if_false])
  (with_reducible rename News _ _ _ _ => kN)
  (try rw [show (v0 ++ [Value.str (SL word) tw]).toArray = v0.toArray.push (.str (SL word) tw) by simp] at kN)
  (try rw [show (v1 ++ [Value.str (SL word) tw]).toArray = v1.toArray.push (.str (SL word) tw) by simp] at kN)
  first
    | exact next _ _ ext' _ _ _ hext' F5 kN
    | exact next _ _ ext' _ _ _ hext' F5 (news_tail kN)
    | exact next _ _ ext' _ _ _ hext' F5 (news_tail (news_tail kN))
theorem lr_2bb {dp un : Nat} {gd : Option (List Code)} {cl : List (Str × Addr)} {outer : List Env} {A₀ : Around} {base g : Heap} {fd : FuncData} {L d R r0 r1 I : Addr} {oI : Obj} {w0 w1 : List (List Nat)} {v0 v1 : List Value} {c c0 c1 : Nat} {news : List (Addr × Obj)} {word : List Nat} {x : Int} {t tw : Tok} {ext : List (Str × Value)} {s : Shared} {Q : Flow → Shared → Prop} {E : Value → Shared → Prop}
   (hfd : fnAt (Mine.hd.heap_1 w.params) 779 = some fd) (hB : Below A₀ base outer g) (hX : (Mine.hd.heap_1 w.params).In g) (hT : Top p loose mean mg mb g) (hd : dp + 10 < recursionLimit) (hu : un + 50 < cLine) (hext : extOk ext)
   (hx : (x.fmod 24).fmod 8 = 0) (hq : (x.fmod 24).fdiv 8 = 2) (h0 : Vals w0 v0) (h1 : Vals w1 v1) (l0 : w0.length ≤ 100) (l1 : w1.length ≤ 100) (hn0 : (w0.map SL).any (· == SL word) = true) (hn1 : (w1.map SL).any (· == SL word) = true)
   (z1 : r0 ≠ r1) (z2 : R ≠ r0) (z3 : R ≠ r1) (z4 : I ≠ r0) (z5 : I ≠ r1) (z6 : ∀ q ∈ news, q.1 ≠ r0) (z7 : ∀ q ∈ news, q.1 ≠ r1)
   (F : Fr g L s.heap (fun z => if z = Str.ofString "x" then some (.int x t) else lrLocals d R (.str (SL word) tw) ext z)) (N : News g L s.heap ((I, oI) :: (R, listObj #[.ref r0, .ref r1] c) :: (r0, listObj v0.toArray c0) :: (r1, listObj v1.toArray c1) :: news))
   (next : ∀ h' tk' ext' tw' c0' c1', extOk ext' → Fr g L h' (lrLocals d R (.str (SL []) tw') ext') → News g L h' ((I, oI) :: (R, listObj #[.ref r0, .ref r1] c) :: (r0, listObj v0.toArray c0') :: (r1, listObj v1.toArray c1') :: news) → Q .next { s with heap := h', toks := tk' }) :
   wpAny (model PySem.Challenge.rw_of0086_01.row.prog w) (ktrTop dp un gd fd.qualname fd.scope L 779 fd.code cl outer) (execs (lrBody fd) (envOf fd.qualname fd.scope L 779 fd.code)) Q E s := by
  revert hfd
  k_fill
  intro hfd
  refine' (fun (e9 : fd = _) => ?main9) (Option.some.inj (hfd.symm.trans (fnAt_of ?hl9)))
  case hl9 => k_dflt k_is
  subst e9
  clear hfd
  dsimp only [lrBody]
  have hx' : ((x.fmod 24).fmod 8 != 0) = false := by simpa using hx
  have y1 : r1 ≠ r0 := fun e => z1 e.symm
  refine wpAny_noRaise ?_
  k_with_none
  k_with "my nei" => (refine nei_known hx' ?_)
  k_with "my ini" => (k_dflt (refine in_tuple_ints (News.isTup (by k_asm) (.head _)) (.cons _ _ (.cons _ _ .nil)) ?_); rw [hq]; dsimp only [List.any])
  k_with "my notins" => (k_dflt (first | (refine notin_list_strs (l := r0) (News.isList (by k_asm) (by k_mem)) h0.strs ?_; rw [hn0]) | (refine notin_list_strs (l := r1) (News.isList (by k_asm) (by k_mem)) h1.strs ?_; rw [hn1])); (try dsimp only [Bool.not_true, Bool.not_false]))
  k_with "my append" => (k_dflt (first | skip); intro h9 n9 F9 N9; simp only [List.nil_append, List.cons_append] at N9)
  k_with "my unr" => (k_dflt ((rename (_ < _) ∧ (_ < _) ∧ (_ < _) ∧ (_ < _) ∧ AllLt _ _ => kl); refine' unr_tail ?uF ?uN ?uo ?_; (case uN => k_asm); (case uF => k_asm); (case uo => exact List.forall_mem_cons.mpr ⟨Nat.ne_of_lt kl.1, List.forall_mem_cons.mpr ⟨Nat.ne_of_lt kl.2.1, List.forall_mem_cons.mpr ⟨Nat.ne_of_lt kl.2.2.1, List.forall_mem_cons.mpr ⟨Nat.ne_of_lt kl.2.2.2.1, fun q hq => Nat.ne_of_lt (allLt_2 kl.2.2.2.2 q hq)⟩⟩⟩⟩)))
  k_steps
  (with_reducible rename Fr _ _ _ _ => kF)
  obtain ⟨ext', hext', F5⟩ := lr_extK (wv := .str (SL word) tw) hext kF rfl rfl rfl rfl rfl rfl (by
    intro y n1 n2 n3 n4 n5 n6
    simp only [n1, n2, n3, n4, n5, n6, if_false])
  (with_reducible rename News _ _ _ _ => kN)
  (try rw [show (v0 ++ [Value.str (SL word) tw]).toArray = v0.toArray.push (.str (SL word) tw) by simp] at kN)
  (try rw [show (v1 ++ [Value.str (SL word) tw]).toArray = v1.toArray.push (.str (SL word) tw) by simp] at kN)
  first
    | exact next _ _ ext' _ _ _ hext' F5 kN
    | exact next _ _ ext' _ _ _ hext' F5 (news_tail kN)
    | exact next _ _ ext' _ _ _ hext' F5 (news_tail (news_tail kN))
end


end

section
theorem ints_get {vs : List Value} {ns : List Int} (h : IntsAre vs ns) : ∀ (i : Nat) (x : Int), ns[i]? = some x → ∃ t, vs[i]? = some (.int x t) := by
  induction h with
  | nil => intro i x e; simp at e
  | @cons n t vs ns _ ih =>
    intro i x e
    cases i with
    | zero => simp at e; subst e; exact ⟨t, rfl⟩
    | succ i => simpa using ih i x (by simpa using e)
theorem any_mem (ws : List (List Nat)) (x : List Nat) : (ws.map SL).any (· == SL x) = decide (x ∈ ws) := by
  rw [Bool.eq_iff_iff]
  simp only [List.any_map, List.any_eq_true, Function.comp_apply, beq_iff_eq, decide_eq_true_eq]
  constructor
  · rintro ⟨y, hy, e⟩
    have : y = x := by
      have := congrArg (fun s : Str => s.cps.toList) e
      simpa using this
    subst this
    exact hy
  · intro h
    exact ⟨x, h, rfl⟩
section
variable {w : World} {p : Program} {loose : List Str} {mean : ExcName → Option Value} {mg mb : Str → Option Value}
theorem rows_loop {dp un : Nat} {gd : Option (List Code)} {cl : List (Str × Addr)} {outer : List Env} {A₀ : Around} {base g : Heap} {fd : FuncData} {L d R r0 r1 D : Addr} {ws : List Value} {ns : List Int} {c c0 c1 cD : Nat} {k1 tw : Tok} {news : List (Addr × Obj)} {px : Pos} {s : Shared} {Q : Flow → Shared → Prop} {E : Value → Shared → Prop}
   (hfd : fnAt (Mine.hd.heap_1 w.params) 779 = some fd) (hB : Below A₀ base outer g) (hX : (Mine.hd.heap_1 w.params).In g) (hT : Top p loose mean mg mb g) (hd : dp + 10 < recursionLimit) (hu : un + 50 < cLine)
   (hI : IntsAre ws ns) (hl : ns.length ≤ 50) (z1 : r0 ≠ r1) (z2 : R ≠ r0) (z3 : R ≠ r1) (z6 : ∀ q ∈ (D, listObj ws.toArray cD) :: news, q.1 ≠ r0) (z7 : ∀ q ∈ (D, listObj ws.toArray cD) :: news, q.1 ≠ r1)
   (hlk : fd.scope.kind = .function) (hkx : (envOf fd.qualname fd.scope L 779 fd.code).kindOf (Str.ofString "x") = some .local)
   (F : Fr g L s.heap (lrLocals d R (.str (SL []) tw) [])) (N : News g L s.heap ((R, listObj #[.ref r0, .ref r1] c) :: (r0, listObj #[] c0) :: (r1, listObj #[.str (SL [39]) k1] c1) :: (D, listObj ws.toArray cD) :: news))
   (fin : ∀ h tk ext wv v0 v1 c0 c1, extOk ext → Vals (lrAll ns).1 v0 → Vals (lrAll ns).2.1 v1 → Fr g L h (lrLocals d R wv ext) → News g L h ((R, listObj #[.ref r0, .ref r1] c) :: (r0, listObj v0.toArray c0) :: (r1, listObj v1.toArray c1) :: (D, listObj ws.toArray cD) :: news) → Q .next { s with heap := h, toks := tk }) :
   ForGo PySem.Challenge.rw_of0086_01.row.prog w (ktrTop dp un gd fd.qualname fd.scope L 779 fd.code cl outer) (envOf fd.qualname fd.scope L 779 fd.code) (Str.ofString "x") px (lrBody fd) Q E (.ref D) s := by
  have hlen : ∀ (l : List Int), (lrAll l).1.length ≤ l.length ∧ (lrAll l).2.1.length ≤ l.length + 1 ∧ (lrAll l).2.2.length ≤ l.length := by
    intro l
    have key : ∀ (l : List Int) (st : List (List Nat) × List (List Nat) × List Nat), (l.foldl lrStep st).1.length ≤ st.1.length + l.length ∧ (l.foldl lrStep st).2.1.length ≤ st.2.1.length + l.length ∧ (l.foldl lrStep st).2.2.length ≤ st.2.2.length + l.length := by
      intro l
      induction l with
      | nil => intro st; exact ⟨Nat.le_refl _, Nat.le_refl _, Nat.le_refl _⟩
      | cons x l ih =>
        intro st
        obtain ⟨h1, h2, h3⟩ := ih (lrStep st x)
        have e : (lrStep st x).1.length ≤ st.1.length + 1 ∧ (lrStep st x).2.1.length ≤ st.2.1.length + 1 ∧ (lrStep st x).2.2.length ≤ st.2.2.length + 1 := by
          unfold lrStep
          split
          · simp
          · refine ⟨?_, ?_, by simp⟩
            · dsimp only; split <;> simp
            · dsimp only; split <;> simp
        simp only [List.foldl_cons, List.length_cons]
        lia
    have := key l ([], [[39]], [])
    simp only [List.length_nil, List.length_cons] at this
    unfold lrAll
    lia
  refine for_list (g := g) (m := lrLocals d R (.str (SL []) tw) []) (c := cD) (its := ws.toArray) (J := fun i m nw => ∃ v0 v1 c0 c1 tw ext, extOk ext ∧ m = lrLocals d R (.str (SL (lrAll (ns.take i)).2.2) tw) ext ∧ Vals (lrAll (ns.take i)).1 v0 ∧ Vals (lrAll (ns.take i)).2.1 v1 ∧ nw = (R, listObj #[.ref r0, .ref r1] c) :: (r0, listObj v0.toArray c0) :: (r1, listObj v1.toArray c1) :: (D, listObj ws.toArray cD) :: news)
    rfl rfl hkx (by rw [show (envOf fd.qualname fd.scope L 779 fd.code).scope.kind = .function from hlk]; rfl) F N (.tail _ (.tail _ (.tail _ (.head _)))) ⟨[], [.str (SL [39]) k1], c0, c1, tw, [], .inl rfl, rfl, .nil, Vals.one, rfl⟩ ?_ ?_
  · intro i m nw x I oI h tk E' hi hJ hx hS F' N' off
    refine hideG ?_
    intro G9
    obtain ⟨v0, v1, d0, d1, tw', ext, hext, rfl, hv0, hv1, rfl⟩ := hJ
    k_unfold
    have hi2 : i < ns.length := by have : i < ws.toArray.size := hi; rw [List.size_toArray, hI.length] at this; exact this
    obtain ⟨xi, hxi⟩ : ∃ xi, ns[i]? = some xi := ⟨_, List.getElem?_eq_getElem hi2⟩
    obtain ⟨tx, hvx⟩ := ints_get hI i xi hxi
    have hv2 : x = .int xi tx := by
      have e2 : ws.toArray[i]? = some (.int xi tx) := by simpa using hvx
      exact Option.some.inj (hx.symm.trans e2)
    subst hv2
    have hst : lrAll (ns.take (i + 1)) = lrStep (lrAll (ns.take i)) xi := by
      unfold lrAll
      rw [take_snoc hxi, List.foldl_append]
      rfl
    obtain ⟨lA, lB, lC⟩ := hlen (ns.take i)
    have ltk : (ns.take i).length ≤ 50 := by rw [List.length_take]; lia
    have y4 : I ≠ r0 := fun e => off (r0, _) (.tail _ (.head _)) e.symm
    have y5 : I ≠ r1 := fun e => off (r1, _) (.tail _ (.tail _ (.head _))) e.symm
    by_cases hm8 : (xi.fmod 24).fmod 8 = 0
    · have hq : (xi.fmod 24).fdiv 8 = 0 ∨ (xi.fmod 24).fdiv 8 = 1 ∨ (xi.fmod 24).fdiv 8 = 2 := by
        have h1 : 0 ≤ xi.fmod 24 := Int.fmod_nonneg_of_pos _ (by decide)
        have h2 : xi.fmod 24 < 24 := Int.fmod_lt_of_pos _ (by decide)
        rw [Int.fdiv_eq_ediv_of_nonneg _ (by decide)]
        lia
      have hstep : lrStep (lrAll (ns.take i)) xi = (if ((xi.fmod 24).fdiv 8 = 0 ∨ (xi.fmod 24).fdiv 8 = 2) ∧ (lrAll (ns.take i)).2.2 ∉ (lrAll (ns.take i)).1 then (lrAll (ns.take i)).1 ++ [(lrAll (ns.take i)).2.2] else (lrAll (ns.take i)).1, if ((xi.fmod 24).fdiv 8 = 1 ∨ (xi.fmod 24).fdiv 8 = 2) ∧ (lrAll (ns.take i)).2.2 ∉ (lrAll (ns.take i)).2.1 then (lrAll (ns.take i)).2.1 ++ [(lrAll (ns.take i)).2.2] else (lrAll (ns.take i)).2.1, []) := by
        unfold lrStep; rw [if_neg (by simpa using hm8)]
      rw [hstep] at hst
      generalize (lrAll (ns.take i)).1 = A0 at *
      generalize (lrAll (ns.take i)).2.1 = A1 at *
      generalize (lrAll (ns.take i)).2.2 = wd at *
      rcases hq with hq | hq | hq
      · by_cases m0 : wd ∈ A0
        · refine lr_0b hfd hB hX hT hd hu hext hm8 hq hv0 hv1 (by lia) (by lia) (by rw [any_mem]; simpa using m0) z1 z2 z3 y4 y5 z6 z7 F' N' fun h' tk' ext' tw2 f0 f1 he' F2 N2 => ?_
          have N3 : News g L h' ((I, oI) :: (R, listObj #[.ref r0, .ref r1] c) :: (r0, listObj v0.toArray f0) :: (r1, listObj v1.toArray f1) :: (D, listObj ws.toArray cD) :: news) := by simpa using N2
          refine ⟨rfl, h', tk', _, (R, listObj #[.ref r0, .ref r1] c) :: (r0, listObj v0.toArray f0) :: (r1, listObj v1.toArray f1) :: (D, listObj ws.toArray cD) :: news, rfl, F2, N3, ?_, .tail _ (.tail _ (.tail _ (.head _))), v0, v1, f0, f1, tw2, ext', he', ?_, ?_, ?_, rfl⟩
          · exact fun q hq' => by
              rcases List.mem_cons.mp hq' with rfl | hq'
              · exact off (R, listObj #[.ref r0, .ref r1] c) (.head _)
              rcases List.mem_cons.mp hq' with rfl | hq'
              · exact fun e => y4 e.symm
              rcases List.mem_cons.mp hq' with rfl | hq'
              · exact fun e => y5 e.symm
              exact off q (.tail _ (.tail _ (.tail _ hq')))
          · rw [hst]
          · rw [hst, hq]; simp [m0]; exact hv0
          · rw [hst, hq]; simp ; exact hv1
        · refine lr_0a hfd hB hX hT hd hu hext hm8 hq hv0 hv1 (by lia) (by lia) (by rw [any_mem]; simpa using m0) z1 z2 z3 y4 y5 z6 z7 F' N' fun h' tk' ext' tw2 f0 f1 he' F2 N2 => ?_
          have N3 : News g L h' ((I, oI) :: (R, listObj #[.ref r0, .ref r1] c) :: (r0, listObj (v0 ++ [Value.str (SL wd) tw']).toArray f0) :: (r1, listObj v1.toArray f1) :: (D, listObj ws.toArray cD) :: news) := by simpa using N2
          refine ⟨rfl, h', tk', _, (R, listObj #[.ref r0, .ref r1] c) :: (r0, listObj (v0 ++ [Value.str (SL wd) tw']).toArray f0) :: (r1, listObj v1.toArray f1) :: (D, listObj ws.toArray cD) :: news, rfl, F2, N3, ?_, .tail _ (.tail _ (.tail _ (.head _))), (v0 ++ [Value.str (SL wd) tw']), v1, f0, f1, tw2, ext', he', ?_, ?_, ?_, rfl⟩
          · exact fun q hq' => by
              rcases List.mem_cons.mp hq' with rfl | hq'
              · exact off (R, listObj #[.ref r0, .ref r1] c) (.head _)
              rcases List.mem_cons.mp hq' with rfl | hq'
              · exact fun e => y4 e.symm
              rcases List.mem_cons.mp hq' with rfl | hq'
              · exact fun e => y5 e.symm
              exact off q (.tail _ (.tail _ (.tail _ hq')))
          · rw [hst]
          · rw [hst, hq]; simp [m0]; exact hv0.append Vals.one
          · rw [hst, hq]; simp ; exact hv1
      · by_cases m1 : wd ∈ A1
        · refine lr_1b hfd hB hX hT hd hu hext hm8 hq hv0 hv1 (by lia) (by lia) (by rw [any_mem]; simpa using m1) z1 z2 z3 y4 y5 z6 z7 F' N' fun h' tk' ext' tw2 f0 f1 he' F2 N2 => ?_
          have N3 : News g L h' ((I, oI) :: (R, listObj #[.ref r0, .ref r1] c) :: (r0, listObj v0.toArray f0) :: (r1, listObj v1.toArray f1) :: (D, listObj ws.toArray cD) :: news) := by simpa using N2
          refine ⟨rfl, h', tk', _, (R, listObj #[.ref r0, .ref r1] c) :: (r0, listObj v0.toArray f0) :: (r1, listObj v1.toArray f1) :: (D, listObj ws.toArray cD) :: news, rfl, F2, N3, ?_, .tail _ (.tail _ (.tail _ (.head _))), v0, v1, f0, f1, tw2, ext', he', ?_, ?_, ?_, rfl⟩
          · exact fun q hq' => by
              rcases List.mem_cons.mp hq' with rfl | hq'
              · exact off (R, listObj #[.ref r0, .ref r1] c) (.head _)
              rcases List.mem_cons.mp hq' with rfl | hq'
              · exact fun e => y4 e.symm
              rcases List.mem_cons.mp hq' with rfl | hq'
              · exact fun e => y5 e.symm
              exact off q (.tail _ (.tail _ (.tail _ hq')))
          · rw [hst]
          · rw [hst, hq]; simp ; exact hv0
          · rw [hst, hq]; simp [m1]; exact hv1
        · refine lr_1a hfd hB hX hT hd hu hext hm8 hq hv0 hv1 (by lia) (by lia) (by rw [any_mem]; simpa using m1) z1 z2 z3 y4 y5 z6 z7 F' N' fun h' tk' ext' tw2 f0 f1 he' F2 N2 => ?_
          have N3 : News g L h' ((I, oI) :: (R, listObj #[.ref r0, .ref r1] c) :: (r0, listObj v0.toArray f0) :: (r1, listObj (v1 ++ [Value.str (SL wd) tw']).toArray f1) :: (D, listObj ws.toArray cD) :: news) := by simpa using N2
          refine ⟨rfl, h', tk', _, (R, listObj #[.ref r0, .ref r1] c) :: (r0, listObj v0.toArray f0) :: (r1, listObj (v1 ++ [Value.str (SL wd) tw']).toArray f1) :: (D, listObj ws.toArray cD) :: news, rfl, F2, N3, ?_, .tail _ (.tail _ (.tail _ (.head _))), v0, (v1 ++ [Value.str (SL wd) tw']), f0, f1, tw2, ext', he', ?_, ?_, ?_, rfl⟩
          · exact fun q hq' => by
              rcases List.mem_cons.mp hq' with rfl | hq'
              · exact off (R, listObj #[.ref r0, .ref r1] c) (.head _)
              rcases List.mem_cons.mp hq' with rfl | hq'
              · exact fun e => y4 e.symm
              rcases List.mem_cons.mp hq' with rfl | hq'
              · exact fun e => y5 e.symm
              exact off q (.tail _ (.tail _ (.tail _ hq')))
          · rw [hst]
          · rw [hst, hq]; simp ; exact hv0
          · rw [hst, hq]; simp [m1]; exact hv1.append Vals.one
      · by_cases m0 : wd ∈ A0
        · by_cases m1 : wd ∈ A1
          · refine lr_2bb hfd hB hX hT hd hu hext hm8 hq hv0 hv1 (by lia) (by lia) (by rw [any_mem]; simpa using m0) (by rw [any_mem]; simpa using m1) z1 z2 z3 y4 y5 z6 z7 F' N' fun h' tk' ext' tw2 f0 f1 he' F2 N2 => ?_
            have N3 : News g L h' ((I, oI) :: (R, listObj #[.ref r0, .ref r1] c) :: (r0, listObj v0.toArray f0) :: (r1, listObj v1.toArray f1) :: (D, listObj ws.toArray cD) :: news) := by simpa using N2
            refine ⟨rfl, h', tk', _, (R, listObj #[.ref r0, .ref r1] c) :: (r0, listObj v0.toArray f0) :: (r1, listObj v1.toArray f1) :: (D, listObj ws.toArray cD) :: news, rfl, F2, N3, ?_, .tail _ (.tail _ (.tail _ (.head _))), v0, v1, f0, f1, tw2, ext', he', ?_, ?_, ?_, rfl⟩
            · exact fun q hq' => by
                rcases List.mem_cons.mp hq' with rfl | hq'
                · exact off (R, listObj #[.ref r0, .ref r1] c) (.head _)
                rcases List.mem_cons.mp hq' with rfl | hq'
                · exact fun e => y4 e.symm
                rcases List.mem_cons.mp hq' with rfl | hq'
                · exact fun e => y5 e.symm
                exact off q (.tail _ (.tail _ (.tail _ hq')))
            · rw [hst]
            · rw [hst, hq]; simp [m0]; exact hv0
            · rw [hst, hq]; simp [m1]; exact hv1
          · refine lr_2ba hfd hB hX hT hd hu hext hm8 hq hv0 hv1 (by lia) (by lia) (by rw [any_mem]; simpa using m0) (by rw [any_mem]; simpa using m1) z1 z2 z3 y4 y5 z6 z7 F' N' fun h' tk' ext' tw2 f0 f1 he' F2 N2 => ?_
            have N3 : News g L h' ((I, oI) :: (R, listObj #[.ref r0, .ref r1] c) :: (r0, listObj v0.toArray f0) :: (r1, listObj (v1 ++ [Value.str (SL wd) tw']).toArray f1) :: (D, listObj ws.toArray cD) :: news) := by simpa using N2
            refine ⟨rfl, h', tk', _, (R, listObj #[.ref r0, .ref r1] c) :: (r0, listObj v0.toArray f0) :: (r1, listObj (v1 ++ [Value.str (SL wd) tw']).toArray f1) :: (D, listObj ws.toArray cD) :: news, rfl, F2, N3, ?_, .tail _ (.tail _ (.tail _ (.head _))), v0, (v1 ++ [Value.str (SL wd) tw']), f0, f1, tw2, ext', he', ?_, ?_, ?_, rfl⟩
            · exact fun q hq' => by
                rcases List.mem_cons.mp hq' with rfl | hq'
                · exact off (R, listObj #[.ref r0, .ref r1] c) (.head _)
                rcases List.mem_cons.mp hq' with rfl | hq'
                · exact fun e => y4 e.symm
                rcases List.mem_cons.mp hq' with rfl | hq'
                · exact fun e => y5 e.symm
                exact off q (.tail _ (.tail _ (.tail _ hq')))
            · rw [hst]
            · rw [hst, hq]; simp [m0]; exact hv0
            · rw [hst, hq]; simp [m1]; exact hv1.append Vals.one
        · by_cases m1 : wd ∈ A1
          · refine lr_2ab hfd hB hX hT hd hu hext hm8 hq hv0 hv1 (by lia) (by lia) (by rw [any_mem]; simpa using m0) (by rw [any_mem]; simpa using m1) z1 z2 z3 y4 y5 z6 z7 F' N' fun h' tk' ext' tw2 f0 f1 he' F2 N2 => ?_
            have N3 : News g L h' ((I, oI) :: (R, listObj #[.ref r0, .ref r1] c) :: (r0, listObj (v0 ++ [Value.str (SL wd) tw']).toArray f0) :: (r1, listObj v1.toArray f1) :: (D, listObj ws.toArray cD) :: news) := by simpa using N2
            refine ⟨rfl, h', tk', _, (R, listObj #[.ref r0, .ref r1] c) :: (r0, listObj (v0 ++ [Value.str (SL wd) tw']).toArray f0) :: (r1, listObj v1.toArray f1) :: (D, listObj ws.toArray cD) :: news, rfl, F2, N3, ?_, .tail _ (.tail _ (.tail _ (.head _))), (v0 ++ [Value.str (SL wd) tw']), v1, f0, f1, tw2, ext', he', ?_, ?_, ?_, rfl⟩
            · exact fun q hq' => by
                rcases List.mem_cons.mp hq' with rfl | hq'
                · exact off (R, listObj #[.ref r0, .ref r1] c) (.head _)
                rcases List.mem_cons.mp hq' with rfl | hq'
                · exact fun e => y4 e.symm
                rcases List.mem_cons.mp hq' with rfl | hq'
                · exact fun e => y5 e.symm
                exact off q (.tail _ (.tail _ (.tail _ hq')))
            · rw [hst]
            · rw [hst, hq]; simp [m0]; exact hv0.append Vals.one
            · rw [hst, hq]; simp [m1]; exact hv1
          · refine lr_2aa hfd hB hX hT hd hu hext hm8 hq hv0 hv1 (by lia) (by lia) (by rw [any_mem]; simpa using m0) (by rw [any_mem]; simpa using m1) z1 z2 z3 y4 y5 z6 z7 F' N' fun h' tk' ext' tw2 f0 f1 he' F2 N2 => ?_
            have N3 : News g L h' ((I, oI) :: (R, listObj #[.ref r0, .ref r1] c) :: (r0, listObj (v0 ++ [Value.str (SL wd) tw']).toArray f0) :: (r1, listObj (v1 ++ [Value.str (SL wd) tw']).toArray f1) :: (D, listObj ws.toArray cD) :: news) := by simpa using N2
            refine ⟨rfl, h', tk', _, (R, listObj #[.ref r0, .ref r1] c) :: (r0, listObj (v0 ++ [Value.str (SL wd) tw']).toArray f0) :: (r1, listObj (v1 ++ [Value.str (SL wd) tw']).toArray f1) :: (D, listObj ws.toArray cD) :: news, rfl, F2, N3, ?_, .tail _ (.tail _ (.tail _ (.head _))), (v0 ++ [Value.str (SL wd) tw']), (v1 ++ [Value.str (SL wd) tw']), f0, f1, tw2, ext', he', ?_, ?_, ?_, rfl⟩
            · exact fun q hq' => by
                rcases List.mem_cons.mp hq' with rfl | hq'
                · exact off (R, listObj #[.ref r0, .ref r1] c) (.head _)
                rcases List.mem_cons.mp hq' with rfl | hq'
                · exact fun e => y4 e.symm
                rcases List.mem_cons.mp hq' with rfl | hq'
                · exact fun e => y5 e.symm
                exact off q (.tail _ (.tail _ (.tail _ hq')))
            · rw [hst]
            · rw [hst, hq]; simp [m0]; exact hv0.append Vals.one
            · rw [hst, hq]; simp [m1]; exact hv1.append Vals.one
    · refine lr_letter hfd hB hX hT hd hu hext (by lia) hm8 F' N' fun h' tk' ext' tw2 he' F2 N2 => ?_
      refine ⟨rfl, h', tk', _, _, rfl, F2, N2, off, hS, v0, v1, d0, d1, tw2, ext', he', ?_, ?_, ?_, rfl⟩
      · rw [hst]; unfold lrStep; rw [if_pos hm8]
      · rw [hst]; unfold lrStep; rw [if_pos hm8]; exact hv0
      · rw [hst]; unfold lrStep; rw [if_pos hm8]; exact hv1
  · intro m nw h tk hJ F' N'
    refine hideG ?_
    intro G9
    obtain ⟨v0, v1, d0, d1, tw', ext, hext, rfl, hv0, hv1, rfl⟩ := hJ
    k_unfold
    have e : ns.take ws.toArray.size = ns := List.take_of_length_le (by rw [List.size_toArray, hI.length]; exact Nat.le_refl _)
    rw [e] at hv0 hv1 F'
    exact fin h tk ext _ v0 v1 d0 d1 hext hv0 hv1 F' N'
end

end

section
section
local macro_rules | `(tactic| walk_at "exec For Name BinOp cons nil") => `(tactic| k_extra "my for")
variable {w : World} {p : Program} {loose : List Str} {mean : ExcName → Option Value} {mg mb : Str → Option Value} {news : List (Addr × Obj)}
theorem news_skip4th {h₀ : Heap} {L : Addr} {h : Heap} {a b c d : Addr × Obj} {l : List (Addr × Obj)} (N : News h₀ L h (a :: b :: c :: d :: l)) : News h₀ L h (a :: b :: c :: l) := fun q hq => N q (by
  simp only [List.mem_cons] at hq ⊢
  rcases hq with h | h | h | h <;> simp [h])
theorem lr_perm {h₀ : Heap} {L : Addr} {h : Heap} {a b c d e : Addr × Obj} {l : List (Addr × Obj)} (N : News h₀ L h (a :: b :: c :: d :: e :: l)) : News h₀ L h (c :: e :: d :: a :: l) := fun q hq => N q (by
  simp only [List.mem_cons] at hq ⊢
  rcases hq with h | h | h | h | h <;> simp [h])
theorem lrw_start {g : Heap} {L : Addr} {h : Heap} {m : Str → Option Value} {d R : Addr} (F : Fr g L h m) (h1 : m (Str.ofString "draws") = some (.ref d)) (h2 : m (Str.ofString "rows") = some (.ref R)) (h3 : ∃ tw, m (Str.ofString "word") = some (.str (SL []) tw))
    (h9 : ∀ y, y ≠ Str.ofString "draws" → y ≠ Str.ofString "rows" → y ≠ Str.ofString "word" → m y = none) : ∃ tw, Fr g L h (lrLocals d R (.str (SL []) tw) []) := by
  obtain ⟨tw, h3⟩ := h3
  refine ⟨tw, Fr.ext' F fun y => ?_⟩
  by_cases n1 : y = Str.ofString "draws"
  · subst n1; exact h1
  by_cases n2 : y = Str.ofString "rows"
  · subst n2; exact h2
  by_cases n3 : y = Str.ofString "word"
  · subst n3; exact h3
  rw [h9 y n1 n2 n3]
  simp only [lrLocals, List.lookup, beq_eq_false_iff_ne.mpr n1, beq_eq_false_iff_ne.mpr n2, beq_eq_false_iff_ne.mpr n3]
theorem rows_spec {d : Addr} {vs : List Value} {ns : List Int} {cd : Nat} (hv : IntsAre vs ns) (hl : ns.length ≤ 40) :
   Spec w p loose mean mg mb 12 60 779 [.ref d] ((d, listObj vs.toArray cd) :: news) (fun v news' => ∃ R r0 r1 v0 v1 c c0 c1, v = .ref R ∧ news' = (R, listObj #[.ref r0, .ref r1] c) :: (r0, listObj v0.toArray c0) :: (r1, listObj v1.toArray c1) :: (d, listObj vs.toArray cd) :: news ∧ Vals (lrAll (ns ++ [0])).1 v0 ∧ Vals (lrAll (ns ++ [0])).2.1 v1) := by
  unfold Spec
  k_fill
  intro dp un gd cn cs a ccd cl outer A₀ base h₀ L m s Q E hB hF hX hN hT hcs hdp hun hret
  refine wpAny_call ?_
  k_dflt (refine' code_def ?k1 ?k2 ?k3 ?k4 ?k5 ?kA ?kF ?kK ?k6 ?k7 ?k8 ?k9 ?kB ?_ ?c2 ?c3 ?c4 ?c5; (case kA => exact rfl); (case kF => exact rfl); (case kK => first | assumption | exact rfl); (case k1 => k_asm); (case k2 => k_asm); (case k3 => k_asm); (case k4 => k_asm); (case k5 => k_asm); (case k6 => k_is); (case k7 => k_is); (case k8 => k_room); (case k9 => first | exact BindsTo.of_eq rfl | exact binds_K (by k_in) rfl (by k_is) rfl rfl rfl); (case c5 => decide); (case kB => exact locs rfl); (case c2 => exact rfl); (case c3 => exact rfl); (case c4 => exact rfl); k_whole; intro g' L' h' FG' F' N' B' X' T'; (try dsimp only); (try k_fold))
  refine wpAny_noRaise ?_
  k_with_none
  k_with "my for" => (k_dflt (refine for_go ?_))
  k_steps
  refine' (fun (hfd : fnAt (Mine.hd.heap_1 w.params) 779 = some _) => ?main9) (fnAt_of ?hl9)
  case hl9 => k_dflt k_is
  (with_reducible rename Fr _ _ _ _ => kF)
  (with_reducible rename News _ _ _ _ => kN)
  have hI9 := ‹IntsAre _ (ns ++ [0])›
  rename (_ < _) ∧ (_ < _) ∧ (_ < _) ∧ (_ < _) ∧ (_ < _) ∧ AllLt _ news => kl
  obtain ⟨tw, F1⟩ := lrw_start kF rfl rfl ⟨_, rfl⟩ (by
    intro y n1 n2 n3
    simp only [n1, n2, n3, if_false]
    show List.lookup y [(Str.ofString "draws", Value.ref d)] = none
    simp only [List.lookup, beq_eq_false_iff_ne.mpr n1])
  rename (_ < _) ∧ AllLt _ news => k0
  rename (_ < _) ∧ (_ < _) ∧ AllLt _ news => k1
  rename (_ < _) ∧ (_ < _) ∧ (_ < _) ∧ AllLt _ news => kR
  k_dflt (refine' rows_loop (c := 0) (c0 := 0) (c1 := 0) (cD := 0) (news := (d, listObj vs.toArray cd) :: news) hfd ?B1 ?X1 ?T1 ?d1 ?u1 hI9 ?l1 ?z1 ?z2 ?z3 ?z6 ?z7 rfl rfl F1 ?N1 ?_)
  case N1 => exact lr_perm kN
  case B1 => assumption
  case X1 => assumption
  case T1 => assumption
  case d1 => (try simp only [depth_deeper]); (try dsimp only [ktrTop]); omega
  case u1 => (try simp only [units_deeper]); (try dsimp only [ktrTop]); omega
  case l1 => simp; omega
  case z1 => exact Nat.ne_of_lt k1.1
  case z2 => exact Nat.ne_of_gt kR.2.1
  case z3 => exact Nat.ne_of_gt kR.1
  case z6 =>
    intro q hq
    rcases List.mem_cons.mp hq with rfl | hq
    · exact Nat.ne_of_gt kl.2.2.2.1
    rcases List.mem_cons.mp hq with rfl | hq
    · exact Nat.ne_of_lt k0.1
    exact Nat.ne_of_lt (allLt_2 k0.2 q hq)
  case z7 =>
    intro q hq
    rcases List.mem_cons.mp hq with rfl | hq
    · exact Nat.ne_of_gt kl.2.2.1
    rcases List.mem_cons.mp hq with rfl | hq
    · exact Nat.ne_of_lt k1.2.1
    exact Nat.ne_of_lt (allLt_2 k1.2.2 q hq)
  intro h5 tk5 ext5 wv5 v0 v1 c0 c1 he5 hv0 hv1 F5 N5
  k_steps
  refine' hret _ _ _ _ ?e1' ?e2' ?e3'
  case e1' => k_asm
  case e2' => exact news_skip4th (by k_asm)
  case e3' => exact ⟨_, _, _, _, _, _, _, _, rfl, rfl, hv0, hv1⟩
end

end

section
/-! kas_sort (the kit's tree of questions) sorts -/
def KGood {α : Type} (r : Nat → Nat → Bool) (n : Nat) (R : α → Prop) : KasT α → Prop
  | .ret a => R a
  | .ask i j k => i < n ∧ j < n ∧ KGood r n R (k (r i j))
theorem KGood.bind {α β : Type} {r : Nat → Nat → Bool} {n : Nat} {R : β → Prop} {f : α → KasT β} : ∀ {t : KasT α}, KGood r n (fun a => KGood r n R (f a)) t → KGood r n R (t.bind f)
  | .ret _, h => h
  | .ask _ _ _, h => ⟨h.1, h.2.1, KGood.bind h.2.2⟩
theorem KGood.wp {α : Type} {r : Nat → Nat → Bool} {n : Nat} {R : α → Prop} {cmp : Nat → Nat → (Bool → Shared → Prop) → Shared → Prop} {Q : α → Shared → Prop} {s : Shared} (hc : ∀ i j (C : Bool → Shared → Prop), i < n → j < n → C (r i j) s → cmp i j C s) (hQ : ∀ a, R a → Q a s) :
    ∀ {t : KasT α}, KGood r n R t → t.kasWp cmp Q s
  | .ret _, h => hQ _ h
  | .ask _ _ _, h => hc _ _ _ h.1 h.2.1 (KGood.wp hc hQ h.2.2)
section
variable {O : KeyOrd} {key : Nat → O.α} {n : Nat}
abbrev KP (key : Nat → O.α) (p : Array Nat) (i : Nat) : O.α := key (p.getD i 0)
def PB (n : Nat) (p : Array Nat) : Prop := p.Perm (List.range n).toArray
def SoT (key : Nat → O.α) (p : Array Nat) (k : Nat) : Prop := ∀ i j, i ≤ j → j < k → O.kle (KP key p i) (KP key p j)
def NiT (key : Nat → O.α) (p : Array Nat) (k : Nat) : Prop := ∀ i j, i ≤ j → j < k → O.kle (KP key p j) (KP key p i)
abbrev rOf (key : Nat → O.α) : Nat → Nat → Bool := fun i j => O.blt (key i) (key j)
theorem PB.size {p : Array Nat} (h : PB n p) : p.size = n := by have := h.size_eq; simpa using this
theorem PB.lt {p : Array Nat} (h : PB n p) {i : Nat} (hi : i < n) : p.getD i 0 < n := by
  have hs := h.size
  have e : p.getD i 0 = p[i] := by simp [Array.getD, hs, hi]
  rw [e]
  have hm : p[i] ∈ p := Array.getElem_mem (by lia)
  have := h.mem_iff.mp hm
  simpa using this
theorem KP_congr {p q : Array Nat} {i j : Nat} (h : p[i]? = q[j]?) : KP key p i = KP key q j := by
  unfold KP
  rw [Array.getD_eq_getD_getElem?, Array.getD_eq_getD_getElem?, h]
theorem KP_mirror {xs : Array Nat} {i j : Nat} (hj : j ≤ xs.size) (k : Nat) : KP key (kas_rev xs i j) k = if i ≤ k ∧ k < j then KP key xs (i + j - 1 - k) else KP key xs k := by
  have e := getElem?_mirror_all (i := i) hj k
  by_cases h1 : i ≤ k ∧ k < j
  · rw [if_pos h1] at e ⊢; exact KP_congr e
  · rw [if_neg h1] at e ⊢; exact KP_congr e
theorem KP_mirror_equal {xs : Array Nat} {i j : Nat} (hj : j ≤ xs.size) (heq : ∀ k, i ≤ k → k < j → KP key xs k = KP key xs (j - 1)) (k : Nat) : KP key (kas_rev xs i j) k = KP key xs k := by
  rw [KP_mirror hj]
  split
  · rw [heq _ (by lia) (by lia), heq k (by lia) (by lia)]
  · rfl
theorem KP_bubble {xs : Array Nat} {src d : Nat} (hs : src < xs.size) (hd : d ≤ src) (k : Nat) : KP key (bubble xs src d) k = if k = src - d then KP key xs src else if src - d < k ∧ k ≤ src then KP key xs (k - 1) else KP key xs k := by
  have e := getElem?_bubble hs d hd k
  by_cases h1 : k = src - d
  · rw [if_pos h1] at e ⊢; exact KP_congr e
  · rw [if_neg h1] at e ⊢
    by_cases h2 : src - d < k ∧ k ≤ src
    · rw [if_pos h2] at e ⊢; exact KP_congr e
    · rw [if_neg h2] at e ⊢; exact KP_congr e
theorem PB.rev {p : Array Nat} (h : PB n p) (i j : Nat) : PB n (kas_rev p i j) := (mirror_perm p i j ((j - i) / 2)).trans h
theorem PB.bub {p : Array Nat} (h : PB n p) (i j : Nat) : PB n (bubble p i j) := (bubble_perm p i j).trans h
theorem asc_good {p : Array Nat} (hB : PB n p) {R : Nat → Prop} : ∀ f a, 1 ≤ a → a + f ≤ n → SoT key p a →
    (∀ m, a ≤ m → m ≤ a + f → SoT key p m → (m = a + f ∨ O.klt (KP key p m) (KP key p (m - 1))) → R m) → KGood (rOf key) n R (kas_asc p f a)
  | 0, a, _, _, hs, h => h a (Nat.le_refl _) (Nat.le_refl _) hs (.inl rfl)
  | f + 1, a, h1, hn, hs, h => by
    refine ⟨hB.lt (by lia), hB.lt (by lia), ?_⟩
    cases hless : O.blt (KP key p a) (KP key p (a - 1))
    case true =>
      show KGood (rOf key) n R (if rOf key _ _ = true then _ else _)
      rw [if_pos hless]
      exact h a (Nat.le_refl _) (by lia) hs (.inr hless)
    case false =>
      show KGood (rOf key) n R (if rOf key _ _ = true then _ else _)
      rw [if_neg (by show ¬ O.blt (KP key p a) (KP key p (a - 1)) = true; rw [hless]; decide)]
      refine asc_good hB f (a + 1) (by lia) (by lia) (fun i j hij hj => ?_) fun m m1 m2 m3 m4 => h m (by lia) (by lia) m3 (m4.imp (fun e => by lia) id)
      by_cases hjx : j < a
      · exact hs i j hij hjx
      · have hj' : j = a := by lia
        subst hj'
        by_cases hi' : i = j
        · subst hi'; exact KeyOrd.kle_refl _
        · exact KeyOrd.kle_trans (hs i (j - 1) (by lia) (by lia)) hless
theorem tail3_good {p : Array Nat} (hB : PB n p) {m : Nat} {R : Nat × Array Nat → Prop} (h1 : 1 ≤ m) (hm : m ≤ n) (hs : NiT key p m)
    (h : ∀ k q, PB n q → 1 ≤ k → k ≤ n → SoT key q k → R (k, q)) : KGood (rOf key) n R (kas_tail3 m n p) := by
  unfold kas_tail3
  refine KGood.bind (asc_good (hB.rev 0 m) (n - m) m h1 (by lia) ?_ fun k k1 k2 k3 _ => h k _ (hB.rev 0 m) (by lia) (by lia) k3)
  have hsz : m ≤ p.size := by rw [hB.size]; exact hm
  intro i j hij hj
  rw [KP_mirror hsz, KP_mirror hsz, if_pos (by lia), if_pos (by lia)]
  exact hs _ _ (by lia) (by lia)
theorem desc_good {R : Array Nat × Nat × Nat → Prop} : ∀ (f : Nat) (p : Array Nat) (m q : Nat), PB n p → 1 ≤ m → m + f ≤ n → NiT key p m → q + 1 ≤ m → (∀ i, m - (q + 1) ≤ i → i < m → KP key p i = KP key p (m - 1)) →
    (∀ p' m' q', PB n p' → m ≤ m' → m' ≤ n → NiT key p' m' → q' + 1 ≤ m' → (∀ i, m' - (q' + 1) ≤ i → i < m' → KP key p' i = KP key p' (m' - 1)) → R (p', m', q')) → KGood (rOf key) n R (kas_desc f p m q)
  | 0, p, m, q, hB, h1, hn, hs, hq, he, h => h p m q hB (Nat.le_refl _) (by lia) hs hq he
  | f + 1, p, m, q, hB, h1, hn, hs, hq, he, h => by
    have hsz : m ≤ p.size := by rw [hB.size]; lia
    refine ⟨hB.lt (by lia), hB.lt (by lia), ?_⟩
    cases hless : O.blt (KP key p m) (KP key p (m - 1))
    case true =>
      show KGood (rOf key) n R (if rOf key _ _ = true then _ else _)
      rw [if_pos hless]
      have step1 : ∀ xs : Array Nat, (∀ k, KP key xs k = KP key p k) → NiT key xs (m + 1) := by
        intro xs hk i j hij hj
        rw [hk, hk]
        by_cases hjx : j < m
        · exact hs i j hij hjx
        · have hj' : j = m := by lia
          subst hj'
          by_cases hi' : i = j
          · subst hi'; exact KeyOrd.kle_refl _
          · exact KeyOrd.kle_trans (KeyOrd.kle_of_klt hless) (hs i (j - 1) (by lia) (by lia))
      by_cases hneq : q > 0
      · rw [if_pos hneq]
        exact desc_good f _ (m + 1) 0 (hB.rev _ _) (by lia) (by lia) (step1 _ (KP_mirror_equal hsz he)) (by lia) (fun i a b => by congr 2; lia) fun p' m' q' a b c d e g => h p' m' q' a (by lia) c d e g
      · rw [if_neg hneq]
        exact desc_good f _ (m + 1) 0 hB (by lia) (by lia) (step1 _ fun _ => rfl) (by lia) (fun i a b => by congr 2; lia) fun p' m' q' a b c d e g => h p' m' q' a (by lia) c d e g
    case false =>
      show KGood (rOf key) n R (if rOf key _ _ = true then _ else _)
      rw [if_neg (by show ¬ O.blt (KP key p m) (KP key p (m - 1)) = true; rw [hless]; decide)]
      refine ⟨hB.lt (by lia), hB.lt (by lia), ?_⟩
      cases hlarger : O.blt (KP key p (m - 1)) (KP key p m)
      case true =>
        show KGood (rOf key) n R (if rOf key _ _ = true then _ else _)
        rw [if_pos hlarger]
        exact h p m q hB (Nat.le_refl _) (by lia) hs hq he
      case false =>
        show KGood (rOf key) n R (if rOf key _ _ = true then _ else _)
        rw [if_neg (by show ¬ O.blt (KP key p (m - 1)) (KP key p m) = true; rw [hlarger]; decide)]
        have heqx : KP key p m = KP key p (m - 1) := KeyOrd.kle_antisymm hlarger hless
        refine desc_good f _ (m + 1) (q + 1) hB (by lia) (by lia) (fun i j hij hj => ?_) (by lia) (fun i a b => ?_) fun p' m' q' a b c d e g => h p' m' q' a (by lia) c d e g
        · by_cases hjx : j < m
          · exact hs i j hij hjx
          · have hj' : j = m := by lia
            subst hj'
            by_cases hi' : i = j
            · subst hi'; exact KeyOrd.kle_refl _
            · rw [heqx]; exact hs i (j - 1) (by lia) (by lia)
        · rw [show m + 1 - 1 = m by lia]
          by_cases hix : i = m
          · subst hix; rfl
          · rw [heqx]; exact he i (by lia) (by lia)
theorem descPart_good {p : Array Nat} (hB : PB n p) {m : Nat} {R : Nat × Array Nat → Prop} (hm : m + 1 ≤ n) (hs : NiT key p (m + 1))
    (h : ∀ k q, PB n q → 1 ≤ k → k ≤ n → SoT key q k → R (k, q)) : KGood (rOf key) n R (kas_descPart m n p) := by
  unfold kas_descPart
  refine KGood.bind (desc_good _ p (m + 1) 0 hB (by lia) (by lia) hs (by lia) (fun i a b => by congr 2; lia) fun p' m' q' a b c d e g => ?_)
  dsimp only
  have hsz : m' ≤ p'.size := by rw [a.size]; lia
  by_cases hneq : q' > 0
  · rw [if_pos hneq]
    refine tail3_good (a.rev _ _) (by lia) c ?_ h
    intro i j hij hj
    rw [KP_mirror_equal hsz g, KP_mirror_equal hsz g]
    exact d i j hij hj
  · rw [if_neg hneq]
    exact tail3_good a (by lia) c d h
theorem count_good {p : Array Nat} (hB : PB n p) (h1 : 1 ≤ n) {R : Nat × Array Nat → Prop}
    (h : ∀ k q, PB n q → 1 ≤ k → k ≤ n → SoT key q k → R (k, q)) : KGood (rOf key) n R (kas_count n p) := by
  unfold kas_count
  refine KGood.bind (asc_good hB (n - 1) 1 (Nat.le_refl _) (by lia) (fun i j hij hj => by have : i = j := (by lia); subst this; exact KeyOrd.kle_refl _) fun m m1 m2 hsn hor => ?_)
  by_cases hnn : m = n
  · rw [if_pos (by simpa using hnn)]
    exact h m p hB m1 (by lia) hsn
  · rw [if_neg (by simpa using hnn)]
    have hlt : O.klt (KP key p m) (KP key p (m - 1)) := hor.resolve_left (by lia)
    by_cases hgt : m > 1
    · rw [if_pos hgt]
      refine ⟨hB.lt (by lia), hB.lt (by lia), ?_⟩
      cases hrose : O.blt (KP key p 0) (KP key p (m - 1))
      case true =>
        show KGood (rOf key) n R (if rOf key _ _ = true then _ else _)
        rw [if_pos hrose]
        exact h m p hB m1 (by lia) hsn
      case false =>
        show KGood (rOf key) n R (if rOf key _ _ = true then _ else _)
        rw [if_neg (by show ¬ O.blt (KP key p 0) (KP key p (m - 1)) = true; rw [hrose]; decide)]
        have hsz : m ≤ p.size := by rw [hB.size]; lia
        have hall : ∀ k, 0 ≤ k → k < m → KP key p k = KP key p (m - 1) := by
          intro k _ hk
          have a1 := hsn 0 k (by lia) hk
          have a2 := hsn k (m - 1) (by lia) (by lia)
          exact KeyOrd.kle_antisymm a2 (KeyOrd.kle_trans hrose a1)
        refine descPart_good (hB.rev _ _) (by lia) ?_ h
        intro i j hij hj
        rw [KP_mirror_equal hsz hall, KP_mirror_equal hsz hall]
        by_cases hjn : j < m
        · rw [hall i (by lia) (by lia), hall j (by lia) hjn]; exact KeyOrd.kle_refl _
        · have hj' : j = m := by lia
          subst hj'
          by_cases hi' : i = j
          · subst hi'; exact KeyOrd.kle_refl _
          · rw [hall i (by lia) (by lia)]; exact KeyOrd.kle_of_klt hlt
    · rw [if_neg hgt]
      have hn1' : m = 1 := by lia
      subst hn1'
      refine descPart_good hB (by lia) ?_ h
      intro i j hij hj
      by_cases hi' : i = j
      · subst hi'; exact KeyOrd.kle_refl _
      · have hi0 : i = 0 := by lia
        have hj1 : j = 1 := by lia
        subst hi0; subst hj1
        exact KeyOrd.kle_of_klt hlt
theorem place_good {p : Array Nat} (hB : PB n p) {k : Nat} (hk : k < n) (hs : SoT key p k) {R : Nat → Prop} (h : ∀ l, l ≤ k → (∀ i, i < l → O.kle (KP key p i) (KP key p k)) → (∀ i, l ≤ i → i < k → O.klt (KP key p k) (KP key p i)) → R l) :
    ∀ f l r, l ≤ r → r ≤ k → r - l ≤ f → (∀ i, i < l → O.kle (KP key p i) (KP key p k)) → (∀ i, r ≤ i → i < k → O.klt (KP key p k) (KP key p i)) → KGood (rOf key) n R (kas_place p k f l r)
  | 0, l, r, h1, h2, h3, hlo, hhi => by
    have : l = r := by lia
    subst this
    exact h l h2 hlo hhi
  | f + 1, l, r, h1, h2, h3, hlo, hhi => by
    unfold kas_place
    by_cases hge : l ≥ r
    · rw [if_pos hge]
      have : l = r := by lia
      subst this
      exact h l h2 hlo hhi
    · rw [if_neg hge]
      refine ⟨hB.lt hk, hB.lt (by lia), ?_⟩
      cases hless : O.blt (KP key p k) (KP key p ((l + r) / 2))
      case true =>
        show KGood (rOf key) n R (if rOf key _ _ = true then _ else _)
        rw [if_pos hless]
        exact place_good hB hk hs h f l ((l + r) / 2) (by lia) (by lia) (by lia) hlo fun i a b => KeyOrd.klt_of_klt_of_kle hless (hs _ _ a b)
      case false =>
        show KGood (rOf key) n R (if rOf key _ _ = true then _ else _)
        rw [if_neg (by show ¬ O.blt (KP key p k) (KP key p ((l + r) / 2)) = true; rw [hless]; decide)]
        exact place_good hB hk hs h f ((l + r) / 2 + 1) r (by lia) (by lia) (by lia) (fun i a => KeyOrd.kle_trans (hs i ((l + r) / 2) (by lia) (by lia)) (show O.kle _ _ from hless)) hhi
theorem bin_good {R : Array Nat → Prop} : ∀ (f : Nat) (p : Array Nat) (k : Nat), PB n p → 1 ≤ k → k + f = n → SoT key p k → (∀ q, PB n q → SoT key q n → R q) → KGood (rOf key) n R (kas_bin f p k)
  | 0, p, k, hB, _, hk, hs, h => h p hB (by rw [← hk]; exact hs)
  | f + 1, p, k, hB, h1, hk, hs, h => by
    refine KGood.bind (place_good hB (by lia) hs (fun l hlk hlo hhi => ?_) k 0 k (by lia) (Nat.le_refl _) (by lia) (fun i a => by lia) fun i a b => by lia)
    refine bin_good f _ (k + 1) (hB.bub _ _) (by lia) (by lia) (fun i j hij hj => ?_) h
    have hks : k < p.size := by rw [hB.size]; lia
    rw [KP_bubble hks (by lia), KP_bubble hks (by lia), show k - (k - l) = l by lia]
    repeat' split
    all_goals first
      | (exfalso; lia)
      | exact KeyOrd.kle_refl _
      | exact hlo _ (by lia)
      | exact KeyOrd.kle_of_klt (hhi _ (by lia) (by lia))
      | exact hs _ _ (by lia) (by lia)
theorem sort_good (h1 : 1 ≤ n) {R : Array Nat → Prop} (h : ∀ q, PB n q → SoT key q n → R q) : KGood (rOf key) n R (kas_sort n) := by
  unfold kas_sort
  refine KGood.bind (count_good (Array.Perm.refl _) h1 fun k q hq k1 k2 hs => ?_)
  dsimp only
  by_cases hlt : k < n
  · rw [if_pos hlt, show max k 1 = k by lia]
    exact bin_good _ q k hq k1 (by lia) hs h
  · rw [if_neg hlt]
    have : k = n := by lia
    subst this
    exact h q hq hs
end

end

section
/-! two lists of ints under < and ==; sorted over pairs (a list of ints, a text) -/
theorem ints_getp {vs : List Value} {ns : List Int} (h : IntsAre vs ns) : ∀ (i : Nat) (n : Int), ns[i]? = some n → ∃ t, vs[i]? = some (.int n t) := by
  induction h with
  | nil => intro i n e; simp at e
  | cons n t _ ih =>
    intro i m e
    cases i with
    | zero => simp at e; subst e; exact ⟨t, rfl⟩
    | succ i => simpa using ih i m (by simpa using e)
open PySem.SeqAt PySem.MeetsSeq3 PySem.AutoSeq1 in
theorem lt_loopI (l b : Addr) {items items2 : Array Value} {n n2 : Nat} {dd dd2 : Option Addr} {sl sl2 : Array (Option Value)} {ns ms : List Int} (h1 : IntsAre items.toList ns) (h2 : IntsAre items2.toList ms) (k : Nat) :
    ∀ i : Nat, ns.length - i = k → i ≤ ns.length → i ≤ ms.length → Meets (Builtin.«list.__eq__.loop» ⟨[.ref l, .ref b, rawInt i, rawInt 0], []⟩)
      (fun _ R s => s.heap.get? l = some { cls := .type "list", dict := dd, data := .seq items n, slots := sl } ∧ s.heap.get? b = some { cls := .type "list", dict := dd2, data := .seq items2 n2, slots := sl2 } ∧
        R (.ok (.ret (.bool (decide (ns.drop i < ms.drop i))))) s) := by
  have z1 : items.size = ns.length := by have := h1.length; simpa using this
  have z2 : items2.size = ms.length := by have := h2.length; simpa using this
  induction k with
  | zero =>
    intro i hk hi hi' prog w A R s h
    refine hideG ?_
    intro G9
    obtain ⟨hp, g, d, tk, os⟩ := s; obtain ⟨hl, hb, h⟩ := h
    k_unfold
    wp_walk using wpAny_loadPart' hl, wpAny_loadPart' hb
    have hi1 : items[((i : Nat) : Int).toNat]? = none := by simp; lia
    have hd : ns.drop i = [] := by simp; lia
    rw [hi1]
    wp_walk using wpAny_loadPart' hl, wpAny_loadPart' hb
    show R (.ok (.ret (.bool (decide (items.size < items2.size))))) _
    rw [hd] at h
    have e : decide (items.size < items2.size) = decide ([] < ms.drop i) := by
      refine decide_eq_decide.mpr ?_
      cases hm : ms.drop i with
      | nil =>
        have : ms.length ≤ i := List.drop_eq_nil_iff.mp hm
        simp; lia
      | cons a r =>
        have : ¬ ms.length ≤ i := fun q => by rw [List.drop_eq_nil_of_le q] at hm; cases hm
        simp; lia
    rw [e]; exact h
  | succ k ih =>
    intro i hk hi hi' prog w A R s h
    refine hideG ?_
    intro G9
    obtain ⟨hp, g, d, tk, os⟩ := s; obtain ⟨hl, hb, h⟩ := h
    k_unfold
    wp_walk using wpAny_loadPart' hl, wpAny_loadPart' hb
    have hlt : i < ns.length := by lia
    obtain ⟨t1, e1⟩ := ints_getp h1 i _ (List.getElem?_eq_getElem hlt)
    have hi1 : items[((i : Nat) : Int).toNat]? = some (.int ns[i] t1) := by simpa using e1
    rw [hi1]
    by_cases hlt2 : i < ms.length
    · obtain ⟨t2, e2⟩ := ints_getp h2 i _ (List.getElem?_eq_getElem hlt2)
      have hi2 : items2[((i : Nat) : Int).toNat]? = some (.int ms[i] t2) := by simpa using e2
      have hc : ((i : Int) + 1) = ((i + 1 : Nat) : Int) := by push_cast; rfl
      rw [hi2]
      rw [List.drop_eq_getElem_cons hlt, List.drop_eq_getElem_cons hlt2] at h
      refine wpAny_bind (wpAny_eqBool_int ?_)
      by_cases he : ns[i] = ms[i]
      · have hb' : (ns[i] == ms[i]) = true := by simpa using he
        rw [hb']
        wp_walk
        rw [hc]
        have e : decide (ns[i] :: ns.drop (i + 1) < ms[i] :: ms.drop (i + 1)) = decide (ns.drop (i + 1) < ms.drop (i + 1)) := by
          refine decide_eq_decide.mpr ?_
          rw [List.cons_lt_cons_iff, he]
          simp
        rw [e] at h
        exact ⟨plainId_quiet plain_eq_loop _, codeAny_builtin entry_eq_loop (by
          rw [Around.under_plainId plain_eq_loop _]
          exact ih (i + 1) (by lia) (by lia) (by lia) prog w A R _ ⟨hl, hb, h⟩)⟩
      · have hb' : (ns[i] == ms[i]) = false := by simpa using he
        rw [hb']
        wp_walk using wpAny_loadPart' hl, wpAny_loadPart' hb
        rw [hi1, hi2]
        have e : decide (ns[i] :: ns.drop (i + 1) < ms[i] :: ms.drop (i + 1)) = decide (ns[i] < ms[i]) := by
          refine decide_eq_decide.mpr ?_
          rw [List.cons_lt_cons_iff]
          simp [he]
        rw [e] at h
        show wpAny (model prog w) A.in1 (richCompare .Lt (.int ns[i] t1) (.int ms[i] t2) >>= _) _ _ _
        refine wpAny_bind (show wpAny (model prog w) A.in1 (compareOp .Lt (.int ns[i] t1) (.int ms[i] t2)) _ _ _ from PyProof.Rows.lt_int ?_)
        wp_walk
        exact h
    · have hi2 : items2[((i : Nat) : Int).toNat]? = none := by simp; lia
      rw [hi2]
      wp_walk using wpAny_loadPart' hl, wpAny_loadPart' hb
      show R (.ok (.ret (.bool (decide (items.size < items2.size))))) _
      have hd : ms.drop i = [] := by simp; lia
      rw [hd] at h
      have e : decide (items.size < items2.size) = decide (ns.drop i < []) := by
        refine decide_eq_decide.mpr ?_
        simp; lia
      rw [e]; exact h
open PySem.SeqAt PySem.MeetsSeq3 PySem.AutoSeq1 in
theorem list_ltI (l b : Addr) {items items2 : Array Value} {n n2 : Nat} {dd dd2 : Option Addr} {sl sl2 : Array (Option Value)} {ns ms : List Int} (h1 : IntsAre items.toList ns) (h2 : IntsAre items2.toList ms) :
    Meets (Builtin.«list.__lt__» ⟨[.ref l, .ref b], []⟩)
      (fun _ R s => s.heap.get? l = some { cls := .type "list", dict := dd, data := .seq items n, slots := sl } ∧ s.heap.get? b = some { cls := .type "list", dict := dd2, data := .seq items2 n2, slots := sl2 } ∧
        R (.ok (.ret (.bool (decide (ns < ms))))) s) := by
  intro prog w A R s h
  refine hideG ?_
  intro G9
  obtain ⟨hp, g, d, tk, os⟩ := s; obtain ⟨hl, hb, h⟩ := h
  k_unfold
  have f3 := AutoSeq1.sub_list_list
  wp_walk using wpAny_loadPart' hl, wpAny_loadPart' hb
  exact ⟨plainId_quiet plain_eq_loop _, codeAny_builtin entry_eq_loop (by
    rw [Around.under_plainId plain_eq_loop _]
    exact lt_loopI l b h1 h2 _ 0 rfl (Nat.zero_le _) (Nat.zero_le _) prog w A R _ ⟨hl, hb, by simpa using h⟩)⟩
section
open PySem.SeqAt
variable {prog : Program} {w : World} {A : Around} {E : Value → Shared → Prop} {s : Shared} {h₀ : Heap} {L : Addr} {m : Str → Option Value} {news : List (Addr × Obj)}
theorem oneLt_list {a b : Addr} {vs us : List Value} {c d : Nat} {ns ms : List Int} {Q : Bool → Shared → Prop} (ha : s.heap.get? a = some (listObj vs.toArray c)) (hb : s.heap.get? b = some (listObj us.toArray d)) (h1 : IntsAre vs ns) (h2 : IntsAre us ms) (hu : A.units < cLine)
    (h : Q (decide (ns < ms)) s) : wpAny (model prog w) A (oneLt' true (.ref a) (.ref b)) Q E s := by
  rw [oneLt'_eq]
  simp only [if_true]
  refine wpAny_bind (wpAny_cRoomFor hu ?_)
  refine wpAny_bind (wpAny_callSpecialIfBound?_slot ⟨_, ha, rfl⟩ F.slot_list_lt (call_meets F.slot_list_lt ⟨_, ha, rfl⟩ F.entry_list_lt (F.args_list_lt_2 _ _) (list_ltI a b (items := vs.toArray) (items2 := us.toArray) (by simpa using h1) (by simpa using h2)) ⟨ha, hb, ?_⟩))
  exact wpAny_truthy_bool h
theorem ints_eqAt {a b : Addr} {vs us : List Value} {c d : Nat} {ns ms : List Int} (N : News h₀ L s.heap news) (ha : (a, listObj vs.toArray c) ∈ news) (hb : (b, listObj us.toArray d) ∈ news) (h1 : IntsAre vs ns) (h2 : IntsAre us ms) (hu : A.units < cLine) :
    EqAt A s (.ref a) (.ref b) (decide (ns = ms)) := by
  by_cases hab : a = b
  · subst hab
    have e : ns = ms := by
      have e1 := (N _ ha).1
      have e2 := (N _ hb).1
      rw [e1] at e2
      have e3 : vs = us := by
        have := congrArg (fun o : Option Obj => match o with | some ⟨_, _, .seq x _, _⟩ => x.toList | _ => []) e2
        simpa using this
      rw [← h1.nums, ← h2.nums, e3]
    rw [decide_eq_true e]
    exact PySem.SeqAt.EqAt.same _
  · have l1 : vs.length = ns.length := h1.length
    have l2 : us.length = ms.length := h2.length
    by_cases hl : ns.length = ms.length
    · have key := PySem.SeqAt.RcAt.lists (A := A) (e := fun j => ns.getD j 0 == ms.getD j 0) (N.isList ha) (N.isList hb) (by simp; lia) hu (fun j g1 g2 => by
        have g1' : j < vs.length := by simpa using g1
        have g2' : j < us.length := by simpa using g2
        obtain ⟨t1, e1⟩ := ints_getp h1 j _ (List.getElem?_eq_getElem (by lia))
        obtain ⟨t2, e2⟩ := ints_getp h2 j _ (List.getElem?_eq_getElem (by lia))
        have f1 : vs[j] = .int (ns[j]'(by lia)) t1 := by
          rw [List.getElem?_eq_getElem g1'] at e1; exact Option.some.inj e1
        have f2 : us[j] = .int (ms[j]'(by lia)) t2 := by
          rw [List.getElem?_eq_getElem g2'] at e2; exact Option.some.inj e2
        have d1 : ns.getD j 0 = ns[j]'(by lia) := by simp [show j < ns.length by lia]
        have d2 : ms.getD j 0 = ms[j]'(by lia) := by simp [show j < ms.length by lia]
        show EqAt A.in1 s (vs.toArray[j]) (us.toArray[j]) _
        rw [List.getElem_toArray, List.getElem_toArray, f1, f2, d1, d2]
        exact fun prog w E Q h => wpAny_eqBool_int h)
      have e : (List.range vs.toArray.size).all (fun j => ns.getD j 0 == ms.getD j 0) = decide (ns = ms) := by
        rw [List.size_toArray, l1]
        refine Bool.eq_iff_iff.mpr ?_
        rw [List.all_eq_true, decide_eq_true_iff]
        constructor
        · intro q
          refine List.ext_getElem hl fun j j1 j2 => ?_
          have := q j (List.mem_range.mpr j1)
          simpa [j1, j2] using this
        · rintro rfl j _; simp
      rw [e] at key
      exact .of_refs hab key
    · have e : decide (ns = ms) = false := decide_eq_false fun q => hl (by rw [q])
      rw [e]
      exact .of_refs hab (.lists_lengths (N.isList ha) (N.isList hb) (by simp; lia) hu)
end
def intsOrd : KeyOrd where
  α := List Int
  blt := fun a b => decide (a < b)
  irrefl := fun a => decide_eq_false (List.lt_irrefl a)
  trans := fun a b c h1 h2 => decide_eq_true (List.lt_trans (of_decide_eq_true h1) (of_decide_eq_true h2))
  negTrans := fun a b c h => by
    have h := of_decide_eq_true h
    by_cases h1 : a < b
    · exact .inl (decide_eq_true h1)
    · by_cases h2 : b < c
      · exact .inr (decide_eq_true h2)
      · exact absurd h (List.not_lt.mpr (List.le_trans (List.not_lt.mp h2) (List.not_lt.mp h1)))
  total := fun a b h1 h2 => List.le_antisymm (List.not_lt.mp (of_decide_eq_false h2)) (List.not_lt.mp (of_decide_eq_false h1))
/-- a pair (the ranks of a word, the word) -/
def IsPair (b : Bool) (ex : List (Addr × Obj)) (v : Value) (x : List Nat) : Prop :=
  ∃ tp Dr vs c k, v = .ref tp ∧ (tp, ({ cls := .type "tuple", data := .seq #[.ref Dr, .str (SL x) k] } : Obj)) ∈ ex ∧ (Dr, listObj vs.toArray c) ∈ ex ∧ IntsAre vs (rk b x)
theorem IsPair.mono {b : Bool} {ex ex' : List (Addr × Obj)} {v : Value} {x : List Nat} (h : ∀ q ∈ ex, q ∈ ex') (p : IsPair b ex v x) : IsPair b ex' v x := by
  refine hideG ?_
  intro G9
  obtain ⟨tp, Dr, vs, c, k, e, h1, h2, h3⟩ := p
  k_unfold
  exact ⟨tp, Dr, vs, c, k, e, h _ h1, h _ h2, h3⟩
theorem AllP.get {α : Type} {P : Value → α → Prop} {vs : List Value} {as : List α} (h : AllP P vs as) : ∀ (i : Nat) (a : α), as[i]? = some a → ∃ v, vs[i]? = some v ∧ P v a := by
  induction h with
  | nil => intro i a e; simp at e
  | @cons v0 a0 vs as hp _ ih =>
    intro i a e
    cases i with
    | zero => simp at e; subst e; exact ⟨v0, rfl, hp⟩
    | succ i => simpa using ih i a (by simpa using e)
theorem AllP.pick {α : Type} {P : Value → α → Prop} {vs : List Value} {as : List α} {d : α} (h : AllP P vs as) : ∀ {l : List Nat}, (∀ i ∈ l, i < as.length) → AllP P (l.map fun i => vs.getD i Value.none) (l.map fun i => as.getD i d)
  | [], _ => .nil
  | i :: l, hl => by
    have hi := hl i List.mem_cons_self
    obtain ⟨v, e, hp⟩ := h.get i _ (List.getElem?_eq_getElem hi)
    refine .cons ?_ (h.pick fun j hj => hl j (List.mem_cons_of_mem _ hj))
    have e1 : vs.getD i Value.none = v := by rw [List.getD_eq_getElem?_getD, e]; rfl
    have e2 : as.getD i d = as[i] := by simp [hi]
    show P (vs.getD i Value.none) (as.getD i d)
    rw [e1, e2]; exact hp
section
variable {prog : Program} {w : World} {A : Around} {E : Value → Shared → Prop} {s : Shared} {h₀ : Heap} {L : Addr} {m : Str → Option Value} {news : List (Addr × Obj)}
/-- one question of the sort -/
theorem pair_lt {b : Bool} {x y : List Nat} {v u : Value} {Q : Bool → Shared → Prop} (N : News h₀ L s.heap news) (hv : IsPair b news v x) (hu : IsPair b news u y) (hi : rk b x = rk b y → x = y) (hr : A.units < cLine) (h : Q (decide (rk b x < rk b y)) s) :
    wpAny (model prog w) A (keyLt' (tuples' true) v u) Q E s := by
  refine hideG ?_
  intro G9
  obtain ⟨tp, Dr, vs, c, k, rfl, a1, a2, a3⟩ := hv
  obtain ⟨tp', Dr', us, c', k', rfl, b1, b2, b3⟩ := hu
  k_unfold
  refine kat_lt (N _ a1).1 rfl (N _ b1).1 rfl ?_
  show KatLex prog w A true (decide (2 < 2)) Q [(.ref Dr, .ref Dr'), (.str (SL x) k, .str (SL y) k')] 0 s
  refine kat_cons (ints_eqAt N a2 b2 a3 b3 hr prog w _ _ ?_)
  by_cases he : rk b x = rk b y
  · have e := hi he
    subst e
    rw [decide_eq_true rfl]
    refine kat_yes (kat_cons ?_)
    refine wpAny_eqBool_str ?_
    rw [decide_eq_true rfl]
    refine kat_yes (kat_nil ?_)
    have e2 : decide (rk b x < rk b x) = decide (2 < 2) := by
      rw [decide_eq_false (List.lt_irrefl _)]; rfl
    rw [e2] at h
    exact h
  · rw [decide_eq_false he]
    refine kat_no ?_
    show wpAny (model prog w) A (oneLt' true (.ref Dr) (.ref Dr')) Q (fun _ _ => False) s
    exact oneLt_list (N _ a2).1 (N _ b2).1 a3 b3 hr h
end

end

section
/-- what _law_alone gives -/
def AloneOk (b : Bool) (w o ws : List (List Nat)) : Prop := ws.Perm (w.filter fun x => decide (x ∉ o)) ∧ ws.Pairwise fun x y => rk b x < rk b y
/-! sorted over pairs -/
section
variable {prog : Program} {w : World} {A : Around} {E : Value → Shared → Prop} {s : Shared} {h₀ : Heap} {L : Addr} {m : Str → Option Value} {news : List (Addr × Obj)}
theorem zip_snd (vs : List Value) : (vs.toArray.zip vs.toArray).map (·.2) = vs.toArray := by
  apply Array.toList_inj.mp
  simp only [Array.toList_map, Array.toList_zip]
  induction vs with
  | nil => rfl
  | cons v vs ih => simpa using ih
theorem list_sort_short {a : Addr} {vs : List Value} {n : Nat} {P : PySem.Fin → Shared → Prop} (ho : s.heap.get? a = some (seqObj "list" vs.toArray n)) (hn : vs.length < 2)
    (h : P (.done (.ret .none)) { s with heap := sortedHeap s.heap a vs vs.toArray }) : wpAny (model prog w) A (Builtin.«list.sort» ⟨[.ref a], []⟩) P E s := by
  rw [list_sort_plain]
  have ha : a < s.heap.objs.size := Heap.lt_size ho
  refine wpAny_bind (listItems_at ho rfl ?_)
  refine wpAny_bind (listUpdate_at ho rfl ?_)
  obtain ⟨e1, ho1⟩ : ∃ e1, (s.heap.update a (Obj.mapSeq fun _ => #[])).get? a = some (seqObj "list" #[] e1) := ⟨_, get?_update_seq ho (fun _ => #[])⟩
  refine wpAny_bind (seqEpoch_at ho1 rfl ?_)
  refine wpAny_bind (wpAny_newTuple ?_ (by show vs.length ≤ _; rw [sizeLine_eq]; lia))
  refine wpAny_bind (wpAny_newList ?_ (Nat.zero_le _))
  refine wpAny_holding ?_
  have ho6 : (((s.heap.update a (Obj.mapSeq fun _ => #[])).push (seqObj "tuple" vs.toArray 0)).push (seqObj "list" #[] 0)).get? a = some (seqObj "list" #[] e1) := by
    rw [Heap.get?_push_ne _ _ _ (by rw [size_push', Heap.size_update]; exact Nat.ne_of_lt (Nat.lt_succ_of_lt ha)), Heap.get?_push_ne _ _ _ (by rw [Heap.size_update]; exact Nat.ne_of_lt ha)]
    exact ho1
  show wpAny (model prog w) A _ P E { s with heap := ((s.heap.update a (Obj.mapSeq fun _ => #[])).push (seqObj "tuple" vs.toArray 0)).push (seqObj "list" #[] 0) }
  dsimp only
  have h2 : vs.toArray.size < 2 := by simpa using hn
  rw [if_pos h2, if_pos h2]
  refine wpAny_bind (wpAny_pure ?_)
  rw [StateT.run_pure]
  refine wpAny_bind (wpAny_pure ?_)
  dsimp only
  refine wpAny_bind (seqEpoch_at ho6 rfl ?_)
  have e2 : (arrOf (SortSt.mk' general' (vs.toArray.zip vs.toArray) #[] 7 none)).map (·.2) = vs.toArray := zip_snd vs
  rw [e2]
  refine wpAny_bind (listUpdate_at ho6 rfl ?_ (hsz2 := by rw [sizeLine_eq]; lia))
  simp only [bne_self_eq_false, Bool.false_eq_true, if_false]
  exact wpAny_pure h
theorem sorted_short {l : Addr} {vs : List Value} {c : Nat} {Q : Value → Shared → Prop} (F : Fr h₀ L s.heap m) (N : News h₀ L s.heap news) (hm : (l, listObj vs.toArray c) ∈ news) (h2 : vs.length < 2)
    (h : ∀ D h' e, Fr h₀ L h' m → News h₀ L h' ((D, listObj vs.toArray e) :: news) → (∀ q ∈ news, q.1 < D) → Q (.ref D) { s with heap := h' }) : wpAny (model prog w) A (call (.builtin "sorted") [.ref l]) Q E s := by
  refine Calls.call_function_entry kind_sorted plain_sorted entry_sorted (args_sorted1 _) ?_
  unfold Builtin.«sorted»
  refine wpAny_bind (m := checkCount "sorted" 1 1 _) (wpAny_pure ?_)
  refine wpAny_bind (collect_list (N.isList hm) ?_ (by rw [sizeLine_eq]; lia))
  refine wpAny_bind (wpAny_newList ?_ (by rw [sizeLine_eq]; lia))
  have hsz : ((s.heap.push (seqObj "list" #[] 0)).update s.heap.objs.size (Obj.mapSeq (· ++ vs.toArray))).objs.size = s.heap.objs.size + 1 := by
    rw [Heap.size_update, size_push']
  have hoL : (((s.heap.push (seqObj "list" #[] 0)).update s.heap.objs.size (Obj.mapSeq (· ++ vs.toArray))).push (seqObj "list" vs.toArray 0)).get? (s.heap.objs.size + 1) = some (seqObj "list" vs.toArray 0) := by
    rw [← hsz]; exact Heap.get?_push_size _ rfl
  show wpAny _ _ _ _ _ { s with heap := ((s.heap.push (seqObj "list" #[] 0)).update s.heap.objs.size (Obj.mapSeq (· ++ vs.toArray))).push (seqObj "list" vs.toArray 0) }
  rw [hsz]
  refine wpAny_bind (wpAny_holding (wpAny_call_entry slot_list_sort ⟨_, hoL, rfl⟩ entry_list_sort (list_sort_short hoL h2 ⟨_, rfl, ?_⟩) (args_list_sort _)))
  obtain ⟨e, he⟩ := sortedAll_at s.heap vs vs.toArray
  exact wpAny_pure ⟨_, rfl, h _ _ e (F.kept fun _ _ => sortedAll_old) (N.kept_cons F (fun _ _ => sortedAll_old) (Nat.le_succ _) he) fun q hq => Nat.lt_succ_of_lt (Heap.lt_size (N q hq).1)⟩
theorem pair_tups {b : Bool} (N : News h₀ L s.heap news) : ∀ {vs : List Value} {ws : List (List Nat)}, AllP (IsPair b news) vs ws → ∃ fs, KatTups s.heap vs fs ∧ fs.length = ws.length ∧ ∀ f ∈ fs, ∃ Dr us c, f = .ref Dr ∧ s.heap.get? Dr = some (listObj us c)
  | _, _, .nil => ⟨[], .nil, rfl, fun _ h => nomatch h⟩
  | _, _, .cons hp ht => by
    refine hideG ?_
    intro G9
    obtain ⟨fs, t, l, f⟩ := pair_tups N ht
    obtain ⟨tp, Dr, us, c, k, rfl, a1, a2, a3⟩ := hp
    k_unfold
    refine ⟨.ref Dr :: fs, .cons (N _ a1).1 rfl rfl rfl t, by simp [l], fun g hg => ?_⟩
    rcases List.mem_cons.mp hg with rfl | hg
    · exact ⟨Dr, _, _, rfl, (N _ a2).1⟩
    · exact f g hg
theorem sort_pairs {b : Bool} {l : Addr} {vs : List Value} {ws : List (List Nat)} {c : Nat} {Q : Value → Shared → Prop} (F : Fr h₀ L s.heap m) (N : News h₀ L s.heap news) (hm : (l, listObj vs.toArray c) ∈ news) (hp : AllP (IsPair b news) vs ws) (h64 : ws.length < 64) (hi : ∀ x ∈ ws, ∀ y ∈ ws, rk b x = rk b y → x = y) (hu : A.units + 2 < cLine)
    (h : ∀ D h' vs' ws' e, Fr h₀ L h' m → News h₀ L h' ((D, listObj vs'.toArray e) :: news) → (∀ q ∈ news, q.1 < D) → AllP (IsPair b news) vs' ws' → ws'.Perm ws → ws'.Pairwise (fun x y => ¬ rk b y < rk b x) → Q (.ref D) { s with heap := h' }) :
    wpAny (model prog w) A (call (.builtin "sorted") [.ref l]) Q E s := by
  have hl : vs.length = ws.length := hp.length
  by_cases h2 : vs.length < 2
  · refine sorted_short F N hm h2 fun D h' e F' N' hlt => h D h' vs ws e F' N' hlt hp (List.Perm.refl _) ?_
    match ws, (show ws.length < 2 by lia) with
    | [], _ => exact .nil
    | [x], _ => exact List.pairwise_singleton _ _
  · refine kat_sorted F N (N.isList hm) (by lia) (by lia) fun D e1 h' F' N' hlt => ?_
    have N1 : News h₀ L h' news := fun q hq => N' q (.tail _ hq)
    refine hideG ?_
    intro G9
    obtain ⟨fs, ht, hfl, hf⟩ := pair_tups (s := { s with heap := h' }) N1 hp
    k_unfold
    refine kat_kind (T := .type "list") ht (by lia) (fun v hv => ?_) (by decide) ?_
    · obtain ⟨Dr, us, c, rfl, ho⟩ := hf v hv
      exact (Looks.ld ho).andThen .now
    · have e : (Value.type "list" != Value.type "tuple") = true := by decide
      rw [e]
      refine KGood.wp (r := rOf (O := intsOrd) fun i => rk b (ws.getD i [])) (n := vs.length) (R := fun p => PB vs.length p ∧ SoT (O := intsOrd) (fun i => rk b (ws.getD i [])) p vs.length) (fun i j C hi' hj' hC => ?_) (fun p hR => ?_) (sort_good (by lia) fun q a b => ⟨a, b⟩)
      · obtain ⟨v, e1, p1⟩ := hp.get i _ (List.getElem?_eq_getElem (show i < ws.length by lia))
        obtain ⟨u, e2, p2⟩ := hp.get j _ (List.getElem?_eq_getElem (show j < ws.length by lia))
        have f1 : vs.getD i Value.none = v := by rw [List.getD_eq_getElem?_getD, e1]; rfl
        have f2 : vs.getD j Value.none = u := by rw [List.getD_eq_getElem?_getD, e2]; rfl
        have g1 : ws.getD i [] = ws[i]'(by lia) := by simp [show i < ws.length by lia]
        have g2 : ws.getD j [] = ws[j]'(by lia) := by simp [show j < ws.length by lia]
        unfold kas_ask
        rw [f1, f2]
        have hC' : C (decide (rk b (ws.getD i []) < rk b (ws.getD j []))) { s with heap := h' } := hC
        rw [g1, g2] at hC'
        exact pair_lt (s := { s with heap := h' }) N1 p1 p2 (hi _ (List.getElem_mem _) _ (List.getElem_mem _)) (by show A.units + 1 + 1 < cLine; lia) hC'
      · obtain ⟨hB, hS⟩ := hR
        have hmem : ∀ i ∈ p.toList, i < vs.length := fun i hi' => by
          have := (hB.mem_iff (a := i)).mp (by simpa using hi')
          simpa using this
        refine KasFin.intro F' N' (.head (by first | exact fun q hq => Nat.ne_of_lt (hlt q hq) | skip)) fun h3 c3 F3 N3 => ?_
        refine h D h3 _ (p.toList.map fun i => ws.getD i []) c3 F3 N3 hlt (hp.pick fun i hi' => by have := hmem i hi'; lia) ?_ ?_
        · have pm : p.toList.Perm (List.range vs.length) := by simpa using hB.toList
          have := pm.map fun i => ws.getD i []
          refine this.trans (List.Perm.of_eq ?_)
          rw [hl]
          apply List.ext_getElem (by simp)
          intro i h1 h2
          simp at h1
          simp [h1]
        · rw [List.pairwise_map]
          refine List.pairwise_iff_getElem.mpr fun i j h1 h2 hij => ?_
          have hz := hB.size
          have hj : j < vs.length := by rw [Array.length_toList] at h2; lia
          have q := hS i j (by lia) hj
          have e1 : p.getD i 0 = p.toList[i] := by
            have : i < p.size := by lia
            simp [Array.getD, this]
          have e2 : p.getD j 0 = p.toList[j] := by
            have : j < p.size := by lia
            simp [Array.getD, this]
          have q' : decide (rk b (ws.getD (p.getD j 0) []) < rk b (ws.getD (p.getD i 0) [])) = false := q
          rw [e1, e2] at q'
          exact of_decide_eq_false q'
end

end

section
section
variable {w : World} {p : Program} {loose : List Str} {mean : ExcName → Option Value} {mg mb : Str → Option Value} {news : List (Addr × Obj)}
theorem alone_spec {ra oa : Addr} {vr vo : List Value} {wr wo : List (List Nat)} {cr co : Nat} {b : Bool} (hr : Vals wr vr) (ho : Vals wo vo) (lr : wr.length < 60) (br : ∀ x ∈ wr, x.length ≤ 100 ∧ ∀ c ∈ x, c < 128) (hnd : wr.Nodup) (hinj : ∀ x ∈ wr, ∀ y ∈ wr, rk b x = rk b y → x = y) :
   Spec w p loose mean mg mb 20 100 789 [.ref ra, .ref oa, .bool b] ((ra, listObj vr.toArray cr) :: (oa, listObj vo.toArray co) :: news) (fun v news' => ∃ D vs ws c, v = .ref D ∧ news' = (D, listObj vs.toArray c) :: (ra, listObj vr.toArray cr) :: (oa, listObj vo.toArray co) :: news ∧ (∀ q ∈ (ra, listObj vr.toArray cr) :: (oa, listObj vo.toArray co) :: news, q.1 ≠ D) ∧ Vals ws vs ∧ AloneOk b wr wo ws) := by
  unfold Spec
  k_fill
  intro dp un gd cn cs a ccd cl outer A₀ base h₀ L m s Q E hB hF hX hN hT hcs hdp hun hret
  refine wpAny_call ?_
  k_dflt (refine' code_defC ?k1 ?k2 ?k3 ?k4 ?k5 ?kA ?kF ?kK ?k6 ?k7 ?k8 ?k9 ?kB ?kD ?_ ?c2 ?c3 ?c4; (case kA => exact rfl); (case kF => exact rfl); (case kK => first | assumption | exact rfl); (case k1 => k_asm); (case k2 => k_asm); (case k3 => k_asm); (case k4 => k_asm); (case k5 => k_asm); (case k6 => k_is); (case k7 => k_is); (case k8 => k_room); (case k9 => first | exact BindsTo.of_eq rfl | exact binds_K (by k_in) rfl (by k_is) rfl rfl rfl); (case kB => exact rfl); (case kD => decide +kernel); (case c2 => exact rfl); (case c3 => exact rfl); (case c4 => exact rfl); k_whole; intro g' L' h' tk' cells' FG' F' N' Y' B' X' T' l1; (try k_lt l1); k_cells Y'; (try simp only [List.cons_append, List.nil_append] at N'); (try dsimp only); (try k_fold))
  refine wpAny_noRaise ?_
  k_with_none
  k_with "my comp" => (k_dflt (refine compE (by with_unfolding_all rfl) (by rfl) (by decide) ?_))
  k_with "my sorted" => (refine hold ?_)
  k_steps
  rename_i oA oB dA dB
  (with_reducible rename News g' L' _ _ => kN)
  k_dflt (refine' xgo_list (g := g') (G := fun gg => gg = g') (J := fun i ys nw => ∃ exx, nw = exx ++ ((L' + 1 + 1, oA) :: (L' + 1, oB) :: (ra, listObj vr.toArray cr) :: (oa, listObj vo.toArray co) :: news) ∧ AllP (IsPair b exx) ys ((wr.take i).filter fun x => decide (x ∉ wo))) (c := cr) rfl rfl ?F1 kN ?m1 ?s1 (by decide) (by rfl) (by rfl) ⟨[], rfl, .nil⟩ ?R1 ?RR1)
  case F1 => k_asm
  case m1 => exact .tail _ (.tail _ (.head _))
  case s1 => show vr.toArray.size ≤ 16777216; rw [List.size_toArray, hr.length]; omega
  case R1 =>
    intro i ys nw hi hS hJ g v I oI C oC D m₂ h tk E' hG hP hC hm F N off ne
    refine hideG ?_
    intro G9
    obtain ⟨exx, rfl, hys⟩ := hJ
    k_unfold
    subst hG
    have hi2 : i < wr.length := by have : i < vr.toArray.size := hi; rw [List.size_toArray, hr.length] at this; exact this
    obtain ⟨x, hx⟩ : ∃ x, wr[i]? = some x := ⟨_, List.getElem?_eq_getElem hi2⟩
    obtain ⟨tx, hvx⟩ := hr.get i x hx
    have hv2 : v = .str (SL x) tx := by
      have e1 : vr.toArray[i]? = some v := hP
      have e2 : vr.toArray[i]? = some (.str (SL x) tx) := by simpa using hvx
      exact Option.some.inj (e1.symm.trans e2)
    subst hv2
    obtain ⟨bx1, bx2⟩ := br x (List.mem_of_getElem? hx)
    have N2 := news_front4 N
    have N3 := unhold N
    clear N
    have hany : (wo.map SL).any (· == SL x) = decide (x ∈ wo) := any_mem wo x
    refine wpAny_tests_one ?_
    refine wpAny_noRaise ?_
    by_cases hmem : x ∈ wo
    · rw [decide_eq_true hmem] at hany
      k_with_none
      k_with "my notins" => (refine hold ?_)
      k_steps
      refine unhold ?_
      k_dflt (refine notin_list_strs (N2.isList (.tail _ (.tail _ (.tail _ (.head _))))) ho.strs ?_)
      rw [hany]
      k_steps
      k_dflt (refine ⟨g, h, tk, _, rfl, rfl, ?F3, ?N3, off, hS, exx, rfl, ?A3⟩)
      case F3 => k_asm
      case N3 => exact hold N3
      case A3 =>
       rw [take_snoc hx, List.filter_append]
       have e : List.filter (fun x => decide (x ∉ wo)) [x] = [] := by simp [hmem]
       rw [e, List.append_nil]
       exact hys
    · rw [decide_eq_false hmem] at hany
      k_with_none
      k_with "my notins" => (refine hold ?_)
      k_with "my call" => (refine hold ?_)
      k_steps
      refine unhold ?_
      k_dflt (refine notin_list_strs (N2.isList (.tail _ (.tail _ (.tail _ (.head _))))) ho.strs ?_)
      rw [hany]
      k_steps
      refine unhold ?_
      k_dflt (refine' Spec.use (ranks_spec x _ _ bx1 bx2) ?r1 ?r2 ?r3 N2 ?r5 ?r6 ?r7 ?r8 ?_; (case r1 => k_asm); (case r2 => k_asm); (case r3 => k_asm); (case r5 => k_asm); (case r6 => exact rfl); (case r7 => k_room); (case r8 => k_units))
      intro v9 n9 h9 tk9 F9 N9 P9
      refine hideG ?_
      intro G9
      obtain ⟨D9, vs9, c9, rfl, rfl, i9, l9⟩ := P9
      k_unfold
      (try dsimp only); (try k_fold)
      k_steps
      (with_reducible rename News g L' _ ((_, _) :: (D9, _) :: _) => N8)
      (with_reducible rename (D9 < _) ∧ _ => l8)
      k_dflt (refine ⟨g, _, _, (_, { cls := .type "tuple", data := .seq #[.ref D9, .str (SL x) tx] }) :: (D9, listObj vs9.toArray c9) :: (exx ++ ((L' + 1 + 1, oA) :: (L' + 1, oB) :: (ra, listObj vr.toArray cr) :: (oa, listObj vo.toArray co) :: news)), rfl, rfl, ?F4, ?N4, off3_cons l8.2.2.2.2.2.1 l8.2.2.2.2.2.2.1 l8.2.2.2.2.2.2.2.1 (off3_cons (l9 _ (.tail _ (.tail _ (.tail _ (.tail _ (.head _)))))) (l9 _ (.tail _ (.tail _ (.tail _ (.tail _ (.tail _ (.head _))))))) (l9 _ (.tail _ (.tail _ (.tail _ (.tail _ (.tail _ (.tail _ (.head _)))))))) off), .tail _ (.tail _ hS), (_, { cls := .type "tuple", data := .seq #[.ref D9, .str (SL x) tx] }) :: (D9, listObj vs9.toArray c9) :: exx, rfl, ?A4⟩)
      case F4 => k_asm
      case N4 => exact news_rot9 N8
      case A4 =>
        rw [take_snoc hx, List.filter_append]
        have e : List.filter (fun x => decide (x ∉ wo)) [x] = [x] := by simp [hmem]
        rw [e]
        exact AllP.snoc (hys.imp fun v ws h => h.mono fun q hq => .tail _ (.tail _ hq)) ⟨_, D9, vs9, c9, tx, rfl, .head _, .tail _ (.head _), i9⟩
  case RR1 =>
    intro g3 D3 C3 h3 tk3 m3 zs3 nw3 hG3 F3 N3 o3 hn3 hC3 hD3 hCL3 hDL3 hCD3 offC3 hJ3
    refine hideG ?_
    intro G9
    obtain ⟨exx, rfl, hzs⟩ := hJ3
    k_unfold
    subst hG3
    have e3 : (wr.take vr.toArray.size) = wr := by rw [List.size_toArray, hr.length, List.take_length]
    rw [e3] at hzs
    have lf : (wr.filter fun x => decide (x ∉ wo)).length < 64 := Nat.lt_of_le_of_lt (List.length_filter_le _ _) (by omega)
    have mf : ∀ x, x ∈ (wr.filter fun x => decide (x ∉ wo)) → x ∈ wr := fun x hx => (List.mem_filter.mp hx).1
    k_dflt (refine finE1 F3 N3 hn3 hC3 hCL3 hCD3 offC3 ?_)
    intro h4 F4 N4
    k_with_none
    k_with "my sorted" => (refine hold ?_)
    k_with "my comp" => (k_dflt (refine compE (by with_unfolding_all rfl) (by rfl) (by decide) ?_))
    k_steps
    refine unhold ?_
    k_dflt (refine' sort_pairs (b := b) F4 N4 (c := zs3.length) (.head _) (hzs.imp fun v x h => h.mono fun q hq => .tail _ (List.mem_append_left _ hq)) lf (fun x hx y hy => hinj x (mf x hx) y (mf y hy)) ?u5 ?_)
    case u5 => k_units
    intro D5 h5 vs5 ws5 e5 F5 N5 l5 p5 pm5 s5
    k_steps
    (with_reducible rename News g3 L' _ _ => N6)
    have p6 : AllP (IsPair b ((D3, LCg.lst zs3) :: (exx ++ ((L' + 1 + 1, oA) :: (L' + 1, oB) :: (ra, listObj vr.toArray cr) :: (oa, listObj vo.toArray co) :: news)))) vs5 ws5 := p5
    k_dflt (refine' xgo_list (g := g3) (G := fun gg => gg = g3) (J := fun i ys nw => nw = (D5, listObj vs5.toArray e5) :: (D3, LCg.lst zs3) :: (exx ++ ((L' + 1 + 1, oA) :: (L' + 1, oB) :: (ra, listObj vr.toArray cr) :: (oa, listObj vo.toArray co) :: news)) ∧ Vals (ws5.take i) ys) (c := e5) rfl rfl ?F6 N6 ?m6 ?s6 (by decide) (by rfl) (by rfl) ⟨rfl, .nil⟩ ?R6 ?RR6)
    case F6 => k_asm
    case m6 => exact .head _
    case s6 => show vs5.toArray.size ≤ 16777216; rw [List.size_toArray, p5.length, pm5.length_eq]; omega
    case R6 =>
      intro i ys nw hi hS hJ g v I oI C oC D m₂ h tk E' hG hP hC hm F N off ne
      obtain ⟨rfl, hys⟩ := hJ
      subst hG
      have hi2 : i < ws5.length := by have : i < vs5.toArray.size := hi; rw [List.size_toArray, p5.length] at this; exact this
      refine hideG ?_
      intro G9
      obtain ⟨x, hx⟩ : ∃ x, ws5[i]? = some x := ⟨_, List.getElem?_eq_getElem hi2⟩
      obtain ⟨v', hvx, tp, Dr, us, c9, k9, rfl, a1, a2, a3⟩ := p6.get i x hx
      k_unfold
      have hv2 : v = .ref tp := by
        have e1 : vs5.toArray[i]? = some v := hP
        have e2 : vs5.toArray[i]? = some (.ref tp) := by simpa using hvx
        exact Option.some.inj (e1.symm.trans e2)
      subst hv2
      have N2 : News g L' h ((tp, ({ cls := .type "tuple", data := .seq #[.ref Dr, .str (SL x) k9] } : Obj)) :: (I, oI) :: (C, oC) :: (D, LCg.lst ys) :: ((D5, listObj vs5.toArray e5) :: (D3, LCg.lst zs3) :: (exx ++ ((L' + 1 + 1, oA) :: (L' + 1, oB) :: (ra, listObj vr.toArray cr) :: (oa, listObj vo.toArray co) :: news)))) := by
        intro q hq
        rcases List.mem_cons.mp hq with rfl | hq
        · exact N _ (.tail _ (.tail _ (.tail _ (.tail _ a1))))
        · exact N q hq
      have N3 := unhold N
      clear N
      refine wpAny_tests_nil ?_
      simp only [if_true]
      refine wpAny_noRaise ?_
      k_with_none
      k_steps
      k_dflt (refine ⟨g, _, _, _, rfl, rfl, ?F7, hold N3, off, hS, rfl, ?V7⟩)
      case F7 => k_asm
      case V7 =>
        rw [take_snoc hx]
        exact hys.append Vals.one
    case RR6 =>
      intro g4 D4 C4 h7 tk7 m7 zs4 nw4 hG4 F7 N7 o4 hn4 hC4 hD4 hCL4 hDL4 hCD4 offC4 hJ4
      obtain ⟨rfl, hz4⟩ := hJ4
      subst hG4
      have e4 : (ws5.take vs5.toArray.size) = ws5 := by rw [List.size_toArray, p5.length, List.take_length]
      rw [e4] at hz4
      k_dflt (refine finE1 F7 N7 hn4 hC4 hCL4 hCD4 offC4 ?_)
      intro h8 F8 N8
      have oD : ∀ q ∈ (ra, listObj vr.toArray cr) :: (oa, listObj vo.toArray co) :: news, q.1 ≠ D4 := fun q hq => off1_mem o4 q (.tail _ (.tail _ (List.mem_append_right _ (.tail _ (.tail _ hq)))))
      have N9 : News g4 L' h8 ((D4, listObj zs4.toArray zs4.length) :: (ra, listObj vr.toArray cr) :: (oa, listObj vo.toArray co) :: news) := by
        intro q hq
        refine N8 q ?_
        rcases List.mem_cons.mp hq with rfl | hq
        · exact .head _
        · exact .tail _ (.tail _ (.tail _ (List.mem_append_right _ (.tail _ (.tail _ hq)))))
      clear N8 N7 N6
      k_with_none
      k_steps
      have hA : AloneOk b wr wo ws5 := by
        refine ⟨pm5, ?_⟩
        have nd : ws5.Nodup := pm5.nodup_iff.mpr (hnd.filter _)
        refine ((List.pairwise_and_iff.mpr ⟨s5, show ws5.Pairwise (· ≠ ·) from nd⟩).imp_of_mem ?_)
        intro x y hx hy ⟨q1, q2⟩
        have m1 := mf x (pm5.mem_iff.mp hx)
        have m2 := mf y (pm5.mem_iff.mp hy)
        exact Std.lt_of_le_of_ne (List.not_lt.mp q1) fun e => q2 (hinj x m1 y m2 e)
      refine' hret _ _ _ _ ?e1' ?e2' ?e3'
      case e1' => k_asm
      case e2' => k_asm
      case e3' => exact ⟨D4, zs4, ws5, _, rfl, rfl, oD, hz4, hA⟩
end

end

section
/-! the plain law: order -/
def signOk (c : Nat) : Prop := c = 32 ∨ c = 34 ∨ c = 37 ∨ c = 39 ∨ c = 65 ∨ c = 92 ∨ c = 97
def wordOk (x : List Nat) : Prop := ∀ c ∈ x, signOk c
def sltb : List Nat → List Nat → Bool
  | a :: u, b :: v => if a < b then true else if a = b then sltb u v else false
  | _, _ => false
theorem sltb_lt : ∀ {u v : List Nat}, sltb u v = true → ∀ X Y, u ++ X < v ++ Y
  | [], _, h, _, _ => by simp [sltb] at h
  | _ :: _, [], h, _, _ => by simp [sltb] at h
  | a :: u, b :: v, h, X, Y => by
    unfold sltb at h
    by_cases h1 : a < b
    · exact List.cons_lt_cons_iff.mpr (.inl h1)
    · rw [if_neg h1] at h
      by_cases h2 : a = b
      · rw [if_pos h2] at h
        exact List.cons_lt_cons_iff.mpr (.inr ⟨h2, sltb_lt h X Y⟩)
      · rw [if_neg h2] at h; cases h
theorem app_lt (p : List Nat) {u v : List Nat} (h : u < v) : p ++ u < p ++ v := by
  induction p with
  | nil => exact h
  | cons a p ih => exact List.cons_lt_cons_iff.mpr (.inr ⟨rfl, ih⟩)
/-- a code of ranks keeps the order -/
theorem flat_lt {enc : Int → List Nat} {S : List Int} (hS : ∀ r ∈ S, ∀ s ∈ S, r < s → sltb (enc r) (enc s) = true) (hn : ∀ r ∈ S, enc r ≠ []) :
    ∀ {xs ys : List Int}, (∀ r ∈ xs, r ∈ S) → (∀ r ∈ ys, r ∈ S) → xs < ys → xs.flatMap enc < ys.flatMap enc
  | _, [], _, _, h => absurd h (by simp)
  | [], s :: ys, _, h2, _ => by
    rw [List.flatMap_cons, List.flatMap_nil]
    have := hn s (h2 s List.mem_cons_self)
    cases e : enc s with
    | nil => exact absurd e this
    | cons a r => exact List.nil_lt_cons _ _
  | r :: xs, s :: ys, h1, h2, h => by
    rw [List.flatMap_cons, List.flatMap_cons]
    rcases List.cons_lt_cons_iff.mp h with h3 | ⟨h3, h4⟩
    · exact sltb_lt (hS r (h1 r List.mem_cons_self) s (h2 s List.mem_cons_self) h3) _ _
    · rw [← h3]
      exact app_lt _ (flat_lt hS hn (fun q hq => h1 q (List.mem_cons_of_mem _ hq)) (fun q hq => h2 q (List.mem_cons_of_mem _ hq)) h4)
def encS (r : Int) : List Nat := if r = 64 then [32] else if r = 183 then [92, 34] else if r = 74 then [37] else if r = 78 then [39, 34, 39, 34, 39] else if r = 130 then [65] else if r = 184 then [92, 92] else if r = 194 then [97] else [34, 39]
def encH (r : Int) : List Nat := if r = 64 then [32] else if r = 183 then [92, 34] else if r = 74 then [37] else if r = 78 then [39, 92, 34, 39, 92, 34, 39] else if r = 130 then [65] else if r = 184 then [92, 92] else if r = 194 then [97] else [39, 34]
def encP (r : Int) : List Nat := if r = 74 then [37] else if r = 130 then [65] else if r = 194 then [97] else [34]
def ranksS : List Int := [64, 183, 74, 78, 130, 184, 194, 68]
def ranksH : List Int := [64, 183, 74, 78, 130, 184, 194, 77]
def ranksP : List Int := [74, 130, 194, 68]
theorem encS_ok : ∀ r ∈ ranksS, ∀ s ∈ ranksS, r < s → sltb (encS r) (encS s) = true := by decide +kernel
theorem encH_ok : ∀ r ∈ ranksH, ∀ s ∈ ranksH, r < s → sltb (encH r) (encH s) = true := by decide +kernel
theorem encP_ok : ∀ r ∈ ranksP, ∀ s ∈ ranksP, r < s → sltb (encP r) (encP s) = true := by decide +kernel
theorem encS_ne : ∀ r ∈ ranksS, encS r ≠ [] := by decide +kernel
theorem encH_ne : ∀ r ∈ ranksH, encH r ≠ [] := by decide +kernel
theorem encP_ne : ∀ r ∈ ranksP, encP r ≠ [] := by decide +kernel
theorem rkS_mem (c : Nat) (h : signOk c) : rkS c ∈ ranksS ∧ rkS c ∈ ranksH := by
  rcases h with rfl | rfl | rfl | rfl | rfl | rfl | rfl <;> decide
theorem escL_cons (c : Nat) (x : List Nat) : escL (c :: x) = escL [c] ++ escL x := by
  have e : c :: x = [c] ++ x := rfl
  unfold escL
  rw [e, subst_append, subst_append]
theorem sub_encS (c : Nat) (h : signOk c) : subst 39 [39, 34, 39, 34, 39] (escL [c]) = encS (rkS c) := by
  rcases h with rfl | rfl | rfl | rfl | rfl | rfl | rfl <;> decide
theorem sub_encH (c : Nat) (h : signOk c) : escL (subst 39 [39, 34, 39, 34, 39] [c]) = encH (rkS c) := by
  rcases h with rfl | rfl | rfl | rfl | rfl | rfl | rfl <;> decide
theorem sub_encP (c : Nat) (h : safeC c = true) : escL [c] = encP (rkS c) ∧ rkS c ∈ ranksP := by
  unfold safeC at h
  have h' : c = 37 ∨ c = 65 ∨ c = 97 := by simpa [or_assoc] using h
  rcases h' with rfl | rfl | rfl <;> decide
theorem flat_S : ∀ {x : List Nat}, wordOk x → subst 39 [39, 34, 39, 34, 39] (escL x) = (x.map rkS).flatMap encS
  | [], _ => rfl
  | c :: x, h => by
    rw [escL_cons, subst_append, sub_encS c (h c List.mem_cons_self), flat_S fun d hd => h d (List.mem_cons_of_mem _ hd)]
    rfl
theorem escL_append (a b : List Nat) : escL (a ++ b) = escL a ++ escL b := by unfold escL; rw [subst_append, subst_append]
theorem flat_H : ∀ {x : List Nat}, wordOk x → escL (subst 39 [39, 34, 39, 34, 39] x) = (x.map rkS).flatMap encH
  | [], _ => rfl
  | c :: x, h => by
    have e : c :: x = [c] ++ x := rfl
    rw [e, subst_append, escL_append, sub_encH c (h c List.mem_cons_self), flat_H fun d hd => h d (List.mem_cons_of_mem _ hd)]
    rfl
theorem flat_P : ∀ {x : List Nat}, (∀ c ∈ x, safeC c = true) → escL x = (x.map rkS).flatMap encP ∧ ∀ r ∈ x.map rkS, r ∈ ranksP
  | [], _ => ⟨rfl, fun _ h => nomatch h⟩
  | c :: x, h => by
    obtain ⟨e1, e2⟩ := flat_P fun d hd => h d (List.mem_cons_of_mem _ hd)
    obtain ⟨f1, f2⟩ := sub_encP c (h c List.mem_cons_self)
    rw [escL_cons, f1, e1]
    refine ⟨rfl, fun r hr => ?_⟩
    rcases List.mem_cons.mp (show r ∈ rkS c :: x.map rkS from hr) with rfl | hr
    · exact f2
    · exact e2 r hr
theorem shellT_nil : shellT [] = [107] := by decide
theorem shellT_cons {x : List Nat} (hx : x ≠ []) (h : wordOk x) : shellT x = [39, 107, 61, 34] ++ (x.map rkS ++ [68]).flatMap encS := by
  have e : fparam x = [107, 61, 34] ++ escL x ++ [34] := by unfold fparam; rw [if_neg hx]
  unfold shellT quoteL
  rw [e]
  have hne : ¬ ([107, 61, 34] ++ escL x ++ [34] = []) := by simp
  have hall : ¬ ([107, 61, 34] ++ escL x ++ [34]).all okB = true := by
    intro q
    have := List.all_eq_true.mp q 34 (by simp)
    exact absurd this (by decide)
  rw [if_neg hne, if_neg hall, subst_append, subst_append, flat_S h, List.flatMap_append]
  have e1 : subst 39 [39, 34, 39, 34, 39] [107, 61, 34] = [107, 61, 34] := by decide
  have e2 : subst 39 [39, 34, 39, 34, 39] [34] = [34] := by decide
  have e3 : [(68 : Int)].flatMap encS = [34, 39] := by decide
  rw [e1, e2, e3]
  simp
/-- a word that needs no marks -/
def bare (x : List Nat) : Prop := x ≠ [] ∧ x.filter (fun c => !safeC c) = []
theorem bare_all {x : List Nat} (h : bare x) : ∀ c ∈ x, safeC c = true := by
  intro c hc
  have := List.filter_eq_nil_iff.mp h.2 c hc
  simpa using this
theorem all_okB {x : List Nat} (h : wordOk x) (hx : x ≠ []) : x.all okB = true ↔ bare x := by
  have key : ∀ c, signOk c → okB c = safeC c := by
    intro c hc
    rcases hc with rfl | rfl | rfl | rfl | rfl | rfl | rfl <;> decide
  constructor
  · intro q
    refine ⟨hx, List.filter_eq_nil_iff.mpr fun c hc => ?_⟩
    have := List.all_eq_true.mp q c hc
    rw [key c (h c hc)] at this
    simp [this]
  · intro q
    refine List.all_eq_true.mpr fun c hc => ?_
    rw [key c (h c hc)]
    exact bare_all q c hc
theorem quoteL_bare {x : List Nat} (h : wordOk x) (b : bare x) : quoteL x = x := by
  unfold quoteL
  rw [if_neg b.1, if_pos ((all_okB h b.1).mpr b)]
theorem quoteL_not {x : List Nat} (h : wordOk x) (b : ¬ bare x) : quoteL x = [39] ++ subst 39 [39, 34, 39, 34, 39] x ++ [39] := by
  unfold quoteL
  by_cases hx : x = []
  · subst hx; decide
  · rw [if_neg hx, if_neg fun q => b ((all_okB h hx).mp q)]
theorem quoteL_ne {x : List Nat} (h : wordOk x) : quoteL x ≠ [] := by
  by_cases b : bare x
  · rw [quoteL_bare h b]; exact b.1
  · rw [quoteL_not h b]; simp
theorem headT_eq {x : List Nat} (h : wordOk x) : headT x = [107, 61, 34] ++ escL (quoteL x) ++ [34] := by
  unfold headT fparam
  rw [if_neg (quoteL_ne h)]
theorem headT_bare {x : List Nat} (h : wordOk x) (b : bare x) : headT x = [107, 61, 34] ++ (x.map rkS ++ [68]).flatMap encP := by
  rw [headT_eq h, quoteL_bare h b, (flat_P (bare_all b)).1, List.flatMap_append]
  have e3 : [(68 : Int)].flatMap encP = [34] := by decide
  rw [e3]; simp
theorem headT_not {x : List Nat} (h : wordOk x) (b : ¬ bare x) : headT x = [107, 61, 34, 39] ++ (x.map rkS ++ [77]).flatMap encH := by
  rw [headT_eq h, quoteL_not h b, escL_append, escL_append, flat_H h, List.flatMap_append]
  have e1 : escL [39] = [39] := by decide
  have e3 : [(77 : Int)].flatMap encH = [39, 34] := by decide
  rw [e1, e3]; simp
theorem rk_true_nil : rk true [] = [999] := by decide
theorem rk_true {x : List Nat} (h : x ≠ []) : rk true x = x.map rkS ++ [68] := by unfold rk; rw [if_pos rfl, if_neg h]
theorem rk_bare {x : List Nat} (b : bare x) : rk false x = x.map rkS ++ [68] := by
  unfold rk; rw [if_neg (by decide), if_pos (show x ≠ [] ∧ _ from b)]
theorem rk_not {x : List Nat} (b : ¬ bare x) : rk false x = [78] ++ x.map rkS ++ [77] := by
  unfold rk; rw [if_neg (by decide), if_neg (show ¬ (x ≠ [] ∧ _) from b)]
theorem mem_S {x : List Nat} (h : wordOk x) : ∀ r ∈ x.map rkS ++ [68], r ∈ ranksS := by
  intro r hr
  rcases List.mem_append.mp hr with hr | hr
  · obtain ⟨c, hc, rfl⟩ := List.mem_map.mp hr
    exact (rkS_mem c (h c hc)).1
  · rw [List.mem_singleton.mp hr]; decide
theorem mem_H {x : List Nat} (h : wordOk x) : ∀ r ∈ x.map rkS ++ [77], r ∈ ranksH := by
  intro r hr
  rcases List.mem_append.mp hr with hr | hr
  · obtain ⟨c, hc, rfl⟩ := List.mem_map.mp hr
    exact (rkS_mem c (h c hc)).2
  · rw [List.mem_singleton.mp hr]; decide
theorem mem_P {x : List Nat} (b : bare x) : ∀ r ∈ x.map rkS ++ [68], r ∈ ranksP := by
  intro r hr
  rcases List.mem_append.mp hr with hr | hr
  · exact (flat_P (bare_all b)).2 r hr
  · rw [List.mem_singleton.mp hr]; decide
theorem head_S {x : List Nat} (h : wordOk x) (hx : x ≠ []) : ∃ c r, x = c :: r ∧ rkS c ∈ ranksS := by
  cases x with
  | nil => exact absurd rfl hx
  | cons c r => exact ⟨c, r, rfl, (rkS_mem c (h c List.mem_cons_self)).1⟩
theorem shell_lt {x y : List Nat} (hx : wordOk x) (hy : wordOk y) (h : rk true x < rk true y) : shellT x < shellT y := by
  by_cases ex : x = []
  · subst ex
    by_cases ey : y = []
    · subst ey; exact absurd h (List.lt_irrefl _)
    · rw [rk_true_nil, rk_true ey] at h
      obtain ⟨c, r, rfl, hc⟩ := head_S hy ey
      rcases List.cons_lt_cons_iff.mp h with h | ⟨h, _⟩
      · have : ∀ s ∈ ranksS, ¬ (999 : Int) < s := by decide
        exact absurd h (this _ hc)
      · have : ∀ s ∈ ranksS, (999 : Int) ≠ s := by decide
        exact absurd h (this _ hc)
  · by_cases ey : y = []
    · subst ey
      rw [shellT_cons ex hx, shellT_nil]
      exact List.cons_lt_cons_iff.mpr (.inl (by decide))
    · rw [shellT_cons ex hx, shellT_cons ey hy]
      rw [rk_true ex, rk_true ey] at h
      exact app_lt _ (flat_lt encS_ok encS_ne (mem_S hx) (mem_S hy) h)
theorem bare_head {x : List Nat} (b : bare x) : ∃ c r, x = c :: r ∧ (c = 37 ∨ c = 65 ∨ c = 97) := by
  cases x with
  | nil => exact absurd rfl b.1
  | cons c r =>
    refine ⟨c, r, rfl, ?_⟩
    have := bare_all b c List.mem_cons_self
    unfold safeC at this
    simpa [or_assoc] using this
theorem head_lt {x y : List Nat} (hx : wordOk x) (hy : wordOk y) (h : rk false x < rk false y) : headT x < headT y := by
  by_cases bx : bare x
  · by_cases bY : bare y
    · rw [headT_bare hx bx, headT_bare hy bY]
      rw [rk_bare bx, rk_bare bY] at h
      exact app_lt _ (flat_lt encP_ok encP_ne (mem_P bx) (mem_P bY) h)
    · rw [headT_bare hx bx, headT_not hy bY]
      rw [rk_bare bx, rk_not bY] at h
      obtain ⟨c, r, rfl, hc⟩ := bare_head bx
      have h' : rkS c :: (r.map rkS ++ [68]) < 78 :: (y.map rkS ++ [77]) := by simpa using h
      rcases hc with rfl | rfl | rfl
      · refine app_lt [107, 61, 34] (v := 39 :: _) ?_
        exact List.cons_lt_cons_iff.mpr (.inl (by decide))
      · exact absurd h' (by rw [List.cons_lt_cons_iff]; simp [rkS])
      · exact absurd h' (by rw [List.cons_lt_cons_iff]; simp [rkS])
  · by_cases bY : bare y
    · rw [headT_not hx bx, headT_bare hy bY]
      rw [rk_not bx, rk_bare bY] at h
      obtain ⟨c, r, rfl, hc⟩ := bare_head bY
      have h' : (78 : Int) :: (x.map rkS ++ [77]) < rkS c :: (r.map rkS ++ [68]) := by simpa using h
      rcases hc with rfl | rfl | rfl
      · exact absurd h' (by rw [List.cons_lt_cons_iff]; simp [rkS])
      · exact app_lt [107, 61, 34] (u := 39 :: _) (List.cons_lt_cons_iff.mpr (.inl (by decide)))
      · exact app_lt [107, 61, 34] (u := 39 :: _) (List.cons_lt_cons_iff.mpr (.inl (by decide)))
    · rw [headT_not hx bx, headT_not hy bY]
      rw [rk_not bx, rk_not bY] at h
      have h' : x.map rkS ++ [77] < y.map rkS ++ [77] := by
        rcases List.cons_lt_cons_iff.mp (show (78 : Int) :: (x.map rkS ++ [77]) < 78 :: (y.map rkS ++ [77]) by simpa using h) with h | ⟨_, h⟩
        · exact absurd h (by decide)
        · exact h
      exact app_lt _ (flat_lt encH_ok encH_ne (mem_H hx) (mem_H hy) h')
theorem rkS_inj {c d : Nat} (hc : signOk c) (hd : signOk d) (h : rkS c = rkS d) : c = d := by
  rcases hc with rfl | rfl | rfl | rfl | rfl | rfl | rfl <;> rcases hd with rfl | rfl | rfl | rfl | rfl | rfl | rfl <;> first | rfl | exact absurd h (by decide)
theorem map_rkS_inj : ∀ {x y : List Nat}, wordOk x → wordOk y → x.map rkS = y.map rkS → x = y
  | [], [], _, _, _ => rfl
  | [], _ :: _, _, _, h => by simp at h
  | _ :: _, [], _, _, h => by simp at h
  | c :: x, d :: y, hx, hy, h => by
    simp only [List.map_cons, List.cons.injEq] at h
    rw [rkS_inj (hx c List.mem_cons_self) (hy d List.mem_cons_self) h.1, map_rkS_inj (fun q hq => hx q (List.mem_cons_of_mem _ hq)) (fun q hq => hy q (List.mem_cons_of_mem _ hq)) h.2]
theorem rk_inj (b : Bool) {x y : List Nat} (hx : wordOk x) (hy : wordOk y) (h : rk b x = rk b y) : x = y := by
  have ap : ∀ {k : Int}, x.map rkS ++ [k] = y.map rkS ++ [k] → x = y := fun e => map_rkS_inj hx hy (List.append_cancel_right e)
  cases b with
  | true =>
    have ne : ∀ {z : List Nat}, wordOk z → z ≠ [] → rk true z ≠ [999] := by
      intro z hz ez e
      rw [rk_true ez] at e
      obtain ⟨c, r, rfl, hc⟩ := head_S hz ez
      simp at e
    by_cases ex : x = []
    · by_cases ey : y = []
      · rw [ex, ey]
      · rw [ex, rk_true_nil] at h; exact absurd h.symm (ne hy ey)
    · by_cases ey : y = []
      · rw [ey, rk_true_nil] at h; exact absurd h (ne hx ex)
      · rw [rk_true ex, rk_true ey] at h; exact ap h
  | false =>
    have ne : ∀ {u v : List Nat}, bare u → ¬ bare v → rk false u ≠ rk false v := by
      intro u v bu bv e
      rw [rk_bare bu, rk_not bv] at e
      obtain ⟨c, r, rfl, hc⟩ := bare_head bu
      have e' : rkS c = 78 := by
        have := (List.cons.inj (show rkS c :: (r.map rkS ++ [68]) = 78 :: (v.map rkS ++ [77]) by simpa using e)).1
        exact this
      rcases hc with rfl | rfl | rfl <;> exact absurd e' (by decide)
    by_cases bx : bare x
    · by_cases bY : bare y
      · rw [rk_bare bx, rk_bare bY] at h; exact ap h
      · exact absurd h (ne bx bY)
    · by_cases bY : bare y
      · exact absurd h.symm (ne bY bx)
      · rw [rk_not bx, rk_not bY] at h
        exact ap (k := 77) (by simpa using h)
/-- the two writings by one name -/
def wT (b : Bool) (x : List Nat) : List Nat := if b then shellT x else headT x
theorem wT_lt (b : Bool) {x y : List Nat} (hx : wordOk x) (hy : wordOk y) (h : rk b x < rk b y) : wT b x < wT b y := by
  cases b with
  | true => exact shell_lt hx hy h
  | false => exact head_lt hx hy h
theorem int_list_tri (u v : List Int) : u < v ∨ u = v ∨ v < u := by
  by_cases h1 : u < v
  · exact .inl h1
  · by_cases h2 : v < u
    · exact .inr (.inr h2)
    · exact .inr (.inl (List.le_antisymm (List.not_lt.mp h2) (List.not_lt.mp h1)))
theorem wT_inj (b : Bool) {x y : List Nat} (hx : wordOk x) (hy : wordOk y) (h : wT b x = wT b y) : x = y := by
  rcases int_list_tri (rk b x) (rk b y) with q | q | q
  · have := wT_lt b hx hy q; rw [h] at this; exact absurd this (List.lt_irrefl _)
  · exact rk_inj b hx hy q
  · have := wT_lt b hy hx q; rw [h] at this; exact absurd this (List.lt_irrefl _)
/-! the difference of two sorted lists -/
theorem sdL_diff : ∀ (n : Nat) (xs ys : List (List Nat)), xs.length + ys.length ≤ n → xs.Pairwise (· < ·) → ys.Pairwise (· < ·) → sdL xs ys = (xs.filter (fun x => decide (x ∉ ys)), ys.filter (fun y => decide (y ∉ xs)))
  | _, [], ys, _, _, _ => by rw [sdL_nil]; refine Prod.ext rfl ?_; dsimp only; exact (List.filter_eq_self.mpr fun z _ => by simp).symm
  | _, x :: xs, [], _, _, _ => by rw [sdL_nil2]; refine Prod.ext ?_ rfl; dsimp only; exact (List.filter_eq_self.mpr fun z _ => by simp).symm
  | 0, _ :: _, _ :: _, h, _, _ => by simp at h
  | n + 1, x :: xs, y :: ys, hn, hx, hy => by
    simp only [List.length_cons] at hn
    obtain ⟨hx1, hx2⟩ := List.pairwise_cons.mp hx
    obtain ⟨hy1, hy2⟩ := List.pairwise_cons.mp hy
    by_cases h1 : x < y
    · have nm : x ∉ y :: ys := by
        intro hm
        rcases List.mem_cons.mp hm with rfl | hm
        · exact List.lt_irrefl _ h1
        · exact List.lt_irrefl _ (List.lt_trans h1 (hy1 x hm))
      have ih := sdL_diff n xs (y :: ys) (by simp only [List.length_cons]; omega) hx2 hy
      rw [sdL_lt h1, ih]
      refine Prod.ext ?_ ?_
      · exact (List.filter_cons_of_pos (l := xs) (a := x) (p := fun z => decide (z ∉ y :: ys)) (decide_eq_true nm)).symm
      · dsimp only
        refine List.filter_congr fun z hz => ?_
        have : z ≠ x := fun e => nm (e ▸ hz)
        simp [this]
    · by_cases h2 : y < x
      · have nm : y ∉ x :: xs := by
          intro hm
          rcases List.mem_cons.mp hm with rfl | hm
          · exact List.lt_irrefl _ h2
          · exact List.lt_irrefl _ (List.lt_trans h2 (hx1 y hm))
        have ih := sdL_diff n (x :: xs) ys (by simp only [List.length_cons]; omega) hx hy2
        rw [sdL_gt h1 h2, ih]
        refine Prod.ext ?_ ?_
        · dsimp only
          refine List.filter_congr fun z hz => ?_
          have : z ≠ y := fun e => nm (e ▸ hz)
          simp [this]
        · exact (List.filter_cons_of_pos (l := ys) (a := y) (p := fun z => decide (z ∉ x :: xs)) (decide_eq_true nm)).symm
      · have e : x = y := List.le_antisymm (List.not_lt.mp h2) (List.not_lt.mp h1)
        subst e
        have ih := sdL_diff n xs ys (by omega) hx2 hy2
        rw [sdL_eq h1 h2, ih]
        refine Prod.ext ?_ ?_
        · refine Eq.trans ?_ (List.filter_cons_of_neg (l := xs) (a := x) (p := fun z => decide (z ∉ x :: ys)) (by simp)).symm
          refine List.filter_congr fun z hz => ?_
          have : z ≠ x := fun e => List.lt_irrefl _ (e ▸ hx1 z hz)
          simp [this]
        · refine Eq.trans ?_ (List.filter_cons_of_neg (l := ys) (a := x) (p := fun z => decide (z ∉ x :: xs)) (by simp)).symm
          refine List.filter_congr fun z hz => ?_
          have : z ≠ x := fun e => List.lt_irrefl _ (e ▸ hy1 z hz)
          simp [this]
/-- what is left of the writings of w, once those of o are struck out -/
theorem diff_side (b : Bool) {w o ws ts us : List (List Nat)} (hw : ∀ x ∈ w, wordOk x) (ho : ∀ x ∈ o, wordOk x) (hp : ws.Perm (w.filter fun x => decide (x ∉ o))) (hs : ws.Pairwise fun x y => rk b x < rk b y)
    (ht : ts.Perm (w.map (wT b))) (hu : us.Perm (o.map (wT b))) (st : ts.Pairwise (· < ·)) : ts.filter (fun x => decide (x ∉ us)) = ws.map (wT b) := by
  have hws : ∀ x ∈ ws, wordOk x := fun x hx => hw x ((List.mem_filter.mp (hp.mem_iff.mp hx)).1)
  have s1 : (ts.filter (fun x => decide (x ∉ us))).Pairwise (· < ·) := st.filter _
  have s2 : (ws.map (wT b)).Pairwise (· < ·) := by
    rw [List.pairwise_map]
    exact hs.imp_of_mem fun hx hy h => wT_lt b (hws _ hx) (hws _ hy) h
  have pm : (ts.filter (fun x => decide (x ∉ us))).Perm (ws.map (wT b)) := by
    refine (ht.filter _).trans ?_
    rw [List.filter_map]
    refine List.Perm.map _ (List.Perm.trans ?_ hp.symm)
    refine List.Perm.of_eq (List.filter_congr fun x hx => ?_)
    show decide (wT b x ∉ us) = decide (x ∉ o)
    refine decide_eq_decide.mpr (not_congr ?_)
    rw [hu.mem_iff, List.mem_map]
    constructor
    · rintro ⟨y, hy, e⟩
      rw [← wT_inj b (ho y hy) (hw x hx) e]; exact hy
    · exact fun h => ⟨x, h, rfl⟩
  exact pm.eq_of_pairwise (fun a c _ _ h1 h2 => absurd (List.lt_trans h1 h2) (List.lt_irrefl _)) s1 s2

end

section
/-! the plain law: what split reads -/
theorem rt_sq {e : St} {R : List Nat} {o1 : St} {o2 : Bool} {o3 o4 : List Nat} : ∀ {v : List Nat} {tok : List Nat} {q : Bool}, (∀ c ∈ v, okS c ∨ badS c) → RT .a true e (tok ++ v) R o1 o2 o3 o4 → RT .sq q e tok (subst 39 [39, 34, 39, 34, 39] v ++ 39 :: R) o1 o2 o3 o4
  | [], tok, q, _, h => by
    rw [List.append_nil] at h
    exact .sq_sq h
  | c :: v, tok, q, hv, h => by
    have h' : RT .a true e ((tok ++ [c]) ++ v) R o1 o2 o3 o4 := by simpa using h
    have ih := fun q => rt_sq (q := q) (fun d hd => hv d (List.mem_cons_of_mem _ hd)) h'
    have e0 : subst 39 [39, 34, 39, 34, 39] (c :: v) = (if c = 39 then [39, 34, 39, 34, 39] else [c]) ++ subst 39 [39, 34, 39, 34, 39] v := rfl
    rw [e0]
    rcases hv c List.mem_cons_self with hc | hc
    · rcases hc with rfl | rfl | rfl | rfl | rfl <;> exact .sq_other (by unfold inSq; decide) (ih true)
    · rcases hc with rfl | rfl | rfl | rfl
      · exact .sq_other (by unfold inSq; decide) (ih true)
      · exact .sq_other (by unfold inSq; decide) (ih true)
      · exact .sq_sq (.a_dq (.dq_other (by unfold inDq; decide) (.dq_dq (.a_sq (ih true)))))
      · exact .sq_bs (ih true)
theorem rt_dq {R : List Nat} {o1 : St} {o2 : Bool} {o3 o4 : List Nat} : ∀ {v : List Nat} {tok : List Nat} {q : Bool} {e : St}, (∀ c ∈ v, okS c ∨ badS c) → (∀ e', RT .a true e' (tok ++ v) R o1 o2 o3 o4) → RT .dq q e tok (escL v ++ 34 :: R) o1 o2 o3 o4
  | [], tok, q, e, _, h => by
    have h := h e
    rw [List.append_nil] at h
    exact .dq_dq h
  | c :: v, tok, q, e, hv, h => by
    have h' : ∀ e', RT .a true e' ((tok ++ [c]) ++ v) R o1 o2 o3 o4 := fun e' => by simpa using h e'
    have ih := fun q e => rt_dq (q := q) (e := e) (fun d hd => hv d (List.mem_cons_of_mem _ hd)) h'
    rw [escL_cons]
    rcases hv c List.mem_cons_self with hc | hc
    · rcases hc with rfl | rfl | rfl | rfl | rfl <;> exact .dq_other (by unfold inDq; decide) (ih true e)
    · rcases hc with rfl | rfl | rfl | rfl
      · exact .dq_other (by unfold inDq; decide) (ih true e)
      · exact .dq_bs (.bs_dq (ih true .dq))
      · exact .dq_other (by unfold inDq; decide) (ih true e)
      · exact .dq_bs (.bs_bs (ih true .dq))
/-- what is left behind a token: nothing, or a blank and a rest -/
def RestTo : List Nat → St → List Nat → Prop
  | [], o1, o4 => o1 = .no ∧ o4 = []
  | c :: r, o1, o4 => c = 32 ∧ o1 = .sp ∧ o4 = r
theorem rt_end {R : List Nat} {o1 : St} {o4 : List Nat} (h : RestTo R o1 o4) {q : Bool} {e : St} {tok : List Nat} (ht : tok ≠ []) : RT .a q e tok R o1 q tok o4 := by
  cases R with
  | nil => obtain ⟨rfl, rfl⟩ := h; exact .a_eof
  | cons c r => obtain ⟨rfl, rfl, rfl⟩ := h; exact .a_sp ht
theorem ok_word {x : List Nat} (h : wordOk x) : ∀ c ∈ x, okS c ∨ badS c := by
  intro c hc
  rcases h c hc with rfl | rfl | rfl | rfl | rfl | rfl | rfl <;> (unfold okS badS; decide)
theorem escL_ok {x : List Nat} (h : ∀ c ∈ x, okS c ∨ badS c) : ∀ c ∈ escL x, okS c ∨ badS c := by
  induction x with
  | nil => intro c hc; cases hc
  | cons d x ih =>
    intro c hc
    rw [escL_cons] at hc
    rcases List.mem_append.mp hc with hc | hc
    · have h1 : ∀ d, okS d ∨ badS d → ∀ c ∈ escL [d], okS c ∨ badS c := by
        intro d hd
        rcases hd with hd | hd
        · rcases hd with rfl | rfl | rfl | rfl | rfl <;> (unfold okS badS; decide)
        · rcases hd with rfl | rfl | rfl | rfl <;> (unfold okS badS; decide)
      exact h1 d (h d List.mem_cons_self) c hc
    · exact ih (fun d hd => h d (List.mem_cons_of_mem _ hd)) c hc
theorem fparam_ok {x : List Nat} (h : ∀ c ∈ x, okS c ∨ badS c) : ∀ c ∈ fparam x, okS c ∨ badS c := by
  unfold fparam
  intro c hc
  split at hc
  · rw [List.mem_singleton.mp hc]; unfold okS badS; decide
  · rcases List.mem_append.mp hc with hc | hc
    · rcases List.mem_append.mp hc with hc | hc
      · have : ∀ c ∈ [107, 61, 34], okS c ∨ badS c := by unfold okS badS; decide
        exact this c hc
      · exact escL_ok h c hc
    · rw [List.mem_singleton.mp hc]; unfold okS badS; decide
theorem fparam_ne (x : List Nat) : fparam x ≠ [] := by
  unfold fparam
  split <;> simp
theorem rt_shell {x : List Nat} (h : wordOk x) {R : List Nat} {o1 : St} {o4 : List Nat} (hR : RestTo R o1 o4) : ∃ o2, RT .sp false .sp [] (shellT x ++ R) o1 o2 (fparam x) o4 := by
  by_cases hx : x = []
  · subst hx
    exact ⟨false, .sp_word (.inr (.inr rfl)) (rt_end hR (by decide))⟩
  · have e : fparam x = [107, 61, 34] ++ escL x ++ [34] := by unfold fparam; rw [if_neg hx]
    have e2 : shellT x = [39] ++ subst 39 [39, 34, 39, 34, 39] (fparam x) ++ [39] := by
      unfold shellT quoteL
      rw [e]
      have hne : ¬ ([107, 61, 34] ++ escL x ++ [34] = []) := by simp
      have hall : ¬ ([107, 61, 34] ++ escL x ++ [34]).all okB = true := by
        intro q
        have := List.all_eq_true.mp q 34 (by simp)
        exact absurd this (by decide)
      rw [if_neg hne, if_neg hall]
    refine ⟨true, ?_⟩
    rw [e2]
    have := rt_sq (e := .sp) (R := R) (o1 := o1) (o2 := true) (o3 := fparam x) (o4 := o4) (v := fparam x) (tok := []) (q := false) (fparam_ok (ok_word h)) (rt_end hR (fparam_ne x))
    simpa using RT.sp_sq this
theorem quoteL_ok {x : List Nat} (h : wordOk x) : ∀ c ∈ quoteL x, okS c ∨ badS c := by
  by_cases b : bare x
  · rw [quoteL_bare h b]; exact ok_word h
  · rw [quoteL_not h b]
    intro c hc
    rcases List.mem_append.mp hc with hc | hc
    · rcases List.mem_append.mp hc with hc | hc
      · rw [List.mem_singleton.mp hc]; unfold okS badS; decide
      · unfold subst at hc
        obtain ⟨d, hd, hc⟩ := List.mem_flatMap.mp hc
        split at hc
        · have : ∀ c ∈ [39, 34, 39, 34, 39], okS c ∨ badS c := by unfold okS badS; decide
          exact this c hc
        · rw [List.mem_singleton.mp hc]; exact ok_word h d hd
    · rw [List.mem_singleton.mp hc]; unfold okS badS; decide
theorem rt_param {v : List Nat} (hv : ∀ c ∈ v, okS c ∨ badS c) {R : List Nat} {o1 : St} {o4 : List Nat} (hR : RestTo R o1 o4) : RT .sp false .sp [] ([107, 61, 34] ++ escL v ++ [34] ++ R) o1 true ([107, 61] ++ v) o4 := by
  have := rt_dq (R := R) (o1 := o1) (o2 := true) (o3 := [107, 61] ++ v) (o4 := o4) (v := v) (tok := [107, 61]) (q := false) (e := .sp) hv fun e' => rt_end hR (by simp)
  have h2 : RT .sp false .sp [] (107 :: 61 :: 34 :: (escL v ++ 34 :: R)) o1 true ([107, 61] ++ v) o4 := .sp_word (.inr (.inr rfl)) (.a_other (.inr rfl) (.a_dq this))
  simpa using h2
theorem rt_head {x : List Nat} (h : wordOk x) {R : List Nat} {o1 : St} {o4 : List Nat} (hR : RestTo R o1 o4) : ∃ o2, RT .sp false .sp [] (headT x ++ R) o1 o2 ([107, 61] ++ quoteL x) o4 :=
  ⟨true, by rw [headT_eq h]; exact rt_param (quoteL_ok h) hR⟩
theorem toks_join {f g : List Nat → List Nat} (hf : ∀ x, wordOk x → ∀ {R : List Nat} {o1 : St} {o4 : List Nat}, RestTo R o1 o4 → ∃ o2, RT .sp false .sp [] (f x ++ R) o1 o2 (g x) o4) (hg : ∀ x, g x ≠ []) :
    ∀ {ws : List (List Nat)}, (∀ x ∈ ws, wordOk x) → Toks .sp (joinL (ws.map f)) (ws.map g)
  | [], _ => .stop .sp_eof
  | [x], h => by
    obtain ⟨o2, hr⟩ := hf x (h x List.mem_cons_self) (R := []) (o1 := .no) (o4 := []) ⟨rfl, rfl⟩
    rw [List.append_nil] at hr
    exact .tok hr (fun q => hg x q.2) (.stop .no_eof)
  | x :: y :: r, h => by
    obtain ⟨o2, hr⟩ := hf x (h x List.mem_cons_self) (R := 32 :: joinL ((y :: r).map f)) (o1 := .sp) (o4 := joinL ((y :: r).map f)) ⟨rfl, rfl, rfl⟩
    have ih := toks_join hf hg (ws := y :: r) fun z hz => h z (List.mem_cons_of_mem _ hz)
    refine .tok (o1 := .sp) (o2 := o2) (o4 := joinL ((y :: r).map f)) ?_ (fun q => hg x q.2) ih
    have e : joinL ((x :: y :: r).map f) = f x ++ 32 :: joinL ((y :: r).map f) := by
      show f x ++ [32] ++ joinL ((y :: r).map f) = _
      simp
    rw [e]; exact hr
/-- what the second split reads -/
def kx (x : List Nat) : List Nat := if x = [] then [107] else [107, 61] ++ x
theorem toks_fparam {x : List Nat} (h : wordOk x) : Toks .sp (fparam x) [kx x] := by
  by_cases hx : x = []
  · subst hx
    exact .tok (.sp_word (.inr (.inr rfl)) .a_eof) (fun q => nomatch q.2) (.stop .no_eof)
  · have e : fparam x = [107, 61, 34] ++ escL x ++ [34] := by unfold fparam; rw [if_neg hx]
    have e2 : kx x = [107, 61] ++ x := by unfold kx; rw [if_neg hx]
    have := rt_param (ok_word h) (R := []) (o1 := .no) (o4 := []) ⟨rfl, rfl⟩
    rw [e, e2]
    rw [List.append_nil] at this
    exact .tok this (fun q => by simp at q) (.stop .no_eof)
theorem rt_bare : ∀ {x tok : List Nat} {q : Bool} {e : St}, (∀ c ∈ x, safeC c = true) → tok ≠ [] → RT .a q e tok x .no q (tok ++ x) []
  | [], tok, q, e, _, ht => by rw [List.append_nil]; exact .a_eof
  | c :: x, tok, q, e, h, ht => by
    have ih := rt_bare (x := x) (tok := tok ++ [c]) (q := q) (e := e) (fun d hd => h d (List.mem_cons_of_mem _ hd)) (by simp)
    rw [List.append_assoc] at ih
    have hc := h c List.mem_cons_self
    unfold safeC at hc
    have hc' : c = 37 ∨ c = 65 ∨ c = 97 := by simpa [or_assoc] using hc
    rcases hc' with rfl | rfl | rfl
    · exact .a_other (.inl rfl) ih
    · exact .a_word (.inl rfl) ih
    · exact .a_word (.inr rfl) ih
theorem toks_quote {x : List Nat} (h : wordOk x) : Toks .sp (quoteL x) [x] := by
  by_cases b : bare x
  · rw [quoteL_bare h b]
    obtain ⟨c, r, rfl, hc⟩ := bare_head b
    have ih := rt_bare (x := r) (tok := [c]) (q := false) (e := .sp) (fun d hd => bare_all b d (List.mem_cons_of_mem _ hd)) (by simp)
    refine .tok (o1 := .no) (o2 := false) (o4 := []) ?_ (fun q => nomatch q.2) (.stop .no_eof)
    rcases hc with rfl | rfl | rfl
    · exact .sp_other rfl ih
    · exact .sp_word (.inl rfl) ih
    · exact .sp_word (.inr (.inl rfl)) ih
  · rw [quoteL_not h b]
    have := rt_sq (e := .sp) (R := []) (o1 := .no) (o2 := true) (o3 := x) (o4 := []) (v := x) (tok := []) (q := false) (ok_word h) (by rw [List.nil_append]; exact .a_eof)
    have h2 : RT .sp false .sp [] ([39] ++ subst 39 [39, 34, 39, 34, 39] x ++ [39]) .no true x [] := by simpa using RT.sp_sq this
    exact .tok h2 (fun q => by simp at q) (.stop .no_eof)
/-! lengths -/
theorem escL_length (x : List Nat) : (escL x).length ≤ 4 * x.length := by
  have l1 := subst_length 92 [92, 92] 2 (by decide) (by decide) x
  have l2 := subst_length 34 [92, 34] 2 (by decide) (by decide) (subst 92 [92, 92] x)
  unfold escL; lia
theorem fparam_length (x : List Nat) : (fparam x).length ≤ 4 * x.length + 4 := by
  have := escL_length x
  unfold fparam
  split
  · simp
  · simp; lia
theorem quoteL_length (x : List Nat) : (quoteL x).length ≤ 5 * x.length + 2 := by
  have l1 := subst_length 39 [39, 34, 39, 34, 39] 5 (by decide) (by decide) x
  unfold quoteL
  split
  · simp
  · split
    · lia
    · simp; lia
theorem joinL_length (k : Nat) : ∀ {l : List (List Nat)}, (∀ t ∈ l, t.length ≤ k) → (joinL l).length ≤ (k + 1) * l.length
  | [], _ => Nat.zero_le _
  | [x], h => by
    have := h x List.mem_cons_self
    show x.length ≤ (k + 1) * 1
    lia
  | x :: y :: r, h => by
    have ih := joinL_length k (l := y :: r) fun z hz => h z (List.mem_cons_of_mem _ hz)
    have := h x List.mem_cons_self
    show (x ++ [32] ++ joinL (y :: r)).length ≤ (k + 1) * (y :: r).length.succ
    rw [Nat.mul_succ, List.length_append, List.length_append, List.length_singleton]
    lia
theorem sum_length (k : Nat) : ∀ {l : List (List Nat)}, (∀ t ∈ l, t.length ≤ k) → (l.map (·.length)).sum ≤ k * l.length
  | [], _ => Nat.zero_le _
  | x :: r, h => by
    have ih := sum_length k (l := r) fun z hz => h z (List.mem_cons_of_mem _ hz)
    have := h x List.mem_cons_self
    rw [List.map_cons, List.sum_cons, List.length_cons, Nat.mul_succ]
    lia
theorem zip2_map {α β γ : Type} {P : β → γ → Prop} {f : α → β} {g : α → γ} : ∀ {l : List α}, (∀ x ∈ l, P (f x) (g x)) → Zip2 P (l.map f) (l.map g)
  | [], _ => .nil
  | x :: _, h => .cons (h x List.mem_cons_self) (zip2_map fun y hy => h y (List.mem_cons_of_mem _ hy))
/-- what the law asks for -/
def dueS (x : List Nat) : List (List Nat) := [kx x]
def dueH (x : List Nat) : List (List Nat) := [[107, 61], x]
theorem reads_shell {ws : List (List Nat)} (h : ∀ x ∈ ws, wordOk x ∧ x.length ≤ 12) (hl : ws.length ≤ 13) : Reads (ws.map shellT) (ws.map dueS) := by
  have b : ∀ t ∈ ws.map shellT, t.length ≤ 270 := by
    intro t ht
    obtain ⟨x, hx, rfl⟩ := List.mem_map.mp ht
    have h1 := (h x hx).2
    have h2 := fparam_length x
    have h3 := quoteL_length (fparam x)
    unfold shellT; lia
  have hj := joinL_length 270 b
  have hs := sum_length 270 b
  rw [List.length_map] at hj hs
  refine ⟨ws.map fparam, toks_join (fun x hx => rt_shell hx) fparam_ne fun x hx => (h x hx).1, by lia, by rw [List.length_map]; lia, by rw [List.length_map]; lia, zip2_map fun x hx => ⟨toks_fparam (h x hx).1, ?_, ?_⟩⟩
  · have h1 := (h x hx).2
    have h2 := fparam_length x
    lia
  · show 1 ≤ 1000; decide
theorem reads_head {ws : List (List Nat)} (h : ∀ x ∈ ws, wordOk x ∧ x.length ≤ 12) (hl : ws.length ≤ 13) : Reads2 (ws.map headT) (ws.map dueH) := by
  have b : ∀ t ∈ ws.map headT, t.length ≤ 270 := by
    intro t ht
    obtain ⟨x, hx, rfl⟩ := List.mem_map.mp ht
    have h1 := (h x hx).2
    have h2 := fparam_length (quoteL x)
    have h3 := quoteL_length x
    unfold headT; lia
  have hj := joinL_length 270 b
  have hs := sum_length 270 b
  rw [List.length_map] at hj hs
  refine ⟨ws.map fun x => [107, 61] ++ quoteL x, toks_join (fun x hx => rt_head hx) (fun x => by simp) fun x hx => (h x hx).1, by lia, by rw [List.length_map]; lia, by rw [List.length_map]; lia, zip2_map fun x hx => ⟨[x], toks_quote (h x hx).1, rfl, ?_, ?_, ?_⟩⟩
  · simp
  · have h1 := (h x hx).2
    have h3 := quoteL_length x
    simp; lia
  · show 1 ≤ 900; decide
/-- all that is asked of the two rows -/
structure RowsOk (w o : List (List Nat)) : Prop where
  ok0 : ∀ x ∈ w, wordOk x ∧ x.length ≤ 12
  ok1 : ∀ x ∈ o, wordOk x ∧ x.length ≤ 12
  nd0 : w.Nodup
  nd1 : o.Nodup
  l0 : w.length ≤ 13
  l1 : o.length ≤ 13
  ne0 : w ≠ []
  ne1 : o ≠ []
theorem nodup_wT (b : Bool) {w : List (List Nat)} (h : ∀ x ∈ w, wordOk x) (hn : w.Nodup) : (w.map (wT b)).Nodup := by
  refine List.pairwise_map.mpr ((List.Pairwise.imp_of_mem ?_ (show w.Pairwise (· ≠ ·) from hn)))
  intro x y hx hy hne e
  exact hne (wT_inj b (h x hx) (h y hy) e)
theorem AloneOk.all {b : Bool} {w o ws : List (List Nat)} (A : AloneOk b w o ws) (h : ∀ x ∈ w, wordOk x ∧ x.length ≤ 12) (hl : w.length ≤ 13) : (∀ x ∈ ws, wordOk x ∧ x.length ≤ 12) ∧ ws.length ≤ 13 :=
  ⟨fun x hx => h x (List.mem_filter.mp (A.1.mem_iff.mp hx)).1, by rw [A.1.length_eq]; exact Nat.le_trans (List.length_filter_le _ _) hl⟩
theorem due_sides (b : Bool) {w o ws vs ts us : List (List Nat)} (K : RowsOk w o) (A : AloneOk b w o ws) (B : AloneOk b o w vs) (ht : ts.Perm (w.map (wT b))) (hu : us.Perm (o.map (wT b))) (st : ts.Pairwise (· < ·)) (su : us.Pairwise (· < ·)) :
    sdL ts us = (ws.map (wT b), vs.map (wT b)) := by
  rw [sdL_diff _ ts us (Nat.le_refl _) st su]
  rw [diff_side b (fun x hx => (K.ok0 x hx).1) (fun x hx => (K.ok1 x hx).1) A.1 A.2 ht hu st, diff_side b (fun x hx => (K.ok1 x hx).1) (fun x hx => (K.ok0 x hx).1) B.1 B.2 hu ht su]
theorem due_shell {w o ws vs : List (List Nat)} (K : RowsOk w o) (A : AloneOk true w o ws) (B : AloneOk true o w vs) : ∀ ts us : List (List Nat), ts.Perm (w.map shellT) → us.Perm (o.map shellT) → ts.Pairwise (· < ·) → us.Pairwise (· < ·) → Reads (sdL ts us).1 (ws.map dueS) ∧ Reads (sdL ts us).2 (vs.map dueS) := by
  intro ts us ht hu st su
  rw [due_sides true K A B ht hu st su]
  obtain ⟨a1, a2⟩ := A.all K.ok0 K.l0
  obtain ⟨b1, b2⟩ := B.all K.ok1 K.l1
  exact ⟨reads_shell a1 a2, reads_shell b1 b2⟩
theorem due_head {w o ws vs : List (List Nat)} (K : RowsOk w o) (A : AloneOk false w o ws) (B : AloneOk false o w vs) : ∀ ts us : List (List Nat), ts.Perm (w.map headT) → us.Perm (o.map headT) → ts.Pairwise (· < ·) → us.Pairwise (· < ·) → Reads2 (sdL ts us).1 (ws.map dueH) ∧ Reads2 (sdL ts us).2 (vs.map dueH) := by
  intro ts us ht hu st su
  rw [due_sides false K A B ht hu st su]
  obtain ⟨a1, a2⟩ := A.all K.ok0 K.l0
  obtain ⟨b1, b2⟩ := B.all K.ok1 K.l1
  exact ⟨reads_head a1 a2, reads_head b1 b2⟩
/-! the rows that a script builds -/
structure StOk (n : Nat) (st : List (List Nat) × List (List Nat) × List Nat) : Prop where
  ok0 : ∀ x ∈ st.1, wordOk x ∧ x.length ≤ n
  ok1 : ∀ x ∈ st.2.1, wordOk x ∧ x.length ≤ n + 1
  ok2 : wordOk st.2.2 ∧ st.2.2.length ≤ n
  nd0 : st.1.Nodup
  nd1 : st.2.1.Nodup
  l0 : st.1.length ≤ n
  l1 : st.2.1.length ≤ n + 1
  ne1 : st.2.1 ≠ []
theorem nodup_snoc {x : List Nat} {l : List (List Nat)} (h : l.Nodup) (hx : x ∉ l) : (l ++ [x]).Nodup := by
  refine List.nodup_append.mpr ⟨h, by simp, ?_⟩
  intro a ha b hb
  rw [List.mem_singleton.mp hb]
  intro e; exact hx (e ▸ ha)
theorem sign_at (i : Nat) (h : i < 7) : signOk (signsL.getD i 0) := by
  have : ∀ i, i < 7 → signOk (signsL.getD i 0) := by unfold signOk; decide
  exact this i h
theorem step_ok {n : Nat} {st : List (List Nat) × List (List Nat) × List Nat} (h : StOk n st) (x : Int) : StOk (n + 1) (lrStep st x) := by
  have up0 : ∀ y ∈ st.1, wordOk y ∧ y.length ≤ n + 1 := fun y hy => ⟨(h.ok0 y hy).1, Nat.le_succ_of_le (h.ok0 y hy).2⟩
  have up1 : ∀ y ∈ st.2.1, wordOk y ∧ y.length ≤ n + 1 + 1 := fun y hy => ⟨(h.ok1 y hy).1, Nat.le_succ_of_le (h.ok1 y hy).2⟩
  unfold lrStep
  split
  · rename_i hne
    refine ⟨up0, up1, ⟨?_, by simp; exact h.ok2.2⟩, h.nd0, h.nd1, Nat.le_succ_of_le h.l0, Nat.le_succ_of_le h.l1, h.ne1⟩
    intro c hc
    rcases List.mem_append.mp hc with hc | hc
    · exact h.ok2.1 c hc
    · rw [List.mem_singleton.mp hc]
      have a := Int.fmod_nonneg_of_pos (x.fmod 24) (b := 8) (by decide)
      have b := Int.fmod_lt_of_pos (x.fmod 24) (b := 8) (by decide)
      exact sign_at _ (by lia)
  · refine ⟨?_, ?_, ⟨fun _ hc => by simp at hc, Nat.zero_le _⟩, ?_, ?_, ?_, ?_, ?_⟩
    · dsimp only
      split
      · intro y hy
        rcases List.mem_append.mp hy with hy | hy
        · exact up0 y hy
        · rw [List.mem_singleton.mp hy]; exact ⟨h.ok2.1, Nat.le_succ_of_le h.ok2.2⟩
      · exact up0
    · dsimp only
      split
      · intro y hy
        rcases List.mem_append.mp hy with hy | hy
        · exact up1 y hy
        · rw [List.mem_singleton.mp hy]; exact ⟨h.ok2.1, by have := h.ok2.2; lia⟩
      · exact up1
    · dsimp only
      split
      · rename_i q; exact nodup_snoc h.nd0 q.2
      · exact h.nd0
    · dsimp only
      split
      · rename_i q; exact nodup_snoc h.nd1 q.2
      · exact h.nd1
    · dsimp only
      have := h.l0
      split
      · simp; exact this
      · lia
    · dsimp only
      have := h.l1
      split
      · simp; lia
      · lia
    · dsimp only
      split
      · simp
      · exact h.ne1
theorem fold_ok : ∀ (ns : List Int) {n : Nat} {st : List (List Nat) × List (List Nat) × List Nat}, StOk n st → StOk (n + ns.length) (ns.foldl lrStep st)
  | [], _, _, h => h
  | x :: ns, n, st, h => by
    have := fold_ok ns (step_ok h x)
    rw [List.length_cons, show n + (ns.length + 1) = n + 1 + ns.length by lia]
    exact this
theorem start_ok : StOk 0 (([], [[39]], []) : List (List Nat) × List (List Nat) × List Nat) := by
  refine ⟨fun _ h => by simp at h, ?_, ⟨fun _ h => by simp at h, Nat.le_refl _⟩, by simp, by simp, Nat.le_refl _, Nat.le_refl _, by simp⟩
  intro x hx
  rw [List.mem_singleton.mp hx]
  refine ⟨fun c hc => ?_, Nat.le_refl _⟩
  rw [List.mem_singleton.mp hc]; unfold signOk; decide
theorem last_ne (st : List (List Nat) × List (List Nat) × List Nat) : (lrStep st 0).1 ≠ [] := by
  unfold lrStep
  rw [if_neg (by decide)]
  dsimp only
  by_cases h : st.2.2 ∈ st.1
  · rw [if_neg (fun q => q.2 h)]
    intro e; rw [e] at h; cases h
  · rw [if_pos ⟨.inl (by decide), h⟩]
    simp
theorem rows_ok (ns : List Int) (hl : ns.length ≤ 10) : RowsOk (lrAll (ns ++ [0])).1 (lrAll (ns ++ [0])).2.1 := by
  have h := fold_ok (ns ++ [0]) start_ok
  have hl2 : (ns ++ [0]).length ≤ 11 := by simp; lia
  have hne : (lrAll (ns ++ [0])).1 ≠ [] := by
    unfold lrAll
    rw [List.foldl_append]
    exact last_ne _
  unfold lrAll at hne ⊢
  refine ⟨fun x hx => ⟨(h.ok0 x hx).1, ?_⟩, fun x hx => ⟨(h.ok1 x hx).1, ?_⟩, h.nd0, h.nd1, ?_, ?_, hne, h.ne1⟩
  · have := (h.ok0 x hx).2; lia
  · have := (h.ok1 x hx).2; lia
  · have := h.l0; lia
  · have := h.l1; lia

end

section
theorem news_three {g : Heap} {L : Addr} {h : Heap} {x y z : Addr × Obj} {nw : List (Addr × Obj)} (N : News g L h nw) (hx : x ∈ nw) (hy : y ∈ nw) (hz : z ∈ nw) : News g L h (x :: y :: z :: nw) := fun q hq => by
  rcases List.mem_cons.mp hq with rfl | hq
  · exact N _ hx
  rcases List.mem_cons.mp hq with rfl | hq
  · exact N _ hy
  rcases List.mem_cons.mp hq with rfl | hq
  · exact N _ hz
  exact N q hq
theorem nest_mono {nw nw' : List (Addr × Obj)} {v : Value} {t3 : List (List (List (List Nat)))} (h : ∀ q ∈ nw, q ∈ nw') (x : IsNest nw v t3) : IsNest nw' v t3 := by
  refine hideG ?_
  intro G9
  obtain ⟨a, vs, c, rfl, hm, hv⟩ := x
  k_unfold
  exact ⟨a, vs, c, rfl, h _ hm, hv.imp fun _ _ => IsRows.mono h⟩
theorem bounds_ok {w : List (List Nat)} (h : ∀ x ∈ w, wordOk x ∧ x.length ≤ 12) : ∀ x ∈ w, (x.length ≤ 200 ∧ (fparam x).length ≤ 900 ∧ ∀ d ∈ fparam x, okS d ∨ badS d) ∧ ((quoteL x).length ≤ 200 ∧ x.length ≤ 900 ∧ ∀ d ∈ x, okS d ∨ badS d) := by
  intro x hx
  obtain ⟨a, b⟩ := h x hx
  have l1 := fparam_length x
  have l2 := quoteL_length x
  exact ⟨⟨by lia, by lia, fparam_ok (ok_word a)⟩, by lia, by lia, ok_word a⟩
theorem news_old {g : Heap} {L : Addr} {h : Heap} {x : Addr × Obj} {nw old : List (Addr × Obj)} (N : News g L h (x :: nw)) (hs : ∀ q ∈ old, q ∈ nw) : News g L h (old ++ x :: nw) := fun q hq => by
  rcases List.mem_append.mp hq with hq | hq
  · exact N q (.tail _ (hs q hq))
  · exact N q hq
theorem news_drop3 {g : Heap} {L : Addr} {h : Heap} {a b c : Addr × Obj} {nw : List (Addr × Obj)} (N : News g L h (a :: b :: c :: nw)) : News g L h nw := fun q hq => N q (.tail _ (.tail _ (.tail _ hq)))
theorem AllP.snoc' {exx : List (Addr × Obj)} {zs : List Value} {tss : List (List (List Nat))} {v : Value} {ts : List (List Nat)} {e : Addr × Obj} (x : AllP (IsStrs exx) zs tss) (hp : IsStrs (e :: exx) v ts) : AllP (IsStrs (e :: exx)) (zs ++ [v]) (tss ++ [ts]) :=
  AllP.snoc (x.imp fun _ _ h => h.mono fun _ hq => .tail _ hq) hp
theorem two_of {α β : Type} {P : α → β → Prop} {a b : α} {l : List β} (h : Zip2 P [a, b] l) : ∃ x y, l = [x, y] ∧ P a x ∧ P b y := by
  cases h with
  | cons h1 h =>
    cases h with
    | cons h2 h => cases h; exact ⟨_, _, rfl, h1, h2⟩
theorem due_end {g h : Heap} {L I2 C2 D2 I C D l : Addr} {m : Str → Option Value} {s₁ : Shared} {oI2 oC2 oI oC oD o : Obj} {zs : List Value} {exx bs : List (Addr × Obj)} {S : List (Addr × Obj) → Prop} {tss : List (List (List Nat))} {ts : List (List Nat)} {tk : Nat} (F : Fr g L h m)
    (N : News g L h ((l, o) :: (I2, oI2) :: (C2, oC2) :: (D2, LCg.lst zs) :: (exx ++ bs))) (lt : I2 < l ∧ C2 < l ∧ D2 < l ∧ AllLt l (exx ++ bs)) (off : LCg.Off3 I2 C2 D2 (exx ++ bs)) (hS : S ((l, o) :: (exx ++ bs)))
    (mI : (I, oI) ∈ bs) (mC : (C, oC) ∈ bs) (mD : (D, oD) ∈ bs) (hex : ∀ q ∈ exx, I < q.1 ∧ C < q.1 ∧ D < q.1) (hzs : AllP (IsStrs exx) zs tss) (hv : ∃ vs c, o = listObj vs.toArray c ∧ Vals ts vs) :
    XEnd (fun gg => gg = g) L m s₁ I2 oI2 C2 oC2 D2 (LCg.lst zs) S (fun y nw => ∃ exx, nw = exx ++ bs ∧ (∀ q ∈ exx, I < q.1 ∧ C < q.1 ∧ D < q.1) ∧ AllP (IsStrs exx) (zs ++ [y]) (tss ++ [ts])) (.ref l) { s₁ with heap := h, toks := tk } := by
  have lt2 := allLt_2 lt.2.2.2
  refine hideG ?_
  intro G9
  obtain ⟨vs, c, rfl, hvs⟩ := hv
  k_unfold
  refine ⟨g, h, tk, (l, listObj vs.toArray c) :: (exx ++ bs), rfl, rfl, F, ?_, off3_cons lt.1 lt.2.1 lt.2.2.1 off, hS, (l, listObj vs.toArray c) :: exx, rfl, ?_, hzs.snoc' ⟨l, vs, c, rfl, .head _, hvs⟩⟩
  · exact news_rot3 N
  · intro q hq
    rcases List.mem_cons.mp hq with rfl | hq
    · exact ⟨lt2 _ (List.mem_append_right _ mI), lt2 _ (List.mem_append_right _ mC), lt2 _ (List.mem_append_right _ mD)⟩
    · exact hex q hq
theorem news_two {h₀ : Heap} {L : Addr} {h : Heap} {x y z a b : Addr × Obj} {nw : List (Addr × Obj)} (N : News h₀ L h (x :: y :: z :: nw)) (ha : a ∈ nw) (hb : b ∈ nw) : News h₀ L h (a :: b :: x :: y :: z :: nw) := fun q hq => by
  rcases List.mem_cons.mp hq with rfl | hq
  · exact N _ (.tail _ (.tail _ (.tail _ ha)))
  rcases List.mem_cons.mp hq with rfl | hq
  · exact N _ (.tail _ (.tail _ (.tail _ hb)))
  exact N q hq
theorem RowsOk.symm {w o : List (List Nat)} (h : RowsOk w o) : RowsOk o w := ⟨h.ok1, h.ok0, h.nd1, h.nd0, h.l1, h.l0, h.ne1, h.ne0⟩
theorem wordOk_lt {x : List Nat} (h : wordOk x) : ∀ c ∈ x, c < 128 := by
  intro c hc
  rcases h c hc with rfl | rfl | rfl | rfl | rfl | rfl | rfl <;> decide
theorem Zip2.snoc {α β : Type} {P : α → β → Prop} {as : List α} {bs : List β} {a : α} {b : β} (h : Zip2 P as bs) (hp : P a b) : Zip2 P (as ++ [a]) (bs ++ [b]) := by
  induction h with
  | nil => exact .cons hp .nil
  | cons h _ ih => exact .cons h ih
theorem fr_nil {g g' h : Heap} {L : Addr} {m : Str → Option Value} (T : KtsTurn (([] : List Env).filterMap (·.frame)) g g') (F : Fr g' L h m) : Fr g L h m :=
  ⟨F.ns, fun b o e => F.keep b o (T.other b o e (fun q => nomatch q)), by rw [← T.size]; exact F.above⟩
theorem news_nil {g g' h : Heap} {L : Addr} {nw : List (Addr × Obj)} (T : KtsTurn (([] : List Env).filterMap (·.frame)) g g') (N : News g' L h nw) : News g L h nw := fun q hq =>
  ⟨(N q hq).1, (N q hq).2.1, by
    cases e : g.get? q.1 with
    | none => rfl
    | some o =>
      have := T.other _ o e (fun q => nomatch q)
      rw [(N q hq).2.2] at this; cases this⟩
section
open LCp LCg
variable {prog : Program} {w : World} {A : Around} {s : Shared} {h₀ : Heap} {L : Addr} {m : Str → Option Value} {env : Env}
/-- a comprehension over pairs, by an invariant over the turn's number -/
theorem restP_of {elt : Expr} {x x₂ : Str} {scope : Scope} {cl : List (Str × Addr)} {S : List (Addr × Obj) → Prop} {P : Nat → Value → Prop} {Fin : List Value → List (Addr × Obj) → Prop} (J : Nat → List Value → List (Addr × Obj) → Prop) {n : Nat}
    (fin : ∀ ys nw, J n ys nw → Fin ys nw)
    (turn : ∀ i ys nw v, i < n → J i ys nw → P i v → ∃ (t : Addr) (ot : Obj) (v₁ v₂ : Value) (nt : Nat), v = .ref t ∧ (t, ot) ∈ nw ∧ ot.cls = .type "tuple" ∧ ot.data = .seq #[v₁, v₂] nt ∧
      ∀ I oI C oC D m₂ h tk (E' : Value → Shared → Prop), NsObj oC m₂ → m₂ x = some v₁ → m₂ x₂ = some v₂ → Fr h₀ L h m → News h₀ L h ((I, oI) :: (C, oC) :: (D, lst ys) :: nw) → Off3 I C D nw → ((@Ne Nat I C) ∧ (@Ne Nat I D) ∧ (@Ne Nat C D)) →
        wpAny (model prog w) A (eval elt (compEnvC scope cl C env)) (CompEnd h₀ L m { s with heap := h, toks := tk } I oI C oC D (lst ys) S (fun y nw' => J (i + 1) (ys ++ [y]) nw')) E' { s with heap := h, toks := tk }) :
    ∀ k i ys nw, i + k = n → J i ys nw → CompRestP prog w A h₀ L m env elt x x₂ scope cl s S P Fin k i ys nw
  | 0, i, ys, nw, hk, hJ => .zero (fin ys nw (by rw [← hk]; exact hJ))
  | k + 1, i, ys, nw, hk, hJ => .succ fun v hv => by
    refine hideG ?_
    intro G9
    obtain ⟨t, ot, v₁, v₂, nt, e1, e2, e3, e4, hw⟩ := turn i ys nw v (by lia) hJ hv
    k_unfold
    refine ⟨t, ot, v₁, v₂, nt, e1, e2, e3, e4, fun I oI C oC D m₂ h tk E' a1 a2 a3 a4 a5 a6 a7 => ?_⟩
    refine wpAny_mono (hw I oI C oC D m₂ h tk E' a1 a2 a3 a4 a5 a6 a7) (fun y s' h' => ?_) fun _ _ e => e
    refine hideG ?_
    intro G9
    obtain ⟨h', tk', nw', b1, b2, b3, b4, b5, b6⟩ := h'
    k_unfold
    exact ⟨h', tk', nw', b1, b2, b3, b4, b5, restP_of J fin turn k (i + 1) _ _ (by lia) b6⟩
end
section
theorem lawT : PySem.Challenge.rw_of0086_01.Holds := by
  refine hd ?_
  k_fill
  intro w s₀ s₁ mg mb G Y fa o pm cd doc dV kV ho hd hcd hD hmg hg args vals as hpre hlay hrd hwl hlo
  have KX := kIn_of Y
  have X := (Ground.X G).1
  have V := (Ground.X G).2
  refine Ground.open G ?_
  intro T B D TE TW
  try (refine guard_noD D (by decide +kernel) ?_; clear D)
  obtain ⟨_, _, M⟩ := bmod_of_top T
  have TA := at_of_top T
  try (obtain ⟨_, _, he, B0⟩ := based_of_top T rfl hmg ho hd; have he' : cd = _ := he; subst he'; clear he)
  clear hmg
  wrow_args hpre hlay hrd hwl hlo
  all_goals (
    first | refine callC_kw (enter_call ?_) | refine enter_call ?_ | refine callC_kw (enter_callW ?_) | refine enter_callW ?_
    w_top on
    try refine codeAny_mono ?_ (fun _ _ g => GoodW.toG g)
    have K0 := below_caller (Top.heap T)
    w_call any ho hd hcd hD T F
    clear hd TA
    k_drop
    skip)
  (all_goals try k_fold)
  k_with_none
  k_with "my call" => (refine hold ?_)
  k_with "my comp" => (refine hold ?_)
  k_with "my assign" => (refine hold ?_)
  k_steps
  refine unhold ?_
  with_reducible rename IntsAre _ (List.take 10 _) => hI
  rename (List.take 10 _).length = min 10 _ => hC
  k_dflt (refine' Spec.use (rows_spec hI (by lia)) ?r1 ?r2 ?r3 ?r4 ?r5 ?r6 ?r7 ?r8 ?_; (case r1 => k_asm); (case r2 => k_asm); (case r3 => k_asm); (case r4 => k_asm); (case r5 => k_asm); (case r6 => exact rfl); (case r7 => k_room); (case r8 => k_units))
  intro v9 n9 h9 tk9 F9 N9 P9
  refine hideG ?_
  intro G9
  obtain ⟨R, r0, r1, v0, v1, c, c0, c1, rfl, rfl, hv0, hv1⟩ := P9
  k_unfold
  (try dsimp only); (try k_fold)
  k_steps
  rename_i T1 hAa lA T2 hBb lB PL hCc lC hDd F0 N0
  generalize hw0 : (lrAll (List.take 10 _ ++ [0])).1 = w0 at hv0
  generalize hw1 : (lrAll (List.take 10 _ ++ [0])).2.1 = w1 at hv1
  have hK : RowsOk w0 w1 := by
    have := rows_ok _ (Nat.le_trans (Nat.le_of_eq hC) (Nat.min_le_left _ _))
    rw [hw0, hw1] at this
    exact this
  let OLD : List (Addr × Obj) := [(PL, listObj #[.ref T1, .ref T2] 0), (T2, { cls := .type "tuple", data := .seq #[.ref r1, .ref r0] }), (T1, { cls := .type "tuple", data := .seq #[.ref r0, .ref r1] }), (R, listObj #[.ref r0, .ref r1] c), (r0, listObj v0.toArray c0), (r1, listObj v1.toArray c1)]
  have mPL : (PL, listObj #[.ref T1, .ref T2] 0) ∈ OLD := .head _
  have mT2 : (T2, ({ cls := .type "tuple", data := .seq #[.ref r1, .ref r0] } : Obj)) ∈ OLD := .tail _ (.head _)
  have mT1 : (T1, ({ cls := .type "tuple", data := .seq #[.ref r0, .ref r1] } : Obj)) ∈ OLD := .tail _ (.tail _ (.head _))
  have m0 : (r0, listObj v0.toArray c0) ∈ OLD := .tail _ (.tail _ (.tail _ (.tail _ (.head _))))
  have m1 : (r1, listObj v1.toArray c1) ∈ OLD := .tail _ (.tail _ (.tail _ (.tail _ (.tail _ (.head _)))))
  have mR : (R, listObj #[.ref r0, .ref r1] c) ∈ OLD := .tail _ (.tail _ (.tail _ (.head _)))

  -- S
  refine unhold ?_
  k_dflt (refine LCp.Assign_ListComp_P (F₀ := F0) (by rfl) (by with_unfolding_all rfl) (by with_unfolding_all rfl) (by decide) (by rfl) (by decide) (by rfl) (by rfl) (by decide) (by rfl) (by rfl) ?_)
  k_dflt lcp_toSrc
  k_dflt (refine' restP_of (J := fun i ys nw => (∀ q ∈ OLD, q ∈ nw) ∧ ∃ wss : List (List (List Nat)), AllP (IsRows nw) ys (wss.map fun ws => ws.map dueS) ∧ Zip2 (fun (pr : List (List Nat) × List (List Nat)) ws => AloneOk true pr.1 pr.2 ws) ([(w0, w1), (w1, w0)].take i) wss) (n := 2) ?finS ?turnS 2 0 [] _ rfl ⟨?stS, [], .nil, .nil⟩)
  case stS => exact fun q hq => List.mem_append_left [_] hq
  case turnS =>
    intro i ys nw v hi hJ hv
    refine hideG ?_
    intro G9
    obtain ⟨hsub, wss, hall, hz⟩ := hJ
    obtain ⟨t, ra, rb, va, vb, ca, cb, wa, wb, rfl, ht, hra, hrb, hva, hvb, hK, htk⟩ : ∃ t ra rb va vb ca cb wa wb, v = .ref t ∧ (t, ({ cls := .type "tuple", data := .seq #[.ref ra, .ref rb] } : Obj)) ∈ nw ∧ (ra, listObj va.toArray ca) ∈ nw ∧ (rb, listObj vb.toArray cb) ∈ nw ∧ Vals wa va ∧ Vals wb vb ∧ RowsOk wa wb ∧ [(w0, w1), (w1, w0)].take (i + 1) = [(w0, w1), (w1, w0)].take i ++ [(wa, wb)] := by
      rcases i with _ | _ | i
      · exact ⟨T1, r0, r1, v0, v1, c0, c1, w0, w1, (Option.some.inj hv).symm, hsub _ mT1, hsub _ m0, hsub _ m1, hv0, hv1, hK, rfl⟩
      · exact ⟨T2, r1, r0, v1, v0, c1, c0, w1, w0, (Option.some.inj hv).symm, hsub _ mT2, hsub _ m1, hsub _ m0, hv1, hv0, hK.symm, rfl⟩
      · lia
    k_unfold
    refine ⟨t, _, .ref ra, .ref rb, 0, rfl, ht, rfl, rfl, ?_⟩
    intro I oI C oC D m₂ h tk E' hC hm1 hm2 F N off ne
    have N2 := news_two N hra hrb
    clear N
    refine wpAny_noRaise ?_
    k_with_none
    k_with "my comp" => (k_dflt (refine compE (by with_unfolding_all rfl) (by rfl) (by decide) ?_))
    k_with "my call" => (refine hold ?_)
    k_steps
    refine unhold ?_
    k_dflt (refine' Spec.use (alone_spec (b := true) hva hvb (by have := hK.l0; lia) (fun x hx => ⟨by have := (hK.ok0 x hx).2; lia, fun c hc => wordOk_lt (hK.ok0 x hx).1 c hc⟩) hK.nd0 (fun x hx y hy => rk_inj true (hK.ok0 x hx).1 (hK.ok0 y hy).1)) ?r1 ?r2 ?r3 N2 ?r5 ?r6 ?r7 ?r8 ?_; (case r1 => k_asm); (case r2 => k_asm); (case r3 => k_asm); (case r5 => k_asm); (case r6 => exact rfl); (case r7 => k_room); (case r8 => k_units))
    intro v9 n9 h9 tk9 F9 N9 P9
    refine hideG ?_
    intro G9
    obtain ⟨D9, vs9, ws, c9, rfl, rfl, ne9, hvs, hAl⟩ := P9
    k_unfold
    have hall9 := AloneOk.all hAl hK.ok0 hK.l0
    (try dsimp only); (try k_fold)
    k_steps
    k_dflt (refine' xgo_list (G := fun gg => gg = _) (J := fun j zs nw2 => ∃ exx, nw2 = exx ++ ((D9, listObj vs9.toArray c9) :: (ra, listObj va.toArray ca) :: (rb, listObj vb.toArray cb) :: (I, oI) :: (C, oC) :: (D, LCg.lst ys) :: nw) ∧ (∀ q ∈ exx, I < q.1 ∧ C < q.1 ∧ D < q.1) ∧ AllP (IsStrs exx) zs ((ws.take j).map dueS)) (c := c9) rfl rfl ?F2 N9 ?m2 ?s2 (by decide) (by rfl) (by rfl) ⟨[], rfl, (fun _ h => nomatch h), .nil⟩ ?R2 ?RR2)
    case F2 => k_asm
    case m2 => exact .head _
    case s2 => show vs9.toArray.size ≤ 16777216; rw [List.size_toArray, hvs.length]; have := hall9.2; lia
    case R2 =>
      intro j zs nw2 hj hS2 hJ2 g2 v2 I2 oI2 C2 oC2 D2 m3 h2 tk2 E2 hG2 hP2 hC2 hm2 F2 N2 off2 ne2
      refine hideG ?_
      intro G9
      obtain ⟨exx, rfl, hex, hzs⟩ := hJ2
      k_unfold
      subst hG2
      have hj2 : j < ws.length := by have : j < vs9.toArray.size := hj; rw [List.size_toArray, hvs.length] at this; exact this
      obtain ⟨x, hx⟩ : ∃ x, ws[j]? = some x := ⟨_, List.getElem?_eq_getElem hj2⟩
      obtain ⟨tx, hvx⟩ := hvs.get j x hx
      have hv2 : v2 = .str (SL x) tx := by
        have e1 : vs9.toArray[j]? = some v2 := hP2
        have e2 : vs9.toArray[j]? = some (.str (SL x) tx) := by simpa using hvx
        exact Option.some.inj (e1.symm.trans e2)
      subst hv2
      have lx : x.length ≤ 12 := (hall9.1 x (List.mem_of_getElem? hx)).2
      have ls : (SL x).length ≤ 12 := by show x.toArray.size ≤ 12; simpa using lx
      refine wpAny_tests_nil ?_
      simp only [if_true]
      refine wpAny_noRaise ?_
      by_cases hx0 : x = []
      · subst hx0
        k_with_none
        k_with "my ne" => (refine ne_known (b := false) (by decide) ?_)
        k_steps
        (with_reducible rename News _ _ _ ((_, _) :: (I2, _) :: _) => N8)
        (with_reducible rename (I2 < _) ∧ _ => l8)
        rw [take_snoc hx, List.map_append]
        k_dflt (refine' due_end ?Fe N8 l8 off2 (.tail _ hS2) (.tail _ (.tail _ (.tail _ (.head _)))) (.tail _ (.tail _ (.tail _ (.tail _ (.head _))))) (.tail _ (.tail _ (.tail _ (.tail _ (.tail _ (.head _)))))) hex hzs ?Ve; (case Fe => k_asm); (case Ve => exact ⟨_, 0, rfl, Vals.one (t := [107])⟩))
      · have hne : ((SL x) != Str.ofString "") = true := by
          simp only [bne_iff_ne, ne_eq]
          intro e
          have h9 : x = [] := congrArg (fun s : Str => s.cps.toList) e
          exact hx0 h9
        k_with_none
        k_with "my ne" => (refine ne_known (b := true) hne ?_)
        k_steps
        have ek9 : Str.ofString "k=" ++ SL x = SL (kx x) := by
          refine sl_of _ _ ?_
          unfold kx
          rw [if_neg hx0, str_append_toList]
          rfl
        (with_reducible rename News _ _ _ ((_, _) :: (I2, _) :: _) => N8)
        (with_reducible rename (I2 < _) ∧ _ => l8)
        rw [take_snoc hx, List.map_append]
        k_dflt (refine' due_end ?Fe N8 l8 off2 (.tail _ hS2) (.tail _ (.tail _ (.tail _ (.head _)))) (.tail _ (.tail _ (.tail _ (.tail _ (.head _))))) (.tail _ (.tail _ (.tail _ (.tail _ (.tail _ (.head _)))))) hex hzs ?Ve; (case Fe => k_asm); (case Ve => (refine ⟨[_], 0, rfl, ?_⟩; rw [ek9]; exact Vals.one (t := kx x))))

    case RR2 =>
      intro g4 D4 C4 h7 tk7 m7 zs4 nw4 hG4 F7 N7 o4 hn4 hC4 hD4 hCL4 hDL4 hCD4 offC4 hJ4
      refine hideG ?_
      intro G9
      obtain ⟨exx, rfl, hex, hz4⟩ := hJ4
      k_unfold
      subst hG4
      have e4 : (ws.take vs9.toArray.size) = ws := by rw [List.size_toArray, hvs.length, List.take_length]
      rw [e4] at hz4
      have hD4' := off1_mem o4
      k_dflt (refine finE1 F7 N7 hn4 hC4 hCL4 hCD4 offC4 ?_)
      intro h8 F8 N8
      k_steps
      k_dflt (refine ⟨h8, _, (D4, LCg.lst zs4) :: (exx ++ nw), rfl, F8, ?N9, ?O9, ?S9, ?B9, wss ++ [ws], ?A9, ?Z9⟩)
      case N9 => exact news_mid6 N8
      case O9 =>
        refine LCg.Off3.of fun q hq => ?_
        simp only [List.mem_cons, List.mem_append] at hq
        rcases hq with rfl | h | h
        · exact ⟨fun e => hD4' (I, oI) (by simp) e.symm, fun e => hD4' (C, oC) (by simp) e.symm, fun e => hD4' (D, LCg.lst ys) (by simp) e.symm⟩
        · have := hex q h
          exact ⟨Nat.ne_of_gt this.1, Nat.ne_of_gt this.2.1, Nat.ne_of_gt this.2.2⟩
        · exact off.mem q h
      case S9 => exact .inr ⟨_, .tail _ (List.mem_append_right _ (hsub _ mPL)), rfl, _, rfl⟩
      case B9 => exact fun q hq => .tail _ (List.mem_append_right _ (hsub q hq))
      case A9 =>
        rw [List.map_append]
        refine AllP.snoc (hall.imp fun v ts hv => hv.mono fun q hq => .tail _ (List.mem_append_right _ hq)) ⟨D4, zs4, zs4.length, rfl, .head _, hz4.imp fun v ts hv => hv.mono fun q hq => .tail _ (List.mem_append_left _ hq)⟩
      case Z9 =>
        rw [htk]
        exact hz.snoc hAl
  case finS =>
    intro ysS nwS hJ
    refine hideG ?_
    intro G9
    obtain ⟨hsubS, wss, hallS, hz⟩ := hJ
    obtain ⟨ws0S, ws1S, rfl, hA0S, hA1S⟩ := two_of hz
    k_unfold
    clear hz
    intro DS hS tkS FS NS oS
    dsimp only at FS ⊢
    have NS2 := news_old NS hsubS
    dsimp only [OLD, List.cons_append, List.nil_append] at NS2
    clear NS
    k_with_none
    k_with "my call" => (refine hold ?_)
    k_with "my comp" => (refine hold ?_)
    k_with "my assign" => (refine hold ?_)
    k_with "my eqs" => (refine hold ?_)
    k_steps

    -- H
    refine unhold ?_
    k_dflt (refine LCp.Assign_ListComp_P (F₀ := FS) (by rfl) (by with_unfolding_all rfl) (by with_unfolding_all rfl) (by decide) (by rfl) (by decide) (by rfl) (by rfl) (by decide) (by rfl) (by rfl) ?_)
    k_dflt lcp_toSrc
    k_dflt (refine' restP_of (J := fun i ys nw => (∀ q ∈ OLD ++ (DS, LCg.lst ysS) :: nwS, q ∈ nw) ∧ ∃ wss : List (List (List Nat)), AllP (IsRows nw) ys (wss.map fun ws => ws.map dueH) ∧ Zip2 (fun (pr : List (List Nat) × List (List Nat)) ws => AloneOk false pr.1 pr.2 ws) ([(w0, w1), (w1, w0)].take i) wss) (n := 2) ?finH ?turnH 2 0 [] _ rfl ⟨?stH, [], .nil, .nil⟩)
    case stH => exact fun q hq => hq
    case turnH =>
      intro i ys nw v hi hJ hv
      refine hideG ?_
      intro G9
      obtain ⟨hsub, wss, hall, hz⟩ := hJ
      obtain ⟨t, ra, rb, va, vb, ca, cb, wa, wb, rfl, ht, hra, hrb, hva, hvb, hK, htk⟩ : ∃ t ra rb va vb ca cb wa wb, v = .ref t ∧ (t, ({ cls := .type "tuple", data := .seq #[.ref ra, .ref rb] } : Obj)) ∈ nw ∧ (ra, listObj va.toArray ca) ∈ nw ∧ (rb, listObj vb.toArray cb) ∈ nw ∧ Vals wa va ∧ Vals wb vb ∧ RowsOk wa wb ∧ [(w0, w1), (w1, w0)].take (i + 1) = [(w0, w1), (w1, w0)].take i ++ [(wa, wb)] := by
        rcases i with _ | _ | i
        · exact ⟨T1, r0, r1, v0, v1, c0, c1, w0, w1, (Option.some.inj hv).symm, hsub _ (List.mem_append_left _ mT1), hsub _ (List.mem_append_left _ m0), hsub _ (List.mem_append_left _ m1), hv0, hv1, hK, rfl⟩
        · exact ⟨T2, r1, r0, v1, v0, c1, c0, w1, w0, (Option.some.inj hv).symm, hsub _ (List.mem_append_left _ mT2), hsub _ (List.mem_append_left _ m1), hsub _ (List.mem_append_left _ m0), hv1, hv0, hK.symm, rfl⟩
        · lia
      k_unfold
      refine ⟨t, _, .ref ra, .ref rb, 0, rfl, ht, rfl, rfl, ?_⟩
      intro I oI C oC D m₂ h tk E' hC hm1 hm2 F N off ne
      have N2 := news_two N hra hrb
      clear N
      refine wpAny_noRaise ?_
      k_with_none
      k_with "my comp" => (k_dflt (refine compE (by with_unfolding_all rfl) (by rfl) (by decide) ?_))
      k_with "my call" => (refine hold ?_)
      k_steps
      refine unhold ?_
      k_dflt (refine' Spec.use (alone_spec (b := false) hva hvb (by have := hK.l0; lia) (fun x hx => ⟨by have := (hK.ok0 x hx).2; lia, fun c hc => wordOk_lt (hK.ok0 x hx).1 c hc⟩) hK.nd0 (fun x hx y hy => rk_inj false (hK.ok0 x hx).1 (hK.ok0 y hy).1)) ?r1 ?r2 ?r3 N2 ?r5 ?r6 ?r7 ?r8 ?_; (case r1 => k_asm); (case r2 => k_asm); (case r3 => k_asm); (case r5 => k_asm); (case r6 => exact rfl); (case r7 => k_room); (case r8 => k_units))
      intro v9 n9 h9 tk9 F9 N9 P9
      refine hideG ?_
      intro G9
      obtain ⟨D9, vs9, ws, c9, rfl, rfl, ne9, hvs, hAl⟩ := P9
      k_unfold
      have hall9 := AloneOk.all hAl hK.ok0 hK.l0
      (try dsimp only); (try k_fold)
      k_steps
      k_dflt (refine' xgo_list (G := fun gg => gg = _) (J := fun j zs nw2 => ∃ exx, nw2 = exx ++ ((D9, listObj vs9.toArray c9) :: (ra, listObj va.toArray ca) :: (rb, listObj vb.toArray cb) :: (I, oI) :: (C, oC) :: (D, LCg.lst ys) :: nw) ∧ (∀ q ∈ exx, I < q.1 ∧ C < q.1 ∧ D < q.1) ∧ AllP (IsStrs exx) zs ((ws.take j).map dueH)) (c := c9) rfl rfl ?F2 N9 ?m2 ?s2 (by decide) (by rfl) (by rfl) ⟨[], rfl, (fun _ h => nomatch h), .nil⟩ ?R2 ?RR2)
      case F2 => k_asm
      case m2 => exact .head _
      case s2 => show vs9.toArray.size ≤ 16777216; rw [List.size_toArray, hvs.length]; have := hall9.2; lia
      case R2 =>
        intro j zs nw2 hj hS2 hJ2 g2 v2 I2 oI2 C2 oC2 D2 m3 h2 tk2 E2 hG2 hP2 hC2 hm2 F2 N2 off2 ne2
        refine hideG ?_
        intro G9
        obtain ⟨exx, rfl, hex, hzs⟩ := hJ2
        k_unfold
        subst hG2
        have hj2 : j < ws.length := by have : j < vs9.toArray.size := hj; rw [List.size_toArray, hvs.length] at this; exact this
        obtain ⟨x, hx⟩ : ∃ x, ws[j]? = some x := ⟨_, List.getElem?_eq_getElem hj2⟩
        obtain ⟨tx, hvx⟩ := hvs.get j x hx
        have hv2 : v2 = .str (SL x) tx := by
          have e1 : vs9.toArray[j]? = some v2 := hP2
          have e2 : vs9.toArray[j]? = some (.str (SL x) tx) := by simpa using hvx
          exact Option.some.inj (e1.symm.trans e2)
        subst hv2
        have lx : x.length ≤ 12 := (hall9.1 x (List.mem_of_getElem? hx)).2
        have ls : (SL x).length ≤ 12 := by show x.toArray.size ≤ 12; simpa using lx
        refine wpAny_tests_nil ?_
        simp only [if_true]
        refine wpAny_noRaise ?_
        k_with_none
        k_steps
        (with_reducible rename News _ _ _ ((_, _) :: (I2, _) :: _) => N8)
        (with_reducible rename (I2 < _) ∧ _ => l8)
        rw [take_snoc hx, List.map_append]
        k_dflt (refine' due_end ?Fe N8 l8 off2 (.tail _ hS2) (.tail _ (.tail _ (.tail _ (.head _)))) (.tail _ (.tail _ (.tail _ (.tail _ (.head _))))) (.tail _ (.tail _ (.tail _ (.tail _ (.tail _ (.head _)))))) hex hzs ?Ve; (case Fe => k_asm); (case Ve => exact ⟨_, 0, rfl, .cons (t := [107, 61]) Vals.one⟩))

      case RR2 =>
        intro g4 D4 C4 h7 tk7 m7 zs4 nw4 hG4 F7 N7 o4 hn4 hC4 hD4 hCL4 hDL4 hCD4 offC4 hJ4
        refine hideG ?_
        intro G9
        obtain ⟨exx, rfl, hex, hz4⟩ := hJ4
        k_unfold
        subst hG4
        have e4 : (ws.take vs9.toArray.size) = ws := by rw [List.size_toArray, hvs.length, List.take_length]
        rw [e4] at hz4
        have hD4' := off1_mem o4
        k_dflt (refine finE1 F7 N7 hn4 hC4 hCL4 hCD4 offC4 ?_)
        intro h8 F8 N8
        k_steps
        k_dflt (refine ⟨h8, _, (D4, LCg.lst zs4) :: (exx ++ nw), rfl, F8, ?N9, ?O9, ?S9, ?B9, wss ++ [ws], ?A9, ?Z9⟩)
        case N9 => exact news_mid6 N8
        case O9 =>
          refine LCg.Off3.of fun q hq => ?_
          simp only [List.mem_cons, List.mem_append] at hq
          rcases hq with rfl | h | h
          · exact ⟨fun e => hD4' (I, oI) (by simp) e.symm, fun e => hD4' (C, oC) (by simp) e.symm, fun e => hD4' (D, LCg.lst ys) (by simp) e.symm⟩
          · have := hex q h
            exact ⟨Nat.ne_of_gt this.1, Nat.ne_of_gt this.2.1, Nat.ne_of_gt this.2.2⟩
          · exact off.mem q h
        case S9 => exact .inr ⟨_, .tail _ (List.mem_append_right _ (hsub _ (List.mem_append_left _ mPL))), rfl, _, rfl⟩
        case B9 => exact fun q hq => .tail _ (List.mem_append_right _ (hsub q hq))
        case A9 =>
          rw [List.map_append]
          refine AllP.snoc (hall.imp fun v ts hv => hv.mono fun q hq => .tail _ (List.mem_append_right _ hq)) ⟨D4, zs4, zs4.length, rfl, .head _, hz4.imp fun v ts hv => hv.mono fun q hq => .tail _ (List.mem_append_left _ hq)⟩
        case Z9 =>
          rw [htk]
          exact hz.snoc hAl
    case finH =>
      intro ysH nwH hJ
      refine hideG ?_
      intro G9
      obtain ⟨hsubH, wss, hallH, hz⟩ := hJ
      obtain ⟨ws0H, ws1H, rfl, hA0H, hA1H⟩ := two_of hz
      k_unfold
      clear hz
      intro DH hH tkH FH NH oH
      dsimp only at FH ⊢
      have hR := hsubH _ (List.mem_append_left _ mR)
      have h0H := hsubH _ (List.mem_append_left _ m0)
      have h1H := hsubH _ (List.mem_append_left _ m1)
      have NH2 := news_old NH (fun q hq => hsubH q (List.mem_append_left _ hq))
      dsimp only [OLD, List.cons_append, List.nil_append] at NH2
      have NH3 := news_drop3 NH2
      clear NH NH2
      k_with_none
      k_with "my call" => (refine hold ?_)
      k_with "my comp" => (refine hold ?_)
      k_with "my assign" => (refine hold ?_)
      k_with "my eqs" => (refine hold ?_)
      k_steps
      have l0' : w0.length < 64 := by have := hK.l0; lia
      have l1' : w1.length < 64 := by have := hK.l1; lia
      have b0 := bounds_ok hK.ok0
      have b1 := bounds_ok hK.ok1
      refine unhold ?_
      k_dflt (refine' SpecX.use (with_shell (rd0 := ws0S.map dueS) (rd1 := ws1S.map dueS) hv0 hv1 l0' l1' (fun x hx => (b0 x hx).1) (fun x hx => (b1 x hx).1) (nodup_wT true (fun x hx => (hK.ok0 x hx).1) hK.nd0) (nodup_wT true (fun x hx => (hK.ok1 x hx).1) hK.nd1) hK.ne0 hK.ne1 (due_shell hK hA0S hA1S)) ?r1 ?r2 ?r3 NH3 ?r5 ?r6 ?r7 ktsDicts_nil ?r9 ?ra ?rb ?_; (case r1 => k_asm); (case r2 => k_asm); (case r3 => k_asm); (case r5 => k_asm); (case r6 => k_asm); (case r7 => k_asm); (case r9 => exact rfl); (case ra => k_room); (case rb => k_units))
      intro v5 n5 h5 tk5 g5 K5 B5 F5 X5 N5 P5 D5 Q5
      have F6 := fr_nil K5 F5
      have N6 := news_nil K5 N5
      clear B5 F5 X5 N5 P5 D5 K5
      refine hideG ?_
      intro G9
      obtain ⟨⟨a5, vs5, c5, rfl, hm5, hA5⟩, hs5⟩ := Q5
      k_unfold
      have hd5 : IsNest n5 (.ref DS) [ws0S.map dueS, ws1S.map dueS] := ⟨DS, ysS, _, rfl, hs5 _ (.tail _ (.tail _ (.tail _ (.tail _ (hsubH _ (List.mem_append_right _ (.head _))))))), hallS.imp fun v ts hv => hv.mono fun q hq => hs5 _ (.tail _ (.tail _ (.tail _ (.tail _ (hsubH _ (List.mem_append_right _ (.tail _ hq)))))))⟩
      have hd6 : IsNest n5 (.ref DH) [ws0H.map dueH, ws1H.map dueH] := ⟨DH, ysH, _, rfl, hs5 _ (.tail _ (.tail _ (.tail _ (.head _)))), hallH.imp fun v ts hv => hv.mono fun q hq => hs5 _ (.tail _ (.tail _ (.tail _ (.tail _ hq))))⟩
      have N7 : News _ _ _ ((R, listObj #[.ref r0, .ref r1] c) :: (r0, listObj v0.toArray c0) :: (r1, listObj v1.toArray c1) :: n5) := news_three N6 (hs5 _ (.head _)) (hs5 _ (.tail _ (.head _))) (hs5 _ (.tail _ (.tail _ (.head _))))
      clear N6
      (try dsimp only); (try k_fold)
      k_steps
      refine unhold ?_
      k_dflt (refine eq_nest N7 (t3 := [ws0S.map dueS, ws1S.map dueS]) ⟨a5, vs5, c5, rfl, .tail _ (.tail _ (.tail _ hm5)), hA5.imp fun v ts hv => hv.mono fun q hq => .tail _ (.tail _ (.tail _ hq))⟩ (nest_mono (fun q hq => .tail _ (.tail _ (.tail _ hq))) hd5) (by k_units) ?_)
      k_steps
      refine unhold ?_
      k_dflt (refine' SpecX.use (with_header (rd0 := ws0H.map dueH) (rd1 := ws1H.map dueH) hv0 hv1 l0' l1' (fun x hx => (b0 x hx).2) (fun x hx => (b1 x hx).2) (nodup_wT false (fun x hx => (hK.ok0 x hx).1) hK.nd0) (nodup_wT false (fun x hx => (hK.ok1 x hx).1) hK.nd1) hK.ne0 hK.ne1 (due_head hK hA0H hA1H)) ?r1 ?r2 ?r3 N7 ?r5 ?r6 ?r7 ktsDicts_nil ?r9 ?ra ?rb ?_; (case r1 => k_asm); (case r2 => k_asm); (case r3 => k_asm); (case r5 => k_asm); (case r6 => k_asm); (case r7 => k_asm); (case r9 => exact rfl); (case ra => k_room); (case rb => k_units))
      intro v8 n8 h8 tk8 g8 K8 B8 F8 X8 N8 P8 D8 Q8
      have F9 := fr_nil K8 F8
      have N9 := news_nil K8 N8
      clear B8 F8 X8 N8 P8 D8 K8
      refine hideG ?_
      intro G9
      obtain ⟨⟨a8, vs8, c8, rfl, hm8, hA8⟩, hs8⟩ := Q8
      k_unfold
      (try dsimp only); (try k_fold)
      k_steps
      refine unhold ?_
      k_dflt (refine eq_nest N9 (t3 := [ws0H.map dueH, ws1H.map dueH]) ⟨a8, vs8, c8, rfl, hm8, hA8⟩ (nest_mono (fun q hq => hs8 _ (.tail _ (.tail _ (.tail _ hq)))) hd6) (by k_units) ?_)
      k_steps
end

end
end Mine
theorem PySem.Challenge.cw_of0086_01_holds : PySem.Challenge.rw_of0086_01.Holds :=
  Mine.lawT
