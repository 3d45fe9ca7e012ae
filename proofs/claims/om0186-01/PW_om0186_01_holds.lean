import PyProof.Rows.All
import Wide.All
import OpenK.AllK
import Wide.FinOn
import Lean
import PySem.Challenge.RW_om0186_01
open PySem PySem.W PyProof.Rows
set_option Elab.async false
set_option maxRecDepth 100000
set_option maxHeartbeats 0
set_option linter.unusedVariables false
set_option compiler.extract_closed false
namespace Mine
-- H2
section
def btOf (l : List Obj) : Nat → Nat → Nat → BT
  | 0, _, _ => .nil
  | f + 1, a, b => match l[b]? with
    | some o => .node o (btOf l f (2 * a) (a + b)) (btOf l f (2 * a) (2 * a + b))
    | none => .nil
theorem btOf_get (l : List Obj) : ∀ (f a b i : Nat), 1 ≤ a → i < f → (btOf l f a b).get i = l[a * i + b]? := by
  intro f
  induction f with
  | zero => intro a b i _ h; omega
  | succ f ih =>
    intro a b i ha hi
    unfold btOf
    cases hb : l[b]? with
    | none =>
      have : l.length ≤ b := by simpa using hb
      show none = _
      rw [List.getElem?_eq_none (by omega)]
    | some o =>
      show (BT.node o _ _).get i = _
      rw [BT.get_node]
      by_cases h0 : i = 0
      · subst h0; simp [hb]
      · rw [if_neg h0]
        by_cases h1 : i % 2 = 1
        · rw [if_pos h1, ih _ _ _ (by omega) (by omega)]
          congr 1
          have e : i = 2 * (i / 2) + 1 := by omega
          generalize i / 2 = j at e
          subst e
          rw [Nat.mul_add, ← Nat.mul_assoc, Nat.mul_comm a 2]; omega
        · rw [if_neg h1, ih _ _ _ (by omega) (by omega)]
          congr 1
          have e : i = 2 * (i / 2 - 1) + 2 := by omega
          generalize i / 2 - 1 = j at e
          subst e
          rw [Nat.mul_add, ← Nat.mul_assoc, Nat.mul_comm a 2]; omega
def toT (s : Shared) : SharedT := ⟨btOf s.heap.objs.toList (s.heap.objs.size + 1) 1 0, s.heap.objs.size, s.heap.life, s.gens, s.drawn, s.toks, s.os⟩
theorem toT_abs (s : Shared) : (toT s).abs = s := by
  obtain ⟨⟨objs, life⟩, gens, drawn, toks, os⟩ := s
  unfold toT SharedT.abs
  (try dsimp only)
  congr 1
  unfold absHeap
  congr 1
  apply Array.ext'
  apply List.ext_getElem?
  intro i
  rw [List.toList_toArray]
  unfold BT.list
  rw [List.getElem?_map]
  by_cases h : i < objs.size
  · rw [List.getElem?_range h]
    show some (((btOf objs.toList (objs.size + 1) 1 0).get i).getD default) = _
    rw [btOf_get objs.toList (objs.size + 1) 1 0 i (by omega) (by omega)]
    have h' : i < objs.toList.length := by simpa using h
    simp [h]
  · rw [List.getElem?_eq_none (by rw [List.length_range]; omega), List.getElem?_eq_none (by simpa using h)]; rfl
def topRunT (tb : String → Option Builtin) (p : Program) (w : World) (n₀ : Nat) (ann : Option Value) : Nat → SharedT → Thread → Option SharedT
  | 0, _, _ => none
  | n + 1, s, t => match through t with
    | true => some s
    | false => match stepOk n₀ ann t with
      | false => none
      | true => match stepT (denote tb) p w s t with
        | some (s', t') => topRunT tb p w n₀ ann n s' t'
        | none => none
theorem topRun_of {tb : String → Option Builtin} {p : Program} {w : World} {n₀ : Nat} {ann : Option Value} : ∀ {n : Nat} {s s' : SharedT} {t : Thread}, topRunT tb p w n₀ ann n s t = some s' → topRun tb p w n₀ ann n s.abs t = some s'.abs
  | 0, _, _, _, h => by cases h
  | n + 1, s, s', t, h => by
    unfold topRunT at h
    unfold topRun
    cases ht : through t with
    | true => rw [ht] at h; cases h; rfl
    | false =>
      rw [ht] at h
      cases hk : stepOk n₀ ann t with
      | false => rw [hk] at h; cases h
      | true =>
        rw [hk] at h
        cases hs : stepT (denote tb) p w s t with
        | none => rw [hs] at h; cases h
        | some r =>
          obtain ⟨s₂, t₂⟩ := r
          rw [hs] at h
          rw [stepT_spec hs]
          exact topRun_of h
/-- the whole top on the tree heap, and what is seen behind it -/
def seenT {α : Type} (p q : Program) (loose : List Str) (Xt : Shared → Bool) (YT : SharedT → α) (w : World) (N : Nat) :=
  (fencedOpening treeTable p w N).bind fun s₀ => match s₀.heap.isNs mainGlobals && s₀.gens.size == 0 with
    | true => (topRunT treeTable p w s₀.heap.objs.size (s₀.heap.nsMap mainGlobals "__annotations__") N (toT s₀) (topStub p)).bind fun s₁ => match staticsOk (importedModules p.main.body) s₀.heap s₁.abs.heap && namesBound p s₁.abs.heap && gensDone s₁.abs && laidKept s₀.heap s₁.abs.heap with
      | true => some (openSeen q loose (importedModules p.main.body) Xt true s₁.abs, YT s₁)
      | false => none
    | false => none
theorem left_of {α β : Type} {p q : Program} {loose : List Str} {Xt : Shared → Bool} {YT : World → SharedT → β} {YA : World → β} {Yf : Shared → α} {Ya : World → α} {N : Nat} (h : ∀ w, seenT p q loose Xt (YT w) w N = some (openGood q loose, YA w))
    (hy : ∀ w s, YT w s = YA w → Yf s.abs = Ya w) : LeftO p q loose Xt Yf Ya N := fun w => by
  have h := h w
  unfold seenT at h
  obtain ⟨s₀, e0, h⟩ := Option.bind_eq_some_iff.mp h
  cases hg : (s₀.heap.isNs mainGlobals && s₀.gens.size == 0) with
  | false => rw [hg] at h; cases h
  | true =>
    rw [hg] at h
    obtain ⟨s₁, e1, h⟩ := Option.bind_eq_some_iff.mp h
    cases hc : (staticsOk (importedModules p.main.body) s₀.heap s₁.abs.heap && namesBound p s₁.abs.heap && gensDone s₁.abs && laidKept s₀.heap s₁.abs.heap) with
    | false => rw [hc] at h; cases h
    | true =>
      rw [hc] at h
      obtain ⟨h1, h2⟩ := Prod.mk.inj (Option.some.inj h)
      have r := topRun_of e1
      rw [toT_abs] at r
      unfold openEnds
      rw [e0]
      show (topFrom treeTable p w N s₀).map _ = _
      have t : topFrom treeTable p w N s₀ = some s₁.abs := by
        unfold topFrom
        rw [hg, r]
        show (match staticsOk (importedModules p.main.body) s₀.heap s₁.abs.heap && namesBound p s₁.abs.heap && gensDone s₁.abs && laidKept s₀.heap s₁.abs.heap with | true => _ | false => _) = _
        rw [hc]
      rw [t]
      exact congrArg some (Prod.ext h1 (hy w s₁ h2))
def okK (n : Nat) (K : Frag) : Bool := K.all fun p => Nat.blt p.1 n && (match p.2.data with | .freed => false | _ => true)
theorem look_k {s : SharedT} {n : Nat} (hn : s.n = n) : ∀ {K : Frag}, okK n K = true → (K.map fun p => s.tree.get p.1) = (K.map fun p => some p.2) → (K.map (·.1)).map s.abs.heap.get? = K.map fun p => some p.2
  | [], _, _ => rfl
  | p :: K, ok, h => by
    unfold okK at ok
    rw [List.all_cons, Bool.and_eq_true, Bool.and_eq_true] at ok
    rw [List.map_cons, List.map_cons] at h
    obtain ⟨h1, h2⟩ := List.cons.inj h
    rw [List.map_cons, List.map_cons, List.map_cons, look_k hn ok.2 h2]
    congr 1
    show (absHeap s.tree s.n s.life).get? p.1 = _
    rw [abs_get (by rw [hn]; exact Nat.blt_eq.mp ok.1.1) h1]
    have := ok.1.2
    obtain ⟨a, ⟨c, d, dt, sl⟩⟩ := p
    cases dt <;> first | rfl | cases this
theorem left_k {p q : Program} {loose : List Str} {Xt : Shared → Bool} {K : Params → Frag} {as : List Addr} {e : ∀ P, as = (K P).map (·.1)} {N n : Nat}
    (h : ∀ w : World, seenT p q loose Xt (fun s => (s.n, (K w.params).map fun p => s.tree.get p.1)) w N = some (openGood q loose, (n, (K w.params).map fun p => some p.2)))
    (ok : ∀ P, okK n (K P) = true) : LeftO p q loose Xt (kHook K as e).obs (kHook K as e).val N :=
  left_of (YT := fun w s => (s.n, (K w.params).map fun p => s.tree.get p.1)) (YA := fun w => (n, (K w.params).map fun p => some p.2)) h fun w s hy => by
    obtain ⟨h1, h2⟩ := Prod.mk.inj hy
    show as.map s.abs.heap.get? = (K w.params).map fun p => some p.2
    rw [e w.params]
    exact look_k h1 (ok w.params) h2
def q : Program := view PySem.Challenge.pw_om0186_01 [57]
def loose : List Str := [Str.ofString "_sre", Str.ofString "deque", Str.ofString "_wall", Str.ofString "_whence", Str.ofString "_index", Str.ofString "UnsupportedOperation", Str.ofString "IOBase", Str.ofString "BufferedIOBase", Str.ofString "TextIOBase", Str.ofString "BytesIO", Str.ofString "StringIO", Str.ofString "_kind", Str.ofString "_fspath", Str.ofString "_check_arg_types", Str.ofString "isabs", Str.ofString "join", Str.ofString "dirname", Str.ofString "shlex", Str.ofString "S_IFMT", Str.ofString "S_IFDIR", Str.ofString "S_IFCHR", Str.ofString "S_IFBLK", Str.ofString "S_IFREG", Str.ofString "S_IFIFO", Str.ofString "S_IFLNK", Str.ofString "S_IFSOCK", Str.ofString "S_ISUID", Str.ofString "S_ISGID", Str.ofString "S_ISVTX", Str.ofString "S_IRUSR", Str.ofString "S_IWUSR", Str.ofString "S_IXUSR", Str.ofString "S_IRGRP", Str.ofString "S_IWGRP", Str.ofString "S_IXGRP", Str.ofString "S_IROTH", Str.ofString "S_IWOTH", Str.ofString "S_IXOTH", Str.ofString "_filemode_table", Str.ofString "filemode", Str.ofString "tspecials", Str.ofString "_name_disallowed_re", Str.ofString "_value_disallowed_re", Str.ofString "_formatparam", Str.ofString "Headers", Str.ofString "_law_row", Str.ofString "_law_mode", Str.ofString "_law_table", Str.ofString "_law_lines", Str.ofString "_law_told", Str.ofString "_law_due"]
lay_quick seenT
theorem seen_rec {α : Type} {o : Option α} {v : α} (h : @Option.rec α (fun _ => Bool × α) (false, v) (fun x => (true, x)) o = (true, v)) : o = some v := by
  cases o with
  | none => cases h
  | some x => exact congrArg some (congrArg Prod.snd h)
end
-- H3
section
theorem said_look : PySem.W.Fast.tw12908688711261696721 PySem.Challenge.pw_om0186_01 = true := by
  unfold PySem.W.Fast.tw12908688711261696721
  repeat' (with_reducible refine look_both ?_ ?_)
  all_goals decide +kernel
theorem said_part : PySem.W.Fast.tw17960256430627541270 (PySem.W.Fast.tw2368527892694137696 PySem.Challenge.rw_om0186_01) = true := by
  unfold PySem.W.Fast.tw17960256430627541270 PySem.W.Fast.tw2436336058641802641
  repeat' (with_reducible refine look_both ?_ ?_)
  · exact said_look
  all_goals decide +kernel
theorem said : PySem.Challenge.rw_om0186_01.wellSaid = true := by
  rw [PySem.W.Fast.te9446332074065402090]
  unfold PySem.W.Fast.tw9446332074065402090
  repeat' (with_reducible refine look_both ?_ ?_)
  · exact said_part
  all_goals decide +kernel
end
-- H4
section
local macro_rules | `(tactic| o_law) => `(tactic| refine holds_law said fun said => ?_)
local macro_rules | `(tactic| o_head $H) => `(tactic| (
  refine (fun x => W.holds_open (q := Mine.q) (loose := Mine.loose) (Xt := fun s => xlAt Mine.q [] s && recOk [] s) (XP := XL Mine.q []) (Yf := Hook.obs $H) (Ya := Hook.val $H) (YP := Hook.says $H) (N := 6400) (left_k (n := 972) (And.left x) (fun _ => by kernel_rfl)) (Hook.of $H) (Hook.keeps $H) (fun s e => xl_of s (Bool.and_eq_true_iff.mp e).1) XL.keeps (by rfl) (by rfl) (by rfl) (fun s e => recFacts_of (Bool.and_eq_true_iff.mp e).2) (by rfl) (by assumption) (by decide +kernel) ⟨rfl, rfl, rfl, rfl, rfl, by decide +kernel⟩ ?hw (And.right x)) ?hc))
open_top hd for PySem.Challenge.rw_om0186_01
end
-- H7
section
theorem hl : ∀ w : World, seenT PySem.Challenge.pw_om0186_01 q loose (fun s => xlAt q [] s && recOk [] s) (fun s => (s.n, (hd.heap_1 w.params).map fun p => s.tree.get p.1)) w 6400 = some (openGood q loose, (972, (hd.heap_1 w.params).map fun p => some p.2)) := fun w => by
  refine seen_rec ?_
  rw [PySem.W.Fast.te1927217125381896123]
  kernel_rfl
end
local macro_rules | `(tactic| walk_at $s:str) => `(tactic| k_extra $s)
local macro_rules | `(tactic| k_lt $h:ident) => `(tactic| (replace $h := allLt_of $h; dsimp only [AllLt] at $h:ident))
local macro_rules | `(tactic| k_all) => `(tactic| k_extra "own all")
local macro_rules | `(tactic| k_mem) => `(tactic| k_extra "own mem")
local macro_rules | `(tactic| k_ne) => `(tactic| k_extra "own ne")
-- C1
local macro_rules | `(tactic| k_room) => `(tactic| ktr_room)
local macro_rules | `(tactic| k_units) => `(tactic| ktr_units)
section
theorem fillK : (PySem.Challenge.rw_om0186_01, hd.heap_1) = (PySem.Challenge.rw_om0186_01, hd.heap_1) := by k_fill; rfl
section
variable {w : World} {mean : ExcName → Option Value} {mg mb : Str → Option Value} {dp un : Nat} {gd : Option (List Code)} {cn : Str} {cs : Scope} {a : Addr} {ccd : Value} {cl : List (Str × Addr)} {outer : List Env} {A₀ : Around} {base h₀ : Heap} {L : Addr} {m : Str → Option Value} {s : Shared} {Q E : Value → Shared → Prop}

theorem gsub_keep {H g h' : Heap} {L' : Addr} {m' : Str → Option Value} {adr : List Addr} (G : GSub H g adr) (F' : Fr g L' h' m') : GSub H h' adr := fun b o e n => F'.keep b o (G b o e n)
theorem news_keep {h₀ H h' : Heap} {L : Addr} {news : List (Addr × Obj)} (N : News h₀ L H news) (G : GSub H h' []) : News h₀ L h' news := fun p hp => ⟨G _ _ (N p hp).1 (fun h => nomatch h), (N p hp).2⟩
theorem news_sub {h₀ h : Heap} {L : Addr} {a b : List (Addr × Obj)} (N : News h₀ L h a) (hs : ∀ p ∈ b, p ∈ a) : News h₀ L h b := fun p hp => N p (hs p hp)
theorem upd_mem {d : Addr} {o o' : Obj} {news news' : List (Addr × Obj)} (U : Upd d o o' news news') : (d, o) ∈ news := by
  obtain ⟨pre, post, e1, _, _, _⟩ := U.split
  subst e1; simp
theorem upd_mem' {d : Addr} {o o' : Obj} {news news' : List (Addr × Obj)} (U : Upd d o o' news news') : ∀ p ∈ news', p = (d, o') ∨ (p ∈ news ∧ p.1 ≠ d) := by
  obtain ⟨pre, post, e1, e2, n1, n2⟩ := U.split
  subst e1 e2
  intro p hp
  rcases List.mem_append.mp hp with h | h
  · exact .inr ⟨List.mem_append_left _ h, n1 p h⟩
  · rcases List.mem_cons.mp h with h | h
    · exact .inl h
    · exact .inr ⟨List.mem_append_right _ (.tail _ h), n2 p h⟩
/-- the caller's ledger behind a call: what it owned is as the callee left it, all else as it was -/
theorem news_back {h₀ H g h' : Heap} {L L' : Addr} {m' : Str → Option Value} {news news' mine mine' : List (Addr × Obj)} (N : News h₀ L H news) (Nm : News h₀ L H mine) (G : GSub H g (mine.map (·.1))) (F' : Fr g L' h' m') (N' : News h₀ L h' mine')
    (hs : ∀ p ∈ news', p ∈ mine' ∨ (p ∈ news ∧ ∀ x ∈ mine, x.1 = p.1 → x ∈ mine')) : News h₀ L h' news' := by
  intro p hp
  rcases hs p hp with h | ⟨h, hx⟩
  · exact N' p h
  · refine ⟨?_, (N p h).2⟩
    by_cases hin : p.1 ∈ mine.map (·.1)
    · obtain ⟨p', hp', e⟩ := List.mem_map.mp hin
      have h1 := (Nm p' hp').1
      have h2 := (N p h).1
      have h3 := (N' p' (hx p' hp' e)).1
      have e : p'.1 = p.1 := e
      rw [e, h2] at h1
      rw [e, ← h1] at h3
      exact h3
    · exact gsub_keep G F' _ _ (N p h).1 hin
theorem index_c {t : Tok} {v : Value} {news : List (Addr × Obj)} (B : Below A₀ base outer h₀) (F : Fr h₀ L s.heap m) (X : (hd.heap_1 w.params).In h₀) (T : Top q (looseW q loose) mean mg mb h₀) (hk : cs.kind = .function) (hdp : dp + 1 < recursionLimit) (hun : un + 8 < cLine) (N0 : News h₀ L s.heap news)
    (hret : ∀ t' h' tk', Fr h₀ L h' m → News h₀ L h' news → Q (.int 1 t') { s with heap := h', toks := tk' }) :
    wpAny (model PySem.Challenge.pw_om0186_01 w) (ktrTop dp un gd cn cs L a ccd cl outer) (call (.ref 58) [.int 1 t, v]) Q E s := by
  w_on
  have N : News h₀ L s.heap [] := News.nil
  refine wpAny_call ?_
  k_dflt (refine' code_defG ?k1 ?k2 ?k3 N ?k5 ?kA ?kF ?kK ?k6 ?k7 ?k8 ?k9 ?kB ?_ ?c2 ?c3 ?c4 ?c5; (case kA => exact rfl); (case kF => exact rfl); (case kK => assumption); (case k1 => k_asm); (case k2 => k_asm); (case k3 => k_asm); (case k5 => k_asm); (case k6 => k_is); (case k7 => k_is); (case k8 => ktr_room); (case k9 => first | exact BindsTo.of_eq rfl | exact binds_K (by k_in) rfl (by k_is) rfl rfl rfl); (case c5 => decide); (case kB => exact locs rfl); (case c2 => exact rfl); (case c3 => exact rfl); (case c4 => exact rfl); k_whole; intro g' L' h' FG' F' N' B' X' T' GS'; (try dsimp only); (try k_fold))
  (try (show wpAny _ _ _ _ _ _; k_fold))
  k_steps
  exact hret _ _ _ (by k_asm) (news_keep N0 (gsub_keep GS' (by assumption)))
abbrev sioD (P : Params) (k1 k2 k3 : Tok) (nl buf pos : Value) : Obj := dictOf [⟨PyData.keyHash P (Str.ofString "_StringIO__newline"), .str (Str.ofString "_StringIO__newline") k1, nl⟩, ⟨PyData.keyHash P (Str.ofString "_StringIO__buf"), .str (Str.ofString "_StringIO__buf") k2, buf⟩, ⟨PyData.keyHash P (Str.ofString "_StringIO__pos"), .str (Str.ofString "_StringIO__pos") k3, pos⟩] 3
theorem slice_one {text : Str} {p : Nat} {c : Nat} {rest : List Nat} (h : text.cps.toList.drop p = c :: rest) : Txt.slice text (some (p : Int)) (some ((p : Int) + 1)) = ⟨#[c]⟩ := by
  have hl : p < text.cps.toList.length := by
    rcases Nat.lt_or_ge p text.cps.toList.length with h' | h'
    · exact h'
    · rw [List.drop_eq_nil_of_le h'] at h; cases h
  have := slice_closes (x := text) (i := (p : Int)) (j := (p : Int) + 1) ⟨by omega, by omega, by omega⟩
  rw [eq_of_beq this]
  have e1 : ((p : Int) + 1 - (p : Int)).toNat = 1 := by omega
  rw [e1, Int.toNat_natCast, h]
  rfl
theorem len_of_drop {text : Str} {p : Nat} {c : Nat} {rest : List Nat} (h : text.cps.toList.drop p = c :: rest) : p < text.length := by
  rcases Nat.lt_or_ge p text.cps.toList.length with h' | h'
  · show p < text.cps.size; simpa using h'
  · rw [List.drop_eq_nil_of_le h'] at h; cases h
theorem kw1 : True := by
  k_with_none
  k_with "call ref" => (k_here; (with_reducible show wpAny _ _ (call (Value.ref 58) [Value.int 1 _, _]) _ _ _); k_dflt (refine' index_c ?k19q ?k29q ?k39q ?k59q ?kK9q ?kd9q ?ku9q ?kn9q ?_; (case k19q => k_asm); (case k29q => k_asm); (case k39q => k_asm); (case k59q => k_asm); (case kK9q => first | exact rfl | assumption); (case kn9q => k_asm); (case kd9q => ktr_room); (case ku9q => ktr_units); k_whole; intro t9k h9k tk9k F9k N9k; (try k_sweep)))
  k_with "execs cons" => ((with_reducible refine wpAny_execs_cons ?_); (try dsimp only); (try k_fold))
  k_with "own ne" => (refine neN ?_; (try dsimp only); first | with_reducible assumption | (refine Ne.symm ?_; with_reducible assumption) | (refine Nat.ne_of_lt ?_; first | with_reducible assumption | with_reducible exact And.left (by with_reducible assumption) | with_reducible exact And.left (And.right (by with_reducible assumption)) | with_reducible exact And.left (And.right (And.right (by with_reducible assumption))) | with_reducible exact And.left (And.right (And.right (And.right (by with_reducible assumption)))) | with_reducible exact And.left (And.right (And.right (And.right (And.right (by with_reducible assumption))))) | with_reducible exact And.left (And.right (And.right (And.right (And.right (And.right (by with_reducible assumption)))))) | with_reducible exact And.left (And.right (And.right (And.right (And.right (And.right (And.right (by with_reducible assumption))))))) | with_reducible exact And.left (And.right (And.right (And.right (And.right (And.right (And.right (And.right (by with_reducible assumption)))))))) | with_reducible exact And.left (And.right (And.right (And.right (And.right (And.right (And.right (And.right (And.right (by with_reducible assumption))))))))) | with_reducible exact And.right (by with_reducible assumption) | with_reducible exact And.right (And.right (by with_reducible assumption)) | with_reducible exact And.right (And.right (And.right (by with_reducible assumption))) | with_reducible exact And.right (And.right (And.right (And.right (by with_reducible assumption)))) | with_reducible exact And.right (And.right (And.right (And.right (And.right (by with_reducible assumption))))) | with_reducible exact And.right (And.right (And.right (And.right (And.right (And.right (by with_reducible assumption)))))) | with_reducible exact And.right (And.right (And.right (And.right (And.right (And.right (And.right (by with_reducible assumption))))))) | with_reducible exact And.right (And.right (And.right (And.right (And.right (And.right (And.right (And.right (by with_reducible assumption))))))))) | (refine Nat.ne_of_gt ?_; first | with_reducible assumption | with_reducible exact And.left (by with_reducible assumption) | with_reducible exact And.left (And.right (by with_reducible assumption)) | with_reducible exact And.left (And.right (And.right (by with_reducible assumption))) | with_reducible exact And.left (And.right (And.right (And.right (by with_reducible assumption)))) | with_reducible exact And.left (And.right (And.right (And.right (And.right (by with_reducible assumption))))) | with_reducible exact And.left (And.right (And.right (And.right (And.right (And.right (by with_reducible assumption)))))) | with_reducible exact And.left (And.right (And.right (And.right (And.right (And.right (And.right (by with_reducible assumption))))))) | with_reducible exact And.left (And.right (And.right (And.right (And.right (And.right (And.right (And.right (by with_reducible assumption)))))))) | with_reducible exact And.left (And.right (And.right (And.right (And.right (And.right (And.right (And.right (And.right (by with_reducible assumption))))))))) | with_reducible exact And.right (by with_reducible assumption) | with_reducible exact And.right (And.right (by with_reducible assumption)) | with_reducible exact And.right (And.right (And.right (by with_reducible assumption))) | with_reducible exact And.right (And.right (And.right (And.right (by with_reducible assumption)))) | with_reducible exact And.right (And.right (And.right (And.right (And.right (by with_reducible assumption))))) | with_reducible exact And.right (And.right (And.right (And.right (And.right (And.right (by with_reducible assumption)))))) | with_reducible exact And.right (And.right (And.right (And.right (And.right (And.right (And.right (by with_reducible assumption))))))) | with_reducible exact And.right (And.right (And.right (And.right (And.right (And.right (And.right (And.right (by with_reducible assumption))))))))))
  trivial
theorem read_c {x dx : Addr} {t t2 t3 k1 k2 k3 : Tok} {nl : Value} {text : Str} {p : Nat} {c : Nat} {rest : List Nat} {news : List (Addr × Obj)} {news' : Tok → List (Addr × Obj)} (B : Below A₀ base outer h₀) (F : Fr h₀ L s.heap m) (X : (hd.heap_1 w.params).In h₀) (T : Top q (looseW q loose) mean mg mb h₀) (hk : cs.kind = .function) (hdp : dp + 2 < recursionLimit) (hun : un + 16 < cLine) (N0 : News h₀ L s.heap news)
    (hx : (x, instObj 592 dx) ∈ news) (U : ∀ t3', Upd dx (sioD w.params k1 k2 k3 nl (.str text t2) (.int (p : Int) t3)) (sioD w.params k1 k2 k3 nl (.str text t2) (.int ((p + 1 : Nat) : Int) t3')) news (news' t3')) (hc : text.cps.toList.drop p = c :: rest) (hne : x ≠ dx) (hsz : text.length ≤ 1000000)
    (hret : ∀ t' t3' h' tk', Fr h₀ L h' m → News h₀ L h' (news' t3') → Q (.str ⟨#[c]⟩ t') { s with heap := h', toks := tk' }) :
    wpAny (model PySem.Challenge.pw_om0186_01 w) (ktrTop dp un gd cn cs L a ccd cl outer) (call (.ref 538) [.ref x, .int 1 t]) Q E s := by
  w_on
  have N : News h₀ L s.heap [(x, instObj 592 dx), (dx, sioD w.params k1 k2 k3 nl (.str text t2) (.int (p : Int) t3))] := news_sub N0 (List.forall_mem_cons.mpr ⟨hx, List.forall_mem_cons.mpr ⟨upd_mem (U 0), List.forall_mem_nil _⟩⟩)
  have hp1 := len_of_drop hc
  have hsl := slice_one hc
  have fin : ∀ {h' : Heap} {g : Heap} {L' : Addr} {m' : Str → Option Value} {t' t3' : Tok} {tk' : Nat} {z : Int} {st : Str}, GSub s.heap g ([(x, instObj 592 dx), (dx, sioD w.params k1 k2 k3 nl (.str text t2) (.int (p : Int) t3))].map (·.1)) → Fr g L' h' m' → Fr h₀ L h' m → News h₀ L h' [(x, instObj 592 dx), (dx, sioD w.params k1 k2 k3 nl (.str text t2) (.int z t3'))] → z = ((p + 1 : Nat) : Int) → st = ⟨#[c]⟩ → Q (.str st t') { s with heap := h', toks := tk' } := by
    intro h' g L' m' t' t3' tk' z st G F' F1 N1 hz hst
    subst hz hst
    refine hret _ t3' _ _ F1 (news_back N0 N G F' N1 fun p hp => ?_)
    rcases upd_mem' (U t3') p hp with h | ⟨h1, h2⟩
    · subst h; exact .inl (.tail _ (.head _))
    · refine .inr ⟨h1, fun y hy e => ?_⟩
      rcases List.mem_cons.mp hy with h | h
      · subst h; exact .head _
      · rcases List.mem_cons.mp h with h | h
        · subst h; exact absurd e.symm h2
        · cases h
  clear hret U N0
  refine wpAny_call ?_
  k_dflt (refine' code_defG ?k1 ?k2 ?k3 N ?k5 ?kA ?kF ?kK ?k6 ?k7 ?k8 ?k9 ?kB ?_ ?c2 ?c3 ?c4 ?c5; (case kA => exact rfl); (case kF => exact rfl); (case kK => assumption); (case k1 => k_asm); (case k2 => k_asm); (case k3 => k_asm); (case k5 => k_asm); (case k6 => k_is); (case k7 => k_is); (case k8 => ktr_room); (case k9 => first | exact BindsTo.of_eq rfl | exact binds_K (by k_in) rfl (by k_is) rfl rfl rfl); (case c5 => decide); (case kB => exact locs rfl); (case c2 => exact rfl); (case c3 => exact rfl); (case c4 => exact rfl); k_whole; intro g' L' h' FG' F' N' B' X' T' GS'; (try dsimp only); (try k_fold))
  (try (show wpAny _ _ _ _ _ _; k_fold))
  k_steps
  · exact fin GS' (by assumption) (by k_asm) (by k_asm) (by omega) hsl
  · exact fin GS' (by assumption) (by k_asm) (by k_asm) (by omega) (by rw [← hsl]; congr 2; omega)
theorem read_e {x dx : Addr} {t t2 t3 k1 k2 k3 : Tok} {nl : Value} {text : Str} {p : Nat} {news : List (Addr × Obj)} (B : Below A₀ base outer h₀) (F : Fr h₀ L s.heap m) (X : (hd.heap_1 w.params).In h₀) (T : Top q (looseW q loose) mean mg mb h₀) (hk : cs.kind = .function) (hdp : dp + 2 < recursionLimit) (hun : un + 16 < cLine) (N0 : News h₀ L s.heap news)
    (hx : (x, instObj 592 dx) ∈ news) (hd : (dx, sioD w.params k1 k2 k3 nl (.str text t2) (.int (p : Int) t3)) ∈ news) (hc : text.length ≤ p) (hne : x ≠ dx) (hsz : text.length ≤ 1000000)
    (hret : ∀ t' h' tk', Fr h₀ L h' m → News h₀ L h' news → Q (.str (Str.ofString "") t') { s with heap := h', toks := tk' }) :
    wpAny (model PySem.Challenge.pw_om0186_01 w) (ktrTop dp un gd cn cs L a ccd cl outer) (call (.ref 538) [.ref x, .int 1 t]) Q E s := by
  w_on
  have N : News h₀ L s.heap [(x, instObj 592 dx), (dx, sioD w.params k1 k2 k3 nl (.str text t2) (.int (p : Int) t3))] := news_sub N0 (List.forall_mem_cons.mpr ⟨hx, List.forall_mem_cons.mpr ⟨hd, List.forall_mem_nil _⟩⟩)
  refine wpAny_call ?_
  k_dflt (refine' code_defG ?k1 ?k2 ?k3 N ?k5 ?kA ?kF ?kK ?k6 ?k7 ?k8 ?k9 ?kB ?_ ?c2 ?c3 ?c4 ?c5; (case kA => exact rfl); (case kF => exact rfl); (case kK => assumption); (case k1 => k_asm); (case k2 => k_asm); (case k3 => k_asm); (case k5 => k_asm); (case k6 => k_is); (case k7 => k_is); (case k8 => ktr_room); (case k9 => first | exact BindsTo.of_eq rfl | exact binds_K (by k_in) rfl (by k_is) rfl rfl rfl); (case c5 => decide); (case kB => exact locs rfl); (case c2 => exact rfl); (case c3 => exact rfl); (case c4 => exact rfl); k_whole; intro g' L' h' FG' F' N' B' X' T' GS'; (try dsimp only); (try k_fold))
  (try (show wpAny _ _ _ _ _ _; k_fold))
  k_steps
  exact hret _ _ _ (by k_asm) (news_back N0 N GS' (by assumption) (by k_asm) fun p hp => .inr ⟨hp, fun y hy _ => hy⟩)
end
end
-- D1
section
open PySem.Builtin
abbrev dqO (n : Int) (items : List Value) : Obj := { cls := .type "collections.deque", data := .fields (Value.none :: Value.int n 0 :: items).toArray }
theorem plainAttrs_dq : PlainAttrs "collections.deque" :=
  ⟨⟨"collections.deque.__getattribute__", by rw [typeLookup_type, builtinLookup_eq_fast]; kernel_rfl, by decide +kernel⟩, by rw [typeLookup_type, builtinLookup_eq_fast]; kernel_rfl⟩
theorem slot_apl : Slot "collections.deque" "appendleft" "collections.deque.appendleft" :=
  .of (owner := "collections.deque") (n := "appendleft") (by rw [typeLookup_type, builtinLookup_eq_fast]; kernel_rfl) (by decide +kernel) (by decide +kernel) (by decide +kernel)
    (by first | exact .inl (by decide +kernel) | exact .inr (by decide +kernel)) (by rw [isSubtype_type]; kernel_rfl)
theorem slot_pop : Slot "collections.deque" "popleft" "collections.deque.popleft" :=
  .of (owner := "collections.deque") (n := "popleft") (by rw [typeLookup_type, builtinLookup_eq_fast]; kernel_rfl) (by decide +kernel) (by decide +kernel) (by decide +kernel)
    (by first | exact .inl (by decide +kernel) | exact .inr (by decide +kernel)) (by rw [isSubtype_type]; kernel_rfl)
theorem slot_len : Slot "collections.deque" "__len__" "collections.deque.__len__" :=
  .of (owner := "collections.deque") (n := "__len__") (by rw [typeLookup_type, builtinLookup_eq_fast]; kernel_rfl) (by decide +kernel) (by decide +kernel) (by decide +kernel)
    (by first | exact .inl (by decide +kernel) | exact .inr (by decide +kernel)) (by rw [isSubtype_type]; kernel_rfl)
theorem ty_apl : typeOf (.builtin "collections.deque.appendleft") = pure (.type "method_descriptor") := by show builtinType _ = _; rw [builtinType_eq_fast]; kernel_rfl
theorem ty_pop : typeOf (.builtin "collections.deque.popleft") = pure (.type "method_descriptor") := by show builtinType _ = _; rw [builtinType_eq_fast]; kernel_rfl
theorem entry_apl : entryFor table "collections.deque.appendleft" = some Builtin.«collections.deque.appendleft» := entryFor_of_tree (by kernel_rfl)
theorem entry_pop : entryFor table "collections.deque.popleft" = some Builtin.«collections.deque.popleft» := entryFor_of_tree (by kernel_rfl)
theorem entry_dlen : entryFor table "collections.deque.__len__" = some Builtin.«collections.deque.__len__» := entryFor_of_tree (by kernel_rfl)
theorem args_apl (a b : Value) : argsOk "collections.deque.appendleft" ⟨[a, b], []⟩ := by unfold argsOk; kernel_rfl
theorem args_pop (a : Value) : argsOk "collections.deque.popleft" ⟨[a], []⟩ := by unfold argsOk; kernel_rfl
theorem args_dlen (a : Value) : argsOk "collections.deque.__len__" ⟨[a], []⟩ := by unfold argsOk; kernel_rfl
theorem noBool_dq : typeLookup (.type "collections.deque") "__bool__" = pure none := by rw [typeLookup_type, builtinLookup_eq_fast]; kernel_rfl
end
-- D2
section
open PySem.Builtin
section
variable {prog : Program} {w : World} {A : Around} {E : Value → Shared → Prop} {s : Shared} {d : Addr} {n : Int} {items : List Value}
theorem dq_type (ho : s.heap.get? d = some (dqO n items)) : s.TypeIs (.ref d) "collections.deque" := ⟨_, ho, rfl⟩
theorem dq_fields {M : Model} {Q : Array Value → Shared → Prop} (ho : s.heap.get? d = some (dqO n items)) (h : Q (Value.none :: Value.int n 0 :: items).toArray s) : wpAny M A (fieldsOf (.ref d)) Q E s := by
  unfold fieldsOf
  exact wpAny_bind (wpAny_load ho (wpAny_pure h))
theorem dq_field0 {M : Model} {Q : Value → Shared → Prop} (ho : s.heap.get? d = some (dqO n items)) (h : Q .none s) : wpAny M A (field (.ref d) 0) Q E s := by
  unfold field
  exact wpAny_bind (dq_fields ho (wpAny_pure h))
theorem dq_field1 {M : Model} {Q : Value → Shared → Prop} (ho : s.heap.get? d = some (dqO n items)) (h : Q (.int n 0) s) : wpAny M A (field (.ref d) 1) Q E s := by
  unfold field
  exact wpAny_bind (dq_fields ho (wpAny_pure h))
theorem dq_change {M : Model} {items' : List Value} {f : Array Value → Array Value} {Q : Unit → Shared → Prop} (ho : s.heap.get? d = some (dqO n items)) (hf : f items.toArray = items'.toArray) (hz : items'.length ≤ 1000)
    (h : ∀ h', Heap.SameBut d s.heap h' → h'.get? d = some (dqO (n + 1) items') → Q () { s with heap := h' }) : wpAny M A (Deque.change (.ref d) f) Q E s := by
  unfold Deque.change Deque.state
  refine wpAny_bind (wpAny_bind (dq_field1 ho (wpAny_pure ?_)))
  unfold updateFields
  refine wpAny_bind (wpAny_load ho ?_)
  have hg : (s.heap.update d (Obj.mapFields fun vs => #[vs.getD 0 .none, rawInt (if (true : Bool) = true then n + 1 else n)] ++ f (vs.extract 2 vs.size))).get? d = some (dqO (n + 1) items') := by
    rw [Heap.get?_update_self _ ho rfl]
    congr 1
    show Obj.mk _ _ (Data.fields _) _ = _
    congr 2
    have e : (Value.none :: Value.int n 0 :: items).toArray.extract 2 (Value.none :: Value.int n 0 :: items).toArray.size = items.toArray := by
      simp
    show #[_, _] ++ f _ = _
    rw [e, hf]
    simp [rawInt]
  refine wpAny_bind (wpAny_update ho ?_)
  refine wpAny_lookBehind hg (pastItsLine_fields ?_) (h _ (Heap.SameBut.update _ _ _) hg)
  simp only [List.size_toArray, List.length_cons]
  have : sizeLine = 2 ^ 24 := rfl
  omega
theorem dq_getm {M : Model} {name : Str} {id : String} {pl : Sem Bool} {Q : Value × List Value → Shared → Prop} (ho : s.heap.get? d = some (dqO n items)) (sl : Slot "collections.deque" name id) (ht : typeOf (.builtin id) = pure (.type "method_descriptor")) (h : Q (.builtin id, [.ref d]) s) : wpAny M A (getMethod (.ref d) name pl) Q E s :=
  getMethod_builtin (dq_type ho) plainAttrs_dq sl ht (fun a e => by cases e; exact ⟨_, ho, rfl⟩) h
theorem dq_appendleft {x : Value} {Q : Value → Shared → Prop} (ho : s.heap.get? d = some (dqO n items)) (hz : items.length < 1000)
    (h : ∀ h', Heap.SameBut d s.heap h' → h'.get? d = some (dqO (n + 1) (x :: items)) → Q .none { s with heap := h' }) : wpAny (model prog w) A (call (.builtin "collections.deque.appendleft") [.ref d, x]) Q E s := by
  refine wpAny_call_entry slot_apl (dq_type ho) entry_apl ?_ (args_apl _ _)
  unfold Builtin.«collections.deque.appendleft»
  refine wpAny_bind (m := selfAndOne _ _) (wpAny_pure ?_)
  unfold Deque.pushLeft
  refine wpAny_bind (wpAny_bind (dq_change ho (items' := x :: items) (by simp) (by simp; omega) fun h' hs hg => ?_))
  unfold Deque.maxlen
  refine wpAny_bind (wpAny_bind (dq_field0 (s := { s with heap := h' }) hg (wpAny_pure ?_)))
  exact wpAny_pure (wpAny_pure ⟨_, rfl, h h' hs hg⟩)
theorem dq_popleft {x : Value} {rest : List Value} {Q : Value → Shared → Prop} (ho : s.heap.get? d = some (dqO n (x :: rest))) (hz : rest.length < 1000)
    (h : ∀ h', Heap.SameBut d s.heap h' → h'.get? d = some (dqO (n + 1) rest) → Q x { s with heap := h' }) : wpAny (model prog w) A (call (.builtin "collections.deque.popleft") [.ref d]) Q E s := by
  refine wpAny_call_entry slot_pop (dq_type ho) entry_pop ?_ (args_pop _)
  unfold Builtin.«collections.deque.popleft»
  refine wpAny_bind (m := selfOnly _ _) (wpAny_pure ?_)
  unfold Deque.items
  refine wpAny_bind (wpAny_bind (dq_fields ho (wpAny_pure ?_)))
  have e : ((Value.none :: Value.int n 0 :: x :: rest).toArray.extract 2 (Value.none :: Value.int n 0 :: x :: rest).toArray.size)[0]? = some x := by simp
  simp only [e]
  refine wpAny_bind (dq_change ho (items' := rest) (by simp) (by omega) fun h' hs hg => ?_)
  exact wpAny_pure ⟨_, rfl, h h' hs hg⟩
theorem dq_truthy {Q : Bool → Shared → Prop} (ho : s.heap.get? d = some (dqO n items)) (hz : items.length < 1000) (h : ∀ tk, Q (!items.isEmpty) { s with toks := tk }) : wpAny (model prog w) A (truthy (.ref d)) Q E s := by
  have hT := dq_type ho
  have len_ : ∀ {Q : Value → Shared → Prop}, (∀ tk t, Q (.int items.length t) { s with toks := tk }) → wpAny (model prog w) A.in1 (Builtin.«len» ⟨[.ref d], []⟩) (fun fin s' => ∃ r, fin = .done (.ret r) ∧ Q r s') E s := by
    intro Q h
    unfold Builtin.«len»
    refine wpAny_bind (m := oneArg "len" _) (wpAny_pure ?_)
    refine wpAny_bind (m := callSpecial? (.ref d) (Str.ofString "__len__")) (wpAny_callSpecial?_slot (name := Str.ofString "__len__") hT slot_len (wpAny_call_entry slot_len hT entry_dlen ?_ (args_dlen _)))
    unfold Builtin.«collections.deque.__len__»
    refine wpAny_bind (m := slotArgs _ _ _) (wpAny_pure ?_)
    unfold Deque.size
    refine wpAny_bind (wpAny_bind (dq_fields ho (wpAny_pure ?_)))
    refine wpAny_bind (wpAny_mkInt (wpAny_pure ⟨_, rfl, ?_⟩))
    refine wpAny_bind (wpAny_holding (wpAny_pure ?_))
    refine wpAny_bind (wpAny_letGo ?_)
    have e : (((Value.none :: Value.int n 0 :: items).toArray.size - 2 : Nat) : Int) = (items.length : Int) := by simp
    rw [e]
    show wpAny _ _ (if ((items.length : Nat) : Int) < 0 then _ else _) _ _ _
    rw [if_neg (by omega)]
    show wpAny _ _ (if ((items.length : Nat) : Int) ≥ 2 ^ 63 then _ else _) _ _ _
    rw [if_neg (by omega)]
    exact wpAny_bind (wpAny_mkInt (wpAny_pure ⟨_, rfl, h _ _⟩))
  have key : wpAny (model prog w) A (runValue (.builtin "len" ⟨[.ref d], []⟩)) (fun r s' => ∃ t, r = .int items.length t ∧ Q (!items.isEmpty) s') E s := by
    refine wpAny_runValue (codeAny_builtin entry_len ?_)
    rw [Around.under_plainId plain_len _]
    exact wpAny_mono (len_ (Q := fun r s' => ∃ t, r = .int items.length t ∧ Q (!items.isEmpty) s') fun tk t => ⟨t, rfl, h tk⟩) (fun fin s' h' => by obtain ⟨r, rfl, hq⟩ := h'; exact hq) fun _ _ e => e
  have hne : ((items.length : Int) != 0) = !items.isEmpty := by cases items <;> simp; omega
  unfold truthy
  first
    | refine wpAny_bind (wpAny_callSpecial?_none (name := Str.ofString "__bool__") hT noBool_dq ?_)
    | refine wpAny_bind (wpAny_pure (wpAny_bind (wpAny_callSpecial?_none (name := Str.ofString "__bool__") hT noBool_dq ?_)))
  first
    | refine wpAny_bind (wpAny_specialOf (name := Str.ofString "__len__") hT slot_len.lookup ?_)
    | refine wpAny_bind (wpAny_pure (wpAny_bind (wpAny_specialOf (name := Str.ofString "__len__") hT slot_len.lookup ?_)))
  first
    | exact wpAny_bind (wpAny_mono key (fun r s' h' => by obtain ⟨t, rfl, hq⟩ := h'; exact wpAny_pure (hne ▸ hq)) fun _ _ e => e)
    | exact wpAny_bind (wpAny_pure (wpAny_bind (wpAny_mono key (fun r s' h' => by obtain ⟨t, rfl, hq⟩ := h'; exact wpAny_pure (hne ▸ hq)) fun _ _ e => e)))
end
section
variable {prog : Program} {w : World} {A : Around} {E : Value → Shared → Prop} {s : Shared} {d : Addr} {n : Int} {items : List Value} {h₀ : Heap} {L : Addr} {m : Str → Option Value} {news news' : List (Addr × Obj)}
theorem dqK_back {h' : Heap} {o o' : Obj} (F : Fr h₀ L s.heap m) (N : News h₀ L s.heap news) (U : Upd d o o' news news') (hs : Heap.SameBut d s.heap h') (hg : h'.get? d = some o') : Fr h₀ L h' m ∧ News h₀ L h' news' := by
  obtain ⟨pre, post, rfl, rfl, a, b⟩ := U.split
  have z := N (d, o) (List.mem_append.mpr (.inr (.head _)))
  exact ⟨F.change hs z.2.1 z.2.2, news_set N a b hs hg⟩
theorem dqK_appendleft {x : Value} {Q : Value → Shared → Prop} (F : Fr h₀ L s.heap m) (N : News h₀ L s.heap news) (U : Upd d (dqO n items) (dqO (n + 1) (x :: items)) news news') (hz : items.length < 1000)
    (h : ∀ h', Fr h₀ L h' m → News h₀ L h' news' → Q .none { s with heap := h' }) : wpAny (model prog w) A (call (.builtin "collections.deque.appendleft") [.ref d, x]) Q E s :=
  dq_appendleft (N _ (upd_mem U)).1 hz fun h' hs hg => have z := dqK_back F N U hs hg; h h' z.1 z.2
theorem dqK_popleft {x : Value} {Q : Value → Shared → Prop} (F : Fr h₀ L s.heap m) (N : News h₀ L s.heap news) (U : Upd d (dqO n (x :: items)) (dqO (n + 1) items) news news') (hz : items.length < 1000)
    (h : ∀ h', Fr h₀ L h' m → News h₀ L h' news' → Q x { s with heap := h' }) : wpAny (model prog w) A (call (.builtin "collections.deque.popleft") [.ref d]) Q E s :=
  dq_popleft (N _ (upd_mem U)).1 hz fun h' hs hg => have z := dqK_back F N U hs hg; h h' z.1 z.2
theorem dqK_truthy {Q : Bool → Shared → Prop} (N : News h₀ L s.heap news) (hd : (d, dqO n items) ∈ news) (hz : items.length < 1000) (h : ∀ tk, Q (!items.isEmpty) { s with toks := tk }) : wpAny (model prog w) A (truthy (.ref d)) Q E s :=
  dq_truthy (N _ hd).1 hz h
theorem dqK_apl {M : Model} {pl : Sem Bool} {Q : Value × List Value → Shared → Prop} (N : News h₀ L s.heap news) (hd : (d, dqO n items) ∈ news) (h : Q (.builtin "collections.deque.appendleft", [.ref d]) s) : wpAny M A (getMethod (.ref d) "appendleft" pl) Q E s := dq_getm (N _ hd).1 slot_apl ty_apl h
theorem dqK_pop {M : Model} {pl : Sem Bool} {Q : Value × List Value → Shared → Prop} (N : News h₀ L s.heap news) (hd : (d, dqO n items) ∈ news) (h : Q (.builtin "collections.deque.popleft", [.ref d]) s) : wpAny M A (getMethod (.ref d) "popleft" pl) Q E s := dq_getm (N _ hd).1 slot_pop ty_pop h
theorem news_tail {p : Addr × Obj} {h : Heap} (N : News h₀ L h (p :: news)) : News h₀ L h news := fun x hx => N x (.tail _ hx)
end
end
-- C4b
section
abbrev lexD (P : Params) (kt ct : Nat → Tok) (W : Str) (instream infile state pushback lineno token filestack : Value) : Obj := dictOf [⟨PyData.keyHash P (Str.ofString "instream"), .str (Str.ofString "instream") (kt 0), instream⟩, ⟨PyData.keyHash P (Str.ofString "infile"), .str (Str.ofString "infile") (kt 1), infile⟩, ⟨PyData.keyHash P (Str.ofString "posix"), .str (Str.ofString "posix") (kt 2), .bool true⟩, ⟨PyData.keyHash P (Str.ofString "eof"), .str (Str.ofString "eof") (kt 3), .none⟩, ⟨PyData.keyHash P (Str.ofString "commenters"), .str (Str.ofString "commenters") (kt 4), .str (Str.ofString "#") (ct 0)⟩, ⟨PyData.keyHash P (Str.ofString "wordchars"), .str (Str.ofString "wordchars") (kt 5), .str W (ct 1)⟩, ⟨PyData.keyHash P (Str.ofString "whitespace"), .str (Str.ofString "whitespace") (kt 6), .str (Str.ofString " \t\r\n") (ct 2)⟩, ⟨PyData.keyHash P (Str.ofString "whitespace_split"), .str (Str.ofString "whitespace_split") (kt 7), .bool false⟩, ⟨PyData.keyHash P (Str.ofString "quotes"), .str (Str.ofString "quotes") (kt 8), .str (Str.ofString "'\"") (ct 3)⟩, ⟨PyData.keyHash P (Str.ofString "escape"), .str (Str.ofString "escape") (kt 9), .str (Str.ofString "\\") (ct 4)⟩, ⟨PyData.keyHash P (Str.ofString "escapedquotes"), .str (Str.ofString "escapedquotes") (kt 10), .str (Str.ofString "\"") (ct 5)⟩, ⟨PyData.keyHash P (Str.ofString "state"), .str (Str.ofString "state") (kt 11), state⟩, ⟨PyData.keyHash P (Str.ofString "pushback"), .str (Str.ofString "pushback") (kt 12), pushback⟩, ⟨PyData.keyHash P (Str.ofString "lineno"), .str (Str.ofString "lineno") (kt 13), lineno⟩, ⟨PyData.keyHash P (Str.ofString "debug"), .str (Str.ofString "debug") (kt 14), .int 0 (ct 6)⟩, ⟨PyData.keyHash P (Str.ofString "token"), .str (Str.ofString "token") (kt 15), token⟩, ⟨PyData.keyHash P (Str.ofString "filestack"), .str (Str.ofString "filestack") (kt 16), filestack⟩, ⟨PyData.keyHash P (Str.ofString "source"), .str (Str.ofString "source") (kt 17), .none⟩, ⟨PyData.keyHash P (Str.ofString "_punctuation_chars"), .str (Str.ofString "_punctuation_chars") (kt 18), .str (Str.ofString "") (ct 7)⟩] 19

theorem fn_inj {oc oc' : Value} {od od' an an' : Option Addr} {osl osl' : Array (Option Value)} {name qual name' qual' : Str} {params params' : Arguments} {body body' : List Stmt} {scope scope' : Scope} {dV kV doc pm cdv ct dV' kV' doc' pm' cdv' ct' : Value}
    (h : some (⟨oc, od, .func (fnOf name qual params body scope dV kV doc pm an cdv ct), osl⟩ : Obj) = some ⟨oc', od', .func (fnOf name' qual' params' body' scope' dV' kV' doc' pm' an' cdv' ct'), osl'⟩) : qual = qual' ∧ body = body' ∧ scope = scope' ∧ cdv = cdv' := by
  cases h; exact ⟨rfl, rfl, rfl, rfl⟩
theorem while_inj {a b a' b' : Stmt} {t t' : PySem.Expr} {bd o r bd' o' r' : List Stmt} {p p' : Pos} (h : (a :: b :: Stmt.While t bd o p :: r) = (a' :: b' :: Stmt.While t' bd' o' p' :: r')) : t = t' ∧ bd = bd' ∧ o = o' ∧ r = r' := by
  cases h; exact ⟨rfl, rfl, rfl, rfl⟩
theorem body_inj {i1 i2 i3 j1 j2 j3 : Stmt} {r r' : List Stmt} (h : (i1 :: i2 :: i3 :: r) = (j1 :: j2 :: j3 :: r')) : i1 = j1 ∧ i2 = j2 ∧ i3 = j3 ∧ r = r' := by
  cases h; exact ⟨rfl, rfl, rfl, rfl⟩
abbrev rtM (lx : Addr) (b : Value) (te : Tok) (nc : Option Value) : Str → Option Value := fun y => if y = Str.ofString "nextchar" then nc else if y = Str.ofString "escapedstate" then some (.str (Str.ofString " ") te) else if y = Str.ofString "quoted" then some b else if y = Str.ofString "self" then some (.ref lx) else none

theorem fr_q {h₀ h : Heap} {L lx : Addr} {b v : Value} {te : Tok} {nc nc' : Option Value} (F : Fr h₀ L h (fun y => if y = Str.ofString "quoted" then some v else if y = Str.ofString "nextchar" then nc' else rtM lx b te nc y)) : Fr h₀ L h (rtM lx v te nc') := by
  have e : (fun y => if y = Str.ofString "quoted" then some v else if y = Str.ofString "nextchar" then nc' else rtM lx b te nc y) = rtM lx v te nc' := by
    funext y
    by_cases h1 : y = Str.ofString "quoted"
    · subst h1; rfl
    · by_cases h2 : y = Str.ofString "nextchar"
      · subst h2; rfl
      · simp only [rtM, h1, h2, if_false]
  rw [e] at F; exact F
theorem fr_n {h₀ h : Heap} {L lx : Addr} {b : Value} {te : Tok} {nc nc' : Option Value} (F : Fr h₀ L h (fun y => if y = Str.ofString "nextchar" then nc' else rtM lx b te nc y)) : Fr h₀ L h (rtM lx b te nc') := by
  have e : (fun y => if y = Str.ofString "nextchar" then nc' else rtM lx b te nc y) = rtM lx b te nc' := by
    funext y
    by_cases h2 : y = Str.ofString "nextchar"
    · subst h2; rfl
    · simp only [rtM, h2, if_false]
  rw [e] at F; exact F
theorem fr_q2 {h₀ h : Heap} {L lx : Addr} {b v : Value} {te : Tok} {nc : Option Value} (F : Fr h₀ L h (fun y => if y = Str.ofString "quoted" then some v else rtM lx b te nc y)) : Fr h₀ L h (rtM lx v te nc) := by
  have e : (fun y => if y = Str.ofString "quoted" then some v else rtM lx b te nc y) = rtM lx v te nc := by
    funext y
    by_cases h1 : y = Str.ofString "quoted"
    · subst h1; rfl
    · simp only [rtM, h1, if_false]
  rw [e] at F; exact F
/-- a state that is a text: no None -/
def notNone : Value → Bool
  | .str _ _ => true
  | _ => false
/-- a stop for the walk -/
def Stop (P : Prop) : Prop := P
theorem Stop.mk {P : Prop} (h : Stop P) : P := h
theorem one_ne (c : Nat) : (((⟨#[c]⟩ : Str).length : Int) != 0) = true := rfl
theorem c3f_q34 : (Builtin.Str.occurrences (Str.ofString "'\"") (Str.ofString "\"") 0 (PySem.Str.ofString "'\"").length 1).isEmpty = false := by decide +kernel
theorem c3f_w10 : (Builtin.Str.occurrences (Str.ofString " \t\r\n") (Str.ofString "\n") 0 (PySem.Str.ofString " \t\r\n").length 1).isEmpty = false := by decide +kernel
theorem c3f_w13 : (Builtin.Str.occurrences (Str.ofString " \t\r\n") (Str.ofString "\x0d") 0 (PySem.Str.ofString " \t\r\n").length 1).isEmpty = false := by decide +kernel
theorem c3f_w61 : (Builtin.Str.occurrences (Str.ofString " \t\r\n") (Str.ofString "=") 0 (PySem.Str.ofString " \t\r\n").length 1).isEmpty = true := by decide +kernel
theorem c3f_w34 : (Builtin.Str.occurrences (Str.ofString " \t\r\n") (Str.ofString "\"") 0 (PySem.Str.ofString " \t\r\n").length 1).isEmpty = true := by decide +kernel
theorem c3f_c61 : (Builtin.Str.occurrences (Str.ofString "#") (Str.ofString "=") 0 (PySem.Str.ofString "#").length 1).isEmpty = true := by decide +kernel
theorem c3f_c34 : (Builtin.Str.occurrences (Str.ofString "#") (Str.ofString "\"") 0 (PySem.Str.ofString "#").length 1).isEmpty = true := by decide +kernel
theorem c3f_e61 : (Builtin.Str.occurrences (Str.ofString "\\") (Str.ofString "=") 0 (PySem.Str.ofString "\\").length 1).isEmpty = true := by decide +kernel
theorem c3f_e34 : (Builtin.Str.occurrences (Str.ofString "\\") (Str.ofString "\"") 0 (PySem.Str.ofString "\\").length 1).isEmpty = true := by decide +kernel
theorem c3f_q61 : (Builtin.Str.occurrences (Str.ofString "'\"") (Str.ofString "=") 0 (PySem.Str.ofString "'\"").length 1).isEmpty = true := by decide +kernel
theorem c3f_qa : (Builtin.Str.occurrences (Str.ofString "'\"") (Str.ofString "a") 0 (PySem.Str.ofString "'\"").length 1).isEmpty = true := by decide +kernel
theorem c3f_ea : (Builtin.Str.occurrences (Str.ofString "\\") (Str.ofString "a") 0 (PySem.Str.ofString "\\").length 1).isEmpty = true := by decide +kernel
theorem c3f_p34 : (Builtin.Str.occurrences (Str.ofString "") (Str.ofString "\"") 0 (PySem.Str.ofString "").length 1).isEmpty = true := by decide +kernel
end
-- C4
section
section
variable {w : World} {mean : ExcName → Option Value} {mg mb : Str → Option Value} {dp un : Nat} {gd : Option (List Code)} {outer : List Env} {A₀ : Around} {base h₀ : Heap} {L : Addr} {m : Str → Option Value} {s : Shared} {E : Value → Shared → Prop} {Qb : Flow → Shared → Prop} {rest : List (Addr × Obj)}
theorem kw2 : True := by
  k_with_none
  k_with "call ref" => (k_here; (with_reducible show wpAny _ _ (call (Value.ref 538) [Value.ref _, Value.int 1 _]) _ _ _); k_dflt (refine' read_c ?k19q ?k29q ?k39q ?k59q ?kK9q ?kd9q ?ku9q ?kn9q ?kx9q ?kU9q ?kc9q ?kne9q ?ksz9q ?_; (case k19q => k_asm); (case k29q => k_asm); (case k39q => k_asm); (case k59q => k_asm); (case kK9q => first | exact rfl | assumption); (case kn9q => k_asm); (case kx9q => k_mem); (case kU9q => (intro t39k; k_upd)); (case kc9q => assumption); (case kne9q => assumption); (case ksz9q => assumption); (case kd9q => ktr_room); (case ku9q => ktr_units); k_whole; intro t9k t39k h9k tk9k F9k N9k; (try k_sweep)))
  k_with "call ref" => (k_here; (with_reducible show wpAny _ _ (call (Value.ref 538) [Value.ref _, Value.int 1 _]) _ _ _); k_dflt (refine' read_e ?k19q ?k29q ?k39q ?k59q ?kK9q ?kd9q ?ku9q ?kn9q ?kx9q ?kU9q ?kc9q ?kne9q ?ksz9q ?_; (case k19q => k_asm); (case k29q => k_asm); (case k39q => k_asm); (case k59q => k_asm); (case kK9q => first | exact rfl | assumption); (case kn9q => k_asm); (case kx9q => k_mem); (case kU9q => k_mem); (case kc9q => assumption); (case kne9q => assumption); (case ksz9q => assumption); (case kd9q => ktr_room); (case ku9q => ktr_units); k_whole; intro t9k h9k tk9k F9k N9k; (try k_sweep)))
  k_with "getMethod ref" => (k_here; (with_reducible show wpAny _ _ (getMethod (Value.ref _) (PySem.Str.ofString "appendleft") _) _ _ _); k_dflt (refine' dqK_apl ?N9q ?h9q ?_; (case N9q => k_asm); (case h9q => k_mem); k_whole))
  k_with "getMethod ref" => (k_here; (with_reducible show wpAny _ _ (getMethod (Value.ref _) (PySem.Str.ofString "popleft") _) _ _ _); k_dflt (refine' dqK_pop ?N9q ?h9q ?_; (case N9q => k_asm); (case h9q => k_mem); k_whole))
  k_with "call builtin:collections.deque.appendleft" => (k_here; k_dflt (refine' dqK_appendleft ?F9q ?N9q ?U9q ?z9q ?_; (case F9q => k_asm); (case N9q => k_asm); (case U9q => k_upd); (case z9q => first | decide | omega); k_whole; intro h9k F9k N9k; (try k_sweep)))
  k_with "call builtin:collections.deque.popleft" => (k_here; k_dflt (refine' dqK_popleft ?F9q ?N9q ?U9q ?z9q ?_; (case F9q => k_asm); (case N9q => k_asm); (case U9q => k_upd); (case z9q => first | decide | omega); k_whole; intro h9k F9k N9k; (try k_sweep)))
  k_with "truthy ref" => (k_here; k_dflt (refine' dqK_truthy ?N9q ?h9q ?z9q ?_; (case N9q => k_asm); (case h9q => k_mem); (case z9q => first | decide | omega); k_whole; intro tk9k))
  k_with "own all" => assumption
  k_with "exec If" => refine wpAny_If ?_
  k_with "truthy str" => refine P.truthy_str (by omega) ?_
  k_with "ite" => first | refine ite_pos (by with_reducible assumption) ?_ | refine ite_isFalse (by with_reducible assumption) ?_ | refine ite_neg (by with_reducible assumption) ?_
  k_with "execs cons" => ((with_reducible refine wpAny_execs_cons ?_); (try dsimp only); (try k_fold))
  k_with "own ne" => (refine neN ?_; (try dsimp only); first | with_reducible assumption | (refine Ne.symm ?_; with_reducible assumption) | (refine Nat.ne_of_lt ?_; first | with_reducible assumption | with_reducible exact And.left (by with_reducible assumption) | with_reducible exact And.left (And.right (by with_reducible assumption)) | with_reducible exact And.left (And.right (And.right (by with_reducible assumption))) | with_reducible exact And.left (And.right (And.right (And.right (by with_reducible assumption)))) | with_reducible exact And.left (And.right (And.right (And.right (And.right (by with_reducible assumption))))) | with_reducible exact And.left (And.right (And.right (And.right (And.right (And.right (by with_reducible assumption)))))) | with_reducible exact And.left (And.right (And.right (And.right (And.right (And.right (And.right (by with_reducible assumption))))))) | with_reducible exact And.left (And.right (And.right (And.right (And.right (And.right (And.right (And.right (by with_reducible assumption)))))))) | with_reducible exact And.left (And.right (And.right (And.right (And.right (And.right (And.right (And.right (And.right (by with_reducible assumption))))))))) | with_reducible exact And.right (by with_reducible assumption) | with_reducible exact And.right (And.right (by with_reducible assumption)) | with_reducible exact And.right (And.right (And.right (by with_reducible assumption))) | with_reducible exact And.right (And.right (And.right (And.right (by with_reducible assumption)))) | with_reducible exact And.right (And.right (And.right (And.right (And.right (by with_reducible assumption))))) | with_reducible exact And.right (And.right (And.right (And.right (And.right (And.right (by with_reducible assumption)))))) | with_reducible exact And.right (And.right (And.right (And.right (And.right (And.right (And.right (by with_reducible assumption))))))) | with_reducible exact And.right (And.right (And.right (And.right (And.right (And.right (And.right (And.right (by with_reducible assumption))))))))) | (refine Nat.ne_of_gt ?_; first | with_reducible assumption | with_reducible exact And.left (by with_reducible assumption) | with_reducible exact And.left (And.right (by with_reducible assumption)) | with_reducible exact And.left (And.right (And.right (by with_reducible assumption))) | with_reducible exact And.left (And.right (And.right (And.right (by with_reducible assumption)))) | with_reducible exact And.left (And.right (And.right (And.right (And.right (by with_reducible assumption))))) | with_reducible exact And.left (And.right (And.right (And.right (And.right (And.right (by with_reducible assumption)))))) | with_reducible exact And.left (And.right (And.right (And.right (And.right (And.right (And.right (by with_reducible assumption))))))) | with_reducible exact And.left (And.right (And.right (And.right (And.right (And.right (And.right (And.right (by with_reducible assumption)))))))) | with_reducible exact And.left (And.right (And.right (And.right (And.right (And.right (And.right (And.right (And.right (by with_reducible assumption))))))))) | with_reducible exact And.right (by with_reducible assumption) | with_reducible exact And.right (And.right (by with_reducible assumption)) | with_reducible exact And.right (And.right (And.right (by with_reducible assumption))) | with_reducible exact And.right (And.right (And.right (And.right (by with_reducible assumption)))) | with_reducible exact And.right (And.right (And.right (And.right (And.right (by with_reducible assumption))))) | with_reducible exact And.right (And.right (And.right (And.right (And.right (And.right (by with_reducible assumption)))))) | with_reducible exact And.right (And.right (And.right (And.right (And.right (And.right (And.right (by with_reducible assumption))))))) | with_reducible exact And.right (And.right (And.right (And.right (And.right (And.right (And.right (And.right (by with_reducible assumption))))))))))
  trivial
theorem pre_c {state token : Value} {lx ld : Addr} {kt ct : Nat → Tok} {W : Str} {infile pb fs : Value} {b : Value} {te tl : Tok} {nc : Option Value} {ln : Int} {c : Nat} {x dx : Addr} {t2 t3 k1 k2 k3 : Tok} {text : Str} {p : Nat} {rs : List Nat} {nl : Value} {oc : Value} {od : Option Addr} {osl : Array (Option Value)} {name qual : Str} {params : Arguments} {st1 st2 i1 i2 i3 : Stmt} {test : PySem.Expr} {r orelse after : List Stmt} {pos : Pos} {scope : Scope} {dV kV doc pm cdv ct' : Value} {an : Option Addr} (ho : (hd.heap_1 w.params).lookup 695 = some ⟨oc, od, .func (fnOf name qual params (st1 :: st2 :: Stmt.While test (i1 :: i2 :: i3 :: r) orelse pos :: after) scope dV kV doc pm an cdv ct'), osl⟩) (B : Below A₀ base outer h₀) (X : (hd.heap_1 w.params).In h₀) (T : Top q (looseW q loose) mean mg mb h₀) (hdp : dp + 10 < recursionLimit) (hun : un + 100 < cLine) (F : Fr h₀ L s.heap (rtM lx b te nc))
    (N : News h₀ L s.heap ((lx, instObj 727 ld) :: (ld, lexD w.params kt ct W (.ref x) infile (state) (pb) (.int ln tl) (token) fs) :: (x, instObj 592 dx) :: (dx, sioD w.params k1 k2 k3 nl (.str text t2) (.int ((p : Int)) t3)) :: rest)) (hc : text.cps.toList.drop p = c :: rs) (hsz : text.length ≤ 1000000) (hn : ((⟨#[c]⟩ : Str) == Str.ofString "\n") = false) (n0 : @Ne Nat lx ld) (n1 : @Ne Nat lx x) (n2 : @Ne Nat lx dx) (n3 : @Ne Nat ld x) (n4 : @Ne Nat ld dx) (n5 : @Ne Nat x dx) (r1 : ∀ p ∈ rest, p.1 ≠ ld) (r2 : ∀ p ∈ rest, p.1 ≠ dx)
    (hret : ∀ (t' t3' ta : Tok) (h' : Heap) (tk' : Nat), Fr h₀ L h' (rtM lx b te (some (.str (⟨#[c]⟩) t'))) → News h₀ L h' ((lx, instObj 727 ld) :: (ld, lexD w.params kt ct W (.ref x) infile (state) (pb) (.int ln tl) (token) fs) :: (x, instObj 592 dx) :: (dx, sioD w.params k1 k2 k3 nl (.str text t2) (.int (((p + 1 : Nat) : Int)) t3')) :: rest) → wpAny (model PySem.Challenge.pw_om0186_01 w) (ktrTop dp un gd qual scope L 695 cdv [] outer) (execs r (envOf qual scope L 695 cdv)) Qb E { s with heap := h', toks := tk' }) :
    wpAny (model PySem.Challenge.pw_om0186_01 w) (ktrTop dp un gd qual scope L 695 cdv [] outer) (execs (i1 :: i2 :: i3 :: r) (envOf qual scope L 695 cdv)) Qb E s := by
  w_on
  obtain ⟨rfl, hb, rfl, rfl⟩ := fn_inj (ho.symm.trans (by k_is))
  obtain ⟨rfl, hb2, rfl, rfl⟩ := while_inj hb
  obtain ⟨rfl, rfl, rfl, hr⟩ := body_inj hb2
  clear ho hb hb2 hr
  have f0 := one_ne c
  (try (show wpAny _ _ _ _ _ _; k_fold))
  k_steps
  exact hret _ _ 0 _ _ (fr_n (by k_asm)) (by k_asm)
theorem pre_n {state token : Value} {lx ld : Addr} {kt ct : Nat → Tok} {W : Str} {infile pb fs : Value} {b : Value} {te tl : Tok} {nc : Option Value} {ln : Int} {x dx : Addr} {t2 t3 k1 k2 k3 : Tok} {text : Str} {p : Nat} {rs : List Nat} {nl : Value} {oc : Value} {od : Option Addr} {osl : Array (Option Value)} {name qual : Str} {params : Arguments} {st1 st2 i1 i2 i3 : Stmt} {test : PySem.Expr} {r orelse after : List Stmt} {pos : Pos} {scope : Scope} {dV kV doc pm cdv ct' : Value} {an : Option Addr} (ho : (hd.heap_1 w.params).lookup 695 = some ⟨oc, od, .func (fnOf name qual params (st1 :: st2 :: Stmt.While test (i1 :: i2 :: i3 :: r) orelse pos :: after) scope dV kV doc pm an cdv ct'), osl⟩) (B : Below A₀ base outer h₀) (X : (hd.heap_1 w.params).In h₀) (T : Top q (looseW q loose) mean mg mb h₀) (hdp : dp + 10 < recursionLimit) (hun : un + 100 < cLine) (F : Fr h₀ L s.heap (rtM lx b te nc))
    (N : News h₀ L s.heap ((lx, instObj 727 ld) :: (ld, lexD w.params kt ct W (.ref x) infile (state) (pb) (.int ln tl) (token) fs) :: (x, instObj 592 dx) :: (dx, sioD w.params k1 k2 k3 nl (.str text t2) (.int ((p : Int)) t3)) :: rest)) (hc : text.cps.toList.drop p = 10 :: rs) (hsz : text.length ≤ 1000000)  (n0 : @Ne Nat lx ld) (n1 : @Ne Nat lx x) (n2 : @Ne Nat lx dx) (n3 : @Ne Nat ld x) (n4 : @Ne Nat ld dx) (n5 : @Ne Nat x dx) (r1 : ∀ p ∈ rest, p.1 ≠ ld) (r2 : ∀ p ∈ rest, p.1 ≠ dx)
    (hret : ∀ (t' t3' ta : Tok) (h' : Heap) (tk' : Nat), Fr h₀ L h' (rtM lx b te (some (.str (Str.ofString "\n") t'))) → News h₀ L h' ((lx, instObj 727 ld) :: (ld, lexD w.params kt ct W (.ref x) infile (state) (pb) (.int (ln + 1) ta) (token) fs) :: (x, instObj 592 dx) :: (dx, sioD w.params k1 k2 k3 nl (.str text t2) (.int (((p + 1 : Nat) : Int)) t3')) :: rest) → wpAny (model PySem.Challenge.pw_om0186_01 w) (ktrTop dp un gd qual scope L 695 cdv [] outer) (execs r (envOf qual scope L 695 cdv)) Qb E { s with heap := h', toks := tk' }) :
    wpAny (model PySem.Challenge.pw_om0186_01 w) (ktrTop dp un gd qual scope L 695 cdv [] outer) (execs (i1 :: i2 :: i3 :: r) (envOf qual scope L 695 cdv)) Qb E s := by
  w_on
  obtain ⟨rfl, hb, rfl, rfl⟩ := fn_inj (ho.symm.trans (by k_is))
  obtain ⟨rfl, hb2, rfl, rfl⟩ := while_inj hb
  obtain ⟨rfl, rfl, rfl, hr⟩ := body_inj hb2
  clear ho hb hb2 hr
  (try (show wpAny _ _ _ _ _ _; k_fold))
  k_steps
  exact hret _ _ _ _ _ (fr_n (by k_asm)) (by k_asm)
theorem pre_e {state token : Value} {lx ld : Addr} {kt ct : Nat → Tok} {W : Str} {infile pb fs : Value} {b : Value} {te tl : Tok} {nc : Option Value} {ln : Int} {x dx : Addr} {t2 t3 k1 k2 k3 : Tok} {text : Str} {p : Nat} {nl : Value} {oc : Value} {od : Option Addr} {osl : Array (Option Value)} {name qual : Str} {params : Arguments} {st1 st2 i1 i2 i3 : Stmt} {test : PySem.Expr} {r orelse after : List Stmt} {pos : Pos} {scope : Scope} {dV kV doc pm cdv ct' : Value} {an : Option Addr} (ho : (hd.heap_1 w.params).lookup 695 = some ⟨oc, od, .func (fnOf name qual params (st1 :: st2 :: Stmt.While test (i1 :: i2 :: i3 :: r) orelse pos :: after) scope dV kV doc pm an cdv ct'), osl⟩) (B : Below A₀ base outer h₀) (X : (hd.heap_1 w.params).In h₀) (T : Top q (looseW q loose) mean mg mb h₀) (hdp : dp + 10 < recursionLimit) (hun : un + 100 < cLine) (F : Fr h₀ L s.heap (rtM lx b te nc))
    (N : News h₀ L s.heap ((lx, instObj 727 ld) :: (ld, lexD w.params kt ct W (.ref x) infile (state) (pb) (.int ln tl) (token) fs) :: (x, instObj 592 dx) :: (dx, sioD w.params k1 k2 k3 nl (.str text t2) (.int ((p : Int)) t3)) :: rest)) (hc : text.length ≤ p) (hsz : text.length ≤ 1000000)  (n0 : @Ne Nat lx ld) (n1 : @Ne Nat lx x) (n2 : @Ne Nat lx dx) (n3 : @Ne Nat ld x) (n4 : @Ne Nat ld dx) (n5 : @Ne Nat x dx) (r1 : ∀ p ∈ rest, p.1 ≠ ld) (r2 : ∀ p ∈ rest, p.1 ≠ dx)
    (hret : ∀ (t' t3' ta : Tok) (h' : Heap) (tk' : Nat), Fr h₀ L h' (rtM lx b te (some (.str (Str.ofString "") t'))) → News h₀ L h' ((lx, instObj 727 ld) :: (ld, lexD w.params kt ct W (.ref x) infile (state) (pb) (.int ln tl) (token) fs) :: (x, instObj 592 dx) :: (dx, sioD w.params k1 k2 k3 nl (.str text t2) (.int ((p : Int)) t3)) :: rest) → wpAny (model PySem.Challenge.pw_om0186_01 w) (ktrTop dp un gd qual scope L 695 cdv [] outer) (execs r (envOf qual scope L 695 cdv)) Qb E { s with heap := h', toks := tk' }) :
    wpAny (model PySem.Challenge.pw_om0186_01 w) (ktrTop dp un gd qual scope L 695 cdv [] outer) (execs (i1 :: i2 :: i3 :: r) (envOf qual scope L 695 cdv)) Qb E s := by
  w_on
  obtain ⟨rfl, hb, rfl, rfl⟩ := fn_inj (ho.symm.trans (by k_is))
  obtain ⟨rfl, hb2, rfl, rfl⟩ := while_inj hb
  obtain ⟨rfl, rfl, rfl, hr⟩ := body_inj hb2
  clear ho hb hb2 hr
  (try (show wpAny _ _ _ _ _ _; k_fold))
  k_steps
  exact hret _ 0 0 _ _ (fr_n (by k_asm)) (by k_asm)
theorem pt_rc {lx ld : Addr} {kt ct : Nat → Tok} {W : Str} {instream infile pb fs : Value} {ts tt tl : Tok} {tok : Str} {ln : Int} {c : Nat}  {t : Tok} {oc : Value} {od : Option Addr} {osl : Array (Option Value)} {name qual : Str} {params : Arguments} {st1 st2 i1 i2 i3 : Stmt} {test : PySem.Expr} {r orelse after : List Stmt} {pos : Pos} {scope : Scope} {dV kV doc pm cdv ct' : Value} {an : Option Addr} (ho : (hd.heap_1 w.params).lookup 695 = some ⟨oc, od, .func (fnOf name qual params (st1 :: st2 :: Stmt.While test (i1 :: i2 :: i3 :: r) orelse pos :: after) scope dV kV doc pm an cdv ct'), osl⟩) (B : Below A₀ base outer h₀) (X : (hd.heap_1 w.params).In h₀) (T : Top q (looseW q loose) mean mg mb h₀) (hdp : dp + 10 < recursionLimit) (hun : un + 100 < cLine) (F : Fr h₀ L s.heap (rtM lx (b) te (some (.str (⟨#[c]⟩) t))))
    (N : News h₀ L s.heap ((lx, instObj 727 ld) :: (ld, lexD w.params kt ct W (instream) infile (.str (Str.ofString "\"") ts) (pb) (.int ln tl) (.str tok tt) fs) :: rest)) (htk : tok.length ≤ 1000) (hq : ((⟨#[c]⟩ : Str) == Str.ofString "\"") = false) (he : (Builtin.Str.occurrences (Str.ofString "\\") (⟨#[c]⟩) 0 (PySem.Str.ofString "\\").length 1).isEmpty = true) (n0 : @Ne Nat lx ld) (r1 : ∀ p ∈ rest, p.1 ≠ ld)
    (hret : ∀ (ta tb : Tok) (h' : Heap) (tk' : Nat), Fr h₀ L h' (rtM lx (.bool true) te (some (.str (⟨#[c]⟩) t))) → News h₀ L h' ((lx, instObj 727 ld) :: (ld, lexD w.params kt ct W (instream) infile (.str (Str.ofString "\"") ts) (pb) (.int ln tl) (.str (tok ++ ⟨#[c]⟩) ta) fs) :: rest) → Qb .next { s with heap := h', toks := tk' }) :
    wpAny (model PySem.Challenge.pw_om0186_01 w) (ktrTop dp un gd qual scope L 695 cdv [] outer) (execs r (envOf qual scope L 695 cdv)) Qb E s := by
  w_on
  obtain ⟨rfl, hb, rfl, rfl⟩ := fn_inj (ho.symm.trans (by k_is))
  obtain ⟨rfl, hb2, rfl, rfl⟩ := while_inj hb
  obtain ⟨rfl, rfl, rfl, rfl⟩ := body_inj hb2
  clear ho hb hb2
  have f0 := c3f_q34
  have f1 := one_ne c
  (try (show wpAny _ _ _ _ _ _; k_fold))
  k_steps
  (try dsimp only)
  exact hret _ 0 _ _ (fr_q2 (by k_asm)) (by first | k_asm | exact news_tail (by k_asm))
theorem pt_cq {lx ld : Addr} {kt ct : Nat → Tok} {W : Str} {instream infile pb fs : Value} {ts tt tl : Tok} {tok : Str} {ln : Int}  {t : Tok} {oc : Value} {od : Option Addr} {osl : Array (Option Value)} {name qual : Str} {params : Arguments} {st1 st2 i1 i2 i3 : Stmt} {test : PySem.Expr} {r orelse after : List Stmt} {pos : Pos} {scope : Scope} {dV kV doc pm cdv ct' : Value} {an : Option Addr} (ho : (hd.heap_1 w.params).lookup 695 = some ⟨oc, od, .func (fnOf name qual params (st1 :: st2 :: Stmt.While test (i1 :: i2 :: i3 :: r) orelse pos :: after) scope dV kV doc pm an cdv ct'), osl⟩) (B : Below A₀ base outer h₀) (X : (hd.heap_1 w.params).In h₀) (T : Top q (looseW q loose) mean mg mb h₀) (hdp : dp + 10 < recursionLimit) (hun : un + 100 < cLine) (F : Fr h₀ L s.heap (rtM lx (b) te (some (.str (Str.ofString "\"") t))))
    (N : News h₀ L s.heap ((lx, instObj 727 ld) :: (ld, lexD w.params kt ct W (instream) infile (.str (Str.ofString "\"") ts) (pb) (.int ln tl) (.str tok tt) fs) :: rest)) (htk : tok.length ≤ 1000)  (n0 : @Ne Nat lx ld) (r1 : ∀ p ∈ rest, p.1 ≠ ld)
    (hret : ∀ (ta tb : Tok) (h' : Heap) (tk' : Nat), Fr h₀ L h' (rtM lx (.bool true) te (some (.str (Str.ofString "\"") t))) → News h₀ L h' ((lx, instObj 727 ld) :: (ld, lexD w.params kt ct W (instream) infile (.str (Str.ofString "a") ta) (pb) (.int ln tl) (.str tok tt) fs) :: rest) → Qb .next { s with heap := h', toks := tk' }) :
    wpAny (model PySem.Challenge.pw_om0186_01 w) (ktrTop dp un gd qual scope L 695 cdv [] outer) (execs r (envOf qual scope L 695 cdv)) Qb E s := by
  w_on
  obtain ⟨rfl, hb, rfl, rfl⟩ := fn_inj (ho.symm.trans (by k_is))
  obtain ⟨rfl, hb2, rfl, rfl⟩ := while_inj hb
  obtain ⟨rfl, rfl, rfl, rfl⟩ := body_inj hb2
  clear ho hb hb2
  have f0 := c3f_q34
  have f1 := one_ne 34
  (try (show wpAny _ _ _ _ _ _; k_fold))
  k_steps
  (try dsimp only)
  exact hret _ 0 _ _ (fr_q2 (by k_asm)) (by first | k_asm | exact news_tail (by k_asm))
theorem pt_l {lx ld : Addr} {kt ct : Nat → Tok} {W : Str} {instream infile pb fs : Value} {ts tt tl : Tok} {ln : Int} {c : Nat}  {t : Tok} {oc : Value} {od : Option Addr} {osl : Array (Option Value)} {name qual : Str} {params : Arguments} {st1 st2 i1 i2 i3 : Stmt} {test : PySem.Expr} {r orelse after : List Stmt} {pos : Pos} {scope : Scope} {dV kV doc pm cdv ct' : Value} {an : Option Addr} (ho : (hd.heap_1 w.params).lookup 695 = some ⟨oc, od, .func (fnOf name qual params (st1 :: st2 :: Stmt.While test (i1 :: i2 :: i3 :: r) orelse pos :: after) scope dV kV doc pm an cdv ct'), osl⟩) (B : Below A₀ base outer h₀) (X : (hd.heap_1 w.params).In h₀) (T : Top q (looseW q loose) mean mg mb h₀) (hdp : dp + 10 < recursionLimit) (hun : un + 100 < cLine) (F : Fr h₀ L s.heap (rtM lx (b) te (some (.str (⟨#[c]⟩) t))))
    (N : News h₀ L s.heap ((lx, instObj 727 ld) :: (ld, lexD w.params kt ct W (instream) infile (.str (Str.ofString " ") ts) (pb) (.int ln tl) (.str (Str.ofString "") tt) fs) :: rest)) (hws : (Builtin.Str.occurrences (Str.ofString " \t\r\n") (⟨#[c]⟩) 0 (PySem.Str.ofString " \t\r\n").length 1).isEmpty = true) (hcm : (Builtin.Str.occurrences (Str.ofString "#") (⟨#[c]⟩) 0 (PySem.Str.ofString "#").length 1).isEmpty = true) (he : (Builtin.Str.occurrences (Str.ofString "\\") (⟨#[c]⟩) 0 (PySem.Str.ofString "\\").length 1).isEmpty = true) (hw : (Builtin.Str.occurrences W (⟨#[c]⟩) 0 W.length 1).isEmpty = false) (n0 : @Ne Nat lx ld) (r1 : ∀ p ∈ rest, p.1 ≠ ld)
    (hret : ∀ (ta tb : Tok) (h' : Heap) (tk' : Nat), Fr h₀ L h' (rtM lx (b) te (some (.str (⟨#[c]⟩) t))) → News h₀ L h' ((lx, instObj 727 ld) :: (ld, lexD w.params kt ct W (instream) infile (.str (Str.ofString "a") ta) (pb) (.int ln tl) (.str ⟨#[c]⟩ tb) fs) :: rest) → Qb .next { s with heap := h', toks := tk' }) :
    wpAny (model PySem.Challenge.pw_om0186_01 w) (ktrTop dp un gd qual scope L 695 cdv [] outer) (execs r (envOf qual scope L 695 cdv)) Qb E s := by
  w_on
  obtain ⟨rfl, hb, rfl, rfl⟩ := fn_inj (ho.symm.trans (by k_is))
  obtain ⟨rfl, hb2, rfl, rfl⟩ := while_inj hb
  obtain ⟨rfl, rfl, rfl, rfl⟩ := body_inj hb2
  clear ho hb hb2
  have f0 := one_ne c
  (try (show wpAny _ _ _ _ _ _; k_fold))
  k_steps
  (try dsimp only)
  exact hret _ _ _ _ (by k_asm) (by first | k_asm | exact news_tail (by k_asm))
theorem pt_eof {lx ld : Addr} {kt ct : Nat → Tok} {W : Str} {instream infile pb fs : Value} {ts tt tl : Tok} {ln : Int}  {t : Tok} {oc : Value} {od : Option Addr} {osl : Array (Option Value)} {name qual : Str} {params : Arguments} {st1 st2 i1 i2 i3 : Stmt} {test : PySem.Expr} {r orelse after : List Stmt} {pos : Pos} {scope : Scope} {dV kV doc pm cdv ct' : Value} {an : Option Addr} (ho : (hd.heap_1 w.params).lookup 695 = some ⟨oc, od, .func (fnOf name qual params (st1 :: st2 :: Stmt.While test (i1 :: i2 :: i3 :: r) orelse pos :: after) scope dV kV doc pm an cdv ct'), osl⟩) (B : Below A₀ base outer h₀) (X : (hd.heap_1 w.params).In h₀) (T : Top q (looseW q loose) mean mg mb h₀) (hdp : dp + 10 < recursionLimit) (hun : un + 100 < cLine) (F : Fr h₀ L s.heap (rtM lx (b) te (some (.str (Str.ofString "") t))))
    (N : News h₀ L s.heap ((lx, instObj 727 ld) :: (ld, lexD w.params kt ct W (instream) infile (.str (Str.ofString " ") ts) (pb) (.int ln tl) (.str (Str.ofString "") tt) fs) :: rest))  (n0 : @Ne Nat lx ld) (r1 : ∀ p ∈ rest, p.1 ≠ ld)
    (hret : ∀ (ta tb : Tok) (h' : Heap) (tk' : Nat), Fr h₀ L h' (rtM lx (b) te (some (.str (Str.ofString "") t))) → News h₀ L h' ((lx, instObj 727 ld) :: (ld, lexD w.params kt ct W (instream) infile (.none) (pb) (.int ln tl) (.str (Str.ofString "") tt) fs) :: rest) → Qb .brk { s with heap := h', toks := tk' }) :
    wpAny (model PySem.Challenge.pw_om0186_01 w) (ktrTop dp un gd qual scope L 695 cdv [] outer) (execs r (envOf qual scope L 695 cdv)) Qb E s := by
  w_on
  obtain ⟨rfl, hb, rfl, rfl⟩ := fn_inj (ho.symm.trans (by k_is))
  obtain ⟨rfl, hb2, rfl, rfl⟩ := while_inj hb
  obtain ⟨rfl, rfl, rfl, rfl⟩ := body_inj hb2
  clear ho hb hb2
  (try (show wpAny _ _ _ _ _ _; k_fold))
  k_steps
  (try dsimp only)
  exact hret 0 0 _ _ (by k_asm) (by first | k_asm | exact news_tail (by k_asm))
theorem pt_w {lx ld : Addr} {kt ct : Nat → Tok} {W : Str} {instream infile pb fs : Value} {ts tt tl : Tok} {ln : Int}  {t : Tok} {oc : Value} {od : Option Addr} {osl : Array (Option Value)} {name qual : Str} {params : Arguments} {st1 st2 i1 i2 i3 : Stmt} {test : PySem.Expr} {r orelse after : List Stmt} {pos : Pos} {scope : Scope} {dV kV doc pm cdv ct' : Value} {an : Option Addr} (ho : (hd.heap_1 w.params).lookup 695 = some ⟨oc, od, .func (fnOf name qual params (st1 :: st2 :: Stmt.While test (i1 :: i2 :: i3 :: r) orelse pos :: after) scope dV kV doc pm an cdv ct'), osl⟩) (B : Below A₀ base outer h₀) (X : (hd.heap_1 w.params).In h₀) (T : Top q (looseW q loose) mean mg mb h₀) (hdp : dp + 10 < recursionLimit) (hun : un + 100 < cLine) (F : Fr h₀ L s.heap (rtM lx (.bool false) te (some (.str (Str.ofString "\n") t))))
    (N : News h₀ L s.heap ((lx, instObj 727 ld) :: (ld, lexD w.params kt ct W (instream) infile (.str (Str.ofString " ") ts) (pb) (.int ln tl) (.str (Str.ofString "") tt) fs) :: rest))  (n0 : @Ne Nat lx ld) (r1 : ∀ p ∈ rest, p.1 ≠ ld)
    (hret : ∀ (ta tb : Tok) (h' : Heap) (tk' : Nat), Fr h₀ L h' (rtM lx (.bool false) te (some (.str (Str.ofString "\n") t))) → News h₀ L h' ((lx, instObj 727 ld) :: (ld, lexD w.params kt ct W (instream) infile (.str (Str.ofString " ") ts) (pb) (.int ln tl) (.str (Str.ofString "") tt) fs) :: rest) → Qb .cont { s with heap := h', toks := tk' }) :
    wpAny (model PySem.Challenge.pw_om0186_01 w) (ktrTop dp un gd qual scope L 695 cdv [] outer) (execs r (envOf qual scope L 695 cdv)) Qb E s := by
  w_on
  obtain ⟨rfl, hb, rfl, rfl⟩ := fn_inj (ho.symm.trans (by k_is))
  obtain ⟨rfl, hb2, rfl, rfl⟩ := while_inj hb
  obtain ⟨rfl, rfl, rfl, rfl⟩ := body_inj hb2
  clear ho hb hb2
  have f0 := c3f_w10
  have f1 := one_ne 10
  (try (show wpAny _ _ _ _ _ _; k_fold))
  k_steps
  (try dsimp only)
  exact hret 0 0 _ _ (by k_asm) (by first | k_asm | exact news_tail (by k_asm))
theorem pt_oq {lx ld : Addr} {kt ct : Nat → Tok} {W : Str} {instream infile pb fs : Value} {ts tt tl : Tok} {ln : Int}  {t : Tok} {oc : Value} {od : Option Addr} {osl : Array (Option Value)} {name qual : Str} {params : Arguments} {st1 st2 i1 i2 i3 : Stmt} {test : PySem.Expr} {r orelse after : List Stmt} {pos : Pos} {scope : Scope} {dV kV doc pm cdv ct' : Value} {an : Option Addr} (ho : (hd.heap_1 w.params).lookup 695 = some ⟨oc, od, .func (fnOf name qual params (st1 :: st2 :: Stmt.While test (i1 :: i2 :: i3 :: r) orelse pos :: after) scope dV kV doc pm an cdv ct'), osl⟩) (B : Below A₀ base outer h₀) (X : (hd.heap_1 w.params).In h₀) (T : Top q (looseW q loose) mean mg mb h₀) (hdp : dp + 10 < recursionLimit) (hun : un + 100 < cLine) (F : Fr h₀ L s.heap (rtM lx (b) te (some (.str (Str.ofString "\"") t))))
    (N : News h₀ L s.heap ((lx, instObj 727 ld) :: (ld, lexD w.params kt ct W (instream) infile (.str (Str.ofString " ") ts) (pb) (.int ln tl) (.str (Str.ofString "") tt) fs) :: rest)) (hw : (Builtin.Str.occurrences W (Str.ofString "\"") 0 W.length 1).isEmpty = true) (n0 : @Ne Nat lx ld) (r1 : ∀ p ∈ rest, p.1 ≠ ld)
    (hret : ∀ (ta tb : Tok) (h' : Heap) (tk' : Nat), Fr h₀ L h' (rtM lx (b) te (some (.str (Str.ofString "\"") t))) → News h₀ L h' ((lx, instObj 727 ld) :: (ld, lexD w.params kt ct W (instream) infile (.str (Str.ofString "\"") ta) (pb) (.int ln tl) (.str (Str.ofString "") tt) fs) :: rest) → Qb .next { s with heap := h', toks := tk' }) :
    wpAny (model PySem.Challenge.pw_om0186_01 w) (ktrTop dp un gd qual scope L 695 cdv [] outer) (execs r (envOf qual scope L 695 cdv)) Qb E s := by
  w_on
  obtain ⟨rfl, hb, rfl, rfl⟩ := fn_inj (ho.symm.trans (by k_is))
  obtain ⟨rfl, hb2, rfl, rfl⟩ := while_inj hb
  obtain ⟨rfl, rfl, rfl, rfl⟩ := body_inj hb2
  clear ho hb hb2
  have f0 := c3f_w34
  have f1 := c3f_c34
  have f2 := c3f_e34
  have f3 := c3f_p34
  have f4 := c3f_q34
  have f5 := one_ne 34
  (try (show wpAny _ _ _ _ _ _; k_fold))
  k_steps
  (try dsimp only)
  exact hret _ 0 _ _ (by k_asm) (by first | k_asm | exact news_tail (by k_asm))
theorem pt_cr {lx ld : Addr} {kt ct : Nat → Tok} {W : Str} {instream infile pb fs : Value} {ts tt tl : Tok} {tok : Str} {ln : Int}  {t : Tok} {oc : Value} {od : Option Addr} {osl : Array (Option Value)} {name qual : Str} {params : Arguments} {st1 st2 i1 i2 i3 : Stmt} {test : PySem.Expr} {r orelse after : List Stmt} {pos : Pos} {scope : Scope} {dV kV doc pm cdv ct' : Value} {an : Option Addr} (ho : (hd.heap_1 w.params).lookup 695 = some ⟨oc, od, .func (fnOf name qual params (st1 :: st2 :: Stmt.While test (i1 :: i2 :: i3 :: r) orelse pos :: after) scope dV kV doc pm an cdv ct'), osl⟩) (B : Below A₀ base outer h₀) (X : (hd.heap_1 w.params).In h₀) (T : Top q (looseW q loose) mean mg mb h₀) (hdp : dp + 10 < recursionLimit) (hun : un + 100 < cLine) (F : Fr h₀ L s.heap (rtM lx (b) te (some (.str (Str.ofString "\x0d") t))))
    (N : News h₀ L s.heap ((lx, instObj 727 ld) :: (ld, lexD w.params kt ct W (instream) infile (.str (Str.ofString "a") ts) (pb) (.int ln tl) (.str tok tt) fs) :: rest)) (htk : tok.length ≤ 1000) (ht : ((tok.length : Int) != 0) = true) (n0 : @Ne Nat lx ld) (r1 : ∀ p ∈ rest, p.1 ≠ ld)
    (hret : ∀ (ta tb : Tok) (h' : Heap) (tk' : Nat), Fr h₀ L h' (rtM lx (b) te (some (.str (Str.ofString "\x0d") t))) → News h₀ L h' ((lx, instObj 727 ld) :: (ld, lexD w.params kt ct W (instream) infile (.str (Str.ofString " ") ta) (pb) (.int ln tl) (.str tok tt) fs) :: rest) → Qb .brk { s with heap := h', toks := tk' }) :
    wpAny (model PySem.Challenge.pw_om0186_01 w) (ktrTop dp un gd qual scope L 695 cdv [] outer) (execs r (envOf qual scope L 695 cdv)) Qb E s := by
  w_on
  obtain ⟨rfl, hb, rfl, rfl⟩ := fn_inj (ho.symm.trans (by k_is))
  obtain ⟨rfl, hb2, rfl, rfl⟩ := while_inj hb
  obtain ⟨rfl, rfl, rfl, rfl⟩ := body_inj hb2
  clear ho hb hb2
  have f0 := c3f_qa
  have f1 := c3f_ea
  have f2 := c3f_w13
  have f3 := one_ne 13
  (try (show wpAny _ _ _ _ _ _; k_fold))
  k_steps
  (try dsimp only)
  exact hret _ 0 _ _ (by k_asm) (by first | k_asm | exact news_tail (by k_asm))
theorem pt_eq {lx ld : Addr} {kt ct : Nat → Tok} {W : Str} {instream infile fs : Value} {ts tt tl : Tok} {tok : Str} {ln : Int} {pa : Addr} {nd : Int} {t : Tok} {oc : Value} {od : Option Addr} {osl : Array (Option Value)} {name qual : Str} {params : Arguments} {st1 st2 i1 i2 i3 : Stmt} {test : PySem.Expr} {r orelse after : List Stmt} {pos : Pos} {scope : Scope} {dV kV doc pm cdv ct' : Value} {an : Option Addr} (ho : (hd.heap_1 w.params).lookup 695 = some ⟨oc, od, .func (fnOf name qual params (st1 :: st2 :: Stmt.While test (i1 :: i2 :: i3 :: r) orelse pos :: after) scope dV kV doc pm an cdv ct'), osl⟩) (B : Below A₀ base outer h₀) (X : (hd.heap_1 w.params).In h₀) (T : Top q (looseW q loose) mean mg mb h₀) (hdp : dp + 10 < recursionLimit) (hun : un + 100 < cLine) (F : Fr h₀ L s.heap (rtM lx (b) te (some (.str (Str.ofString "=") t))))
    (N : News h₀ L s.heap ((lx, instObj 727 ld) :: (ld, lexD w.params kt ct W (instream) infile (.str (Str.ofString "a") ts) (.ref pa) (.int ln tl) (.str tok tt) fs) :: (pa, dqO nd []) :: rest)) (htk : tok.length ≤ 1000) (ht : ((tok.length : Int) != 0) = true) (hw : (Builtin.Str.occurrences W (Str.ofString "=") 0 W.length 1).isEmpty = true) (n0 : @Ne Nat lx ld) (r1 : ∀ p ∈ rest, p.1 ≠ ld) (m0 : @Ne Nat lx pa) (m1 : @Ne Nat ld pa) (r2 : ∀ p ∈ rest, p.1 ≠ pa)
    (hret : ∀ (ta tb : Tok) (h' : Heap) (tk' : Nat), Fr h₀ L h' (rtM lx (b) te (some (.str (Str.ofString "=") t))) → News h₀ L h' ((lx, instObj 727 ld) :: (ld, lexD w.params kt ct W (instream) infile (.str (Str.ofString " ") ta) (.ref pa) (.int ln tl) (.str tok tt) fs) :: (pa, dqO (nd + 1) [.str (Str.ofString "=") tb]) :: rest) → Qb .brk { s with heap := h', toks := tk' }) :
    wpAny (model PySem.Challenge.pw_om0186_01 w) (ktrTop dp un gd qual scope L 695 cdv [] outer) (execs r (envOf qual scope L 695 cdv)) Qb E s := by
  w_on
  obtain ⟨rfl, hb, rfl, rfl⟩ := fn_inj (ho.symm.trans (by k_is))
  obtain ⟨rfl, hb2, rfl, rfl⟩ := while_inj hb
  obtain ⟨rfl, rfl, rfl, rfl⟩ := body_inj hb2
  clear ho hb hb2
  have f0 := c3f_qa
  have f1 := c3f_ea
  have f2 := c3f_w61
  have f3 := c3f_c61
  have f4 := c3f_q61
  have f5 := c3f_e61
  have f6 := one_ne 61
  (try (show wpAny _ _ _ _ _ _; k_fold))
  k_steps
  (try dsimp only)
  exact hret _ _ _ _ (by k_asm) (by first | k_asm | exact news_tail (by k_asm))
end
end
-- C5
section
theorem kw3 : True := by
  k_with_none
  k_with "execs cons" => ((with_reducible refine wpAny_execs_cons ?_); (try dsimp only); (try k_fold))
  k_with "own ne" => (refine neN ?_; (try dsimp only); first | with_reducible assumption | (refine Ne.symm ?_; with_reducible assumption) | (refine Nat.ne_of_lt ?_; first | with_reducible assumption | with_reducible exact And.left (by with_reducible assumption) | with_reducible exact And.left (And.right (by with_reducible assumption)) | with_reducible exact And.left (And.right (And.right (by with_reducible assumption))) | with_reducible exact And.left (And.right (And.right (And.right (by with_reducible assumption)))) | with_reducible exact And.left (And.right (And.right (And.right (And.right (by with_reducible assumption))))) | with_reducible exact And.left (And.right (And.right (And.right (And.right (And.right (by with_reducible assumption)))))) | with_reducible exact And.left (And.right (And.right (And.right (And.right (And.right (And.right (by with_reducible assumption))))))) | with_reducible exact And.left (And.right (And.right (And.right (And.right (And.right (And.right (And.right (by with_reducible assumption)))))))) | with_reducible exact And.left (And.right (And.right (And.right (And.right (And.right (And.right (And.right (And.right (by with_reducible assumption))))))))) | with_reducible exact And.right (by with_reducible assumption) | with_reducible exact And.right (And.right (by with_reducible assumption)) | with_reducible exact And.right (And.right (And.right (by with_reducible assumption))) | with_reducible exact And.right (And.right (And.right (And.right (by with_reducible assumption)))) | with_reducible exact And.right (And.right (And.right (And.right (And.right (by with_reducible assumption))))) | with_reducible exact And.right (And.right (And.right (And.right (And.right (And.right (by with_reducible assumption)))))) | with_reducible exact And.right (And.right (And.right (And.right (And.right (And.right (And.right (by with_reducible assumption))))))) | with_reducible exact And.right (And.right (And.right (And.right (And.right (And.right (And.right (And.right (by with_reducible assumption))))))))) | (refine Nat.ne_of_gt ?_; first | with_reducible assumption | with_reducible exact And.left (by with_reducible assumption) | with_reducible exact And.left (And.right (by with_reducible assumption)) | with_reducible exact And.left (And.right (And.right (by with_reducible assumption))) | with_reducible exact And.left (And.right (And.right (And.right (by with_reducible assumption)))) | with_reducible exact And.left (And.right (And.right (And.right (And.right (by with_reducible assumption))))) | with_reducible exact And.left (And.right (And.right (And.right (And.right (And.right (by with_reducible assumption)))))) | with_reducible exact And.left (And.right (And.right (And.right (And.right (And.right (And.right (by with_reducible assumption))))))) | with_reducible exact And.left (And.right (And.right (And.right (And.right (And.right (And.right (And.right (by with_reducible assumption)))))))) | with_reducible exact And.left (And.right (And.right (And.right (And.right (And.right (And.right (And.right (And.right (by with_reducible assumption))))))))) | with_reducible exact And.right (by with_reducible assumption) | with_reducible exact And.right (And.right (by with_reducible assumption)) | with_reducible exact And.right (And.right (And.right (by with_reducible assumption))) | with_reducible exact And.right (And.right (And.right (And.right (by with_reducible assumption)))) | with_reducible exact And.right (And.right (And.right (And.right (And.right (by with_reducible assumption))))) | with_reducible exact And.right (And.right (And.right (And.right (And.right (And.right (by with_reducible assumption)))))) | with_reducible exact And.right (And.right (And.right (And.right (And.right (And.right (And.right (by with_reducible assumption))))))) | with_reducible exact And.right (And.right (And.right (And.right (And.right (And.right (And.right (And.right (by with_reducible assumption))))))))))
  trivial
section
variable {w : World} {mean : ExcName → Option Value} {mg mb : Str → Option Value} {dp un : Nat} {gd : Option (List Code)} {outer : List Env} {A₀ : Around} {base h₀ : Heap} {L : Addr} {m : Str → Option Value} {s : Shared} {Q : Flow → Shared → Prop} {rest : List (Addr × Obj)}
variable {lx ld : Addr} {kt ct : Nat → Tok} {W : Str} {infile pb fs : Value} {te : Tok} {x dx : Addr} {t2 k1 k2 k3 : Tok} {text : Str} {nl : Value}
variable {oc : Value} {od : Option Addr} {osl : Array (Option Value)} {name qual : Str} {params : Arguments} {st1 st2 i1 i2 i3 : Stmt} {test : PySem.Expr} {r orelse after : List Stmt} {pos : Pos} {scope : Scope} {dV kV doc pm cdv ct' : Value} {an : Option Addr} (ho : (hd.heap_1 w.params).lookup 695 = some ⟨oc, od, .func (fnOf name qual params (st1 :: st2 :: Stmt.While test (i1 :: i2 :: i3 :: r) orelse pos :: after) scope dV kV doc pm an cdv ct'), osl⟩)
variable (B : Below A₀ base outer h₀) (X : (hd.heap_1 w.params).In h₀) (T : Top q (looseW q loose) mean mg mb h₀) (hdp : dp + 10 < recursionLimit) (hun : un + 100 < cLine) (hsz : text.length ≤ 1000000) (n0 : @Ne Nat lx ld) (n1 : @Ne Nat lx x) (n2 : @Ne Nat lx dx) (n3 : @Ne Nat ld x) (n4 : @Ne Nat ld dx) (n5 : @Ne Nat x dx) (r1 : ∀ p ∈ rest, p.1 ≠ ld) (r2 : ∀ p ∈ rest, p.1 ≠ dx)

theorem str_eq : ∀ {a b : Str}, a.cps = b.cps → a = b
  | ⟨_⟩, ⟨_⟩, h => congrArg Str.mk h
theorem str10 : (⟨#[10]⟩ : Str) = Str.ofString "\n" := by decide +kernel
theorem str13 : (⟨#[13]⟩ : Str) = Str.ofString "\x0d" := by decide +kernel
theorem str34 : (⟨#[34]⟩ : Str) = Str.ofString "\"" := by decide +kernel
theorem str61 : (⟨#[61]⟩ : Str) = Str.ofString "=" := by decide +kernel
theorem ne10_13 : ((⟨#[13]⟩ : Str) == Str.ofString "\n") = false := by decide +kernel
theorem ne10_34 : ((⟨#[34]⟩ : Str) == Str.ofString "\n") = false := by decide +kernel
theorem ne10_61 : ((⟨#[61]⟩ : Str) == Str.ofString "\n") = false := by decide +kernel
theorem test_true {oc : Value} {od : Option Addr} {osl : Array (Option Value)} {name qual : Str} {params : Arguments} {st1 st2 : Stmt} {test : PySem.Expr} {body orelse after : List Stmt} {pos : Pos} {scope : Scope} {dV kV doc pm cdv ct' : Value} {an : Option Addr} (ho : (hd.heap_1 w.params).lookup 695 = some ⟨oc, od, .func (fnOf name qual params (st1 :: st2 :: Stmt.While test body orelse pos :: after) scope dV kV doc pm an cdv ct'), osl⟩) : ∃ n p, test = .Constant (.bool true) n p := by
  obtain ⟨rfl, hb, rfl, rfl⟩ := fn_inj (ho.symm.trans (by k_is))
  obtain ⟨rfl, hb2, rfl, rfl⟩ := while_inj hb
  exact ⟨_, _, rfl⟩
theorem whl_true {A : Around} {env : Env} {test : PySem.Expr} {body orelse : List Stmt} {k : Nat} (ht : ∃ n p, test = .Constant (.bool true) n p) (h : wpAny (model PySem.Challenge.pw_om0186_01 w) A (execs body env) (WhlPost PySem.Challenge.pw_om0186_01 w A (fun _ _ => False) env test body orelse Q k) (fun _ _ => False) s) :
    WhlRest PySem.Challenge.pw_om0186_01 w A (fun _ _ => False) env test body orelse Q (k + 1) s := by
  obtain ⟨n, p, rfl⟩ := ht
  refine whl_turn PassesOwn.never ?_
  w_on
  (try (show wpAny _ _ _ _ _ _; k_fold))
  k_steps
  exact h
theorem drop_next {text : Str} {p c : Nat} {rs : List Nat} (h : text.cps.toList.drop p = c :: rs) : text.cps.toList.drop (p + 1) = rs := by
  rw [← List.drop_drop, h]; rfl
theorem news_perm {h₀ h : Heap} {L : Addr} {a b c d e : Addr × Obj} {l : List (Addr × Obj)} (N : News h₀ L h (a :: b :: c :: d :: e :: l)) : News h₀ L h (a :: b :: e :: c :: d :: l) := news_sub N (by intro p hp; simp only [List.mem_cons] at hp ⊢; grind)
theorem news_perm' {h₀ h : Heap} {L : Addr} {a b c d e : Addr × Obj} {l : List (Addr × Obj)} (N : News h₀ L h (a :: b :: e :: c :: d :: l)) : News h₀ L h (a :: b :: c :: d :: e :: l) := news_sub N (by intro p hp; simp only [List.mem_cons] at hp ⊢; grind)
include ho B X T hdp hun hsz n0 n1 n2 n3 n4 n5 r1 r2
theorem lp_cr {b : Value} {nc : Option Value} {ts tt tl t3 : Tok} {tok : Str} {ln : Int} {p : Nat} {rs : List Nat} (F : Fr h₀ L s.heap (rtM lx b te nc)) (N : News h₀ L s.heap ((lx, instObj 727 ld) :: (ld, lexD w.params kt ct W (.ref x) infile (.str (Str.ofString "a") ts) (pb) (.int ln tl) (.str tok tt) fs) :: (x, instObj 592 dx) :: (dx, sioD w.params k1 k2 k3 nl (.str text t2) (.int ((p : Int)) t3)) :: rest)) (htk : tok.length ≤ 1000) (ht : ((tok.length : Int) != 0) = true) (hc : text.cps.toList.drop p = 13 :: rs)
    (hret : ∀ (nc' : Option Value) (t3' ta tb : Tok) (h' : Heap) (tk' : Nat), Fr h₀ L h' (rtM lx (b) te nc') → News h₀ L h' ((lx, instObj 727 ld) :: (ld, lexD w.params kt ct W (.ref x) infile (.str (Str.ofString " ") ta) (pb) (.int ln tl) (.str tok tt) fs) :: (x, instObj 592 dx) :: (dx, sioD w.params k1 k2 k3 nl (.str text t2) (.int (((p + 1 : Nat) : Int)) t3')) :: rest) → Q .next { s with heap := h', toks := tk' }) : WhlRest PySem.Challenge.pw_om0186_01 w (ktrTop dp un gd qual scope L 695 cdv [] outer) (fun _ _ => False) (envOf qual scope L 695 cdv) test (i1 :: i2 :: i3 :: r) orelse Q 1 s := by
  refine whl_true (k := 0) (test_true ho) (pre_c ho B X T hdp hun F N hc hsz ne10_13 n0 n1 n2 n3 n4 n5 r1 r2 fun t' t3' _ h' tk' F' N' => ?_)
  rw [str13] at F'
  refine pt_cr ho B X T hdp hun F' N' htk ht n0 (List.forall_mem_cons.mpr ⟨n3.symm, List.forall_mem_cons.mpr ⟨n4.symm, r1⟩⟩) fun ta tb h' tk' F' N' => hret _ t3' ta 0 h' tk' F' N'
theorem lp_cq {b : Value} {nc : Option Value} {ts tt tl t3 : Tok} {tok : Str} {ln : Int} {p : Nat} {rs : List Nat} (F : Fr h₀ L s.heap (rtM lx b te nc)) (N : News h₀ L s.heap ((lx, instObj 727 ld) :: (ld, lexD w.params kt ct W (.ref x) infile (.str (Str.ofString "\"") ts) (pb) (.int ln tl) (.str tok tt) fs) :: (x, instObj 592 dx) :: (dx, sioD w.params k1 k2 k3 nl (.str text t2) (.int ((p : Int)) t3)) :: rest)) (htk : tok.length ≤ 1000) (ht : ((tok.length : Int) != 0) = true) (hc : text.cps.toList.drop p = 34 :: 13 :: rs)
    (hret : ∀ (nc' : Option Value) (t3' ta tb : Tok) (h' : Heap) (tk' : Nat), Fr h₀ L h' (rtM lx (.bool true) te nc') → News h₀ L h' ((lx, instObj 727 ld) :: (ld, lexD w.params kt ct W (.ref x) infile (.str (Str.ofString " ") ta) (pb) (.int ln tl) (.str tok tt) fs) :: (x, instObj 592 dx) :: (dx, sioD w.params k1 k2 k3 nl (.str text t2) (.int (((p + 1 + 1 : Nat) : Int)) t3')) :: rest) → Q .next { s with heap := h', toks := tk' }) : WhlRest PySem.Challenge.pw_om0186_01 w (ktrTop dp un gd qual scope L 695 cdv [] outer) (fun _ _ => False) (envOf qual scope L 695 cdv) test (i1 :: i2 :: i3 :: r) orelse Q 1 s := by
  refine whl_true (k := 0) (test_true ho) (pre_c ho B X T hdp hun F N hc hsz ne10_34 n0 n1 n2 n3 n4 n5 r1 r2 fun t' t3' _ h' tk' F' N' => ?_)
  rw [str34] at F'
  refine pt_cq ho B X T hdp hun F' N' htk n0 (List.forall_mem_cons.mpr ⟨n3.symm, List.forall_mem_cons.mpr ⟨n4.symm, r1⟩⟩) fun ta tb h' tk' F' N' => ?_
  exact lp_cr (s := { s with heap := h', toks := tk' }) ho B X T hdp hun hsz n0 n1 n2 n3 n4 n5 r1 r2 F' N' htk ht (drop_next hc) hret

def rowCh (c : Nat) : Prop := ((⟨#[c]⟩ : Str) == Str.ofString "\n") = false ∧ ((⟨#[c]⟩ : Str) == Str.ofString "\"") = false ∧ (Builtin.Str.occurrences (Str.ofString "\\") (⟨#[c]⟩) 0 (PySem.Str.ofString "\\").length 1).isEmpty = true
theorem lp_rc {l : List Nat} : ∀ {s : Shared} {b : Value} {nc : Option Value} {ts tt tl t3 : Tok} {tok : Str} {ln : Int} {p : Nat} {rs : List Nat}, Fr h₀ L s.heap (rtM lx b te nc) → News h₀ L s.heap ((lx, instObj 727 ld) :: (ld, lexD w.params kt ct W (.ref x) infile (.str (Str.ofString "\"") ts) (pb) (.int ln tl) (.str tok tt) fs) :: (x, instObj 592 dx) :: (dx, sioD w.params k1 k2 k3 nl (.str text t2) (.int ((p : Int)) t3)) :: rest) → tok.length + l.length ≤ 1000 → ((((tok ++ ⟨l.toArray⟩ : Str)).length : Int) != 0) = true → (∀ c ∈ l, rowCh c) → text.cps.toList.drop p = l ++ 34 :: 13 :: rs →
    (∀ (nc' : Option Value) (t3' ta tb : Tok) (h' : Heap) (tk' : Nat), Fr h₀ L h' (rtM lx (.bool true) te nc') → News h₀ L h' ((lx, instObj 727 ld) :: (ld, lexD w.params kt ct W (.ref x) infile (.str (Str.ofString " ") ta) (pb) (.int ln tl) (.str (tok ++ ⟨l.toArray⟩) tb) fs) :: (x, instObj 592 dx) :: (dx, sioD w.params k1 k2 k3 nl (.str text t2) (.int (((p + l.length + 2 : Nat) : Int)) t3')) :: rest) → Q .next { s with heap := h', toks := tk' }) → WhlRest PySem.Challenge.pw_om0186_01 w (ktrTop dp un gd qual scope L 695 cdv [] outer) (fun _ _ => False) (envOf qual scope L 695 cdv) test (i1 :: i2 :: i3 :: r) orelse Q 1 s := by
  induction l with
  | nil =>
    intro s b nc ts tt tl t3 tok ln p rs F N hl ht hcs hc hret
    have e : (tok ++ (⟨([] : List Nat).toArray⟩ : Str)) = tok := str_eq (by rw [Str.cps_append]; simp)
    rw [e] at ht
    refine lp_cq ho B X T hdp hun hsz n0 n1 n2 n3 n4 n5 r1 r2 F N (by simpa using hl) ht hc fun nc' t3' ta tb h' tk' F' N' => hret nc' t3' ta tt h' tk' F' ?_
    rw [e]
    exact N'
  | cons c l ih =>
    intro s b nc ts tt tl t3 tok ln p rs F N hl ht hcs hc hret
    obtain ⟨c1, c2, c3⟩ := hcs c (.head _)
    have hc' : text.cps.toList.drop p = c :: (l ++ 34 :: 13 :: rs) := hc
    refine whl_true (k := 0) (test_true ho) (pre_c ho B X T hdp hun F N hc' hsz c1 n0 n1 n2 n3 n4 n5 r1 r2 fun t' t3' _ h' tk' F' N' => ?_)
    refine pt_rc ho B X T hdp hun F' N' (by simp only [List.length_cons] at hl; omega) c2 c3 n0 (List.forall_mem_cons.mpr ⟨n3.symm, List.forall_mem_cons.mpr ⟨n4.symm, r1⟩⟩) fun ta tb h' tk' F' N' => ?_
    have e : tok ++ (⟨#[c]⟩ : Str) ++ (⟨l.toArray⟩ : Str) = tok ++ (⟨(c :: l).toArray⟩ : Str) := str_eq (by simp only [Str.cps_append]; simp)
    have hlen : (tok ++ (⟨#[c]⟩ : Str)).length = tok.length + 1 := by rw [Str.length_append]; rfl
    refine ih (s := { s with heap := h', toks := tk' }) F' N' (by rw [hlen]; simp only [List.length_cons] at hl; omega) (by rw [e]; exact ht) (fun c hc => hcs c (.tail _ hc)) (drop_next hc') fun nc' t3' ta tb h' tk' F' N' => hret nc' t3' ta tb h' tk' F' ?_
    rw [e] at N'
    have ep : p + 1 + l.length + 2 = p + (c :: l).length + 2 := by simp only [List.length_cons]; omega
    rw [ep] at N'
    exact N'
theorem lp_oq {l : List Nat} {b : Value} {nc : Option Value} {ts tt tl t3 : Tok} {ln : Int} {p : Nat} {rs : List Nat} (F : Fr h₀ L s.heap (rtM lx b te nc)) (N : News h₀ L s.heap ((lx, instObj 727 ld) :: (ld, lexD w.params kt ct W (.ref x) infile (.str (Str.ofString " ") ts) (pb) (.int ln tl) (.str (Str.ofString "") tt) fs) :: (x, instObj 592 dx) :: (dx, sioD w.params k1 k2 k3 nl (.str text t2) (.int ((p : Int)) t3)) :: rest)) (hl : l.length ≤ 900) (h0 : l ≠ []) (hw : (Builtin.Str.occurrences W (Str.ofString "\"") 0 W.length 1).isEmpty = true) (hcs : ∀ c ∈ l, rowCh c) (hc : text.cps.toList.drop p = 34 :: (l ++ 34 :: 13 :: rs))
    (hret : ∀ (nc' : Option Value) (t3' ta tb : Tok) (h' : Heap) (tk' : Nat), Fr h₀ L h' (rtM lx (.bool true) te nc') → News h₀ L h' ((lx, instObj 727 ld) :: (ld, lexD w.params kt ct W (.ref x) infile (.str (Str.ofString " ") ta) (pb) (.int ln tl) (.str ⟨l.toArray⟩ tb) fs) :: (x, instObj 592 dx) :: (dx, sioD w.params k1 k2 k3 nl (.str text t2) (.int (((p + l.length + 3 : Nat) : Int)) t3')) :: rest) → Q .next { s with heap := h', toks := tk' }) : WhlRest PySem.Challenge.pw_om0186_01 w (ktrTop dp un gd qual scope L 695 cdv [] outer) (fun _ _ => False) (envOf qual scope L 695 cdv) test (i1 :: i2 :: i3 :: r) orelse Q 1 s := by
  refine whl_true (k := 0) (test_true ho) (pre_c ho B X T hdp hun F N hc hsz ne10_34 n0 n1 n2 n3 n4 n5 r1 r2 fun t' t3' _ h' tk' F' N' => ?_)
  rw [str34] at F'
  refine pt_oq ho B X T hdp hun F' N' hw n0 (List.forall_mem_cons.mpr ⟨n3.symm, List.forall_mem_cons.mpr ⟨n4.symm, r1⟩⟩) fun ta tb h' tk' F' N' => ?_
  have e : (Str.ofString "" ++ (⟨l.toArray⟩ : Str)) = ⟨l.toArray⟩ := str_eq (by rw [Str.cps_append]; simp [show (Str.ofString "").cps = #[] by decide +kernel])
  refine lp_rc (s := { s with heap := h', toks := tk' }) ho B X T hdp hun hsz n0 n1 n2 n3 n4 n5 r1 r2 F' N' (by show (Str.ofString "").length + _ ≤ _; rw [show (Str.ofString "").length = 0 by decide +kernel]; omega) ?_ hcs (drop_next hc) fun nc' t3' ta tb h' tk' F' N' => hret nc' t3' ta tb h' tk' F' ?_
  · rw [e]
    cases l with
    | nil => exact absurd rfl h0
    | cons a l => exact bne_iff_ne.mpr (by show ((List.toArray (a :: l)).size : Int) ≠ 0; simp only [List.size_toArray, List.length_cons]; omega)
  · rw [e] at N'
    have ep : p + 1 + l.length + 2 = p + l.length + 3 := by omega
    rw [ep] at N'
    exact N'
theorem lp_eq {pa : Addr} {nd : Int} (m0 : @Ne Nat lx pa) (m1 : @Ne Nat ld pa) (m2 : @Ne Nat x pa) (m3 : @Ne Nat dx pa) (r3 : ∀ p ∈ rest, p.1 ≠ pa) {b : Value} {nc : Option Value} {ts tt tl t3 : Tok} {tok : Str} {ln : Int} {p : Nat} {rs : List Nat} (F : Fr h₀ L s.heap (rtM lx b te nc)) (N : News h₀ L s.heap ((lx, instObj 727 ld) :: (ld, lexD w.params kt ct W (.ref x) infile (.str (Str.ofString "a") ts) (.ref pa) (.int ln tl) (.str tok tt) fs) :: (x, instObj 592 dx) :: (dx, sioD w.params k1 k2 k3 nl (.str text t2) (.int ((p : Int)) t3)) :: (pa, dqO nd []) :: rest)) (htk : tok.length ≤ 1000) (ht : ((tok.length : Int) != 0) = true) (hw : (Builtin.Str.occurrences W (Str.ofString "=") 0 W.length 1).isEmpty = true) (hc : text.cps.toList.drop p = 61 :: rs)
    (hret : ∀ (nc' : Option Value) (t3' ta tb : Tok) (h' : Heap) (tk' : Nat), Fr h₀ L h' (rtM lx (b) te nc') → News h₀ L h' ((lx, instObj 727 ld) :: (ld, lexD w.params kt ct W (.ref x) infile (.str (Str.ofString " ") ta) (.ref pa) (.int ln tl) (.str tok tt) fs) :: (x, instObj 592 dx) :: (dx, sioD w.params k1 k2 k3 nl (.str text t2) (.int (((p + 1 : Nat) : Int)) t3')) :: (pa, dqO (nd + 1) [.str (Str.ofString "=") tb]) :: rest) → Q .next { s with heap := h', toks := tk' }) : WhlRest PySem.Challenge.pw_om0186_01 w (ktrTop dp un gd qual scope L 695 cdv [] outer) (fun _ _ => False) (envOf qual scope L 695 cdv) test (i1 :: i2 :: i3 :: r) orelse Q 1 s := by
  refine whl_true (k := 0) (test_true ho) (pre_c ho B X T hdp hun F N hc hsz ne10_61 n0 n1 n2 n3 n4 n5 (List.forall_mem_cons.mpr ⟨m1.symm, r1⟩) (List.forall_mem_cons.mpr ⟨m3.symm, r2⟩) fun t' t3' tq h' tk' F' N' => ?_)
  rw [str61] at F'
  refine pt_eq ho B X T hdp hun F' (news_perm N') htk ht hw n0 (List.forall_mem_cons.mpr ⟨n3.symm, List.forall_mem_cons.mpr ⟨n4.symm, r1⟩⟩) m0 m1 (List.forall_mem_cons.mpr ⟨m2, List.forall_mem_cons.mpr ⟨m3, r3⟩⟩) fun ta tb h' tk' F' N' => hret _ t3' ta tb h' tk' F' (news_perm' N')
theorem lp_l {pa : Addr} {nd : Int} (m0 : @Ne Nat lx pa) (m1 : @Ne Nat ld pa) (m2 : @Ne Nat x pa) (m3 : @Ne Nat dx pa) (r3 : ∀ p ∈ rest, p.1 ≠ pa) {b : Value} {nc : Option Value} {ts tt tl t3 : Tok} {ln : Int} {p c : Nat} {rs : List Nat} (F : Fr h₀ L s.heap (rtM lx b te nc)) (N : News h₀ L s.heap ((lx, instObj 727 ld) :: (ld, lexD w.params kt ct W (.ref x) infile (.str (Str.ofString " ") ts) (.ref pa) (.int ln tl) (.str (Str.ofString "") tt) fs) :: (x, instObj 592 dx) :: (dx, sioD w.params k1 k2 k3 nl (.str text t2) (.int ((p : Int)) t3)) :: (pa, dqO nd []) :: rest)) (hn : ((⟨#[c]⟩ : Str) == Str.ofString "\n") = false) (hws : (Builtin.Str.occurrences (Str.ofString " \t\r\n") (⟨#[c]⟩) 0 (PySem.Str.ofString " \t\r\n").length 1).isEmpty = true) (hcm : (Builtin.Str.occurrences (Str.ofString "#") (⟨#[c]⟩) 0 (PySem.Str.ofString "#").length 1).isEmpty = true) (he : (Builtin.Str.occurrences (Str.ofString "\\") (⟨#[c]⟩) 0 (PySem.Str.ofString "\\").length 1).isEmpty = true) (hw1 : (Builtin.Str.occurrences W (⟨#[c]⟩) 0 W.length 1).isEmpty = false) (hw : (Builtin.Str.occurrences W (Str.ofString "=") 0 W.length 1).isEmpty = true) (hc : text.cps.toList.drop p = c :: 61 :: rs)
    (hret : ∀ (nc' : Option Value) (t3' ta tb tq : Tok) (h' : Heap) (tk' : Nat), Fr h₀ L h' (rtM lx (b) te nc') → News h₀ L h' ((lx, instObj 727 ld) :: (ld, lexD w.params kt ct W (.ref x) infile (.str (Str.ofString " ") ta) (.ref pa) (.int ln tl) (.str ⟨#[c]⟩ tq) fs) :: (x, instObj 592 dx) :: (dx, sioD w.params k1 k2 k3 nl (.str text t2) (.int (((p + 2 : Nat) : Int)) t3')) :: (pa, dqO (nd + 1) [.str (Str.ofString "=") tb]) :: rest) → Q .next { s with heap := h', toks := tk' }) : WhlRest PySem.Challenge.pw_om0186_01 w (ktrTop dp un gd qual scope L 695 cdv [] outer) (fun _ _ => False) (envOf qual scope L 695 cdv) test (i1 :: i2 :: i3 :: r) orelse Q 1 s := by
  refine whl_true (k := 0) (test_true ho) (pre_c ho B X T hdp hun F N hc hsz hn n0 n1 n2 n3 n4 n5 (List.forall_mem_cons.mpr ⟨m1.symm, r1⟩) (List.forall_mem_cons.mpr ⟨m3.symm, r2⟩) fun t' t3' tq h' tk' F' N' => ?_)
  refine pt_l ho B X T hdp hun F' N' hws hcm he hw1 n0 (List.forall_mem_cons.mpr ⟨n3.symm, List.forall_mem_cons.mpr ⟨n4.symm, List.forall_mem_cons.mpr ⟨m1.symm, r1⟩⟩⟩) fun ta tb h' tk' F' N' => ?_
  exact lp_eq (s := { s with heap := h', toks := tk' }) ho B X T hdp hun hsz n0 n1 n2 n3 n4 n5 r1 r2 m0 m1 m2 m3 r3 F' N' (by show 1 ≤ 1000; decide) rfl hw (drop_next hc) fun nc' t3' ta tb' h' tk' F' N' => hret nc' t3' ta tb' tb h' tk' F' N'
theorem lp_nl {pa : Addr} {nd : Int} (m0 : @Ne Nat lx pa) (m1 : @Ne Nat ld pa) (m2 : @Ne Nat x pa) (m3 : @Ne Nat dx pa) (r3 : ∀ p ∈ rest, p.1 ≠ pa) {nc : Option Value} {ts tt tl t3 : Tok} {ln : Int} {p c : Nat} {rs : List Nat} (F : Fr h₀ L s.heap (rtM lx (.bool false) te nc)) (N : News h₀ L s.heap ((lx, instObj 727 ld) :: (ld, lexD w.params kt ct W (.ref x) infile (.str (Str.ofString " ") ts) (.ref pa) (.int ln tl) (.str (Str.ofString "") tt) fs) :: (x, instObj 592 dx) :: (dx, sioD w.params k1 k2 k3 nl (.str text t2) (.int ((p : Int)) t3)) :: (pa, dqO nd []) :: rest)) (hn : ((⟨#[c]⟩ : Str) == Str.ofString "\n") = false) (hws : (Builtin.Str.occurrences (Str.ofString " \t\r\n") (⟨#[c]⟩) 0 (PySem.Str.ofString " \t\r\n").length 1).isEmpty = true) (hcm : (Builtin.Str.occurrences (Str.ofString "#") (⟨#[c]⟩) 0 (PySem.Str.ofString "#").length 1).isEmpty = true) (he : (Builtin.Str.occurrences (Str.ofString "\\") (⟨#[c]⟩) 0 (PySem.Str.ofString "\\").length 1).isEmpty = true) (hw1 : (Builtin.Str.occurrences W (⟨#[c]⟩) 0 W.length 1).isEmpty = false) (hw : (Builtin.Str.occurrences W (Str.ofString "=") 0 W.length 1).isEmpty = true) (hc : text.cps.toList.drop p = 10 :: c :: 61 :: rs)
    (hret : ∀ (nc' : Option Value) (t3' ta tb tq tr : Tok) (h' : Heap) (tk' : Nat), Fr h₀ L h' (rtM lx (.bool false) te nc') → News h₀ L h' ((lx, instObj 727 ld) :: (ld, lexD w.params kt ct W (.ref x) infile (.str (Str.ofString " ") ta) (.ref pa) (.int (ln + 1) tr) (.str ⟨#[c]⟩ tq) fs) :: (x, instObj 592 dx) :: (dx, sioD w.params k1 k2 k3 nl (.str text t2) (.int (((p + 3 : Nat) : Int)) t3')) :: (pa, dqO (nd + 1) [.str (Str.ofString "=") tb]) :: rest) → Q .next { s with heap := h', toks := tk' }) : WhlRest PySem.Challenge.pw_om0186_01 w (ktrTop dp un gd qual scope L 695 cdv [] outer) (fun _ _ => False) (envOf qual scope L 695 cdv) test (i1 :: i2 :: i3 :: r) orelse Q 1 s := by
  refine whl_true (k := 0) (test_true ho) (pre_n ho B X T hdp hun F N hc hsz n0 n1 n2 n3 n4 n5 (List.forall_mem_cons.mpr ⟨m1.symm, r1⟩) (List.forall_mem_cons.mpr ⟨m3.symm, r2⟩) fun t' t3' tq h' tk' F' N' => ?_)
  refine pt_w ho B X T hdp hun F' N' n0 (List.forall_mem_cons.mpr ⟨n3.symm, List.forall_mem_cons.mpr ⟨n4.symm, List.forall_mem_cons.mpr ⟨m1.symm, r1⟩⟩⟩) fun ta tb h' tk' F' N' => ?_
  exact lp_l (s := { s with heap := h', toks := tk' }) ho B X T hdp hun hsz n0 n1 n2 n3 n4 n5 r1 r2 m0 m1 m2 m3 r3 F' N' hn hws hcm he hw1 hw (drop_next hc) fun nc' t3' ta tb tq' h' tk' F' N' => hret nc' t3' ta tb tq' tq h' tk' F' N'
theorem lp_e {b : Value} {nc : Option Value} {ts tt tl t3 : Tok} {ln : Int} {p : Nat} (F : Fr h₀ L s.heap (rtM lx b te nc)) (N : News h₀ L s.heap ((lx, instObj 727 ld) :: (ld, lexD w.params kt ct W (.ref x) infile (.str (Str.ofString " ") ts) (pb) (.int ln tl) (.str (Str.ofString "") tt) fs) :: (x, instObj 592 dx) :: (dx, sioD w.params k1 k2 k3 nl (.str text t2) (.int ((p : Int)) t3)) :: rest)) (hc : text.length ≤ p)
    (hret : ∀ (nc' : Option Value) (t3' ta tb : Tok) (h' : Heap) (tk' : Nat), Fr h₀ L h' (rtM lx (b) te nc') → News h₀ L h' ((lx, instObj 727 ld) :: (ld, lexD w.params kt ct W (.ref x) infile (.none) (pb) (.int ln tl) (.str (Str.ofString "") tt) fs) :: (x, instObj 592 dx) :: (dx, sioD w.params k1 k2 k3 nl (.str text t2) (.int ((p : Int)) t3)) :: rest) → Q .next { s with heap := h', toks := tk' }) : WhlRest PySem.Challenge.pw_om0186_01 w (ktrTop dp un gd qual scope L 695 cdv [] outer) (fun _ _ => False) (envOf qual scope L 695 cdv) test (i1 :: i2 :: i3 :: r) orelse Q 1 s := by
  refine whl_true (k := 0) (test_true ho) (pre_e ho B X T hdp hun F N hc hsz  n0 n1 n2 n3 n4 n5 r1 r2 fun t' t3' _ h' tk' F' N' => ?_)
  refine pt_eof ho B X T hdp hun F' N'  n0 (List.forall_mem_cons.mpr ⟨n3.symm, List.forall_mem_cons.mpr ⟨n4.symm, r1⟩⟩) fun ta tb h' tk' F' N' => hret _ 0 0 0 h' tk' F' N'
theorem lp_ne {nc : Option Value} {ts tt tl t3 : Tok} {ln : Int} {p : Nat} (F : Fr h₀ L s.heap (rtM lx (.bool false) te nc)) (N : News h₀ L s.heap ((lx, instObj 727 ld) :: (ld, lexD w.params kt ct W (.ref x) infile (.str (Str.ofString " ") ts) (pb) (.int ln tl) (.str (Str.ofString "") tt) fs) :: (x, instObj 592 dx) :: (dx, sioD w.params k1 k2 k3 nl (.str text t2) (.int ((p : Int)) t3)) :: rest)) (hc : text.cps.toList.drop p = [10])
    (hret : ∀ (nc' : Option Value) (t3' ta tb : Tok) (h' : Heap) (tk' : Nat), Fr h₀ L h' (rtM lx (.bool false) te nc') → News h₀ L h' ((lx, instObj 727 ld) :: (ld, lexD w.params kt ct W (.ref x) infile (.none) (pb) (.int (ln + 1) ta) (.str (Str.ofString "") tt) fs) :: (x, instObj 592 dx) :: (dx, sioD w.params k1 k2 k3 nl (.str text t2) (.int (((p + 1 : Nat) : Int)) t3')) :: rest) → Q .next { s with heap := h', toks := tk' }) : WhlRest PySem.Challenge.pw_om0186_01 w (ktrTop dp un gd qual scope L 695 cdv [] outer) (fun _ _ => False) (envOf qual scope L 695 cdv) test (i1 :: i2 :: i3 :: r) orelse Q 1 s := by
  refine whl_true (k := 0) (test_true ho) (pre_n ho B X T hdp hun F N hc hsz  n0 n1 n2 n3 n4 n5 r1 r2 fun t' t3' tq h' tk' F' N' => ?_)
  refine pt_w ho B X T hdp hun F' N'  n0 (List.forall_mem_cons.mpr ⟨n3.symm, List.forall_mem_cons.mpr ⟨n4.symm, r1⟩⟩) fun ta tb h' tk' F' N' => ?_
  exact lp_e (s := { s with heap := h', toks := tk' }) ho B X T hdp hun hsz n0 n1 n2 n3 n4 n5 r1 r2 F' N' (by have := List.drop_eq_nil_iff.mp (drop_next hc); show text.cps.size ≤ p + 1; simpa using this) fun nc' _ _ _ h' tk' F' N' => hret nc' t3' tq 0 h' tk' F' N'
end
end
-- C6
section

theorem ne_empty (c : Nat) : ((⟨#[c]⟩ : Str) == Str.ofString "") = false := by
  rw [beq_eq_false_iff_ne]
  intro h
  have := congrArg Str.length h
  rw [show (Str.ofString "").length = 0 by decide +kernel] at this
  exact absurd this (by show ¬ (1 = 0); decide)
theorem fr_start {g h : Heap} {L lx : Addr} {te : Tok} (F : Fr g L h (fun y => if y = Str.ofString "escapedstate" then some (.str (Str.ofString " ") te) else if y = Str.ofString "quoted" then some (.bool false) else List.lookup y [(Str.ofString "self", .ref lx)])) : Fr g L h (rtM lx (.bool false) te none) := by
  have e : (fun y => if y = Str.ofString "escapedstate" then some (.str (Str.ofString " ") te) else if y = Str.ofString "quoted" then some (.bool false) else List.lookup y [(Str.ofString "self", .ref lx)]) = rtM lx (.bool false) te none := by
    funext y
    by_cases h0 : y = Str.ofString "nextchar"
    · subst h0; rfl
    · by_cases h1 : y = Str.ofString "escapedstate"
      · subst h1; rfl
      · by_cases h2 : y = Str.ofString "quoted"
        · subst h2; rfl
        · by_cases h3 : y = Str.ofString "self"
          · subst h3; rfl
          · simp only [rtM, h0, h1, h2, h3, if_false]
            rw [List.lookup_cons, beq_eq_false_iff_ne.mpr h3]; rfl
  rw [e] at F; exact F
section
variable {w : World} {mean : ExcName → Option Value} {mg mb : Str → Option Value} {dp un : Nat} {gd : Option (List Code)} {outer : List Env} {A₀ : Around} {base h₀ : Heap} {L : Addr} {m : Str → Option Value} {s : Shared} {Q : Flow → Shared → Prop} {rest : List (Addr × Obj)}
variable {lx ld : Addr} {kt ct : Nat → Tok} {W : Str} {infile pb fs : Value} {te : Tok} {x dx : Addr} {t2 k1 k2 k3 : Tok} {text : Str} {nl : Value}
variable {oc : Value} {od : Option Addr} {osl : Array (Option Value)} {name qual : Str} {params : Arguments} {st1 st2 i1 i2 i3 : Stmt} {test : PySem.Expr} {r orelse after : List Stmt} {pos : Pos} {scope : Scope} {dV kV doc pm cdv ct' : Value} {an : Option Addr} (ho : (hd.heap_1 w.params).lookup 695 = some ⟨oc, od, .func (fnOf name qual params (st1 :: st2 :: Stmt.While test (i1 :: i2 :: i3 :: r) orelse pos :: after) scope dV kV doc pm an cdv ct'), osl⟩)
variable (B : Below A₀ base outer h₀) (X : (hd.heap_1 w.params).In h₀) (T : Top q (looseW q loose) mean mg mb h₀) (hdp : dp + 10 < recursionLimit) (hun : un + 100 < cLine) (hsz : text.length ≤ 1000000) (n0 : @Ne Nat lx ld) (n1 : @Ne Nat lx x) (n2 : @Ne Nat lx dx) (n3 : @Ne Nat ld x) (n4 : @Ne Nat ld dx) (n5 : @Ne Nat x dx) (r1 : ∀ p ∈ rest, p.1 ≠ ld) (r2 : ∀ p ∈ rest, p.1 ≠ dx)
include ho B X T hdp hun hsz n0 n1 n2 n3 n4 n5 r1 r2
theorem lp_name {pa : Addr} {nd : Int} (m0 : @Ne Nat lx pa) (m1 : @Ne Nat ld pa) (m2 : @Ne Nat x pa) (m3 : @Ne Nat dx pa) (r3 : ∀ p ∈ rest, p.1 ≠ pa) {nc : Option Value} {ts tt tl t3 : Tok} {ln ln' : Int} {p p' c : Nat} {rs : List Nat} (F : Fr h₀ L s.heap (rtM lx (.bool false) te nc)) (N : News h₀ L s.heap ((lx, instObj 727 ld) :: (ld, lexD w.params kt ct W (.ref x) infile (.str (Str.ofString " ") ts) (.ref pa) (.int ln tl) (.str (Str.ofString "") tt) fs) :: (x, instObj 592 dx) :: (dx, sioD w.params k1 k2 k3 nl (.str text t2) (.int ((p : Int)) t3)) :: (pa, dqO nd []) :: rest)) (hn : ((⟨#[c]⟩ : Str) == Str.ofString "\n") = false) (hws : (Builtin.Str.occurrences (Str.ofString " \t\r\n") (⟨#[c]⟩) 0 (PySem.Str.ofString " \t\r\n").length 1).isEmpty = true) (hcm : (Builtin.Str.occurrences (Str.ofString "#") (⟨#[c]⟩) 0 (PySem.Str.ofString "#").length 1).isEmpty = true) (he : (Builtin.Str.occurrences (Str.ofString "\\") (⟨#[c]⟩) 0 (PySem.Str.ofString "\\").length 1).isEmpty = true) (hw1 : (Builtin.Str.occurrences W (⟨#[c]⟩) 0 W.length 1).isEmpty = false) (hw : (Builtin.Str.occurrences W (Str.ofString "=") 0 W.length 1).isEmpty = true) (hc : (text.cps.toList.drop p = c :: 61 :: rs ∧ ln' = ln ∧ p' = p + 2) ∨ (text.cps.toList.drop p = 10 :: c :: 61 :: rs ∧ ln' = ln + 1 ∧ p' = p + 3))
    (hret : ∀ (nc' : Option Value) (t3' ta tb tq tr : Tok) (h' : Heap) (tk' : Nat), Fr h₀ L h' (rtM lx (.bool false) te nc') → News h₀ L h' ((lx, instObj 727 ld) :: (ld, lexD w.params kt ct W (.ref x) infile (.str (Str.ofString " ") ta) (.ref pa) (.int ln' tr) (.str ⟨#[c]⟩ tq) fs) :: (x, instObj 592 dx) :: (dx, sioD w.params k1 k2 k3 nl (.str text t2) (.int ((p' : Int)) t3')) :: (pa, dqO (nd + 1) [.str (Str.ofString "=") tb]) :: rest) → Q .next { s with heap := h', toks := tk' }) : WhlRest PySem.Challenge.pw_om0186_01 w (ktrTop dp un gd qual scope L 695 cdv [] outer) (fun _ _ => False) (envOf qual scope L 695 cdv) test (i1 :: i2 :: i3 :: r) orelse Q 1 s := by
  rcases hc with ⟨hc, rfl, rfl⟩ | ⟨hc, rfl, rfl⟩
  · exact lp_l ho B X T hdp hun hsz n0 n1 n2 n3 n4 n5 r1 r2 m0 m1 m2 m3 r3 F N hn hws hcm he hw1 hw hc fun nc' t3' ta tb tq h' tk' F' N' => hret nc' t3' ta tb tq tl h' tk' F' N'
  · exact lp_nl ho B X T hdp hun hsz n0 n1 n2 n3 n4 n5 r1 r2 m0 m1 m2 m3 r3 F N hn hws hcm he hw1 hw hc hret
theorem lp_end {nc : Option Value} {ts tt tl t3 : Tok} {ln ln' : Int} {p p' : Nat} (F : Fr h₀ L s.heap (rtM lx (.bool false) te nc)) (N : News h₀ L s.heap ((lx, instObj 727 ld) :: (ld, lexD w.params kt ct W (.ref x) infile (.str (Str.ofString " ") ts) (pb) (.int ln tl) (.str (Str.ofString "") tt) fs) :: (x, instObj 592 dx) :: (dx, sioD w.params k1 k2 k3 nl (.str text t2) (.int ((p : Int)) t3)) :: rest)) (hc : (text.length ≤ p ∧ ln' = ln ∧ p' = p) ∨ (text.cps.toList.drop p = [10] ∧ ln' = ln + 1 ∧ p' = p + 1))
    (hret : ∀ (nc' : Option Value) (t3' ta tb : Tok) (h' : Heap) (tk' : Nat), Fr h₀ L h' (rtM lx (.bool false) te nc') → News h₀ L h' ((lx, instObj 727 ld) :: (ld, lexD w.params kt ct W (.ref x) infile (.none) (pb) (.int ln' ta) (.str (Str.ofString "") tt) fs) :: (x, instObj 592 dx) :: (dx, sioD w.params k1 k2 k3 nl (.str text t2) (.int ((p' : Int)) t3')) :: rest) → Q .next { s with heap := h', toks := tk' }) : WhlRest PySem.Challenge.pw_om0186_01 w (ktrTop dp un gd qual scope L 695 cdv [] outer) (fun _ _ => False) (envOf qual scope L 695 cdv) test (i1 :: i2 :: i3 :: r) orelse Q 1 s := by
  rcases hc with ⟨hc, rfl, rfl⟩ | ⟨hc, rfl, rfl⟩
  · exact lp_e ho B X T hdp hun hsz n0 n1 n2 n3 n4 n5 r1 r2 F N hc fun nc' _ _ _ h' tk' F' N' => hret nc' t3 tl 0 h' tk' F' N'
  · exact lp_ne ho B X T hdp hun hsz n0 n1 n2 n3 n4 n5 r1 r2 F N hc hret
end
section
variable {w : World} {mean : ExcName → Option Value} {mg mb : Str → Option Value} {dp un : Nat} {gd : Option (List Code)} {cn : Str} {cs : Scope} {a : Addr} {ccd : Value} {cl : List (Str × Addr)} {outer : List Env} {A₀ : Around} {base h₀ : Heap} {L : Addr} {m : Str → Option Value} {s : Shared} {Q E : Value → Shared → Prop} {rest : List (Addr × Obj)}
variable {lx ld : Addr} {kt ct : Nat → Tok} {W : Str} {infile pb fs : Value} {x dx : Addr} {t2 k1 k2 k3 : Tok} {text : Str} {nl : Value} {ts tt tl t3 : Tok} {ln ln' : Int} {p p' c : Nat} {rs : List Nat} {l : List Nat}
theorem kw4 : True := by
  k_with_none
  k_with "call ref" => (k_here; (with_reducible show wpAny _ _ (call (Value.ref 538) [Value.ref _, Value.int 1 _]) _ _ _); k_dflt (refine' read_c ?k19q ?k29q ?k39q ?k59q ?kK9q ?kd9q ?ku9q ?kn9q ?kx9q ?kU9q ?kc9q ?kne9q ?ksz9q ?_; (case k19q => k_asm); (case k29q => k_asm); (case k39q => k_asm); (case k59q => k_asm); (case kK9q => first | exact rfl | assumption); (case kn9q => k_asm); (case kx9q => k_mem); (case kU9q => (intro t39k; k_upd)); (case kc9q => assumption); (case kne9q => assumption); (case ksz9q => assumption); (case kd9q => ktr_room); (case ku9q => ktr_units); k_whole; intro t9k t39k h9k tk9k F9k N9k; (try k_sweep)))
  k_with "call ref" => (k_here; (with_reducible show wpAny _ _ (call (Value.ref 538) [Value.ref _, Value.int 1 _]) _ _ _); k_dflt (refine' read_e ?k19q ?k29q ?k39q ?k59q ?kK9q ?kd9q ?ku9q ?kn9q ?kx9q ?kU9q ?kc9q ?kne9q ?ksz9q ?_; (case k19q => k_asm); (case k29q => k_asm); (case k39q => k_asm); (case k59q => k_asm); (case kK9q => first | exact rfl | assumption); (case kn9q => k_asm); (case kx9q => k_mem); (case kU9q => k_mem); (case kc9q => assumption); (case kne9q => assumption); (case ksz9q => assumption); (case kd9q => ktr_room); (case ku9q => ktr_units); k_whole; intro t9k h9k tk9k F9k N9k; (try k_sweep)))
  k_with "getMethod ref" => (k_here; (with_reducible show wpAny _ _ (getMethod (Value.ref _) (PySem.Str.ofString "appendleft") _) _ _ _); k_dflt (refine' dqK_apl ?N9q ?h9q ?_; (case N9q => k_asm); (case h9q => k_mem); k_whole))
  k_with "getMethod ref" => (k_here; (with_reducible show wpAny _ _ (getMethod (Value.ref _) (PySem.Str.ofString "popleft") _) _ _ _); k_dflt (refine' dqK_pop ?N9q ?h9q ?_; (case N9q => k_asm); (case h9q => k_mem); k_whole))
  k_with "call builtin:collections.deque.appendleft" => (k_here; k_dflt (refine' dqK_appendleft ?F9q ?N9q ?U9q ?z9q ?_; (case F9q => k_asm); (case N9q => k_asm); (case U9q => k_upd); (case z9q => first | decide | omega); k_whole; intro h9k F9k N9k; (try k_sweep)))
  k_with "call builtin:collections.deque.popleft" => (k_here; k_dflt (refine' dqK_popleft ?F9q ?N9q ?U9q ?z9q ?_; (case F9q => k_asm); (case N9q => k_asm); (case U9q => k_upd); (case z9q => first | decide | omega); k_whole; intro h9k F9k N9k; (try k_sweep)))
  k_with "truthy ref" => (k_here; k_dflt (refine' dqK_truthy ?N9q ?h9q ?z9q ?_; (case N9q => k_asm); (case h9q => k_mem); (case z9q => first | decide | omega); k_whole; intro tk9k))
  k_with "own all" => assumption
  k_with "exec If" => refine wpAny_If ?_
  k_with "truthy str" => refine P.truthy_str (by omega) ?_
  k_with "ite" => first | refine ite_pos (by with_reducible assumption) ?_ | refine ite_isFalse (by with_reducible assumption) ?_ | refine ite_neg (by with_reducible assumption) ?_
  k_with "exec While" => refine Stop.mk ?_
  k_with "execs cons" => ((with_reducible refine wpAny_execs_cons ?_); (try dsimp only); (try k_fold))
  k_with "own ne" => (refine neN ?_; (try dsimp only); first | with_reducible assumption | (refine Ne.symm ?_; with_reducible assumption) | (refine Nat.ne_of_lt ?_; first | with_reducible assumption | with_reducible exact And.left (by with_reducible assumption) | with_reducible exact And.left (And.right (by with_reducible assumption)) | with_reducible exact And.left (And.right (And.right (by with_reducible assumption))) | with_reducible exact And.left (And.right (And.right (And.right (by with_reducible assumption)))) | with_reducible exact And.left (And.right (And.right (And.right (And.right (by with_reducible assumption))))) | with_reducible exact And.left (And.right (And.right (And.right (And.right (And.right (by with_reducible assumption)))))) | with_reducible exact And.left (And.right (And.right (And.right (And.right (And.right (And.right (by with_reducible assumption))))))) | with_reducible exact And.left (And.right (And.right (And.right (And.right (And.right (And.right (And.right (by with_reducible assumption)))))))) | with_reducible exact And.left (And.right (And.right (And.right (And.right (And.right (And.right (And.right (And.right (by with_reducible assumption))))))))) | with_reducible exact And.right (by with_reducible assumption) | with_reducible exact And.right (And.right (by with_reducible assumption)) | with_reducible exact And.right (And.right (And.right (by with_reducible assumption))) | with_reducible exact And.right (And.right (And.right (And.right (by with_reducible assumption)))) | with_reducible exact And.right (And.right (And.right (And.right (And.right (by with_reducible assumption))))) | with_reducible exact And.right (And.right (And.right (And.right (And.right (And.right (by with_reducible assumption)))))) | with_reducible exact And.right (And.right (And.right (And.right (And.right (And.right (And.right (by with_reducible assumption))))))) | with_reducible exact And.right (And.right (And.right (And.right (And.right (And.right (And.right (And.right (by with_reducible assumption))))))))) | (refine Nat.ne_of_gt ?_; first | with_reducible assumption | with_reducible exact And.left (by with_reducible assumption) | with_reducible exact And.left (And.right (by with_reducible assumption)) | with_reducible exact And.left (And.right (And.right (by with_reducible assumption))) | with_reducible exact And.left (And.right (And.right (And.right (by with_reducible assumption)))) | with_reducible exact And.left (And.right (And.right (And.right (And.right (by with_reducible assumption))))) | with_reducible exact And.left (And.right (And.right (And.right (And.right (And.right (by with_reducible assumption)))))) | with_reducible exact And.left (And.right (And.right (And.right (And.right (And.right (And.right (by with_reducible assumption))))))) | with_reducible exact And.left (And.right (And.right (And.right (And.right (And.right (And.right (And.right (by with_reducible assumption)))))))) | with_reducible exact And.left (And.right (And.right (And.right (And.right (And.right (And.right (And.right (And.right (by with_reducible assumption))))))))) | with_reducible exact And.right (by with_reducible assumption) | with_reducible exact And.right (And.right (by with_reducible assumption)) | with_reducible exact And.right (And.right (And.right (by with_reducible assumption))) | with_reducible exact And.right (And.right (And.right (And.right (by with_reducible assumption)))) | with_reducible exact And.right (And.right (And.right (And.right (And.right (by with_reducible assumption))))) | with_reducible exact And.right (And.right (And.right (And.right (And.right (And.right (by with_reducible assumption)))))) | with_reducible exact And.right (And.right (And.right (And.right (And.right (And.right (And.right (by with_reducible assumption))))))) | with_reducible exact And.right (And.right (And.right (And.right (And.right (And.right (And.right (And.right (by with_reducible assumption))))))))))
  trivial
theorem rt_row  (B : Below A₀ base outer h₀) (F : Fr h₀ L s.heap m) (X : (hd.heap_1 w.params).In h₀) (T : Top q (looseW q loose) mean mg mb h₀) (hk : cs.kind = .function) (hdp : dp + 12 < recursionLimit) (hun : un + 120 < cLine) (hsz : text.length ≤ 1000000) (n0 : @Ne Nat lx ld) (n1 : @Ne Nat lx x) (n2 : @Ne Nat lx dx) (n3 : @Ne Nat ld x) (n4 : @Ne Nat ld dx) (n5 : @Ne Nat x dx) (r1 : ∀ p ∈ rest, p.1 ≠ ld) (r2 : ∀ p ∈ rest, p.1 ≠ dx) (N : News h₀ L s.heap ((lx, instObj 727 ld) :: (ld, lexD w.params kt ct W (.ref x) infile (.str (Str.ofString " ") ts) (pb) (.int ln tl) (.str (Str.ofString "") tt) fs) :: (x, instObj 592 dx) :: (dx, sioD w.params k1 k2 k3 nl (.str text t2) (.int ((p : Int)) t3)) :: rest)) (hl : l.length ≤ 900) (h0 : l ≠ []) (hw : (Builtin.Str.occurrences W (Str.ofString "\"") 0 W.length 1).isEmpty = true) (hcs : ∀ c ∈ l, rowCh c) (hc : text.cps.toList.drop p = 34 :: (l ++ 34 :: 13 :: rs))
    (hret : ∀ (t3' ta tb tq : Tok) (h' : Heap) (tk' : Nat), Fr h₀ L h' m → News h₀ L h' ((lx, instObj 727 ld) :: (ld, lexD w.params kt ct W (.ref x) infile (.str (Str.ofString " ") ta) (pb) (.int ln tl) (.str (Str.ofString "") tb) fs) :: (x, instObj 592 dx) :: (dx, sioD w.params k1 k2 k3 nl (.str text t2) (.int (((p + l.length + 3 : Nat) : Int)) t3')) :: rest) → Q (.str ⟨l.toArray⟩ tq) { s with heap := h', toks := tk' }) :
    wpAny (model PySem.Challenge.pw_om0186_01 w) (ktrTop dp un gd cn cs L a ccd cl outer) (call (.ref 695) [.ref lx]) Q E s := by
  w_on
  refine wpAny_call ?_
  k_dflt (refine' code_def ?k1 ?k2 ?k3 N ?k5 ?kA ?kF ?kK ?k6 ?k7 ?k8 ?k9 ?kB ?_ ?c2 ?c3 ?c4 ?c5; (case kA => exact rfl); (case kF => exact rfl); (case kK => assumption); (case k1 => k_asm); (case k2 => k_asm); (case k3 => k_asm); (case k5 => k_asm); (case k6 => k_is); (case k7 => k_is); (case k8 => ktr_room); (case k9 => first | exact BindsTo.of_eq rfl | exact binds_K (by k_in) rfl (by k_is) rfl rfl rfl); (case c5 => decide); (case kB => exact locs rfl); (case c2 => exact rfl); (case c3 => exact rfl); (case c4 => exact rfl); k_whole; intro g' L' h' FG' F' N' B' X' T'; (try dsimp only); (try k_fold))
  (try (show wpAny _ _ _ _ _ _; k_fold))
  k_steps
  refine wpAny_mono (whl_start 1 (lp_oq (l := l) (by k_is) B' X' T' (by simp only [depth_deeper, depth_in1]; omega) (by simp only [Around.deeper_units, Around.in1_units]; omega) hsz n0 n1 n2 n3 n4 n5 r1 r2 (fr_start (by k_asm)) (by k_asm) hl h0 hw hcs hc fun nc' t3' ta tb h' tk' F' N' => ?_)) (fun _ _ x => x) (fun _ _ x => x.elim)
  (try dsimp only)
  (try (show wpAny _ _ _ _ _ _; k_fold))
  k_steps
  exact hret _ _ _ _ _ _ (by k_asm) (by k_asm)
theorem rt_name {pa : Addr} {nd : Int} (m0 : @Ne Nat lx pa) (m1 : @Ne Nat ld pa) (m2 : @Ne Nat x pa) (m3 : @Ne Nat dx pa) (r3 : ∀ p ∈ rest, p.1 ≠ pa) (B : Below A₀ base outer h₀) (F : Fr h₀ L s.heap m) (X : (hd.heap_1 w.params).In h₀) (T : Top q (looseW q loose) mean mg mb h₀) (hk : cs.kind = .function) (hdp : dp + 12 < recursionLimit) (hun : un + 120 < cLine) (hsz : text.length ≤ 1000000) (n0 : @Ne Nat lx ld) (n1 : @Ne Nat lx x) (n2 : @Ne Nat lx dx) (n3 : @Ne Nat ld x) (n4 : @Ne Nat ld dx) (n5 : @Ne Nat x dx) (r1 : ∀ p ∈ rest, p.1 ≠ ld) (r2 : ∀ p ∈ rest, p.1 ≠ dx) (N : News h₀ L s.heap ((lx, instObj 727 ld) :: (ld, lexD w.params kt ct W (.ref x) infile (.str (Str.ofString " ") ts) (.ref pa) (.int ln tl) (.str (Str.ofString "") tt) fs) :: (x, instObj 592 dx) :: (dx, sioD w.params k1 k2 k3 nl (.str text t2) (.int ((p : Int)) t3)) :: (pa, dqO nd []) :: rest)) (hn : ((⟨#[c]⟩ : Str) == Str.ofString "\n") = false) (hws : (Builtin.Str.occurrences (Str.ofString " \t\r\n") (⟨#[c]⟩) 0 (PySem.Str.ofString " \t\r\n").length 1).isEmpty = true) (hcm : (Builtin.Str.occurrences (Str.ofString "#") (⟨#[c]⟩) 0 (PySem.Str.ofString "#").length 1).isEmpty = true) (he : (Builtin.Str.occurrences (Str.ofString "\\") (⟨#[c]⟩) 0 (PySem.Str.ofString "\\").length 1).isEmpty = true) (hw1 : (Builtin.Str.occurrences W (⟨#[c]⟩) 0 W.length 1).isEmpty = false) (hw : (Builtin.Str.occurrences W (Str.ofString "=") 0 W.length 1).isEmpty = true) (hc : (text.cps.toList.drop p = c :: 61 :: rs ∧ ln' = ln ∧ p' = p + 2) ∨ (text.cps.toList.drop p = 10 :: c :: 61 :: rs ∧ ln' = ln + 1 ∧ p' = p + 3))
    (hret : ∀ (t3' ta tb tq tr tz : Tok) (h' : Heap) (tk' : Nat), Fr h₀ L h' m → News h₀ L h' ((lx, instObj 727 ld) :: (ld, lexD w.params kt ct W (.ref x) infile (.str (Str.ofString " ") ta) (.ref pa) (.int ln' tr) (.str (Str.ofString "") tz) fs) :: (x, instObj 592 dx) :: (dx, sioD w.params k1 k2 k3 nl (.str text t2) (.int ((p' : Int)) t3')) :: (pa, dqO (nd + 1) [.str (Str.ofString "=") tb]) :: rest) → Q (.str ⟨#[c]⟩ tq) { s with heap := h', toks := tk' }) :
    wpAny (model PySem.Challenge.pw_om0186_01 w) (ktrTop dp un gd cn cs L a ccd cl outer) (call (.ref 695) [.ref lx]) Q E s := by
  w_on
  have fe := ne_empty c
  refine wpAny_call ?_
  k_dflt (refine' code_def ?k1 ?k2 ?k3 N ?k5 ?kA ?kF ?kK ?k6 ?k7 ?k8 ?k9 ?kB ?_ ?c2 ?c3 ?c4 ?c5; (case kA => exact rfl); (case kF => exact rfl); (case kK => assumption); (case k1 => k_asm); (case k2 => k_asm); (case k3 => k_asm); (case k5 => k_asm); (case k6 => k_is); (case k7 => k_is); (case k8 => ktr_room); (case k9 => first | exact BindsTo.of_eq rfl | exact binds_K (by k_in) rfl (by k_is) rfl rfl rfl); (case c5 => decide); (case kB => exact locs rfl); (case c2 => exact rfl); (case c3 => exact rfl); (case c4 => exact rfl); k_whole; intro g' L' h' FG' F' N' B' X' T'; (try dsimp only); (try k_fold))
  (try (show wpAny _ _ _ _ _ _; k_fold))
  k_steps
  refine wpAny_mono (whl_start 1 (lp_name (by k_is) B' X' T' (by simp only [depth_deeper, depth_in1]; omega) (by simp only [Around.deeper_units, Around.in1_units]; omega) hsz n0 n1 n2 n3 n4 n5 r1 r2 m0 m1 m2 m3 r3 (fr_start (by k_asm)) (by k_asm) hn hws hcm he hw1 hw hc fun nc' t3' ta tb tq tr h' tk' F' N' => ?_)) (fun _ _ x => x) (fun _ _ x => x.elim)
  (try dsimp only)
  (try (show wpAny _ _ _ _ _ _; k_fold))
  k_steps
  exact hret _ _ _ _ _ _ _ _ (by k_asm) (by k_asm)
theorem rt_eof  (B : Below A₀ base outer h₀) (F : Fr h₀ L s.heap m) (X : (hd.heap_1 w.params).In h₀) (T : Top q (looseW q loose) mean mg mb h₀) (hk : cs.kind = .function) (hdp : dp + 12 < recursionLimit) (hun : un + 120 < cLine) (hsz : text.length ≤ 1000000) (n0 : @Ne Nat lx ld) (n1 : @Ne Nat lx x) (n2 : @Ne Nat lx dx) (n3 : @Ne Nat ld x) (n4 : @Ne Nat ld dx) (n5 : @Ne Nat x dx) (r1 : ∀ p ∈ rest, p.1 ≠ ld) (r2 : ∀ p ∈ rest, p.1 ≠ dx) (N : News h₀ L s.heap ((lx, instObj 727 ld) :: (ld, lexD w.params kt ct W (.ref x) infile (.str (Str.ofString " ") ts) (pb) (.int ln tl) (.str (Str.ofString "") tt) fs) :: (x, instObj 592 dx) :: (dx, sioD w.params k1 k2 k3 nl (.str text t2) (.int ((p : Int)) t3)) :: rest)) (hc : (text.length ≤ p ∧ ln' = ln ∧ p' = p) ∨ (text.cps.toList.drop p = [10] ∧ ln' = ln + 1 ∧ p' = p + 1))
    (hret : ∀ (t3' ta tz : Tok) (h' : Heap) (tk' : Nat), Fr h₀ L h' m → News h₀ L h' ((lx, instObj 727 ld) :: (ld, lexD w.params kt ct W (.ref x) infile (.none) (pb) (.int ln' ta) (.str (Str.ofString "") tz) fs) :: (x, instObj 592 dx) :: (dx, sioD w.params k1 k2 k3 nl (.str text t2) (.int ((p' : Int)) t3')) :: rest) → Q .none { s with heap := h', toks := tk' }) :
    wpAny (model PySem.Challenge.pw_om0186_01 w) (ktrTop dp un gd cn cs L a ccd cl outer) (call (.ref 695) [.ref lx]) Q E s := by
  w_on
  refine wpAny_call ?_
  k_dflt (refine' code_def ?k1 ?k2 ?k3 N ?k5 ?kA ?kF ?kK ?k6 ?k7 ?k8 ?k9 ?kB ?_ ?c2 ?c3 ?c4 ?c5; (case kA => exact rfl); (case kF => exact rfl); (case kK => assumption); (case k1 => k_asm); (case k2 => k_asm); (case k3 => k_asm); (case k5 => k_asm); (case k6 => k_is); (case k7 => k_is); (case k8 => ktr_room); (case k9 => first | exact BindsTo.of_eq rfl | exact binds_K (by k_in) rfl (by k_is) rfl rfl rfl); (case c5 => decide); (case kB => exact locs rfl); (case c2 => exact rfl); (case c3 => exact rfl); (case c4 => exact rfl); k_whole; intro g' L' h' FG' F' N' B' X' T'; (try dsimp only); (try k_fold))
  (try (show wpAny _ _ _ _ _ _; k_fold))
  k_steps
  refine wpAny_mono (whl_start 1 (lp_end (by k_is) B' X' T' (by simp only [depth_deeper, depth_in1]; omega) (by simp only [Around.deeper_units, Around.in1_units]; omega) hsz n0 n1 n2 n3 n4 n5 r1 r2 (fr_start (by k_asm)) (by k_asm) hc fun nc' t3' ta tb h' tk' F' N' => ?_)) (fun _ _ x => x) (fun _ _ x => x.elim)
  (try dsimp only)
  (try (show wpAny _ _ _ _ _ _; k_fold))
  k_steps
  exact hret _ _ _ _ _ (by k_asm) (by k_asm)
end
end
-- C7
local macro_rules | `(tactic| k_steps) => `(tactic| repeat' (first | (k_unfold; (try dsimp only)) | (dsimp only; walk1) | walk1 | fail "no step"))
section
section
variable {w : World} {mean : ExcName → Option Value} {mg mb : Str → Option Value} {dp un : Nat} {gd : Option (List Code)} {cn : Str} {cs : Scope} {a : Addr} {ccd : Value} {cl : List (Str × Addr)} {outer : List Env} {A₀ : Around} {base h₀ : Heap} {L : Addr} {m : Str → Option Value} {s : Shared} {Q E : Value → Shared → Prop} {rest : List (Addr × Obj)}
variable {lx ld : Addr} {kt ct : Nat → Tok} {W : Str} {infile pb fs : Value} {x dx pa : Addr} {nd : Int} {t2 k1 k2 k3 : Tok} {text : Str} {nl : Value} {ts tt tl t3 : Tok} {ln ln' : Int} {p p' c : Nat} {rs : List Nat} {l : List Nat}
theorem kw5 : True := by
  k_with_none
  k_with "own all" => assumption
  k_with "exec If" => refine wpAny_If ?_
  k_with "truthy str" => refine P.truthy_str (by omega) ?_
  k_with "getMethod ref" => (k_here; (with_reducible show wpAny _ _ (getMethod (Value.ref _) (PySem.Str.ofString "appendleft") _) _ _ _); k_dflt (refine' dqK_apl ?N9q ?h9q ?_; (case N9q => k_asm); (case h9q => k_mem); k_whole))
  k_with "getMethod ref" => (k_here; (with_reducible show wpAny _ _ (getMethod (Value.ref _) (PySem.Str.ofString "popleft") _) _ _ _); k_dflt (refine' dqK_pop ?N9q ?h9q ?_; (case N9q => k_asm); (case h9q => k_mem); k_whole))
  k_with "call builtin:collections.deque.appendleft" => (k_here; k_dflt (refine' dqK_appendleft ?F9q ?N9q ?U9q ?z9q ?_; (case F9q => k_asm); (case N9q => k_asm); (case U9q => k_upd); (case z9q => first | exact Nat.le_of_ble_eq_true rfl | assumption | omega); k_whole; intro h9k F9k N9k; (try k_sweep)))
  k_with "call builtin:collections.deque.popleft" => (k_here; k_dflt (refine' dqK_popleft ?F9q ?N9q ?U9q ?z9q ?_; (case F9q => k_asm); (case N9q => k_asm); (case U9q => k_upd); (case z9q => first | exact Nat.le_of_ble_eq_true rfl | assumption | omega); k_whole; intro h9k F9k N9k; (try k_sweep)))
  k_with "truthy ref" => (k_here; k_dflt (refine' dqK_truthy ?N9q ?h9q ?z9q ?_; (case N9q => k_asm); (case h9q => k_mem); (case z9q => first | exact Nat.le_of_ble_eq_true rfl | assumption | omega); k_whole; intro tk9k))
  k_with "ite" => first | refine ite_pos (by with_reducible assumption) ?_ | refine ite_isFalse (by with_reducible assumption) ?_ | refine ite_neg (by with_reducible assumption) ?_
  k_with "exec While" => refine Stop.mk ?_
  k_with "execs cons" => ((with_reducible refine wpAny_execs_cons ?_); (try dsimp only); (try k_fold))
  k_with "own ne" => (refine neN ?_; (try dsimp only); first | with_reducible assumption | (refine Ne.symm ?_; with_reducible assumption) | (refine Nat.ne_of_lt ?_; first | with_reducible assumption | with_reducible exact And.left (by with_reducible assumption) | with_reducible exact And.left (And.right (by with_reducible assumption)) | with_reducible exact And.left (And.right (And.right (by with_reducible assumption))) | with_reducible exact And.left (And.right (And.right (And.right (by with_reducible assumption)))) | with_reducible exact And.left (And.right (And.right (And.right (And.right (by with_reducible assumption))))) | with_reducible exact And.left (And.right (And.right (And.right (And.right (And.right (by with_reducible assumption)))))) | with_reducible exact And.left (And.right (And.right (And.right (And.right (And.right (And.right (by with_reducible assumption))))))) | with_reducible exact And.left (And.right (And.right (And.right (And.right (And.right (And.right (And.right (by with_reducible assumption)))))))) | with_reducible exact And.left (And.right (And.right (And.right (And.right (And.right (And.right (And.right (And.right (by with_reducible assumption))))))))) | with_reducible exact And.right (by with_reducible assumption) | with_reducible exact And.right (And.right (by with_reducible assumption)) | with_reducible exact And.right (And.right (And.right (by with_reducible assumption))) | with_reducible exact And.right (And.right (And.right (And.right (by with_reducible assumption)))) | with_reducible exact And.right (And.right (And.right (And.right (And.right (by with_reducible assumption))))) | with_reducible exact And.right (And.right (And.right (And.right (And.right (And.right (by with_reducible assumption)))))) | with_reducible exact And.right (And.right (And.right (And.right (And.right (And.right (And.right (by with_reducible assumption))))))) | with_reducible exact And.right (And.right (And.right (And.right (And.right (And.right (And.right (And.right (by with_reducible assumption))))))))) | (refine Nat.ne_of_gt ?_; first | with_reducible assumption | with_reducible exact And.left (by with_reducible assumption) | with_reducible exact And.left (And.right (by with_reducible assumption)) | with_reducible exact And.left (And.right (And.right (by with_reducible assumption))) | with_reducible exact And.left (And.right (And.right (And.right (by with_reducible assumption)))) | with_reducible exact And.left (And.right (And.right (And.right (And.right (by with_reducible assumption))))) | with_reducible exact And.left (And.right (And.right (And.right (And.right (And.right (by with_reducible assumption)))))) | with_reducible exact And.left (And.right (And.right (And.right (And.right (And.right (And.right (by with_reducible assumption))))))) | with_reducible exact And.left (And.right (And.right (And.right (And.right (And.right (And.right (And.right (by with_reducible assumption)))))))) | with_reducible exact And.left (And.right (And.right (And.right (And.right (And.right (And.right (And.right (And.right (by with_reducible assumption))))))))) | with_reducible exact And.right (by with_reducible assumption) | with_reducible exact And.right (And.right (by with_reducible assumption)) | with_reducible exact And.right (And.right (And.right (by with_reducible assumption))) | with_reducible exact And.right (And.right (And.right (And.right (by with_reducible assumption)))) | with_reducible exact And.right (And.right (And.right (And.right (And.right (by with_reducible assumption))))) | with_reducible exact And.right (And.right (And.right (And.right (And.right (And.right (by with_reducible assumption)))))) | with_reducible exact And.right (And.right (And.right (And.right (And.right (And.right (And.right (by with_reducible assumption))))))) | with_reducible exact And.right (And.right (And.right (And.right (And.right (And.right (And.right (And.right (by with_reducible assumption))))))))))
  trivial
theorem gt_sign {v state token lineno : Value} (B : Below A₀ base outer h₀) (F : Fr h₀ L s.heap m) (X : (hd.heap_1 w.params).In h₀) (T : Top q (looseW q loose) mean mg mb h₀) (hk : cs.kind = .function) (hdp : dp + 14 < recursionLimit) (hun : un + 140 < cLine) (hsz : text.length ≤ 1000000) (n0 : @Ne Nat lx ld) (n1 : @Ne Nat lx x) (n2 : @Ne Nat lx dx) (n3 : @Ne Nat ld x) (n4 : @Ne Nat ld dx) (n5 : @Ne Nat x dx) (m0 : @Ne Nat lx pa) (m1 : @Ne Nat ld pa) (m2 : @Ne Nat x pa) (m3 : @Ne Nat dx pa) (r1 : ∀ p ∈ rest, p.1 ≠ ld) (r2 : ∀ p ∈ rest, p.1 ≠ dx) (r3 : ∀ p ∈ rest, p.1 ≠ pa) (N : News h₀ L s.heap ((lx, instObj 727 ld) :: (ld, lexD w.params kt ct W (.ref x) (infile) (state) (.ref pa) (lineno) (token) fs) :: (x, instObj 592 dx) :: (dx, sioD w.params k1 k2 k3 nl (.str text t2) (.int ((p : Int)) t3)) :: (pa, dqO nd [v]) :: rest)) 
    (hret : ∀ (h' : Heap) (tk' : Nat), Fr h₀ L h' m → News h₀ L h' ((lx, instObj 727 ld) :: (ld, lexD w.params kt ct W (.ref x) (infile) (state) (.ref pa) (lineno) (token) fs) :: (x, instObj 592 dx) :: (dx, sioD w.params k1 k2 k3 nl (.str text t2) (.int ((p : Int)) t3)) :: (pa, dqO (nd + 1) []) :: rest) → Q v { s with heap := h', toks := tk' }) :
    wpAny (model PySem.Challenge.pw_om0186_01 w) (ktrTop dp un gd cn cs L a ccd cl outer) (call (.ref 688) [.ref lx]) Q E s := by
  w_on
  have f0 : (![v].isEmpty) = true := rfl
  refine wpAny_call ?_
  k_dflt (refine' code_def ?k1 ?k2 ?k3 N ?k5 ?kA ?kF ?kK ?k6 ?k7 ?k8 ?k9 ?kB ?_ ?c2 ?c3 ?c4 ?c5; (case kA => exact rfl); (case kF => exact rfl); (case kK => assumption); (case k1 => k_asm); (case k2 => k_asm); (case k3 => k_asm); (case k5 => k_asm); (case k6 => k_is); (case k7 => k_is); (case k8 => ktr_room); (case k9 => first | exact BindsTo.of_eq rfl | exact binds_K (by k_in) rfl (by k_is) rfl rfl rfl); (case c5 => decide); (case kB => exact locs rfl); (case c2 => exact rfl); (case c3 => exact rfl); (case c4 => exact rfl); k_whole; intro g' L' h' FG' F' N' B' X' T'; (try dsimp only); (try k_fold))
  (try (show wpAny _ _ _ _ _ _; k_fold))
  k_steps
  exact hret _ _ (by k_asm) (by k_asm)
theorem kw6 : True := by
  k_with "call ref" => (k_here; (try dsimp only [List.nil_append, List.cons_append, List.append_nil]); (with_reducible show wpAny _ _ (call (Value.ref 695) [Value.ref _]) _ _ _); k_dflt (refine' rt_row ?k19q ?k29q ?k39q ?k59q ?kK9q ?kd9q ?ku9q ?ksz9q ?k09q ?j19q ?j29q ?j39q ?j49q ?j59q ?r19q ?r29q ?kN9q ?kl9q ?kh9q ?kw9q ?kcs9q ?kc9q ?_; (case k19q => k_asm); (case k29q => k_asm); (case k39q => k_asm); (case k59q => k_asm); (case kK9q => first | exact rfl | assumption); (case kN9q => k_asm); (case ksz9q => assumption); (case k09q => assumption); (case j19q => assumption); (case j29q => assumption); (case j39q => assumption); (case j49q => assumption); (case j59q => assumption); (case r19q => assumption); (case r29q => assumption); (case kl9q => assumption); (case kh9q => assumption); (case kw9q => assumption); (case kcs9q => assumption); (case kc9q => assumption); (case kd9q => ktr_room); (case ku9q => ktr_units); k_whole; intro t39k ta9k tb9k tq9k h9k tk9k F9k N9k; (try k_sweep)))
  trivial
theorem gt_row  (B : Below A₀ base outer h₀) (F : Fr h₀ L s.heap m) (X : (hd.heap_1 w.params).In h₀) (T : Top q (looseW q loose) mean mg mb h₀) (hk : cs.kind = .function) (hdp : dp + 14 < recursionLimit) (hun : un + 140 < cLine) (hsz : text.length ≤ 1000000) (n0 : @Ne Nat lx ld) (n1 : @Ne Nat lx x) (n2 : @Ne Nat lx dx) (n3 : @Ne Nat ld x) (n4 : @Ne Nat ld dx) (n5 : @Ne Nat x dx) (m0 : @Ne Nat lx pa) (m1 : @Ne Nat ld pa) (m2 : @Ne Nat x pa) (m3 : @Ne Nat dx pa) (r1 : ∀ p ∈ rest, p.1 ≠ ld) (r2 : ∀ p ∈ rest, p.1 ≠ dx) (r3 : ∀ p ∈ rest, p.1 ≠ pa) (N : News h₀ L s.heap ((lx, instObj 727 ld) :: (ld, lexD w.params kt ct W (.ref x) (infile) (.str (Str.ofString " ") ts) (.ref pa) (.int ln tl) (.str (Str.ofString "") tt) fs) :: (x, instObj 592 dx) :: (dx, sioD w.params k1 k2 k3 nl (.str text t2) (.int ((p : Int)) t3)) :: (pa, dqO nd []) :: rest)) (hl : l.length ≤ 900) (h0 : l ≠ []) (hw : (Builtin.Str.occurrences W (Str.ofString "\"") 0 W.length 1).isEmpty = true) (hcs : ∀ c ∈ l, rowCh c) (hc : text.cps.toList.drop p = 34 :: (l ++ 34 :: 13 :: rs))
    (hret : ∀ (t3' ta tb tq : Tok) (h' : Heap) (tk' : Nat), Fr h₀ L h' m → News h₀ L h' ((lx, instObj 727 ld) :: (ld, lexD w.params kt ct W (.ref x) (infile) (.str (Str.ofString " ") ta) (.ref pa) (.int ln tl) (.str (Str.ofString "") tb) fs) :: (x, instObj 592 dx) :: (dx, sioD w.params k1 k2 k3 nl (.str text t2) (.int (((p + l.length + 3 : Nat) : Int)) t3')) :: (pa, dqO nd []) :: rest) → Q (.str ⟨l.toArray⟩ tq) { s with heap := h', toks := tk' }) :
    wpAny (model PySem.Challenge.pw_om0186_01 w) (ktrTop dp un gd cn cs L a ccd cl outer) (call (.ref 688) [.ref lx]) Q E s := by
  w_on
  have q1 : ∀ p ∈ ((pa, dqO nd []) :: rest), p.1 ≠ ld := List.forall_mem_cons.mpr ⟨m1.symm, r1⟩
  have q2 : ∀ p ∈ ((pa, dqO nd []) :: rest), p.1 ≠ dx := List.forall_mem_cons.mpr ⟨m3.symm, r2⟩
  refine wpAny_call ?_
  k_dflt (refine' code_def ?k1 ?k2 ?k3 N ?k5 ?kA ?kF ?kK ?k6 ?k7 ?k8 ?k9 ?kB ?_ ?c2 ?c3 ?c4 ?c5; (case kA => exact rfl); (case kF => exact rfl); (case kK => assumption); (case k1 => k_asm); (case k2 => k_asm); (case k3 => k_asm); (case k5 => k_asm); (case k6 => k_is); (case k7 => k_is); (case k8 => ktr_room); (case k9 => first | exact BindsTo.of_eq rfl | exact binds_K (by k_in) rfl (by k_is) rfl rfl rfl); (case c5 => decide); (case kB => exact locs rfl); (case c2 => exact rfl); (case c3 => exact rfl); (case c4 => exact rfl); k_whole; intro g' L' h' FG' F' N' B' X' T'; (try dsimp only); (try k_fold))
  (try (show wpAny _ _ _ _ _ _; k_fold))
  k_steps
  refine wpAny_mono (whl_start 1 (whl_turn PassesOwn.never ?_)) (fun _ _ x => x) (fun _ _ x => x.elim)
  (try (show wpAny _ _ _ _ _ _; k_fold))
  k_steps
  exact hret _ _ _ _ _ _ (by k_asm) (by k_asm)
end
end
-- C8
section
abbrev tupO (vs : List Value) : Obj := { cls := .type "tuple", data := .seq vs.toArray }
section
variable {h₀ h : Heap} {L : Addr} {a b x d e f t : Addr × Obj} {l : List (Addr × Obj)}
theorem news_p0 (N : News h₀ L h (a :: b :: e :: f :: x :: d :: l)) : News h₀ L h (a :: b :: x :: d :: e :: f :: l) := news_sub N (by intro p hp; simp only [List.mem_cons] at hp ⊢; grind)
theorem news_p1 (N : News h₀ L h (a :: b :: x :: d :: e :: f :: l)) : News h₀ L h (a :: b :: e :: f :: x :: d :: l) := news_sub N (by intro p hp; simp only [List.mem_cons] at hp ⊢; grind)
theorem news_p2 (N : News h₀ L h (a :: b :: x :: d :: e :: f :: t :: l)) : News h₀ L h (a :: b :: e :: f :: l) := news_sub N (by intro p hp; simp only [List.mem_cons] at hp ⊢; grind)
end
theorem kw7 : True := by
  k_with_none
  k_with "own all" => assumption
  k_with "exec If" => refine wpAny_If ?_
  k_with "truthy str" => refine P.truthy_str (by omega) ?_
  k_with "getMethod ref" => (k_here; (with_reducible show wpAny _ _ (getMethod (Value.ref _) (PySem.Str.ofString "appendleft") _) _ _ _); k_dflt (refine' dqK_apl ?N9q ?h9q ?_; (case N9q => k_asm); (case h9q => k_mem); k_whole))
  k_with "getMethod ref" => (k_here; (with_reducible show wpAny _ _ (getMethod (Value.ref _) (PySem.Str.ofString "popleft") _) _ _ _); k_dflt (refine' dqK_pop ?N9q ?h9q ?_; (case N9q => k_asm); (case h9q => k_mem); k_whole))
  k_with "call builtin:collections.deque.appendleft" => (k_here; k_dflt (refine' dqK_appendleft ?F9q ?N9q ?U9q ?z9q ?_; (case F9q => k_asm); (case N9q => k_asm); (case U9q => k_upd); (case z9q => first | exact Nat.le_of_ble_eq_true rfl | assumption | omega); k_whole; intro h9k F9k N9k; (try k_sweep)))
  k_with "call builtin:collections.deque.popleft" => (k_here; k_dflt (refine' dqK_popleft ?F9q ?N9q ?U9q ?z9q ?_; (case F9q => k_asm); (case N9q => k_asm); (case U9q => k_upd); (case z9q => first | exact Nat.le_of_ble_eq_true rfl | assumption | omega); k_whole; intro h9k F9k N9k; (try k_sweep)))
  k_with "truthy ref" => (k_here; k_dflt (refine' dqK_truthy ?N9q ?h9q ?z9q ?_; (case N9q => k_asm); (case h9q => k_mem); (case z9q => first | exact Nat.le_of_ble_eq_true rfl | assumption | omega); k_whole; intro tk9k))
  k_with "ite" => first | refine ite_pos (by with_reducible assumption) ?_ | refine ite_isFalse (by with_reducible assumption) ?_ | refine ite_neg (by with_reducible assumption) ?_
  k_with "exec While" => refine Stop.mk ?_
  k_with "execs cons" => ((with_reducible refine wpAny_execs_cons ?_); (try dsimp only); (try k_fold))
  k_with "own ne" => (refine neN ?_; (try dsimp only); first | with_reducible assumption | (refine Ne.symm ?_; with_reducible assumption) | (refine Nat.ne_of_lt ?_; first | with_reducible assumption | with_reducible exact And.left (by with_reducible assumption) | with_reducible exact And.left (And.right (by with_reducible assumption)) | with_reducible exact And.left (And.right (And.right (by with_reducible assumption))) | with_reducible exact And.left (And.right (And.right (And.right (by with_reducible assumption)))) | with_reducible exact And.left (And.right (And.right (And.right (And.right (by with_reducible assumption))))) | with_reducible exact And.left (And.right (And.right (And.right (And.right (And.right (by with_reducible assumption)))))) | with_reducible exact And.left (And.right (And.right (And.right (And.right (And.right (And.right (by with_reducible assumption))))))) | with_reducible exact And.left (And.right (And.right (And.right (And.right (And.right (And.right (And.right (by with_reducible assumption)))))))) | with_reducible exact And.left (And.right (And.right (And.right (And.right (And.right (And.right (And.right (And.right (by with_reducible assumption))))))))) | with_reducible exact And.right (by with_reducible assumption) | with_reducible exact And.right (And.right (by with_reducible assumption)) | with_reducible exact And.right (And.right (And.right (by with_reducible assumption))) | with_reducible exact And.right (And.right (And.right (And.right (by with_reducible assumption)))) | with_reducible exact And.right (And.right (And.right (And.right (And.right (by with_reducible assumption))))) | with_reducible exact And.right (And.right (And.right (And.right (And.right (And.right (by with_reducible assumption)))))) | with_reducible exact And.right (And.right (And.right (And.right (And.right (And.right (And.right (by with_reducible assumption))))))) | with_reducible exact And.right (And.right (And.right (And.right (And.right (And.right (And.right (And.right (by with_reducible assumption))))))))) | (refine Nat.ne_of_gt ?_; first | with_reducible assumption | with_reducible exact And.left (by with_reducible assumption) | with_reducible exact And.left (And.right (by with_reducible assumption)) | with_reducible exact And.left (And.right (And.right (by with_reducible assumption))) | with_reducible exact And.left (And.right (And.right (And.right (by with_reducible assumption)))) | with_reducible exact And.left (And.right (And.right (And.right (And.right (by with_reducible assumption))))) | with_reducible exact And.left (And.right (And.right (And.right (And.right (And.right (by with_reducible assumption)))))) | with_reducible exact And.left (And.right (And.right (And.right (And.right (And.right (And.right (by with_reducible assumption))))))) | with_reducible exact And.left (And.right (And.right (And.right (And.right (And.right (And.right (And.right (by with_reducible assumption)))))))) | with_reducible exact And.left (And.right (And.right (And.right (And.right (And.right (And.right (And.right (And.right (by with_reducible assumption))))))))) | with_reducible exact And.right (by with_reducible assumption) | with_reducible exact And.right (And.right (by with_reducible assumption)) | with_reducible exact And.right (And.right (And.right (by with_reducible assumption))) | with_reducible exact And.right (And.right (And.right (And.right (by with_reducible assumption)))) | with_reducible exact And.right (And.right (And.right (And.right (And.right (by with_reducible assumption))))) | with_reducible exact And.right (And.right (And.right (And.right (And.right (And.right (by with_reducible assumption)))))) | with_reducible exact And.right (And.right (And.right (And.right (And.right (And.right (And.right (by with_reducible assumption))))))) | with_reducible exact And.right (And.right (And.right (And.right (And.right (And.right (And.right (And.right (by with_reducible assumption))))))))))
  trivial
section
variable {w : World} {mean : ExcName → Option Value} {mg mb : Str → Option Value} {dp un : Nat} {gd : Option (List Code)} {cn : Str} {cs : Scope} {a : Addr} {ccd : Value} {cl : List (Str × Addr)} {outer : List Env} {A₀ : Around} {base h₀ : Heap} {L : Addr} {m : Str → Option Value} {s : Shared} {Q E : Value → Shared → Prop} {rest : List (Addr × Obj)}
variable {lx ld : Addr} {kt ct : Nat → Tok} {W : Str} {infile pb fs : Value} {x dx pa fa : Addr} {nd nf : Int} {t2 k1 k2 k3 : Tok} {text : Str} {nl : Value} {ts tt tl t3 : Tok} {ln ln' : Int} {p p' c : Nat} {rs : List Nat} {l : List Nat}
theorem pop_c {tA x2 : Addr} {inf2 state token lineno pos : Value} {ln2 : Int} {tl2 : Tok} {items : List Value} (B : Below A₀ base outer h₀) (F : Fr h₀ L s.heap m) (X : (hd.heap_1 w.params).In h₀) (T : Top q (looseW q loose) mean mg mb h₀) (hk : cs.kind = .function) (hdp : dp + 14 < recursionLimit) (hun : un + 140 < cLine)  (e0 : @Ne Nat lx ld) (e1 : @Ne Nat lx x) (e2 : @Ne Nat lx dx) (e3 : @Ne Nat lx pa) (e4 : @Ne Nat lx fa) (e5 : @Ne Nat lx tA) (e6 : @Ne Nat ld x) (e7 : @Ne Nat ld dx) (e8 : @Ne Nat ld pa) (e9 : @Ne Nat ld fa) (e10 : @Ne Nat ld tA) (e11 : @Ne Nat x dx) (e12 : @Ne Nat x pa) (e13 : @Ne Nat x fa) (e14 : @Ne Nat x tA) (e15 : @Ne Nat dx pa) (e16 : @Ne Nat dx fa) (e17 : @Ne Nat dx tA) (e18 : @Ne Nat pa fa) (e19 : @Ne Nat pa tA) (e20 : @Ne Nat fa tA) (r1 : ∀ p ∈ rest, p.1 ≠ ld) (r2 : ∀ p ∈ rest, p.1 ≠ dx) (r3 : ∀ p ∈ rest, p.1 ≠ fa) (N : News h₀ L s.heap ((lx, instObj 727 ld) :: (ld, lexD w.params kt ct W (.ref x) (infile) (state) (.ref pa) (lineno) (token) (.ref fa)) :: (x, instObj 592 dx) :: (dx, sioD w.params k1 k2 k3 nl (.str text t2) pos) :: (pa, dqO nd []) :: (fa, dqO nf (.ref tA :: items)) :: (tA, tupO [inf2, .ref x2, .int ln2 tl2]) :: rest)) (hit : items.length < 1000)
    (hret : ∀ (ta : Tok) (h' : Heap) (tk' : Nat), Fr h₀ L h' m → News h₀ L h' ((lx, instObj 727 ld) :: (ld, lexD w.params kt ct W (.ref x2) (inf2) (.str (Str.ofString " ") ta) (.ref pa) (.int ln2 tl2) (token) (.ref fa)) :: (pa, dqO nd []) :: (fa, dqO (nf + 1) items) :: rest) → Q .none { s with heap := h', toks := tk' }) :
    wpAny (model PySem.Challenge.pw_om0186_01 w) (ktrTop dp un gd cn cs L a ccd cl outer) (call (.ref 681) [.ref lx]) Q E s := by
  w_on
  refine wpAny_call ?_
  k_dflt (refine' code_def ?k1 ?k2 ?k3 N ?k5 ?kA ?kF ?kK ?k6 ?k7 ?k8 ?k9 ?kB ?_ ?c2 ?c3 ?c4 ?c5; (case kA => exact rfl); (case kF => exact rfl); (case kK => assumption); (case k1 => k_asm); (case k2 => k_asm); (case k3 => k_asm); (case k5 => k_asm); (case k6 => k_is); (case k7 => k_is); (case k8 => ktr_room); (case k9 => first | exact BindsTo.of_eq rfl | exact binds_K (by k_in) rfl (by k_is) rfl rfl rfl); (case c5 => decide); (case kB => exact locs rfl); (case c2 => exact rfl); (case c3 => exact rfl); (case c4 => exact rfl); k_whole; intro g' L' h' FG' F' N' B' X' T'; (try dsimp only); (try k_fold))
  (try (show wpAny _ _ _ _ _ _; k_fold))
  k_steps
  refine' hret _ _ _ ?a (news_p2 ?b)
  case a => with_reducible assumption
  case b => with_reducible assumption

def GtSome (w : World) (lx ld pa fa : Addr) (kt ct : Nat → Tok) (W : Str) (D : Nat) (x : Addr) (inf : Value) (ln nf : Int) (items : List Value) (tail : List (Addr × Obj)) (c : Nat) (xF : Addr) (infF : Value) (lnF nfF : Int) (itemsF : List Value) (tailF : Tok → List (Addr × Obj)) : Prop :=
  ∀ {mean : ExcName → Option Value} {mg mb : Str → Option Value} {dp un : Nat} {gd : Option (List Code)} {cn : Str} {cs : Scope} {a : Addr} {ccd : Value} {cl : List (Str × Addr)} {outer : List Env} {A₀ : Around} {base h₀ : Heap} {L : Addr} {m : Str → Option Value} {s : Shared} {Q E : Value → Shared → Prop} {nd : Int} {ts tl tt : Tok}, Below A₀ base outer h₀ → Fr h₀ L s.heap m → (hd.heap_1 w.params).In h₀ → Top q (looseW q loose) mean mg mb h₀ → cs.kind = .function → dp + D < recursionLimit → un + 10 * D < cLine → News h₀ L s.heap ((lx, instObj 727 ld) :: (ld, lexD w.params kt ct W (.ref x) (inf) (.str (Str.ofString " ") ts) (.ref pa) (.int ln tl) (.str (Str.ofString "") tt) (.ref fa)) :: (pa, dqO nd []) :: (fa, dqO nf items) :: tail) →
    (∀ (t3' ta tb tq tr tz : Tok) (h' : Heap) (tk' : Nat), Fr h₀ L h' m → News h₀ L h' ((lx, instObj 727 ld) :: (ld, lexD w.params kt ct W (.ref xF) (infF) (.str (Str.ofString " ") ta) (.ref pa) (.int lnF tr) (.str (Str.ofString "") tz) (.ref fa)) :: (pa, dqO (nd + 1) [.str (Str.ofString "=") tb]) :: (fa, dqO nfF itemsF) :: tailF t3') → Q (.str ⟨#[c]⟩ tq) { s with heap := h', toks := tk' }) →
    wpAny (model PySem.Challenge.pw_om0186_01 w) (ktrTop dp un gd cn cs L a ccd cl outer) (call (.ref 688) [.ref lx]) Q E s
def GtNone (w : World) (lx ld pa fa : Addr) (kt ct : Nat → Tok) (W : Str) (D : Nat) (x : Addr) (inf : Value) (ln nf : Int) (items : List Value) (tail : List (Addr × Obj)) (xF : Addr) (infF : Value) (lnF nfF : Int) (tailF : Tok → List (Addr × Obj)) : Prop :=
  ∀ {mean : ExcName → Option Value} {mg mb : Str → Option Value} {dp un : Nat} {gd : Option (List Code)} {cn : Str} {cs : Scope} {a : Addr} {ccd : Value} {cl : List (Str × Addr)} {outer : List Env} {A₀ : Around} {base h₀ : Heap} {L : Addr} {m : Str → Option Value} {s : Shared} {Q E : Value → Shared → Prop} {nd : Int} {ts tl tt : Tok}, Below A₀ base outer h₀ → Fr h₀ L s.heap m → (hd.heap_1 w.params).In h₀ → Top q (looseW q loose) mean mg mb h₀ → cs.kind = .function → dp + D < recursionLimit → un + 10 * D < cLine → News h₀ L s.heap ((lx, instObj 727 ld) :: (ld, lexD w.params kt ct W (.ref x) (inf) (.str (Str.ofString " ") ts) (.ref pa) (.int ln tl) (.str (Str.ofString "") tt) (.ref fa)) :: (pa, dqO nd []) :: (fa, dqO nf items) :: tail) →
    (∀ (t3' tr tz : Tok) (h' : Heap) (tk' : Nat), Fr h₀ L h' m → News h₀ L h' ((lx, instObj 727 ld) :: (ld, lexD w.params kt ct W (.ref xF) (infF) .none (.ref pa) (.int lnF tr) (.str (Str.ofString "") tz) (.ref fa)) :: (pa, dqO nd []) :: (fa, dqO nfF []) :: tailF t3') → Q .none { s with heap := h', toks := tk' }) →
    wpAny (model PySem.Challenge.pw_om0186_01 w) (ktrTop dp un gd cn cs L a ccd cl outer) (call (.ref 688) [.ref lx]) Q E s
end
theorem kw8 : True := by
  k_with "call ref" => (k_here; (try dsimp only [List.nil_append, List.cons_append, List.append_nil]); (with_reducible show wpAny _ _ (call (Value.ref 695) [Value.ref _]) _ _ _); k_dflt (refine' rt_name ?m09q ?m19q ?m29q ?m39q ?m49q ?k19q ?k29q ?k39q ?k59q ?kK9q ?kd9q ?ku9q ?ksz9q ?k09q ?j19q ?j29q ?j39q ?j49q ?j59q ?r19q ?r29q ?kN9q ?l19q ?l29q ?l39q ?l49q ?l59q ?l69q ?kc9q ?_; (case k19q => k_asm); (case k29q => k_asm); (case k39q => k_asm); (case k59q => k_asm); (case kK9q => first | exact rfl | assumption); (case kN9q => k_asm); (case m09q => assumption); (case m19q => assumption); (case m29q => assumption); (case m39q => assumption); (case m49q => assumption); (case ksz9q => assumption); (case k09q => assumption); (case j19q => assumption); (case j29q => assumption); (case j39q => assumption); (case j49q => assumption); (case j59q => assumption); (case r19q => assumption); (case r29q => assumption); (case l19q => assumption); (case l29q => assumption); (case l39q => assumption); (case l49q => assumption); (case l59q => assumption); (case l69q => assumption); (case kc9q => assumption); (case kd9q => ktr_room); (case ku9q => ktr_units); k_whole; intro t39k ta9k tb9k tq9k tr9k tz9k h9k tk9k F9k N9k; (try k_sweep)))
  trivial
theorem gts_here {w : World} {lx ld x dx pa fa : Addr} {kt ct : Nat → Tok} {W : Str} {inf nl : Value} {text : Str} {nf ln ln' : Int} {items : List Value} {rest : List (Addr × Obj)} {t2 t3 k1 k2 k3 : Tok} {p p' c D : Nat} {rs : List Nat} (hD : 14 ≤ D) (hsz : text.length ≤ 1000000) (e0 : @Ne Nat lx ld) (e1 : @Ne Nat lx x) (e2 : @Ne Nat lx dx) (e3 : @Ne Nat lx pa) (e4 : @Ne Nat lx fa) (e5 : @Ne Nat ld x) (e6 : @Ne Nat ld dx) (e7 : @Ne Nat ld pa) (e8 : @Ne Nat ld fa) (e9 : @Ne Nat x dx) (e10 : @Ne Nat x pa) (e11 : @Ne Nat x fa) (e12 : @Ne Nat dx pa) (e13 : @Ne Nat dx fa) (e14 : @Ne Nat pa fa) (r1 : ∀ p ∈ rest, p.1 ≠ ld) (r2 : ∀ p ∈ rest, p.1 ≠ dx) (r3 : ∀ p ∈ rest, p.1 ≠ pa) (hn : ((⟨#[c]⟩ : Str) == Str.ofString "\n") = false) (hws : (Builtin.Str.occurrences (Str.ofString " \t\r\n") (⟨#[c]⟩) 0 (PySem.Str.ofString " \t\r\n").length 1).isEmpty = true) (hcm : (Builtin.Str.occurrences (Str.ofString "#") (⟨#[c]⟩) 0 (PySem.Str.ofString "#").length 1).isEmpty = true) (he : (Builtin.Str.occurrences (Str.ofString "\\") (⟨#[c]⟩) 0 (PySem.Str.ofString "\\").length 1).isEmpty = true) (hw1 : (Builtin.Str.occurrences W (⟨#[c]⟩) 0 W.length 1).isEmpty = false) (hw : (Builtin.Str.occurrences W (Str.ofString "=") 0 W.length 1).isEmpty = true) (hc : (text.cps.toList.drop p = c :: 61 :: rs ∧ ln' = ln ∧ p' = p + 2) ∨ (text.cps.toList.drop p = 10 :: c :: 61 :: rs ∧ ln' = ln + 1 ∧ p' = p + 3)) :
    GtSome w lx ld pa fa kt ct W D x inf ln nf items ((x, instObj 592 dx) :: (dx, sioD w.params k1 k2 k3 nl (.str text t2) (.int ((p : Int)) t3)) :: rest) c x inf ln' nf items (fun t3' => (x, instObj 592 dx) :: (dx, sioD w.params k1 k2 k3 nl (.str text t2) (.int ((p' : Int)) t3')) :: rest) := by
  intro mean mg mb dp un gd cn cs a ccd cl outer A₀ base h₀ L m s Q E nd ts tl tt B F X T hk hdp hun N0 hret
  w_on
  have q1 : ∀ p ∈ ((pa, dqO nd []) :: (fa, dqO nf items) :: rest), p.1 ≠ ld := List.forall_mem_cons.mpr ⟨Ne.symm e7, List.forall_mem_cons.mpr ⟨Ne.symm e8, r1⟩⟩
  have q2 : ∀ p ∈ ((pa, dqO nd []) :: (fa, dqO nf items) :: rest), p.1 ≠ dx := List.forall_mem_cons.mpr ⟨Ne.symm e12, List.forall_mem_cons.mpr ⟨Ne.symm e13, r2⟩⟩
  have q3 : ∀ p ∈ ((fa, dqO nf items) :: rest), p.1 ≠ ld := List.forall_mem_cons.mpr ⟨Ne.symm e8, r1⟩
  have q4 : ∀ p ∈ ((fa, dqO nf items) :: rest), p.1 ≠ dx := List.forall_mem_cons.mpr ⟨Ne.symm e13, r2⟩
  have q5 : ∀ p ∈ ((fa, dqO nf items) :: rest), p.1 ≠ pa := List.forall_mem_cons.mpr ⟨Ne.symm e14, r3⟩
  have N : News h₀ L s.heap ((lx, instObj 727 ld) :: (ld, lexD w.params kt ct W (.ref x) inf (.str (Str.ofString " ") ts) (.ref pa) (.int ln tl) (.str (Str.ofString "") tt) (.ref fa)) :: (x, instObj 592 dx) :: (dx, sioD w.params k1 k2 k3 nl (.str text t2) (.int (p : Int) t3)) :: (pa, dqO nd []) :: (fa, dqO nf items) :: rest) := news_p0 N0
  clear N0
  refine wpAny_call ?_
  k_dflt (refine' code_def ?k1 ?k2 ?k3 N ?k5 ?kA ?kF ?kK ?k6 ?k7 ?k8 ?k9 ?kB ?_ ?c2 ?c3 ?c4 ?c5; (case kA => exact rfl); (case kF => exact rfl); (case kK => assumption); (case k1 => k_asm); (case k2 => k_asm); (case k3 => k_asm); (case k5 => k_asm); (case k6 => k_is); (case k7 => k_is); (case k8 => ktr_room); (case k9 => first | exact BindsTo.of_eq rfl | exact binds_K (by k_in) rfl (by k_is) rfl rfl rfl); (case c5 => decide); (case kB => exact locs rfl); (case c2 => exact rfl); (case c3 => exact rfl); (case c4 => exact rfl); k_whole; intro g' L' h' FG' F' N' B' X' T'; (try dsimp only); (try k_fold))
  (try (show wpAny _ _ _ _ _ _; k_fold))
  k_steps
  refine wpAny_mono (whl_start 1 (whl_turn PassesOwn.never ?_)) (fun _ _ x => x) (fun _ _ x => x.elim)
  (try (show wpAny _ _ _ _ _ _; k_fold))
  k_steps
  refine' hret _ _ _ _ _ _ _ _ ?a (news_p1 ?b)
  case a => with_reducible assumption
  case b => with_reducible assumption
theorem kw9 : True := by
  k_with "call ref" => (k_here; (try dsimp only [List.nil_append, List.cons_append, List.append_nil]); (with_reducible show wpAny _ _ (call (Value.ref 695) [Value.ref _]) _ _ _); k_dflt (refine' rt_eof ?k19q ?k29q ?k39q ?k59q ?kK9q ?kd9q ?ku9q ?ksz9q ?k09q ?j19q ?j29q ?j39q ?j49q ?j59q ?r19q ?r29q ?kN9q ?kc9q ?_; (case k19q => k_asm); (case k29q => k_asm); (case k39q => k_asm); (case k59q => k_asm); (case kK9q => first | exact rfl | assumption); (case kN9q => k_asm); (case ksz9q => assumption); (case k09q => assumption); (case j19q => assumption); (case j29q => assumption); (case j39q => assumption); (case j49q => assumption); (case j59q => assumption); (case r19q => assumption); (case r29q => assumption); (case kc9q => assumption); (case kd9q => ktr_room); (case ku9q => ktr_units); k_whole; intro t39k ta9k tz9k h9k tk9k F9k N9k; (try k_sweep)))
  trivial
theorem gtn_stop {w : World} {lx ld x dx pa fa : Addr} {kt ct : Nat → Tok} {W : Str} {inf nl : Value} {text : Str} {nf ln ln' : Int} {rest : List (Addr × Obj)} {t2 t3 k1 k2 k3 : Tok} {p p' c D : Nat} {rs : List Nat} (hD : 14 ≤ D) (hsz : text.length ≤ 1000000) (e0 : @Ne Nat lx ld) (e1 : @Ne Nat lx x) (e2 : @Ne Nat lx dx) (e3 : @Ne Nat lx pa) (e4 : @Ne Nat lx fa) (e5 : @Ne Nat ld x) (e6 : @Ne Nat ld dx) (e7 : @Ne Nat ld pa) (e8 : @Ne Nat ld fa) (e9 : @Ne Nat x dx) (e10 : @Ne Nat x pa) (e11 : @Ne Nat x fa) (e12 : @Ne Nat dx pa) (e13 : @Ne Nat dx fa) (e14 : @Ne Nat pa fa) (r1 : ∀ p ∈ rest, p.1 ≠ ld) (r2 : ∀ p ∈ rest, p.1 ≠ dx) (r3 : ∀ p ∈ rest, p.1 ≠ pa) (hc : (text.length ≤ p ∧ ln' = ln ∧ p' = p) ∨ (text.cps.toList.drop p = [10] ∧ ln' = ln + 1 ∧ p' = p + 1)) :
    GtNone w lx ld pa fa kt ct W D x inf ln nf [] ((x, instObj 592 dx) :: (dx, sioD w.params k1 k2 k3 nl (.str text t2) (.int ((p : Int)) t3)) :: rest) x inf ln' nf (fun t3' => (x, instObj 592 dx) :: (dx, sioD w.params k1 k2 k3 nl (.str text t2) (.int ((p' : Int)) t3')) :: rest) := by
  intro mean mg mb dp un gd cn cs a ccd cl outer A₀ base h₀ L m s Q E nd ts tl tt B F X T hk hdp hun N0 hret
  w_on
  have q1 : ∀ p ∈ ((pa, dqO nd []) :: (fa, dqO nf []) :: rest), p.1 ≠ ld := List.forall_mem_cons.mpr ⟨Ne.symm e7, List.forall_mem_cons.mpr ⟨Ne.symm e8, r1⟩⟩
  have q2 : ∀ p ∈ ((pa, dqO nd []) :: (fa, dqO nf []) :: rest), p.1 ≠ dx := List.forall_mem_cons.mpr ⟨Ne.symm e12, List.forall_mem_cons.mpr ⟨Ne.symm e13, r2⟩⟩
  have q3 : ∀ p ∈ ((fa, dqO nf []) :: rest), p.1 ≠ ld := List.forall_mem_cons.mpr ⟨Ne.symm e8, r1⟩
  have q4 : ∀ p ∈ ((fa, dqO nf []) :: rest), p.1 ≠ dx := List.forall_mem_cons.mpr ⟨Ne.symm e13, r2⟩
  have q5 : ∀ p ∈ ((fa, dqO nf []) :: rest), p.1 ≠ pa := List.forall_mem_cons.mpr ⟨Ne.symm e14, r3⟩
  have N : News h₀ L s.heap ((lx, instObj 727 ld) :: (ld, lexD w.params kt ct W (.ref x) inf (.str (Str.ofString " ") ts) (.ref pa) (.int ln tl) (.str (Str.ofString "") tt) (.ref fa)) :: (x, instObj 592 dx) :: (dx, sioD w.params k1 k2 k3 nl (.str text t2) (.int (p : Int) t3)) :: (pa, dqO nd []) :: (fa, dqO nf []) :: rest) := news_p0 N0
  clear N0
  refine wpAny_call ?_
  k_dflt (refine' code_def ?k1 ?k2 ?k3 N ?k5 ?kA ?kF ?kK ?k6 ?k7 ?k8 ?k9 ?kB ?_ ?c2 ?c3 ?c4 ?c5; (case kA => exact rfl); (case kF => exact rfl); (case kK => assumption); (case k1 => k_asm); (case k2 => k_asm); (case k3 => k_asm); (case k5 => k_asm); (case k6 => k_is); (case k7 => k_is); (case k8 => ktr_room); (case k9 => first | exact BindsTo.of_eq rfl | exact binds_K (by k_in) rfl (by k_is) rfl rfl rfl); (case c5 => decide); (case kB => exact locs rfl); (case c2 => exact rfl); (case c3 => exact rfl); (case c4 => exact rfl); k_whole; intro g' L' h' FG' F' N' B' X' T'; (try dsimp only); (try k_fold))
  (try (show wpAny _ _ _ _ _ _; k_fold))
  k_steps
  refine wpAny_mono (whl_start 1 (whl_turn PassesOwn.never ?_)) (fun _ _ x => x) (fun _ _ x => x.elim)
  (try (show wpAny _ _ _ _ _ _; k_fold))
  k_steps
  refine' hret _ _ _ _ _ ?a (news_p1 ?b)
  case a => with_reducible assumption
  case b => with_reducible assumption
end
-- C9
section
theorem gts_use {w : World} {lx ld pa fa : Addr} {kt ct : Nat → Tok} {W : Str} {D : Nat} {x : Addr} {inf : Value} {ln nf : Int} {items : List Value} {tail : List (Addr × Obj)} {c : Nat} {xF : Addr} {infF : Value} {lnF nfF : Int} {itemsF : List Value} {tailF : Tok → List (Addr × Obj)} {mean : ExcName → Option Value} {mg mb : Str → Option Value} {dp un : Nat} {gd : Option (List Code)} {cn : Str} {cs : Scope} {a : Addr} {ccd : Value} {cl : List (Str × Addr)} {outer : List Env} {A₀ : Around} {base h₀ : Heap} {L : Addr} {m : Str → Option Value} {s : Shared} {Q E : Value → Shared → Prop} {nd : Int} {ts tl tt : Tok} (IH : GtSome w lx ld pa fa kt ct W D x inf ln nf items tail c xF infF lnF nfF itemsF tailF) (B : Below A₀ base outer h₀) (F : Fr h₀ L s.heap m) (X : (hd.heap_1 w.params).In h₀) (T : Top q (looseW q loose) mean mg mb h₀) (hk : cs.kind = .function) (hdp : dp + D < recursionLimit) (hun : un + 10 * D < cLine) (N : News h₀ L s.heap ((lx, instObj 727 ld) :: (ld, lexD w.params kt ct W (.ref x) (inf) (.str (Str.ofString " ") ts) (.ref pa) (.int ln tl) (.str (Str.ofString "") tt) (.ref fa)) :: (pa, dqO nd []) :: (fa, dqO nf items) :: tail))
    (hret : ∀ (t3' ta tb tq tr tz : Tok) (h' : Heap) (tk' : Nat), Fr h₀ L h' m → News h₀ L h' ((lx, instObj 727 ld) :: (ld, lexD w.params kt ct W (.ref xF) (infF) (.str (Str.ofString " ") ta) (.ref pa) (.int lnF tr) (.str (Str.ofString "") tz) (.ref fa)) :: (pa, dqO (nd + 1) [.str (Str.ofString "=") tb]) :: (fa, dqO nfF itemsF) :: tailF t3') → Q (.str ⟨#[c]⟩ tq) { s with heap := h', toks := tk' }) :
    wpAny (model PySem.Challenge.pw_om0186_01 w) (ktrTop dp un gd cn cs L a ccd cl outer) (call (.ref 688) [.ref lx]) Q E s := IH B F X T hk hdp hun N hret
theorem gtn_use {w : World} {lx ld pa fa : Addr} {kt ct : Nat → Tok} {W : Str} {D : Nat} {x : Addr} {inf : Value} {ln nf : Int} {items : List Value} {tail : List (Addr × Obj)} {xF : Addr} {infF : Value} {lnF nfF : Int} {tailF : Tok → List (Addr × Obj)} {mean : ExcName → Option Value} {mg mb : Str → Option Value} {dp un : Nat} {gd : Option (List Code)} {cn : Str} {cs : Scope} {a : Addr} {ccd : Value} {cl : List (Str × Addr)} {outer : List Env} {A₀ : Around} {base h₀ : Heap} {L : Addr} {m : Str → Option Value} {s : Shared} {Q E : Value → Shared → Prop} {nd : Int} {ts tl tt : Tok} (IH : GtNone w lx ld pa fa kt ct W D x inf ln nf items tail xF infF lnF nfF tailF) (B : Below A₀ base outer h₀) (F : Fr h₀ L s.heap m) (X : (hd.heap_1 w.params).In h₀) (T : Top q (looseW q loose) mean mg mb h₀) (hk : cs.kind = .function) (hdp : dp + D < recursionLimit) (hun : un + 10 * D < cLine) (N : News h₀ L s.heap ((lx, instObj 727 ld) :: (ld, lexD w.params kt ct W (.ref x) (inf) (.str (Str.ofString " ") ts) (.ref pa) (.int ln tl) (.str (Str.ofString "") tt) (.ref fa)) :: (pa, dqO nd []) :: (fa, dqO nf items) :: tail))
    (hret : ∀ (t3' tr tz : Tok) (h' : Heap) (tk' : Nat), Fr h₀ L h' m → News h₀ L h' ((lx, instObj 727 ld) :: (ld, lexD w.params kt ct W (.ref xF) (infF) .none (.ref pa) (.int lnF tr) (.str (Str.ofString "") tz) (.ref fa)) :: (pa, dqO nd []) :: (fa, dqO nfF []) :: tailF t3') → Q .none { s with heap := h', toks := tk' }) :
    wpAny (model PySem.Challenge.pw_om0186_01 w) (ktrTop dp un gd cn cs L a ccd cl outer) (call (.ref 688) [.ref lx]) Q E s := IH B F X T hk hdp hun N hret
theorem kw10 : True := by
  k_with_none
  k_with "own all" => assumption
  k_with "exec If" => refine wpAny_If ?_
  k_with "truthy str" => refine P.truthy_str (by omega) ?_
  k_with "getMethod ref" => (k_here; (with_reducible show wpAny _ _ (getMethod (Value.ref _) (PySem.Str.ofString "appendleft") _) _ _ _); k_dflt (refine' dqK_apl ?N9q ?h9q ?_; (case N9q => k_asm); (case h9q => k_mem); k_whole))
  k_with "getMethod ref" => (k_here; (with_reducible show wpAny _ _ (getMethod (Value.ref _) (PySem.Str.ofString "popleft") _) _ _ _); k_dflt (refine' dqK_pop ?N9q ?h9q ?_; (case N9q => k_asm); (case h9q => k_mem); k_whole))
  k_with "call builtin:collections.deque.appendleft" => (k_here; k_dflt (refine' dqK_appendleft ?F9q ?N9q ?U9q ?z9q ?_; (case F9q => k_asm); (case N9q => k_asm); (case U9q => k_upd); (case z9q => first | exact Nat.le_of_ble_eq_true rfl | assumption | (simp only [List.length_cons]; omega)); k_whole; intro h9k F9k N9k; (try k_sweep)))
  k_with "call builtin:collections.deque.popleft" => (k_here; k_dflt (refine' dqK_popleft ?F9q ?N9q ?U9q ?z9q ?_; (case F9q => k_asm); (case N9q => k_asm); (case U9q => k_upd); (case z9q => first | exact Nat.le_of_ble_eq_true rfl | assumption | (simp only [List.length_cons]; omega)); k_whole; intro h9k F9k N9k; (try k_sweep)))
  k_with "truthy ref" => (k_here; k_dflt (refine' dqK_truthy ?N9q ?h9q ?z9q ?_; (case N9q => k_asm); (case h9q => k_mem); (case z9q => first | exact Nat.le_of_ble_eq_true rfl | assumption | (simp only [List.length_cons]; omega)); k_whole; intro tk9k))
  k_with "ite" => first | refine ite_pos (by with_reducible assumption) ?_ | refine ite_isFalse (by with_reducible assumption) ?_ | refine ite_neg (by with_reducible assumption) ?_
  k_with "exec While" => refine Stop.mk ?_
  k_with "call ref" => (k_here; (try dsimp only [List.nil_append, List.cons_append, List.append_nil]); (with_reducible show wpAny _ _ (call (Value.ref 695) [Value.ref _]) _ _ _); k_dflt (refine' rt_eof ?k19q ?k29q ?k39q ?k59q ?kK9q ?kd9q ?ku9q ?ksz9q ?k09q ?j19q ?j29q ?j39q ?j49q ?j59q ?r19q ?r29q ?kN9q ?kc9q ?_; (case k19q => k_asm); (case k29q => k_asm); (case k39q => k_asm); (case k59q => k_asm); (case kK9q => first | exact rfl | assumption); (case kN9q => k_asm); (case ksz9q => assumption); (case k09q => assumption); (case j19q => assumption); (case j29q => assumption); (case j39q => assumption); (case j49q => assumption); (case j59q => assumption); (case r19q => assumption); (case r29q => assumption); (case kc9q => assumption); (case kd9q => ktr_room); (case ku9q => ktr_units); k_whole; intro t39k ta9k tz9k h9k tk9k F9k N9k; (try k_sweep)))
  k_with "call ref" => (k_here; (try dsimp only [List.nil_append, List.cons_append, List.append_nil]); (with_reducible show wpAny _ _ (call (Value.ref 681) [Value.ref _]) _ _ _); k_dflt (refine' pop_c ?k19q ?k29q ?k39q ?k59q ?kK9q ?kd9q ?ku9q ?e09q ?e19q ?e29q ?e39q ?e49q ?e59q ?e69q ?e79q ?e89q ?e99q ?e109q ?e119q ?e129q ?e139q ?e149q ?e159q ?e169q ?e179q ?e189q ?e199q ?e209q ?r19q ?r29q ?r39q ?kN9q ?kit9q ?_; (case k19q => k_asm); (case k29q => k_asm); (case k39q => k_asm); (case k59q => k_asm); (case kK9q => first | exact rfl | assumption); (case kN9q => k_asm); (case e09q => assumption); (case e19q => assumption); (case e29q => assumption); (case e39q => assumption); (case e49q => assumption); (case e59q => assumption); (case e69q => assumption); (case e79q => assumption); (case e89q => assumption); (case e99q => assumption); (case e109q => assumption); (case e119q => assumption); (case e129q => assumption); (case e139q => assumption); (case e149q => assumption); (case e159q => assumption); (case e169q => assumption); (case e179q => assumption); (case e189q => assumption); (case e199q => assumption); (case e209q => assumption); (case r19q => assumption); (case r29q => assumption); (case r39q => assumption); (case kit9q => assumption); (case kd9q => ktr_room); (case ku9q => ktr_units); k_whole; intro ta9k h9k tk9k F9k N9k; (try k_sweep)))
  k_with "call ref" => (k_here; (try dsimp only [List.nil_append, List.cons_append, List.append_nil]); (with_reducible show wpAny _ _ (call (Value.ref 688) [Value.ref _]) _ _ _); k_dflt (refine' gts_use ?ih9q ?k19q ?k29q ?k39q ?k59q ?kK9q ?kd9q ?ku9q ?kN9q ?_; (case k19q => k_asm); (case k29q => k_asm); (case k39q => k_asm); (case k59q => k_asm); (case kK9q => first | exact rfl | assumption); (case ih9q => assumption); (case kN9q => k_asm); (case kd9q => ktr_room); (case ku9q => ktr_units); k_whole; intro t39k ta9k tb9k tq9k tr9k tz9k h9k tk9k F9k N9k; (try k_sweep)))
  k_with "call ref" => (k_here; (try dsimp only [List.nil_append, List.cons_append, List.append_nil]); (with_reducible show wpAny _ _ (call (Value.ref 688) [Value.ref _]) _ _ _); k_dflt (refine' gtn_use ?ih9q ?k19q ?k29q ?k39q ?k59q ?kK9q ?kd9q ?ku9q ?kN9q ?_; (case k19q => k_asm); (case k29q => k_asm); (case k39q => k_asm); (case k59q => k_asm); (case kK9q => first | exact rfl | assumption); (case ih9q => assumption); (case kN9q => k_asm); (case kd9q => ktr_room); (case ku9q => ktr_units); k_whole; intro t39k tr9k tz9k h9k tk9k F9k N9k; (try k_sweep)))
  k_with "execs cons" => ((with_reducible refine wpAny_execs_cons ?_); (try dsimp only); (try k_fold))
  k_with "own ne" => (refine neN ?_; (try dsimp only); first | with_reducible assumption | (refine Ne.symm ?_; with_reducible assumption) | (refine Nat.ne_of_lt ?_; first | with_reducible assumption | with_reducible exact And.left (by with_reducible assumption) | with_reducible exact And.left (And.right (by with_reducible assumption)) | with_reducible exact And.left (And.right (And.right (by with_reducible assumption))) | with_reducible exact And.left (And.right (And.right (And.right (by with_reducible assumption)))) | with_reducible exact And.left (And.right (And.right (And.right (And.right (by with_reducible assumption))))) | with_reducible exact And.left (And.right (And.right (And.right (And.right (And.right (by with_reducible assumption)))))) | with_reducible exact And.left (And.right (And.right (And.right (And.right (And.right (And.right (by with_reducible assumption))))))) | with_reducible exact And.left (And.right (And.right (And.right (And.right (And.right (And.right (And.right (by with_reducible assumption)))))))) | with_reducible exact And.left (And.right (And.right (And.right (And.right (And.right (And.right (And.right (And.right (by with_reducible assumption))))))))) | with_reducible exact And.right (by with_reducible assumption) | with_reducible exact And.right (And.right (by with_reducible assumption)) | with_reducible exact And.right (And.right (And.right (by with_reducible assumption))) | with_reducible exact And.right (And.right (And.right (And.right (by with_reducible assumption)))) | with_reducible exact And.right (And.right (And.right (And.right (And.right (by with_reducible assumption))))) | with_reducible exact And.right (And.right (And.right (And.right (And.right (And.right (by with_reducible assumption)))))) | with_reducible exact And.right (And.right (And.right (And.right (And.right (And.right (And.right (by with_reducible assumption))))))) | with_reducible exact And.right (And.right (And.right (And.right (And.right (And.right (And.right (And.right (by with_reducible assumption))))))))) | (refine Nat.ne_of_gt ?_; first | with_reducible assumption | with_reducible exact And.left (by with_reducible assumption) | with_reducible exact And.left (And.right (by with_reducible assumption)) | with_reducible exact And.left (And.right (And.right (by with_reducible assumption))) | with_reducible exact And.left (And.right (And.right (And.right (by with_reducible assumption)))) | with_reducible exact And.left (And.right (And.right (And.right (And.right (by with_reducible assumption))))) | with_reducible exact And.left (And.right (And.right (And.right (And.right (And.right (by with_reducible assumption)))))) | with_reducible exact And.left (And.right (And.right (And.right (And.right (And.right (And.right (by with_reducible assumption))))))) | with_reducible exact And.left (And.right (And.right (And.right (And.right (And.right (And.right (And.right (by with_reducible assumption)))))))) | with_reducible exact And.left (And.right (And.right (And.right (And.right (And.right (And.right (And.right (And.right (by with_reducible assumption))))))))) | with_reducible exact And.right (by with_reducible assumption) | with_reducible exact And.right (And.right (by with_reducible assumption)) | with_reducible exact And.right (And.right (And.right (by with_reducible assumption))) | with_reducible exact And.right (And.right (And.right (And.right (by with_reducible assumption)))) | with_reducible exact And.right (And.right (And.right (And.right (And.right (by with_reducible assumption))))) | with_reducible exact And.right (And.right (And.right (And.right (And.right (And.right (by with_reducible assumption)))))) | with_reducible exact And.right (And.right (And.right (And.right (And.right (And.right (And.right (by with_reducible assumption))))))) | with_reducible exact And.right (And.right (And.right (And.right (And.right (And.right (And.right (And.right (by with_reducible assumption))))))))))
  trivial
theorem gts_pop {w : World} {lx ld x dx pa fa tA x2 : Addr} {kt ct : Nat → Tok} {W : Str} {inf nl inf2 : Value} {text : Str} {nf ln ln' ln2 : Int} {tl2 : Tok} {items : List Value} {rest : List (Addr × Obj)} {t2 t3 k1 k2 k3 : Tok} {p p' c D : Nat} {xF : Addr} {infF : Value} {lnF nfF : Int} {itemsF : List Value} {tailF : Tok → List (Addr × Obj)} (hD : 14 ≤ D) (hsz : text.length ≤ 1000000) (e0 : @Ne Nat lx ld) (e1 : @Ne Nat lx x) (e2 : @Ne Nat lx dx) (e3 : @Ne Nat lx pa) (e4 : @Ne Nat lx fa) (e5 : @Ne Nat lx tA) (e6 : @Ne Nat ld x) (e7 : @Ne Nat ld dx) (e8 : @Ne Nat ld pa) (e9 : @Ne Nat ld fa) (e10 : @Ne Nat ld tA) (e11 : @Ne Nat x dx) (e12 : @Ne Nat x pa) (e13 : @Ne Nat x fa) (e14 : @Ne Nat x tA) (e15 : @Ne Nat dx pa) (e16 : @Ne Nat dx fa) (e17 : @Ne Nat dx tA) (e18 : @Ne Nat pa fa) (e19 : @Ne Nat pa tA) (e20 : @Ne Nat fa tA) (r1 : ∀ p ∈ rest, p.1 ≠ ld) (r2 : ∀ p ∈ rest, p.1 ≠ dx) (r3 : ∀ p ∈ rest, p.1 ≠ fa) (hit9 : items.length < 900) (hc : (text.length ≤ p ∧ ln' = ln ∧ p' = p) ∨ (text.cps.toList.drop p = [10] ∧ ln' = ln + 1 ∧ p' = p + 1))
    (IH : GtSome w lx ld pa fa kt ct W D x2 inf2 ln2 (nf + 1) items rest c xF infF lnF nfF itemsF tailF) :
    GtSome w lx ld pa fa kt ct W (D + 1) x inf ln nf (.ref tA :: items) ((x, instObj 592 dx) :: (dx, sioD w.params k1 k2 k3 nl (.str text t2) (.int (p : Int) t3)) :: (tA, tupO [inf2, .ref x2, .int ln2 tl2]) :: rest) c xF infF lnF nfF itemsF tailF := by
  intro mean mg mb dp un gd cn cs a ccd cl outer A₀ base h₀ L m s Q E nd ts tl tt B F X T hk hdp hun N0 hret
  w_on
  have q1 : ∀ p ∈ ((pa, dqO nd []) :: (fa, dqO nf (.ref tA :: items)) :: (tA, tupO [inf2, .ref x2, .int ln2 tl2]) :: rest), p.1 ≠ ld := List.forall_mem_cons.mpr ⟨Ne.symm e8, List.forall_mem_cons.mpr ⟨Ne.symm e9, List.forall_mem_cons.mpr ⟨Ne.symm e10, r1⟩⟩⟩
  have q2 : ∀ p ∈ ((pa, dqO nd []) :: (fa, dqO nf (.ref tA :: items)) :: (tA, tupO [inf2, .ref x2, .int ln2 tl2]) :: rest), p.1 ≠ dx := List.forall_mem_cons.mpr ⟨Ne.symm e15, List.forall_mem_cons.mpr ⟨Ne.symm e16, List.forall_mem_cons.mpr ⟨Ne.symm e17, r2⟩⟩⟩
  have hit : items.length < 1000 := by omega
  have f0 : (!(Value.ref tA :: items).isEmpty) = true := rfl
  have N : News h₀ L s.heap ((lx, instObj 727 ld) :: (ld, lexD w.params kt ct W (.ref x) inf (.str (Str.ofString " ") ts) (.ref pa) (.int ln tl) (.str (Str.ofString "") tt) (.ref fa)) :: (x, instObj 592 dx) :: (dx, sioD w.params k1 k2 k3 nl (.str text t2) (.int (p : Int) t3)) :: (pa, dqO nd []) :: (fa, dqO nf (.ref tA :: items)) :: (tA, tupO [inf2, .ref x2, .int ln2 tl2]) :: rest) := news_p0 N0
  clear N0
  refine wpAny_call ?_
  k_dflt (refine' code_def ?k1 ?k2 ?k3 N ?k5 ?kA ?kF ?kK ?k6 ?k7 ?k8 ?k9 ?kB ?_ ?c2 ?c3 ?c4 ?c5; (case kA => exact rfl); (case kF => exact rfl); (case kK => assumption); (case k1 => k_asm); (case k2 => k_asm); (case k3 => k_asm); (case k5 => k_asm); (case k6 => k_is); (case k7 => k_is); (case k8 => ktr_room); (case k9 => first | exact BindsTo.of_eq rfl | exact binds_K (by k_in) rfl (by k_is) rfl rfl rfl); (case c5 => decide); (case kB => exact locs rfl); (case c2 => exact rfl); (case c3 => exact rfl); (case c4 => exact rfl); k_whole; intro g' L' h' FG' F' N' B' X' T'; (try dsimp only); (try k_fold))
  (try (show wpAny _ _ _ _ _ _; k_fold))
  k_steps
  refine wpAny_mono (whl_start 100 (whl_turn PassesOwn.never ?_)) (fun _ _ x => x) (fun _ _ x => x.elim)
  (try (show wpAny _ _ _ _ _ _; k_fold))
  k_steps
  refine' hret _ _ _ _ _ _ _ _ ?a ?b
  case a => with_reducible assumption
  case b => with_reducible assumption
theorem gtn_pop {w : World} {lx ld x dx pa fa tA x2 : Addr} {kt ct : Nat → Tok} {W : Str} {inf nl inf2 : Value} {text : Str} {nf ln ln' ln2 : Int} {tl2 : Tok} {items : List Value} {rest : List (Addr × Obj)} {t2 t3 k1 k2 k3 : Tok} {p p' c D : Nat} {xF : Addr} {infF : Value} {lnF nfF : Int} {itemsF : List Value} {tailF : Tok → List (Addr × Obj)} (hD : 14 ≤ D) (hsz : text.length ≤ 1000000) (e0 : @Ne Nat lx ld) (e1 : @Ne Nat lx x) (e2 : @Ne Nat lx dx) (e3 : @Ne Nat lx pa) (e4 : @Ne Nat lx fa) (e5 : @Ne Nat lx tA) (e6 : @Ne Nat ld x) (e7 : @Ne Nat ld dx) (e8 : @Ne Nat ld pa) (e9 : @Ne Nat ld fa) (e10 : @Ne Nat ld tA) (e11 : @Ne Nat x dx) (e12 : @Ne Nat x pa) (e13 : @Ne Nat x fa) (e14 : @Ne Nat x tA) (e15 : @Ne Nat dx pa) (e16 : @Ne Nat dx fa) (e17 : @Ne Nat dx tA) (e18 : @Ne Nat pa fa) (e19 : @Ne Nat pa tA) (e20 : @Ne Nat fa tA) (r1 : ∀ p ∈ rest, p.1 ≠ ld) (r2 : ∀ p ∈ rest, p.1 ≠ dx) (r3 : ∀ p ∈ rest, p.1 ≠ fa) (hit9 : items.length < 900) (hc : (text.length ≤ p ∧ ln' = ln ∧ p' = p) ∨ (text.cps.toList.drop p = [10] ∧ ln' = ln + 1 ∧ p' = p + 1))
    (IH : GtNone w lx ld pa fa kt ct W D x2 inf2 ln2 (nf + 1) items rest xF infF lnF nfF tailF) :
    GtNone w lx ld pa fa kt ct W (D + 1) x inf ln nf (.ref tA :: items) ((x, instObj 592 dx) :: (dx, sioD w.params k1 k2 k3 nl (.str text t2) (.int (p : Int) t3)) :: (tA, tupO [inf2, .ref x2, .int ln2 tl2]) :: rest) xF infF lnF nfF tailF := by
  intro mean mg mb dp un gd cn cs a ccd cl outer A₀ base h₀ L m s Q E nd ts tl tt B F X T hk hdp hun N0 hret
  w_on
  have q1 : ∀ p ∈ ((pa, dqO nd []) :: (fa, dqO nf (.ref tA :: items)) :: (tA, tupO [inf2, .ref x2, .int ln2 tl2]) :: rest), p.1 ≠ ld := List.forall_mem_cons.mpr ⟨Ne.symm e8, List.forall_mem_cons.mpr ⟨Ne.symm e9, List.forall_mem_cons.mpr ⟨Ne.symm e10, r1⟩⟩⟩
  have q2 : ∀ p ∈ ((pa, dqO nd []) :: (fa, dqO nf (.ref tA :: items)) :: (tA, tupO [inf2, .ref x2, .int ln2 tl2]) :: rest), p.1 ≠ dx := List.forall_mem_cons.mpr ⟨Ne.symm e15, List.forall_mem_cons.mpr ⟨Ne.symm e16, List.forall_mem_cons.mpr ⟨Ne.symm e17, r2⟩⟩⟩
  have hit : items.length < 1000 := by omega
  have f0 : (!(Value.ref tA :: items).isEmpty) = true := rfl
  have N : News h₀ L s.heap ((lx, instObj 727 ld) :: (ld, lexD w.params kt ct W (.ref x) inf (.str (Str.ofString " ") ts) (.ref pa) (.int ln tl) (.str (Str.ofString "") tt) (.ref fa)) :: (x, instObj 592 dx) :: (dx, sioD w.params k1 k2 k3 nl (.str text t2) (.int (p : Int) t3)) :: (pa, dqO nd []) :: (fa, dqO nf (.ref tA :: items)) :: (tA, tupO [inf2, .ref x2, .int ln2 tl2]) :: rest) := news_p0 N0
  clear N0
  refine wpAny_call ?_
  k_dflt (refine' code_def ?k1 ?k2 ?k3 N ?k5 ?kA ?kF ?kK ?k6 ?k7 ?k8 ?k9 ?kB ?_ ?c2 ?c3 ?c4 ?c5; (case kA => exact rfl); (case kF => exact rfl); (case kK => assumption); (case k1 => k_asm); (case k2 => k_asm); (case k3 => k_asm); (case k5 => k_asm); (case k6 => k_is); (case k7 => k_is); (case k8 => ktr_room); (case k9 => first | exact BindsTo.of_eq rfl | exact binds_K (by k_in) rfl (by k_is) rfl rfl rfl); (case c5 => decide); (case kB => exact locs rfl); (case c2 => exact rfl); (case c3 => exact rfl); (case c4 => exact rfl); k_whole; intro g' L' h' FG' F' N' B' X' T'; (try dsimp only); (try k_fold))
  (try (show wpAny _ _ _ _ _ _; k_fold))
  k_steps
  refine wpAny_mono (whl_start 100 (whl_turn PassesOwn.never ?_)) (fun _ _ x => x) (fun _ _ x => x.elim)
  (try (show wpAny _ _ _ _ _ _; k_fold))
  k_steps
  refine' hret _ _ _ _ _ ?a ?b
  case a => with_reducible assumption
  case b => with_reducible assumption
end
-- N1
section
open PySem PySem.W PySem.Calls PyProof.Rows Builtin
section
variable {w : World} {A : Around} {E : Value → Shared → Prop} {h : Heap}
theorem made_592 (X : (hd.heap_1 w.params).In h) : Looks (model PySem.Challenge.pw_om0186_01 w) h (Bind.madeBy (.ref 592)) none := Looks.of_peek X (by kernel_rfl)
theorem here_592 (X : (hd.heap_1 w.params).In h) : Looks (model PySem.Challenge.pw_om0186_01 w) h (Bind.madeHere "object.__new__" (.ref 592)) () := Looks.of_peek X (by kernel_rfl)
theorem call_592 (X : (hd.heap_1 w.params).In h) : Looks (model PySem.Challenge.pw_om0186_01 w) h (specialOf (.ref 592) "__call__") (some (.builtin "type.__call__")) := Looks.of_peek X (by kernel_rfl)
theorem typ_592 (X : (hd.heap_1 w.params).In h) : Looks (model PySem.Challenge.pw_om0186_01 w) h (isInstance (.ref 592) (.type "type")) true := Looks.of_peek X (by kernel_rfl)
theorem sub_592 (X : (hd.heap_1 w.params).In h) : Looks (model PySem.Challenge.pw_om0186_01 w) h (isSubtype (.ref 592) (.ref 592)) true := Looks.of_peek X (by kernel_rfl)
theorem init_592 (X : (hd.heap_1 w.params).In h) : Looks (model PySem.Challenge.pw_om0186_01 w) h (typeLookup (.ref 592) "__init__") (some (.ref 362)) := Looks.of_peek X (by kernel_rfl)
theorem bind_362 (X : (hd.heap_1 w.params).In h) (x : Addr) : Looks (model PySem.Challenge.pw_om0186_01 w) h (bindSpecial (.ref 362) (.ref x)) (.ref 362, [.ref x]) := bind_fn X _ (by k_is)
theorem get_new {s : Shared} {Q : Value → Shared → Prop} (X : (hd.heap_1 w.params).In s.heap) (hq : Q (.ref 85) { s with toks := s.toks + 1 }) : wpAny (model PySem.Challenge.pw_om0186_01 w) A (getAttr (.ref 592) "__new__") Q E s :=
  cls_bind (C := 592) (K := hd.heap_1 w.params) (name := Str.ofString "__new__") (g := .builtin "staticmethod.__get__") (a := .ref 89) (obj := .none) (tp := .ref 592) X (mc := .type "type") (by k_is) (by k_is) (wpAny_call (sm_get (s := { s with toks := s.toks + 1 }) (K := hd.heap_1 w.params) (p := 89) (f := .ref 85) X (by k_is) (handed_on rfl hq)))
end
end
-- N2
section
open PySem PySem.W PySem.Calls PyProof.Rows Builtin
section
variable {w : World} {A : Around} {E : Value → Shared → Prop} {h : Heap}
theorem make_592 {s : Shared} {v : Value} {Q : Value → Shared → Prop} (X : (hd.heap_1 w.params).In s.heap)
    (hq : wpAny (model PySem.Challenge.pw_om0186_01 w) (A.under (.builtin "type.__call__" ⟨[.ref 592, v], []⟩)) (call (.ref 85) [.ref 592, v]) (fun o s₁ => ∃ x dx, o = .ref x ∧ s₁.heap.get? x = some (instObj 592 dx) ∧ (hd.heap_1 w.params).In s₁.heap ∧
      wpAny (model PySem.Challenge.pw_om0186_01 w) (A.under (.builtin "type.__call__" ⟨[.ref 592, v], []⟩)) (call (.ref 362) [.ref x, v]) (fun r s₂ => r = .none ∧ Q (.ref x) s₂) E s₁) E { s with toks := s.toks + 1 }) :
    wpAny (model PySem.Challenge.pw_om0186_01 w) A (call (.ref 592) [v]) Q E s := by
  have hC := X 592 _ (by k_is)
  have mk := made_592 (w := w) X
  have cl := call_592 (w := w) X
  have ty := typ_592 (w := w) X
  refine wpAny_call (codeAny_of_tree ?_)
  show wpAny _ _ (callAny (.ref 592) _) _ _ _
  refine nd_load hC ?_
  show wpAny _ _ (callAny.viaDunder (.ref 592) _) _ _ _
  unfold callAny.viaDunder
  refine wpAny_bind (cl.at ?_)
  (try dsimp only)
  rw [tc_bind]
  refine wpAny_bind (wpAny_pure (wpAny_bind (wpAny_pure ?_)))
  refine wpAny_pure (a := Fin.again (.call (.builtin "type.__call__") ⟨[.ref 592, v], []⟩)) (And.intro rfl ?_)
  refine codeAny_call_builtin_at (Code.quiet_builtin _ (by decide +kernel)) entry_typeCall (check_slot tc_kind tc_split ty (tc_args _ _ _) ?_)
  unfold Builtin.«type.__call__»
  have hm : Looks (model PySem.Challenge.pw_om0186_01 w) s.heap (mroOf (.ref 592)) [.ref 592, .ref 115, .ref 88, .type "object"] := Looks.of_peek X (by kernel_rfl)
  iterate 7 (first | simp only [List.isEmpty_cons, Bool.false_eq_true, if_false] | lk)
  refine wpAny_bind (get_new X ?_)
  refine wpAny_bind (wpAny_holding (wpAny_mono hq (fun o s₁ z => ?_) fun _ _ z => z))
  obtain ⟨x, dx, rfl, hx, X1, z⟩ := z
  have t1 : Looks (model PySem.Challenge.pw_om0186_01 w) s₁.heap (typeOf (.ref x)) (.ref 592) := (Looks.ld hx).andThen .now
  have s1 := sub_592 (w := w) X1
  have i1 := init_592 (w := w) X1
  have b1 := bind_362 (w := w) X1 x
  unfold isInstance callSpecial? specialOf
  iterate 12 lk
  refine wpAny_bind (b1.at ?_)
  refine wpAny_bind (wpAny_mono z (fun r s₂ z => ?_) fun _ _ z => z)
  obtain ⟨rfl, z⟩ := z
  exact wpAny_pure (wpAny_pure z)
end
end
-- N3
section
open PySem PySem.W PySem.Calls PyProof.Rows Builtin
section
variable {w : World} {A : Around} {E : Value → Shared → Prop} {h : Heap}
theorem isty_592 (X : (hd.heap_1 w.params).In h) : Looks (model PySem.Challenge.pw_om0186_01 w) h (isType (.ref 592)) true := Looks.of_peek X (by kernel_rfl)
theorem top_592 (X : (hd.heap_1 w.params).In h) : Looks (model PySem.Challenge.pw_om0186_01 w) h (isSubtype (.ref 592) (.type "object")) true := Looks.of_peek X (by kernel_rfl)
theorem base_592 (X : (hd.heap_1 w.params).In h) : Looks (model PySem.Challenge.pw_om0186_01 w) h (Bind.staticBase (.ref 592)) (.type "object") := Looks.of_peek X (by kernel_rfl)
theorem made_obj (X : (hd.heap_1 w.params).In h) : Looks (model PySem.Challenge.pw_om0186_01 w) h (Bind.madeBy (.type "object")) (some "object.__new__") := Looks.of_peek X (by kernel_rfl)
theorem objnew_592 {s : Shared} {Q : Value → Shared → Prop} (X : (hd.heap_1 w.params).In s.heap)
    (hq : Q (.ref (s.heap.objs.size + 1)) { s with heap := (s.heap.push emptyDict).push (instObj 592 s.heap.objs.size) }) :
    wpAny (model PySem.Challenge.pw_om0186_01 w) A (call (.builtin "object.__new__") [.ref 592]) Q E s := by
  have hC := X 592 _ (by k_is)
  have here := here_592 (w := w) X
  have ty := isty_592 (w := w) X
  have top := top_592 (w := w) X
  have made := made_592 (w := w) X
  have base := base_592 (w := w) X
  have mobj := made_obj (w := w) X
  have F := PySem.F.objNew
  refine wpAny_call (codeAny_call_builtin_code (Code.quiet_builtin _ F.quiet) ?_)
  simp only [checkBuiltinCall, F.kind, F.split, F.row]
  have args : Bind.checkArgs "object.__new__" ⟨.hand, "object.__new__", "__new__", .cls, []⟩ ⟨[.ref 592], []⟩ = pure () := by kernel_rfl
  rw [args]
  repeat (first | simp only [bne_self_eq_false, Bool.false_eq_true, if_false] | lk)
  refine codeAny_builtin F.entry ?_
  unfold Builtin.«object.__new__»
  have fin : ∀ A', wpAny (model PySem.Challenge.pw_om0186_01 w) A' (do
      let d ← if typeHasDict (.ref 592) then some <$> alloc { cls := .type "dict", data := .dict #[] } else pure none
      ret (← newObj (.ref 592) .plain d)) (fun fin s' => match fin with
        | .done f => (match (Except.ok f : Result) with | .ok (.ret v) => Q v s' | .ok _ => False | .error e => E e s')
        | .again c' => c'.quiet = true ∧ codeAny (model PySem.Challenge.pw_om0186_01 w) A c' (fun r s' => match r with | .ok (.ret v) => Q v s' | .ok _ => False | .error e => E e s') s')
      (fun e s' => E e s') s := by
    intro A'
    show wpAny _ _ ((alloc emptyDict >>= fun x => pure (some x)) >>= _) _ _ _
    refine wpAny_bind (wpAny_bind (wpAny_alloc (wpAny_pure (wpAny_bind ?_))))
    show wpAny _ _ (newObjAsIs _ _ _) _ _ _
    unfold newObjAsIs classHasDel
    refine wpAny_bind (wpAny_alloc (wpAny_bind (wpAny_bind (wpAny_load (Heap.get?_push_of_some _ (Heap.get?_push_of_some _ hC)) (wpAny_pure ?_)))))
    refine wpAny_pure (wpAny_pure ?_)
    show Q _ _
    rw [Heap.size_push]
    exact hq
  repeat (first | simp only [Bool.false_eq_true, if_false] | exact fin _ | lk)
end
end
-- N4
section
open PySem PySem.W PySem.Calls PyProof.Rows
section
variable {w : World} {mean : ExcName → Option Value} {mg mb : Str → Option Value} {dp un : Nat} {gd : Option (List Code)} {cn : Str} {cs : Scope} {a : Addr} {ccd : Value} {cl : List (Str × Addr)} {outer : List Env} {A₀ : Around} {base h₀ : Heap} {L : Addr} {m : Str → Option Value} {s : Shared} {Q E : Value → Shared → Prop}
theorem kw11 : True := by
  k_with_none
  k_with "exec If" => refine wpAny_If ?_
  k_with "truthy str" => refine P.truthy_str (by omega) ?_
  k_with "execs cons" => ((with_reducible refine wpAny_execs_cons ?_); (try dsimp only); (try k_fold))
  k_with "own ne" => (refine neN ?_; (try dsimp only); first | with_reducible assumption | (refine Ne.symm ?_; with_reducible assumption) | (refine Nat.ne_of_lt ?_; first | with_reducible assumption | with_reducible exact And.left (by with_reducible assumption) | with_reducible exact And.left (And.right (by with_reducible assumption)) | with_reducible exact And.left (And.right (And.right (by with_reducible assumption))) | with_reducible exact And.left (And.right (And.right (And.right (by with_reducible assumption)))) | with_reducible exact And.left (And.right (And.right (And.right (And.right (by with_reducible assumption))))) | with_reducible exact And.left (And.right (And.right (And.right (And.right (And.right (by with_reducible assumption)))))) | with_reducible exact And.left (And.right (And.right (And.right (And.right (And.right (And.right (by with_reducible assumption))))))) | with_reducible exact And.left (And.right (And.right (And.right (And.right (And.right (And.right (And.right (by with_reducible assumption)))))))) | with_reducible exact And.left (And.right (And.right (And.right (And.right (And.right (And.right (And.right (And.right (by with_reducible assumption))))))))) | with_reducible exact And.right (by with_reducible assumption) | with_reducible exact And.right (And.right (by with_reducible assumption)) | with_reducible exact And.right (And.right (And.right (by with_reducible assumption))) | with_reducible exact And.right (And.right (And.right (And.right (by with_reducible assumption)))) | with_reducible exact And.right (And.right (And.right (And.right (And.right (by with_reducible assumption))))) | with_reducible exact And.right (And.right (And.right (And.right (And.right (And.right (by with_reducible assumption)))))) | with_reducible exact And.right (And.right (And.right (And.right (And.right (And.right (And.right (by with_reducible assumption))))))) | with_reducible exact And.right (And.right (And.right (And.right (And.right (And.right (And.right (And.right (by with_reducible assumption))))))))) | (refine Nat.ne_of_gt ?_; first | with_reducible assumption | with_reducible exact And.left (by with_reducible assumption) | with_reducible exact And.left (And.right (by with_reducible assumption)) | with_reducible exact And.left (And.right (And.right (by with_reducible assumption))) | with_reducible exact And.left (And.right (And.right (And.right (by with_reducible assumption)))) | with_reducible exact And.left (And.right (And.right (And.right (And.right (by with_reducible assumption))))) | with_reducible exact And.left (And.right (And.right (And.right (And.right (And.right (by with_reducible assumption)))))) | with_reducible exact And.left (And.right (And.right (And.right (And.right (And.right (And.right (by with_reducible assumption))))))) | with_reducible exact And.left (And.right (And.right (And.right (And.right (And.right (And.right (And.right (by with_reducible assumption)))))))) | with_reducible exact And.left (And.right (And.right (And.right (And.right (And.right (And.right (And.right (And.right (by with_reducible assumption))))))))) | with_reducible exact And.right (by with_reducible assumption) | with_reducible exact And.right (And.right (by with_reducible assumption)) | with_reducible exact And.right (And.right (And.right (by with_reducible assumption))) | with_reducible exact And.right (And.right (And.right (And.right (by with_reducible assumption)))) | with_reducible exact And.right (And.right (And.right (And.right (And.right (by with_reducible assumption))))) | with_reducible exact And.right (And.right (And.right (And.right (And.right (And.right (by with_reducible assumption)))))) | with_reducible exact And.right (And.right (And.right (And.right (And.right (And.right (And.right (by with_reducible assumption))))))) | with_reducible exact And.right (And.right (And.right (And.right (And.right (And.right (And.right (And.right (by with_reducible assumption))))))))))
  trivial
theorem objnew_N {A : Around} {news : List (Addr × Obj)} (F : Fr h₀ L s.heap m) (X : (hd.heap_1 w.params).In h₀) (N : News h₀ L s.heap news)
    (hq : ∀ x dx h', (∀ p ∈ news, p.1 < dx) → dx < x → Fr h₀ L h' m → News h₀ L h' ((x, instObj 592 dx) :: (dx, dictOf [] 0) :: news) → Q (.ref x) { s with heap := h' }) :
    wpAny (model PySem.Challenge.pw_om0186_01 w) A (call (.builtin "object.__new__") [.ref 592]) Q E s := by
  refine objnew_592 (X.keeps F.keep) ?_
  have N1 := News.push F N emptyDict
  have F1 := Fr.push F emptyDict
  have N2 := News.push F1 N1 (instObj 592 s.heap.objs.size)
  have F2 := Fr.push F1 (instObj 592 s.heap.objs.size)
  rw [Heap.size_push] at N2
  exact hq _ _ _ (fun p hp => Heap.lt_size (N p hp).1) (Nat.lt_succ_self _) F2 N2
theorem kw12 : True := by
  k_with "call builtin:object.__new__" => (k_here; k_dflt (refine' objnew_N ?F9q ?X9q ?N9q ?_; (case F9q => k_asm); (case X9q => k_asm); (case N9q => k_asm); k_whole; intro x9k dx9k h9k l19k l29k F9k N9k; (try k_sweep)))
  trivial
theorem new_592 {v : Value} {news : List (Addr × Obj)} (B : Below A₀ base outer h₀) (F : Fr h₀ L s.heap m) (X : (hd.heap_1 w.params).In h₀) (T : Top q (looseW q loose) mean mg mb h₀) (hk : cs.kind = .function) (hdp : dp + 3 < recursionLimit) (hun : un + 20 < cLine) (N : News h₀ L s.heap news)
    (hret : ∀ x dx h' tk', (∀ p ∈ news, p.1 < dx) → dx < x → Fr h₀ L h' m → News h₀ L h' ((x, instObj 592 dx) :: (dx, dictOf [] 0) :: news) → Q (.ref x) { s with heap := h', toks := tk' }) :
    wpAny (model PySem.Challenge.pw_om0186_01 w) (ktrTop dp un gd cn cs L a ccd cl outer) (call (.ref 85) [.ref 592, v]) Q E s := by
  w_on
  refine wpAny_call ?_
  k_dflt (refine' kp_both ?k1 ?k2 ?k3 N ?k5 ?kA ?kF ?kK ?k6 ?k7 ?k8 ?kV ?kX ?kQ ?kM ?kN ?kD ?kR ?kP ?kS ?kT ?kB ?_ ?c2 ?c3 ?c4 ?c5; (case kA => exact rfl); (case kF => exact rfl); (case kK => assumption); (case k1 => k_asm); (case k2 => k_asm); (case k3 => k_asm); (case k5 => k_asm); (case k6 => k_is); (case k7 => k_is); (case k8 => ktr_room); (case kV => kp_lit); (case kX => kp_lit); (case kQ => exact rfl); (case kM => exact rfl); (case kN => exact rfl); (case kD => kp_flats); (case kR => exact rfl); (case kP => exact rfl); (case kS => exact fun _ => rfl); (case kT => exact fun _ _ => rfl); (case kB => exact fun _ _ => locs rfl); (case c5 => decide); (case c2 => exact rfl); (case c3 => exact rfl); (case c4 => exact rfl); k_whole; intro C' D' o' g' L' h' tk' l1 l2 lo' hs' fs' FG' F' N' B' X' T'; (try dsimp only); (try k_fold))
  (try (show wpAny _ _ _ _ _ _; k_fold))
  k_steps
  refine hret _ _ _ _ (fun p hp => ?a) (by with_reducible assumption) (by k_asm) (news_sub (by k_asm) ?b)
  case a => exact (by assumption : ∀ p ∈ _ :: _ :: _, p.1 < _) p (.tail _ (.tail _ hp))
  case b =>
    intro p hp
    rcases List.mem_cons.mp hp with h | h
    · subst h; exact .head _
    · rcases List.mem_cons.mp h with h | h
      · subst h; exact .tail _ (.head _)
      · exact .tail _ (.tail _ (.tail _ (.tail _ h)))
end
end
-- N5
section
open PySem PySem.W PySem.Calls PyProof.Rows
section
variable {w : World} {mean : ExcName → Option Value} {mg mb : Str → Option Value} {dp un : Nat} {gd : Option (List Code)} {cn : Str} {cs : Scope} {a : Addr} {ccd : Value} {cl : List (Str × Addr)} {outer : List Env} {A₀ : Around} {base h₀ : Heap} {L : Addr} {m : Str → Option Value} {s : Shared} {Q E : Value → Shared → Prop}
theorem kw13 : True := by
  k_with_none
  k_with "own all" => assumption
  k_with "exec If" => refine wpAny_If ?_
  k_with "truthy str" => refine P.truthy_str (by omega) ?_
  k_with "ite" => first | refine ite_pos (by with_reducible assumption) ?_ | refine ite_isFalse (by with_reducible assumption) ?_ | refine ite_neg (by with_reducible assumption) ?_
  k_with "execs cons" => ((with_reducible refine wpAny_execs_cons ?_); (try dsimp only); (try k_fold))
  k_with "own ne" => (refine neN ?_; (try dsimp only); first | with_reducible assumption | (refine Ne.symm ?_; with_reducible assumption) | (refine Nat.ne_of_lt ?_; first | with_reducible assumption | with_reducible exact And.left (by with_reducible assumption) | with_reducible exact And.left (And.right (by with_reducible assumption)) | with_reducible exact And.left (And.right (And.right (by with_reducible assumption))) | with_reducible exact And.left (And.right (And.right (And.right (by with_reducible assumption)))) | with_reducible exact And.left (And.right (And.right (And.right (And.right (by with_reducible assumption))))) | with_reducible exact And.left (And.right (And.right (And.right (And.right (And.right (by with_reducible assumption)))))) | with_reducible exact And.left (And.right (And.right (And.right (And.right (And.right (And.right (by with_reducible assumption))))))) | with_reducible exact And.left (And.right (And.right (And.right (And.right (And.right (And.right (And.right (by with_reducible assumption)))))))) | with_reducible exact And.left (And.right (And.right (And.right (And.right (And.right (And.right (And.right (And.right (by with_reducible assumption))))))))) | with_reducible exact And.right (by with_reducible assumption) | with_reducible exact And.right (And.right (by with_reducible assumption)) | with_reducible exact And.right (And.right (And.right (by with_reducible assumption))) | with_reducible exact And.right (And.right (And.right (And.right (by with_reducible assumption)))) | with_reducible exact And.right (And.right (And.right (And.right (And.right (by with_reducible assumption))))) | with_reducible exact And.right (And.right (And.right (And.right (And.right (And.right (by with_reducible assumption)))))) | with_reducible exact And.right (And.right (And.right (And.right (And.right (And.right (And.right (by with_reducible assumption))))))) | with_reducible exact And.right (And.right (And.right (And.right (And.right (And.right (And.right (And.right (by with_reducible assumption))))))))) | (refine Nat.ne_of_gt ?_; first | with_reducible assumption | with_reducible exact And.left (by with_reducible assumption) | with_reducible exact And.left (And.right (by with_reducible assumption)) | with_reducible exact And.left (And.right (And.right (by with_reducible assumption))) | with_reducible exact And.left (And.right (And.right (And.right (by with_reducible assumption)))) | with_reducible exact And.left (And.right (And.right (And.right (And.right (by with_reducible assumption))))) | with_reducible exact And.left (And.right (And.right (And.right (And.right (And.right (by with_reducible assumption)))))) | with_reducible exact And.left (And.right (And.right (And.right (And.right (And.right (And.right (by with_reducible assumption))))))) | with_reducible exact And.left (And.right (And.right (And.right (And.right (And.right (And.right (And.right (by with_reducible assumption)))))))) | with_reducible exact And.left (And.right (And.right (And.right (And.right (And.right (And.right (And.right (And.right (by with_reducible assumption))))))))) | with_reducible exact And.right (by with_reducible assumption) | with_reducible exact And.right (And.right (by with_reducible assumption)) | with_reducible exact And.right (And.right (And.right (by with_reducible assumption))) | with_reducible exact And.right (And.right (And.right (And.right (by with_reducible assumption)))) | with_reducible exact And.right (And.right (And.right (And.right (And.right (by with_reducible assumption))))) | with_reducible exact And.right (And.right (And.right (And.right (And.right (And.right (by with_reducible assumption)))))) | with_reducible exact And.right (And.right (And.right (And.right (And.right (And.right (And.right (by with_reducible assumption))))))) | with_reducible exact And.right (And.right (And.right (And.right (And.right (And.right (And.right (And.right (by with_reducible assumption))))))))))
  trivial
theorem init_sio {text : Str} {t : Tok} {x dx : Addr} {rest : List (Addr × Obj)} (B : Below A₀ base outer h₀) (F : Fr h₀ L s.heap m) (X : (hd.heap_1 w.params).In h₀) (T : Top q (looseW q loose) mean mg mb h₀) (hk : cs.kind = .function) (hdp : dp + 3 < recursionLimit) (hun : un + 20 < cLine) (hl : text.length ≤ 1000000) (h0 : @Ne Nat x dx) (r1 : ∀ p ∈ rest, p.1 ≠ dx) (N : News h₀ L s.heap ((x, instObj 592 dx) :: (dx, dictOf [] 0) :: rest))
    (hret : ∀ k1 k2 k3 t1 t2 t3 h' tk', Fr h₀ L h' m → News h₀ L h' ((x, instObj 592 dx) :: (dx, sioD w.params k1 k2 k3 (.str (Str.ofString "\n") t1) (.str text t2) (.int 0 t3)) :: rest) → Q .none { s with heap := h', toks := tk' }) :
    wpAny (model PySem.Challenge.pw_om0186_01 w) (ktrTop dp un gd cn cs L a ccd cl outer) (call (.ref 362) [.ref x, .str text t]) Q E s := by
  w_on
  refine wpAny_call ?_
  k_dflt (refine' code_defG ?k1 ?k2 ?k3 N ?k5 ?kA ?kF ?kK ?k6 ?k7 ?k8 ?k9 ?kB ?_ ?c2 ?c3 ?c4 ?c5; (case kA => exact rfl); (case kF => exact rfl); (case kK => assumption); (case k1 => k_asm); (case k2 => k_asm); (case k3 => k_asm); (case k5 => k_asm); (case k6 => k_is); (case k7 => k_is); (case k8 => ktr_room); (case k9 => first | exact BindsTo.of_eq rfl | exact binds_K (by k_in) rfl (by k_is) rfl rfl rfl); (case c5 => decide); (case kB => exact locs rfl); (case c2 => exact rfl); (case c3 => exact rfl); (case c4 => exact rfl); k_whole; intro g' L' h' FG' F' N' B' X' T' GS'; (try dsimp only); (try k_fold))
  (try (show wpAny _ _ _ _ _ _; k_fold))
  k_steps
  exact hret _ _ _ _ _ _ _ _ (by k_asm) (by k_asm)
theorem mk_sio {text : Str} {t : Tok} {rest : List (Addr × Obj)} (B : Below A₀ base outer h₀) (F : Fr h₀ L s.heap m) (X : (hd.heap_1 w.params).In h₀) (T : Top q (looseW q loose) mean mg mb h₀) (hk : cs.kind = .function) (hdp : dp + 5 < recursionLimit) (hun : un + 60 < cLine) (hl : text.length ≤ 1000000) (N : News h₀ L s.heap rest)
    (hret : ∀ x dx k1 k2 k3 t1 t2 t3 h' tk', (∀ p ∈ rest, p.1 < dx) → dx < x → Fr h₀ L h' m → News h₀ L h' ((x, instObj 592 dx) :: (dx, sioD w.params k1 k2 k3 (.str (Str.ofString "\n") t1) (.str text t2) (.int 0 t3)) :: rest) → Q (.ref x) { s with heap := h', toks := tk' }) :
    wpAny (model PySem.Challenge.pw_om0186_01 w) (ktrTop dp un gd cn cs L a ccd cl outer) (call (.ref 592) [.str text t]) Q E s := by
  have w0 : (Code.builtin "type.__call__" ⟨[.ref 592, .str text t], []⟩).weight ≤ 1 := Nat.le_of_ble_eq_true (by kernel_rfl)
  have w1 : (Code.builtin "type.__call__" ⟨[.ref 592, .str text t], []⟩).cUnits ≤ 20 := Nat.le_of_ble_eq_true (by kernel_rfl)
  refine make_592 (X.keeps F.keep) ?_
  refine new_592 (s := { s with toks := s.toks + 1 }) B F X T hk (by ktr_room) (by ktr_units) N ?_
  intro x dx h' tk' l1 l2 F' N'
  refine ⟨x, dx, rfl, (N' _ (.head _)).1, X.keeps F'.keep, ?_⟩
  refine init_sio (s := { s with heap := h', toks := tk' }) B F' X T hk (by ktr_room) (by ktr_units) hl (Nat.ne_of_gt l2) (fun p hp => Nat.ne_of_lt (l1 p hp)) N' ?_
  intro k1 k2 k3 t1 t2 t3 h'' tk'' F'' N''
  exact ⟨rfl, hret _ _ _ _ _ _ _ _ _ _ l1 l2 F'' N''⟩
end
end
-- N6
section
theorem kw14 : True := by
  k_with_none
  k_with "own all" => assumption
  k_with "exec If" => refine wpAny_If ?_
  k_with "truthy str" => refine P.truthy_str (by omega) ?_
  k_with "getMethod ref" => (k_here; (with_reducible show wpAny _ _ (getMethod (Value.ref _) (PySem.Str.ofString "appendleft") _) _ _ _); k_dflt (refine' dqK_apl ?N9q ?h9q ?_; (case N9q => k_asm); (case h9q => k_mem); k_whole))
  k_with "getMethod ref" => (k_here; (with_reducible show wpAny _ _ (getMethod (Value.ref _) (PySem.Str.ofString "popleft") _) _ _ _); k_dflt (refine' dqK_pop ?N9q ?h9q ?_; (case N9q => k_asm); (case h9q => k_mem); k_whole))
  k_with "call builtin:collections.deque.appendleft" => (k_here; k_dflt (refine' dqK_appendleft ?F9q ?N9q ?U9q ?z9q ?_; (case F9q => k_asm); (case N9q => k_asm); (case U9q => k_upd); (case z9q => first | exact Nat.le_of_ble_eq_true rfl | assumption | (simp only [List.length_cons]; omega)); k_whole; intro h9k F9k N9k; (try k_sweep)))
  k_with "call builtin:collections.deque.popleft" => (k_here; k_dflt (refine' dqK_popleft ?F9q ?N9q ?U9q ?z9q ?_; (case F9q => k_asm); (case N9q => k_asm); (case U9q => k_upd); (case z9q => first | exact Nat.le_of_ble_eq_true rfl | assumption | (simp only [List.length_cons]; omega)); k_whole; intro h9k F9k N9k; (try k_sweep)))
  k_with "truthy ref" => (k_here; k_dflt (refine' dqK_truthy ?N9q ?h9q ?z9q ?_; (case N9q => k_asm); (case h9q => k_mem); (case z9q => first | exact Nat.le_of_ble_eq_true rfl | assumption | (simp only [List.length_cons]; omega)); k_whole; intro tk9k))
  k_with "ite" => first | refine ite_pos (by with_reducible assumption) ?_ | refine ite_isFalse (by with_reducible assumption) ?_ | refine ite_neg (by with_reducible assumption) ?_
  k_with "call ref" => (k_here; (try dsimp only [List.nil_append, List.cons_append, List.append_nil]); (with_reducible show wpAny _ _ (call (Value.ref 592) [Value.str _ _]) _ _ _); k_dflt (refine' mk_sio ?k19q ?k29q ?k39q ?k59q ?kK9q ?kd9q ?ku9q ?kl9q ?kN9q ?_; (case k19q => k_asm); (case k29q => k_asm); (case k39q => k_asm); (case k59q => k_asm); (case kK9q => first | exact rfl | assumption); (case kl9q => assumption); (case kN9q => k_asm); (case kd9q => ktr_room); (case ku9q => ktr_units); k_whole; intro x9k dx9k k19k k29k k39k t19k t29k t39k h9k tk9k l19k l29k F9k N9k; (try k_lt l19k); (try k_lt2 l29k); (try k_sweep)))
  k_with "execs cons" => ((with_reducible refine wpAny_execs_cons ?_); (try dsimp only); (try k_fold))
  k_with "own ne" => (refine neN ?_; (try dsimp only); first | with_reducible assumption | (refine Ne.symm ?_; with_reducible assumption) | (refine Nat.ne_of_lt ?_; first | with_reducible assumption | with_reducible exact And.left (by with_reducible assumption) | with_reducible exact And.left (And.right (by with_reducible assumption)) | with_reducible exact And.left (And.right (And.right (by with_reducible assumption))) | with_reducible exact And.left (And.right (And.right (And.right (by with_reducible assumption)))) | with_reducible exact And.left (And.right (And.right (And.right (And.right (by with_reducible assumption))))) | with_reducible exact And.left (And.right (And.right (And.right (And.right (And.right (by with_reducible assumption)))))) | with_reducible exact And.left (And.right (And.right (And.right (And.right (And.right (And.right (by with_reducible assumption))))))) | with_reducible exact And.left (And.right (And.right (And.right (And.right (And.right (And.right (And.right (by with_reducible assumption)))))))) | with_reducible exact And.left (And.right (And.right (And.right (And.right (And.right (And.right (And.right (And.right (by with_reducible assumption))))))))) | with_reducible exact And.right (by with_reducible assumption) | with_reducible exact And.right (And.right (by with_reducible assumption)) | with_reducible exact And.right (And.right (And.right (by with_reducible assumption))) | with_reducible exact And.right (And.right (And.right (And.right (by with_reducible assumption)))) | with_reducible exact And.right (And.right (And.right (And.right (And.right (by with_reducible assumption))))) | with_reducible exact And.right (And.right (And.right (And.right (And.right (And.right (by with_reducible assumption)))))) | with_reducible exact And.right (And.right (And.right (And.right (And.right (And.right (And.right (by with_reducible assumption))))))) | with_reducible exact And.right (And.right (And.right (And.right (And.right (And.right (And.right (And.right (by with_reducible assumption))))))))) | (refine Nat.ne_of_gt ?_; first | with_reducible assumption | with_reducible exact And.left (by with_reducible assumption) | with_reducible exact And.left (And.right (by with_reducible assumption)) | with_reducible exact And.left (And.right (And.right (by with_reducible assumption))) | with_reducible exact And.left (And.right (And.right (And.right (by with_reducible assumption)))) | with_reducible exact And.left (And.right (And.right (And.right (And.right (by with_reducible assumption))))) | with_reducible exact And.left (And.right (And.right (And.right (And.right (And.right (by with_reducible assumption)))))) | with_reducible exact And.left (And.right (And.right (And.right (And.right (And.right (And.right (by with_reducible assumption))))))) | with_reducible exact And.left (And.right (And.right (And.right (And.right (And.right (And.right (And.right (by with_reducible assumption)))))))) | with_reducible exact And.left (And.right (And.right (And.right (And.right (And.right (And.right (And.right (And.right (by with_reducible assumption))))))))) | with_reducible exact And.right (by with_reducible assumption) | with_reducible exact And.right (And.right (by with_reducible assumption)) | with_reducible exact And.right (And.right (And.right (by with_reducible assumption))) | with_reducible exact And.right (And.right (And.right (And.right (by with_reducible assumption)))) | with_reducible exact And.right (And.right (And.right (And.right (And.right (by with_reducible assumption))))) | with_reducible exact And.right (And.right (And.right (And.right (And.right (And.right (by with_reducible assumption)))))) | with_reducible exact And.right (And.right (And.right (And.right (And.right (And.right (And.right (by with_reducible assumption))))))) | with_reducible exact And.right (And.right (And.right (And.right (And.right (And.right (And.right (And.right (by with_reducible assumption))))))))))
  trivial
theorem news_p3 {h₀ h : Heap} {L : Addr} {a b c e x d t : Addr × Obj} {l : List (Addr × Obj)} (N : News h₀ L h (t :: x :: d :: a :: b :: c :: e :: l)) : News h₀ L h (a :: b :: c :: e :: x :: d :: t :: l) := news_sub N (by intro p hp; simp only [List.mem_cons] at hp ⊢; grind)
section
variable {w : World} {mean : ExcName → Option Value} {mg mb : Str → Option Value} {dp un : Nat} {gd : Option (List Code)} {cn : Str} {cs : Scope} {a : Addr} {ccd : Value} {cl : List (Str × Addr)} {outer : List Env} {A₀ : Around} {base h₀ : Heap} {L : Addr} {m : Str → Option Value} {s : Shared} {Q E : Value → Shared → Prop} {rest : List (Addr × Obj)}
theorem push_c {lx ld x pa fa : Addr} {kt ct : Nat → Tok} {W text : Str} {t : Tok} {infn : Str} {ti : Tok} {ln : Int} {tl : Tok} {state token newf : Value} {nd nf : Int} {items : List Value} (B : Below A₀ base outer h₀) (F : Fr h₀ L s.heap m) (X : (hd.heap_1 w.params).In h₀) (T : Top q (looseW q loose) mean mg mb h₀) (hk : cs.kind = .function) (hdp : dp + 14 < recursionLimit) (hun : un + 140 < cLine) (hl : text.length ≤ 1000000) (hit : items.length < 1000)  (e0 : @Ne Nat lx ld) (e1 : @Ne Nat lx pa) (e2 : @Ne Nat lx fa) (e3 : @Ne Nat ld pa) (e4 : @Ne Nat ld fa) (e5 : @Ne Nat pa fa) (r1 : ∀ p ∈ rest, p.1 ≠ ld) (r3 : ∀ p ∈ rest, p.1 ≠ fa) (N : News h₀ L s.heap ((lx, instObj 727 ld) :: (ld, lexD w.params kt ct W (.ref x) (.str infn ti) state (.ref pa) (.int ln tl) token (.ref fa)) :: (pa, dqO nd []) :: (fa, dqO nf items) :: rest))
    (hret : ∀ x' dx' tA k1 k2 k3 t1 t2 t3 tl' h' tk', (lx < dx' ∧ ld < dx' ∧ pa < dx' ∧ fa < dx' ∧ AllLt dx' rest) → dx' < x' → x' < tA → Fr h₀ L h' m → News h₀ L h' ((lx, instObj 727 ld) :: (ld, lexD w.params kt ct W (.ref x') (newf) state (.ref pa) (.int 1 tl') token (.ref fa)) :: (pa, dqO nd []) :: (fa, dqO (nf + 1) (.ref tA :: items)) :: (x', instObj 592 dx') :: (dx', sioD w.params k1 k2 k3 (.str (Str.ofString "\n") t1) (.str text t2) (.int 0 t3)) :: (tA, tupO [.str infn ti, .ref x, .int ln tl]) :: rest) → Q .none { s with heap := h', toks := tk' }) :
    wpAny (model PySem.Challenge.pw_om0186_01 w) (ktrTop dp un gd cn cs L a ccd cl outer) (call (.ref 674) [.ref lx, .str text t, newf]) Q E s := by
  w_on
  refine wpAny_call ?_
  k_dflt (refine' code_def ?k1 ?k2 ?k3 N ?k5 ?kA ?kF ?kK ?k6 ?k7 ?k8 ?k9 ?kB ?_ ?c2 ?c3 ?c4 ?c5; (case kA => exact rfl); (case kF => exact rfl); (case kK => assumption); (case k1 => k_asm); (case k2 => k_asm); (case k3 => k_asm); (case k5 => k_asm); (case k6 => k_is); (case k7 => k_is); (case k8 => ktr_room); (case k9 => first | exact BindsTo.of_eq rfl | exact binds_K (by k_in) rfl (by k_is) rfl rfl rfl); (case c5 => decide); (case kB => exact locs rfl); (case c2 => exact rfl); (case c3 => exact rfl); (case c4 => exact rfl); k_whole; intro g' L' h' FG' F' N' B' X' T'; (try dsimp only); (try k_fold))
  (try (show wpAny _ _ _ _ _ _; k_fold))
  k_steps
  refine' hret _ _ _ _ _ _ _ _ _ _ _ _ ?c ?d ?e ?a (news_p3 ?b)
  case a => with_reducible assumption
  case b => with_reducible assumption
  case c => assumption
  case d => assumption
  case e => exact And.left (by assumption)
end
end
-- D3
section
open PySem.Builtin
theorem mro_dq : mroOf (.type "collections.deque") = pure [.type "collections.deque", .type "object"] := by rw [mroOf_type]; kernel_rfl
theorem lookup_dq_new : typeLookup (.type "collections.deque") "__new__" = pure (some (.builtin "collections.deque.__new__")) := by rw [typeLookup_type, builtinLookup_eq_fast]; kernel_rfl
theorem slot_dq_init : Slot "collections.deque" "__init__" "collections.deque.__init__" :=
  .of (owner := "collections.deque") (n := "__init__") (by rw [typeLookup_type, builtinLookup_eq_fast]; kernel_rfl) (by decide +kernel) (by decide +kernel) (by decide +kernel)
    (by first | exact .inl (by decide +kernel) | exact .inr (by decide +kernel)) (by rw [isSubtype_type]; kernel_rfl)
theorem called_dq : TypeCalled "collections.deque" "collections.deque.__new__" "collections.deque.__init__" :=
  ⟨by decide +kernel, by decide +kernel, ⟨_, _, mro_dq⟩, madeBy_type mro_dq lookup_dq_new (by decide +kernel), by decide +kernel, by rw [isSubtype_type]; kernel_rfl, slot_dq_init⟩
theorem typeCall_dq_0 : checkTypeCall "collections.deque" ⟨[], []⟩ = pure () := by kernel_rfl
theorem newCall_dq_0 : checkBuiltinCall "collections.deque.__new__" ⟨[.type "collections.deque"], []⟩ = pure () := by kernel_rfl
theorem entry_dq_new : entryFor table "collections.deque.__new__" = some Builtin.«collections.deque.__new__» := entryFor_of_tree (by kernel_rfl)
theorem entry_dq_init : entryFor table "collections.deque.__init__" = some Builtin.«collections.deque.__init__» := entryFor_of_tree (by kernel_rfl)
theorem plain_dq_new : plainId "collections.deque.__new__" = true := by decide +kernel
theorem sub_dq_self : isSubtype (.type "collections.deque") (.type "collections.deque") = pure true := by rw [isSubtype_type]; kernel_rfl
theorem args_dqinit (a : Value) : argsOk "collections.deque.__init__" ⟨[a], []⟩ := by unfold argsOk; kernel_rfl
section
variable {prog : Program} {w : World} {A : Around} {E : Value → Shared → Prop} {s : Shared}
theorem code_dq_new {Q₁ : Value → Shared → Prop}
    (h : Q₁ (.ref s.heap.objs.size) { s with heap := s.heap.push (dqO 0 []) }) :
    codeAny (model prog w) A (.call (.builtin "collections.deque.__new__") ⟨[.type "collections.deque"], []⟩) (wants Q₁ E) s := by
  refine codeAny_of_tree ?_
  show wpAny _ A.in1 (do checkBuiltinCall "collections.deque.__new__" ⟨[.type "collections.deque"], []⟩; again (.builtin "collections.deque.__new__" ⟨[.type "collections.deque"], []⟩)) _ _ s
  refine wpAny_bind (wpAny_of_eq newCall_dq_0 (wpAny_pure ⟨plainId_quiet plain_dq_new _, codeAny_builtin entry_dq_new ?_⟩))
  rw [Around.under_plainId plain_dq_new _]
  unfold Builtin.«collections.deque.__new__» Deque.newArgs Deque.new Deque.ty
  have hsub := sub_dq_self
  have hty : isType (.type "collections.deque") = pure true := by kernel_rfl
  refine wpAny_bind (wpAny_bind (wpAny_of_eq hty (wpAny_pure ?_)))
  show wpAny _ _ (newObj (.type "collections.deque") (Data.fields #[Value.none, rawInt 0]) none >>= fun v => ret v) _ _ _
  simp only [newObj]
  refine wpAny_bind ?_
  rw [if_neg (by decide +kernel)]
  unfold newObjAsIs classHasDel
  refine wpAny_bind (wpAny_alloc (wpAny_bind (wpAny_pure ?_)))
  exact wpAny_pure (wpAny_pure h)
theorem call_dq_0 {Q : Value → Shared → Prop}
    (h : ∀ h', Heap.SameBut s.heap.objs.size (s.heap.push (dqO 0 [])) h' → h'.get? s.heap.objs.size = some (dqO 0 []) → Q (.ref s.heap.objs.size) { s with heap := h' }) :
    wpAny (model prog w) A (call (.type "collections.deque") []) Q E s := by
  refine callType_codes (Q₁ := fun obj s₁ => obj = .ref s.heap.objs.size ∧ s₁ = { s with heap := s.heap.push (dqO 0 []) }) called_dq typeCall_dq_0 entry_dq_init (code_dq_new ⟨rfl, rfl⟩) ?_
  rintro obj s₁ ⟨rfl, rfl⟩
  have ho : (s.heap.push (dqO 0 [])).get? s.heap.objs.size = some (dqO 0 []) := Heap.get?_push_size _ rfl
  refine ⟨⟨_, ho, rfl⟩, args_dqinit _, ?_⟩
  unfold Builtin.«collections.deque.__init__»
  have hg : ((s.heap.push (dqO 0 [])).update s.heap.objs.size (Obj.mapFields (·.setIfInBounds 0 .none))).get? s.heap.objs.size = some (dqO 0 []) := by
    rw [Heap.get?_update_self _ ho rfl]; rfl
  have key : wpAny (model prog w) A.in1.in1 (setField (.ref s.heap.objs.size) 0 .none >>= fun _ => Deque.clear (.ref s.heap.objs.size) >>= fun _ => ret .none) (fun fin s' => match fin with | .done f => wants (fun r s₂ => r = .none ∧ Q (.ref s.heap.objs.size) s₂) E (.ok f) s' | .again c' => c'.quiet = true ∧ codeAny (model prog w) A.in1 c' (wants (fun r s₂ => r = .none ∧ Q (.ref s.heap.objs.size) s₂) E) s')
        (fun e s' => wants (fun r s₂ => r = .none ∧ Q (.ref s.heap.objs.size) s₂) E (.error e) s') { s with heap := s.heap.push (dqO 0 []) } := by
    refine wpAny_bind (wpAny_setField ho rfl (by decide) ?_)
    unfold Deque.clear Deque.items
    refine wpAny_bind (wpAny_bind (wpAny_bind (dq_fields hg (wpAny_pure ?_))))
    show wpAny _ _ (pure ()) _ _ _
    exact wpAny_pure (wpAny_pure ⟨rfl, h _ (Heap.SameBut.update _ _ _) hg⟩)
  exact key
end
end
-- D4
section
theorem ne_rest {d : Addr} {l : List (Addr × Obj)} (h : AllLt d l) : ∀ p ∈ l, p.1 ≠ d := fun p hp => Nat.ne_of_lt (kst_ltOf h p hp)
section
variable {prog : Program} {w : World} {A : Around} {E : Value → Shared → Prop} {s : Shared} {h₀ : Heap} {L : Addr} {m : Str → Option Value} {news : List (Addr × Obj)}
theorem dqK_new {Q : Value → Shared → Prop} (F : Fr h₀ L s.heap m) (N : News h₀ L s.heap news)
    (h : ∀ d h', (∀ p ∈ news, p.1 < d) → Fr h₀ L h' m → News h₀ L h' ((d, dqO 0 []) :: news) → Q (.ref d) { s with heap := h' }) :
    wpAny (model prog w) A (call (.type "collections.deque") []) Q E s := by
  refine call_dq_0 fun h' hs hg => ?_
  have F1 := Fr.push F (dqO 0 [])
  have N1 := News.push F N (dqO 0 [])
  have z := N1 _ (.head _)
  refine h _ _ (fun p hp => Heap.lt_size (N p hp).1) (F1.change hs z.2.1 z.2.2) ?_
  intro p hp
  rcases List.mem_cons.mp hp with e | hp
  · subst e; exact ⟨hg, z.2⟩
  · have z := N1 p (.tail _ hp)
    exact ⟨hs.extBut _ _ (Nat.ne_of_lt (Heap.lt_size (N p hp).1)) z.1, z.2⟩
end
end
-- N7
section
theorem kw15 : True := by
  k_with_none
  k_with "own all" => first | assumption | (refine ne_rest ?_; first | assumption | exact And.right ((by assumption)) | exact And.right (And.right ((by assumption))) | exact And.right (And.right (And.right ((by assumption)))) | exact And.right (And.right (And.right (And.right ((by assumption))))) | exact And.right (And.right (And.right (And.right (And.right ((by assumption)))))) | exact And.right (And.right (And.right (And.right (And.right (And.right ((by assumption))))))) | exact And.right (And.right (And.right (And.right (And.right (And.right (And.right ((by assumption)))))))) | exact And.right (And.right (And.right (And.right (And.right (And.right (And.right (And.right ((by assumption))))))))) | exact And.right (And.right (And.right (And.right (And.right (And.right (And.right (And.right (And.right ((by assumption)))))))))) | exact And.right (And.right (And.right (And.right (And.right (And.right (And.right (And.right (And.right (And.right ((by assumption))))))))))) | exact And.right (And.right (And.right (And.right (And.right (And.right (And.right (And.right (And.right (And.right (And.right ((by assumption)))))))))))) | exact And.right (And.right (And.right (And.right (And.right (And.right (And.right (And.right (And.right (And.right (And.right (And.right ((by assumption))))))))))))) | exact And.right (And.right (And.right (And.right (And.right (And.right (And.right (And.right (And.right (And.right (And.right (And.right (And.right ((by assumption)))))))))))))))
  k_with "exec If" => refine wpAny_If ?_
  k_with "truthy str" => refine P.truthy_str (by omega) ?_
  k_with "getMethod ref" => (k_here; (with_reducible show wpAny _ _ (getMethod (Value.ref _) (PySem.Str.ofString "appendleft") _) _ _ _); k_dflt (refine' dqK_apl ?N9q ?h9q ?_; (case N9q => k_asm); (case h9q => k_mem); k_whole))
  k_with "getMethod ref" => (k_here; (with_reducible show wpAny _ _ (getMethod (Value.ref _) (PySem.Str.ofString "popleft") _) _ _ _); k_dflt (refine' dqK_pop ?N9q ?h9q ?_; (case N9q => k_asm); (case h9q => k_mem); k_whole))
  k_with "call builtin:collections.deque.appendleft" => (k_here; k_dflt (refine' dqK_appendleft ?F9q ?N9q ?U9q ?z9q ?_; (case F9q => k_asm); (case N9q => k_asm); (case U9q => k_upd); (case z9q => first | exact Nat.le_of_ble_eq_true rfl | assumption | (simp only [List.length_cons]; omega)); k_whole; intro h9k F9k N9k; (try k_sweep)))
  k_with "call builtin:collections.deque.popleft" => (k_here; k_dflt (refine' dqK_popleft ?F9q ?N9q ?U9q ?z9q ?_; (case F9q => k_asm); (case N9q => k_asm); (case U9q => k_upd); (case z9q => first | exact Nat.le_of_ble_eq_true rfl | assumption | (simp only [List.length_cons]; omega)); k_whole; intro h9k F9k N9k; (try k_sweep)))
  k_with "truthy ref" => (k_here; k_dflt (refine' dqK_truthy ?N9q ?h9q ?z9q ?_; (case N9q => k_asm); (case h9q => k_mem); (case z9q => first | exact Nat.le_of_ble_eq_true rfl | assumption | (simp only [List.length_cons]; omega)); k_whole; intro tk9k))
  k_with "ite" => first | refine ite_pos (by with_reducible assumption) ?_ | refine ite_isFalse (by with_reducible assumption) ?_ | refine ite_neg (by with_reducible assumption) ?_
  k_with "call ref" => (k_here; (try dsimp only [List.nil_append, List.cons_append, List.append_nil]); (with_reducible show wpAny _ _ (call (Value.ref 592) [Value.str _ _]) _ _ _); k_dflt (refine' mk_sio ?k19q ?k29q ?k39q ?k59q ?kK9q ?kd9q ?ku9q ?kl9q ?kN9q ?_; (case k19q => k_asm); (case k29q => k_asm); (case k39q => k_asm); (case k59q => k_asm); (case kK9q => first | exact rfl | assumption); (case kl9q => assumption); (case kN9q => k_asm); (case kd9q => ktr_room); (case ku9q => ktr_units); k_whole; intro x9k dx9k k19k k29k k39k t19k t29k t39k h9k tk9k l19k l29k F9k N9k; (try k_lt l19k); (try k_lt2 l29k); (try k_sweep)))
  k_with "call type:collections.deque" => (k_here; (try dsimp only [List.nil_append, List.cons_append, List.append_nil]); (with_reducible show wpAny _ _ (call (Value.type "collections.deque") []) _ _ _); k_dflt (refine' dqK_new ?F9q ?N9q ?_; (case F9q => k_asm); (case N9q => k_asm); k_whole; intro d9k h9k l19k F9k N9k; (try k_lt l19k); (try k_sweep)))
  k_with "execs cons" => ((with_reducible refine wpAny_execs_cons ?_); (try dsimp only); (try k_fold))
  k_with "own ne" => (refine neN ?_; (try dsimp only); first | with_reducible assumption | (refine Ne.symm ?_; with_reducible assumption) | (refine Nat.ne_of_lt ?_; first | with_reducible assumption | with_reducible exact And.left (by with_reducible assumption) | with_reducible exact And.left (And.right (by with_reducible assumption)) | with_reducible exact And.left (And.right (And.right (by with_reducible assumption))) | with_reducible exact And.left (And.right (And.right (And.right (by with_reducible assumption)))) | with_reducible exact And.left (And.right (And.right (And.right (And.right (by with_reducible assumption))))) | with_reducible exact And.left (And.right (And.right (And.right (And.right (And.right (by with_reducible assumption)))))) | with_reducible exact And.left (And.right (And.right (And.right (And.right (And.right (And.right (by with_reducible assumption))))))) | with_reducible exact And.left (And.right (And.right (And.right (And.right (And.right (And.right (And.right (by with_reducible assumption)))))))) | with_reducible exact And.left (And.right (And.right (And.right (And.right (And.right (And.right (And.right (And.right (by with_reducible assumption))))))))) | with_reducible exact And.right (by with_reducible assumption) | with_reducible exact And.right (And.right (by with_reducible assumption)) | with_reducible exact And.right (And.right (And.right (by with_reducible assumption))) | with_reducible exact And.right (And.right (And.right (And.right (by with_reducible assumption)))) | with_reducible exact And.right (And.right (And.right (And.right (And.right (by with_reducible assumption))))) | with_reducible exact And.right (And.right (And.right (And.right (And.right (And.right (by with_reducible assumption)))))) | with_reducible exact And.right (And.right (And.right (And.right (And.right (And.right (And.right (by with_reducible assumption))))))) | with_reducible exact And.right (And.right (And.right (And.right (And.right (And.right (And.right (And.right (by with_reducible assumption))))))))) | (refine Nat.ne_of_gt ?_; first | with_reducible assumption | with_reducible exact And.left (by with_reducible assumption) | with_reducible exact And.left (And.right (by with_reducible assumption)) | with_reducible exact And.left (And.right (And.right (by with_reducible assumption))) | with_reducible exact And.left (And.right (And.right (And.right (by with_reducible assumption)))) | with_reducible exact And.left (And.right (And.right (And.right (And.right (by with_reducible assumption))))) | with_reducible exact And.left (And.right (And.right (And.right (And.right (And.right (by with_reducible assumption)))))) | with_reducible exact And.left (And.right (And.right (And.right (And.right (And.right (And.right (by with_reducible assumption))))))) | with_reducible exact And.left (And.right (And.right (And.right (And.right (And.right (And.right (And.right (by with_reducible assumption)))))))) | with_reducible exact And.left (And.right (And.right (And.right (And.right (And.right (And.right (And.right (And.right (by with_reducible assumption))))))))) | with_reducible exact And.right (by with_reducible assumption) | with_reducible exact And.right (And.right (by with_reducible assumption)) | with_reducible exact And.right (And.right (And.right (by with_reducible assumption))) | with_reducible exact And.right (And.right (And.right (And.right (by with_reducible assumption)))) | with_reducible exact And.right (And.right (And.right (And.right (And.right (by with_reducible assumption))))) | with_reducible exact And.right (And.right (And.right (And.right (And.right (And.right (by with_reducible assumption)))))) | with_reducible exact And.right (And.right (And.right (And.right (And.right (And.right (And.right (by with_reducible assumption))))))) | with_reducible exact And.right (And.right (And.right (And.right (And.right (And.right (And.right (And.right (by with_reducible assumption))))))))))
  trivial
def wOk (W : Str) : Bool := (Builtin.Str.occurrences W (Str.ofString "\"") 0 W.length 1).isEmpty && (Builtin.Str.occurrences W (Str.ofString "=") 0 W.length 1).isEmpty && (List.range 8).all fun k => !(Builtin.Str.occurrences W ⟨#[97 + k]⟩ 0 W.length 1).isEmpty
theorem news_lex {P : Params} {h₀ h : Heap} {L lx ld x dx pa fa : Addr} {W : Str} {instream infile state pushback lineno token filestack : Value} {so : Obj} {rest : List (Addr × Obj)} {k0 k1 k2 k3 k4 k5 k6 k7 k8 k9 k10 k11 k12 k13 k14 k15 k16 k17 k18 : Tok} {c0 c1 c2 c3 c4 c5 c6 c7 : Tok} {R : Prop}
    (N : News h₀ L h ((fa, dqO 0 []) :: (pa, dqO 0 []) :: (x, instObj 592 dx) :: (dx, so) :: (lx, instObj 727 ld) :: (ld, dictOf [⟨PyData.keyHash P (Str.ofString "instream"), .str (Str.ofString "instream") k0, instream⟩, ⟨PyData.keyHash P (Str.ofString "infile"), .str (Str.ofString "infile") k1, infile⟩, ⟨PyData.keyHash P (Str.ofString "posix"), .str (Str.ofString "posix") k2, .bool true⟩, ⟨PyData.keyHash P (Str.ofString "eof"), .str (Str.ofString "eof") k3, .none⟩, ⟨PyData.keyHash P (Str.ofString "commenters"), .str (Str.ofString "commenters") k4, .str (Str.ofString "#") c0⟩, ⟨PyData.keyHash P (Str.ofString "wordchars"), .str (Str.ofString "wordchars") k5, .str W c1⟩, ⟨PyData.keyHash P (Str.ofString "whitespace"), .str (Str.ofString "whitespace") k6, .str (Str.ofString " \t\r\n") c2⟩, ⟨PyData.keyHash P (Str.ofString "whitespace_split"), .str (Str.ofString "whitespace_split") k7, .bool false⟩, ⟨PyData.keyHash P (Str.ofString "quotes"), .str (Str.ofString "quotes") k8, .str (Str.ofString "'\"") c3⟩, ⟨PyData.keyHash P (Str.ofString "escape"), .str (Str.ofString "escape") k9, .str (Str.ofString "\\") c4⟩, ⟨PyData.keyHash P (Str.ofString "escapedquotes"), .str (Str.ofString "escapedquotes") k10, .str (Str.ofString "\"") c5⟩, ⟨PyData.keyHash P (Str.ofString "state"), .str (Str.ofString "state") k11, state⟩, ⟨PyData.keyHash P (Str.ofString "pushback"), .str (Str.ofString "pushback") k12, pushback⟩, ⟨PyData.keyHash P (Str.ofString "lineno"), .str (Str.ofString "lineno") k13, lineno⟩, ⟨PyData.keyHash P (Str.ofString "debug"), .str (Str.ofString "debug") k14, .int 0 c6⟩, ⟨PyData.keyHash P (Str.ofString "token"), .str (Str.ofString "token") k15, token⟩, ⟨PyData.keyHash P (Str.ofString "filestack"), .str (Str.ofString "filestack") k16, filestack⟩, ⟨PyData.keyHash P (Str.ofString "source"), .str (Str.ofString "source") k17, .none⟩, ⟨PyData.keyHash P (Str.ofString "_punctuation_chars"), .str (Str.ofString "_punctuation_chars") k18, .str (Str.ofString "") c7⟩] 19) :: rest)) (hW : wOk W = true) (k : ∀ kt ct, News h₀ L h ((lx, instObj 727 ld) :: (ld, lexD P kt ct W instream infile state pushback lineno token filestack) :: (pa, dqO 0 []) :: (fa, dqO 0 []) :: (x, instObj 592 dx) :: (dx, so) :: rest) → R) : R :=
  k (fun i => [k0, k1, k2, k3, k4, k5, k6, k7, k8, k9, k10, k11, k12, k13, k14, k15, k16, k17, k18].getD i 0) (fun i => [c0, c1, c2, c3, c4, c5, c6, c7].getD i 0) (news_sub N (by intro p hp; simp only [List.mem_cons] at hp ⊢; rcases hp with h | h | h | h | h | h | h <;> simp [h]))
section
variable {w : World} {mean : ExcName → Option Value} {mg mb : Str → Option Value} {dp un : Nat} {gd : Option (List Code)} {cn : Str} {cs : Scope} {a : Addr} {ccd : Value} {cl : List (Str × Addr)} {outer : List Env} {A₀ : Around} {base h₀ : Heap} {L : Addr} {m : Str → Option Value} {s : Shared} {Q E : Value → Shared → Prop} {rest : List (Addr × Obj)}
end
end
-- R1
section
open PySem.Builtin
theorem inSet_seen (code : Array Nat) (c : Nat) : ∀ (f i : Nat) (y : Bool) (s1 s2 : Sre.Seen), (Sre.inSet code c f i y s1).map Prod.fst = (Sre.inSet code c f i y s2).map Prod.fst := by
  intro f
  induction f with
  | zero => intro i y s1 s2; rfl
  | succ f ih =>
    intro i y s1 s2
    unfold Sre.inSet
    (try dsimp only)
    split <;> try rfl
    · exact ih _ _ _ _
    · split
      · rfl
      · exact ih _ _ _ _
    · split
      · rfl
      · exact ih _ _ _ _
    · split
      · rfl
      · exact ih _ _ _ _
    · cases h : Sre.category (code.getD (i + 1) 0) c with
      | error e => rfl
      | ok b =>
        cases b
        · exact ih _ _ _ _
        · rfl
    · split
      · rfl
      · exact ih _ _ _ _
    · split
      · rfl
      · exact ih _ _ _ _
def codeChk (code : Array Nat) (c : Nat) : Bool := match Sre.inSet code c code.size 5 true {} with | .ok (false, _) => true | _ => false
def codeOk (code : Array Nat) : Bool := (match Sre.ops[code.getD 0 0]? with | some .INFO => true | _ => false) && code.getD 2 0 == 4 && (List.range 127).all fun c => decide (c < 32) || codeChk code c
def txtOk (text : Str) : Prop := ∀ c ∈ text.cps.toList, 32 ≤ c ∧ c < 127
theorem inSet_no {code : Array Nat} {c : Nat} (h : codeChk code c = true) (seen : Sre.Seen) : ∃ seen', Sre.inSet code c code.size 5 true seen = .ok (false, seen') := by
  have e := inSet_seen code c code.size 5 true seen {}
  unfold codeChk at h
  split at h
  · next h' =>
    rw [h'] at e
    cases h2 : Sre.inSet code c code.size 5 true seen with
    | error _ => rw [h2] at e; cases e
    | ok p =>
      rw [h2] at e
      obtain ⟨b, q⟩ := p
      have : b = false := by injection e
      subst this
      exact ⟨q, rfl⟩
  · cases h
theorem admitted_none (m : Sre.M) (hall : ∀ i, i < m.lim → codeChk m.code (m.text.getD i 0) = true) : ∀ (fuel s : Nat) (seen : Sre.Seen), ∃ seen', Sre.M.admitted m fuel s seen = .ok (none, seen') := by
  intro fuel
  induction fuel with
  | zero => intro s seen; exact ⟨seen, rfl⟩
  | succ f ih =>
    intro s seen
    unfold Sre.M.admitted
    by_cases h : s ≥ m.lim
    · rw [if_pos h]; exact ⟨seen, rfl⟩
    · rw [if_neg h]
      obtain ⟨q, e⟩ := inSet_no (hall s (by omega)) seen
      rw [e]
      exact ih _ _
theorem attempt_none (m : Sre.M) (s : Nat) (b : Bool) (hf : m.hasFirstSet = true) (hall : ∀ i, i < m.lim → codeChk m.code (m.text.getD i 0) = true) : ∃ seen, m.attemptFrom s b = { m with seen := seen, answer := some false } := by
  obtain ⟨q, e⟩ := admitted_none m hall (m.lim + 1 - s) s m.seen
  refine ⟨q, ?_⟩
  unfold Sre.M.attemptFrom
  rw [hf, e]
  rfl
theorem run_failed {m : Sre.M} (h1 : m.outcome = none) (h2 : m.frames = []) (h3 : m.answer = some false) : ∃ z, m.runFor 4 = z ∧ z.outcome = some .failed := by
  obtain ⟨code, text, lim, start, ls, wt, ma, pc, pos, handed, om, marks, lm, li, loops, inner, frames, weight, answer, seen, outcome⟩ := m
  dsimp only at h1 h2 h3
  subst h1 h2 h3
  exact ⟨_, rfl, rfl⟩
theorem search_failed {code text : Array Nat} {g : Nat} (hc : codeOk code = true) (ht : ∀ c ∈ text.toList, 32 ≤ c ∧ c < 127) : ∃ z, (Sre.forSearch code text g 0 text.size false).runFor 4 = z ∧ z.outcome = some .failed := by
  unfold codeOk at hc
  rw [Bool.and_eq_true, Bool.and_eq_true] at hc
  obtain ⟨⟨h1, h2⟩, h3⟩ := hc
  have hall : ∀ i, i < text.size → codeChk code (text.getD i 0) = true := by
    intro i hi
    have e : text.getD i 0 = text[i] := by simp [Array.getD, hi]
    rw [e]
    obtain ⟨a, b⟩ := ht text[i] (by simp)
    have := List.all_eq_true.mp h3 text[i] (List.mem_range.mpr b)
    rw [Bool.or_eq_true] at this
    rcases this with h | h
    · exact absurd (of_decide_eq_true h) (by omega)
    · exact h
  unfold Sre.forSearch
  (try dsimp only)
  split
  · exact run_failed rfl rfl rfl
  · have hf : ∀ m : Sre.M, m.code = code → m.hasFirstSet = true := by
      intro m e
      unfold Sre.M.hasFirstSet
      rw [e]; exact Bool.and_eq_true_iff.mpr ⟨h1, h2⟩
    have key : ∀ m : Sre.M, m.code = code → m.text = text → m.lim = text.size → m.outcome = none → m.frames = [] → ∃ z, (m.attemptFrom 0 true).runFor 4 = z ∧ z.outcome = some .failed := by
      intro m e1 e2 e3 e4 e5
      obtain ⟨q, e⟩ := attempt_none m 0 true (hf m e1) (by rw [e1, e2, e3]; exact hall)
      rw [e]
      exact run_failed e4 e5 rfl
    exact key _ rfl rfl rfl rfl rfl
theorem slot_search : Slot "re.Pattern" "search" "re.Pattern.search" :=
  .of (owner := "re.Pattern") (n := "search") (by rw [typeLookup_type, builtinLookup_eq_fast]; kernel_rfl) (by decide +kernel) (by decide +kernel) (by decide +kernel)
    (by first | exact .inl (by decide +kernel) | exact .inr (by decide +kernel)) (by rw [isSubtype_type]; kernel_rfl)
theorem plainAttrs_re : PlainAttrs "re.Pattern" :=
  ⟨⟨"object.__getattribute__", by rw [typeLookup_type, builtinLookup_eq_fast]; kernel_rfl, by decide +kernel⟩, by rw [typeLookup_type, builtinLookup_eq_fast]; kernel_rfl⟩
theorem ty_search : typeOf (.builtin "re.Pattern.search") = pure (.type "method_descriptor") := by show builtinType _ = _; rw [builtinType_eq_fast]; kernel_rfl
theorem entry_search : entryFor table "re.Pattern.search" = some Builtin.«re.Pattern.search» := entryFor_of_tree (by kernel_rfl)
theorem args_search (a b : Value) : argsOk "re.Pattern.search" ⟨[a, b], []⟩ := by unfold argsOk; kernel_rfl
theorem named_search (v : Value) : Re.reNamed "re.Pattern.search" "search" ["string", "pos", "endpos"] 1 [v] [] = pure [some v, none, none] := by kernel_rfl
abbrev patO (v0 v1 v3 v4 : Value) (t2 t6 : Tok) (ca : Addr) (sl : Array (Option Value)) : Obj := ⟨.type "re.Pattern", none, .fields #[v0, v1, .int 0 t2, v3, v4, .ref ca, .int 0 t6], sl⟩
section
variable {prog : Program} {w : World} {A : Around} {E : Value → Shared → Prop} {s : Shared} {a ca : Addr} {v0 v1 v3 v4 : Value} {t2 t6 t : Tok} {od' : Option Addr} {sl sl' : Array (Option Value)} {xs : Array Value} {n : Nat} {oc : Value} {text : Str}
theorem re_getm {M : Model} {pl : Sem Bool} {Q : Value × List Value → Shared → Prop} (ho : s.heap.get? a = some (patO v0 v1 v3 v4 t2 t6 ca sl)) (h : Q (.builtin "re.Pattern.search", [.ref a]) s) : wpAny M A (getMethod (.ref a) "search" pl) Q E s :=
  getMethod_builtin (s := s) ⟨_, ho, rfl⟩ plainAttrs_re slot_search ty_search (fun a e => by cases e; exact ⟨_, ho, rfl⟩) h
theorem reDrive_done {k : Nat} {m z : Sre.M} (hk : k ≠ 0) (h : m.runFor 4 = z) (ho : z.outcome.isSome = true) : Re.reDrive k m = pure z := by
  cases k with
  | zero => exact absurd rfl hk
  | succ k =>
    unfold Re.reDrive Re.reTurnSteps
    (try dsimp only)
    rw [h, if_pos ho]
theorem re_none {M : Model} {m : Sre.M} {Q : Option Sre.M → Shared → Prop} (hm : ∃ z, m.runFor 4 = z ∧ z.outcome = some .failed) (h : Q none s) : wpAny M A (Re.reRunToEnd m) Q E s := by
  obtain ⟨z, e1, e2⟩ := hm
  unfold Re.reRunToEnd
  rw [reDrive_done (by decide) e1 (by rw [e2]; rfl)]
  refine wpAny_bind (wpAny_pure (wpAny_bind ?_))
  refine wpAny_forIn_list _ (fun _ _ s' => s' = s) _ ?_ ?_ _ _ rfl
  · intro x rest b s' hs
    subst hs
    split
    · exact wpAny_bind (wpAny_rule (wpAny_pure rfl))
    · exact wpAny_pure rfl
  · intro b s' hs
    subst hs
    rw [e2]
    exact wpAny_pure h
theorem re_search {Q : Value → Shared → Prop} (ho : s.heap.get? a = some (patO v0 v1 v3 v4 t2 t6 ca sl)) (hc : s.heap.get? ca = some ⟨oc, od', .seq xs n, sl'⟩) (hk : codeOk ((xs.map Re.reRawOf).map (·.toNat)) = true) (ht : txtOk text) (hl : text.length ≤ 1000000) (h : Q .none s) :
    wpAny (model prog w) A (call (.builtin "re.Pattern.search") [.ref a, .str text t]) Q E s := by
  refine wpAny_call_entry slot_search ⟨_, ho, rfl⟩ entry_search ?_ (args_search _ _)
  unfold Builtin.«re.Pattern.search» Re.reTarget
  refine wpAny_bind ?_
  show wpAny _ _ (Re.reNamed "re.Pattern.search" "search" ["string", "pos", "endpos"] 1 [.str text t] [] >>= _) _ _ _
  rw [named_search]
  refine wpAny_bind (wpAny_pure ?_)
  refine wpAny_bind (wpAny_pure (wpAny_bind (wpAny_pure (wpAny_bind ?_))))
  unfold fieldsOf
  refine wpAny_bind (wpAny_load ho (wpAny_pure ?_))
  unfold Re.reTextOf
  refine wpAny_bind (wpAny_bind (m := asStr? (.str text t)) (wpAny_pure (wpAny_pure ?_)))
  show wpAny _ _ (Re.reNoCollectionInside (.str text t) 0 >>= _) _ _ _
  refine wpAny_bind (m := Re.reNoCollectionInside (.str text t) 0) (wpAny_pure ?_)
  refine wpAny_bind ?_
  show wpAny _ _ (Re.reRawItems (.ref ca)) _ _ _
  unfold Re.reRawItems seqItems?
  refine wpAny_bind (wpAny_bind (wpAny_load hc (wpAny_pure (wpAny_pure (wpAny_pure ?_)))))
  unfold Re.reAnswer
  refine wpAny_bind (re_none ?_ ?_)
  · show ∃ z, (Sre.forSearch ((xs.map Re.reRawOf).map (·.toNat)) text.cps 0 0 (min (2 ^ 63 - 1 : Int).toNat text.cps.size) false).runFor 4 = z ∧ _
    have e : min (2 ^ 63 - 1 : Int).toNat text.cps.size = text.cps.size := by
      have h2 : text.cps.size ≤ 1000000 := hl
      have h3 : (1000000 : Nat) ≤ (2 ^ 63 - 1 : Int).toNat := by decide
      omega
    rw [e]
    exact search_failed hk ht
  · exact wpAny_pure ⟨_, rfl, h⟩
end
end
-- R2
section
section
variable {prog : Program} {w : World} {A : Around} {E : Value → Shared → Prop} {s : Shared} {a ca : Addr} {v0 v1 v3 v4 : Value} {t2 t6 t : Tok} {od' : Option Addr} {sl sl' : Array (Option Value)} {xs : Array Value} {n : Nat} {oc : Value} {text : Str} {K : Frag} {h₀ : Heap} {L : Addr} {m : Str → Option Value}
theorem re_getmK {M : Model} {pl : Sem Bool} {Q : Value × List Value → Shared → Prop} (F : Fr h₀ L s.heap m) (X : K.In h₀) (ho : K.lookup a = some (patO v0 v1 v3 v4 t2 t6 ca sl)) (h : Q (.builtin "re.Pattern.search", [.ref a]) s) : wpAny M A (getMethod (.ref a) "search" pl) Q E s := re_getm (F.keep _ _ (X _ _ ho)) h
theorem re_searchK {Q : Value → Shared → Prop} (F : Fr h₀ L s.heap m) (X : K.In h₀) (ho : K.lookup a = some (patO v0 v1 v3 v4 t2 t6 ca sl)) (hc : K.lookup ca = some ⟨oc, od', .seq xs n, sl'⟩) (hk : codeOk ((xs.map Builtin.Re.reRawOf).map (·.toNat)) = true) (ht : txtOk text) (hl : text.length ≤ 1000000) (h : Q .none s) :
    wpAny (model prog w) A (call (.builtin "re.Pattern.search") [.ref a, .str text t]) Q E s := re_search (F.keep _ _ (X _ _ ho)) (F.keep _ _ (X _ _ hc)) hk ht hl h
end
theorem kw16 : True := by
  k_with_none
  k_with "own all" => assumption
  k_with "exec If" => refine wpAny_If ?_
  k_with "truthy str" => refine P.truthy_str (by omega) ?_
  k_with "ite" => first | refine ite_pos (by with_reducible assumption) ?_ | refine ite_isFalse (by with_reducible assumption) ?_ | refine ite_neg (by with_reducible assumption) ?_
  k_with "getMethod ref" => (k_here; (with_reducible show wpAny _ _ (getMethod (Value.ref _) (PySem.Str.ofString "search") _) _ _ _); k_dflt (refine' re_getmK ?F9q ?X9q ?h9q ?_; (case F9q => k_asm); (case X9q => k_asm); (case h9q => k_is); k_whole))
  k_with "call builtin:re.Pattern.search" => (k_here; k_dflt (refine' re_searchK ?F9q ?X9q ?h19q ?h29q ?h39q ?h49q ?h59q ?_; (case F9q => k_asm); (case X9q => k_asm); (case h19q => k_is); (case h29q => k_is); (case h39q => decide +kernel); (case h49q => assumption); (case h59q => assumption); k_whole))
  k_with "execs cons" => ((with_reducible refine wpAny_execs_cons ?_); (try dsimp only); (try k_fold))
  k_with "own ne" => (refine neN ?_; (try dsimp only); first | with_reducible assumption | (refine Ne.symm ?_; with_reducible assumption) | (refine Nat.ne_of_lt ?_; first | with_reducible assumption | with_reducible exact And.left (by with_reducible assumption) | with_reducible exact And.left (And.right (by with_reducible assumption)) | with_reducible exact And.left (And.right (And.right (by with_reducible assumption))) | with_reducible exact And.left (And.right (And.right (And.right (by with_reducible assumption)))) | with_reducible exact And.left (And.right (And.right (And.right (And.right (by with_reducible assumption))))) | with_reducible exact And.left (And.right (And.right (And.right (And.right (And.right (by with_reducible assumption)))))) | with_reducible exact And.left (And.right (And.right (And.right (And.right (And.right (And.right (by with_reducible assumption))))))) | with_reducible exact And.left (And.right (And.right (And.right (And.right (And.right (And.right (And.right (by with_reducible assumption)))))))) | with_reducible exact And.left (And.right (And.right (And.right (And.right (And.right (And.right (And.right (And.right (by with_reducible assumption))))))))) | with_reducible exact And.right (by with_reducible assumption) | with_reducible exact And.right (And.right (by with_reducible assumption)) | with_reducible exact And.right (And.right (And.right (by with_reducible assumption))) | with_reducible exact And.right (And.right (And.right (And.right (by with_reducible assumption)))) | with_reducible exact And.right (And.right (And.right (And.right (And.right (by with_reducible assumption))))) | with_reducible exact And.right (And.right (And.right (And.right (And.right (And.right (by with_reducible assumption)))))) | with_reducible exact And.right (And.right (And.right (And.right (And.right (And.right (And.right (by with_reducible assumption))))))) | with_reducible exact And.right (And.right (And.right (And.right (And.right (And.right (And.right (And.right (by with_reducible assumption))))))))) | (refine Nat.ne_of_gt ?_; first | with_reducible assumption | with_reducible exact And.left (by with_reducible assumption) | with_reducible exact And.left (And.right (by with_reducible assumption)) | with_reducible exact And.left (And.right (And.right (by with_reducible assumption))) | with_reducible exact And.left (And.right (And.right (And.right (by with_reducible assumption)))) | with_reducible exact And.left (And.right (And.right (And.right (And.right (by with_reducible assumption))))) | with_reducible exact And.left (And.right (And.right (And.right (And.right (And.right (by with_reducible assumption)))))) | with_reducible exact And.left (And.right (And.right (And.right (And.right (And.right (And.right (by with_reducible assumption))))))) | with_reducible exact And.left (And.right (And.right (And.right (And.right (And.right (And.right (And.right (by with_reducible assumption)))))))) | with_reducible exact And.left (And.right (And.right (And.right (And.right (And.right (And.right (And.right (And.right (by with_reducible assumption))))))))) | with_reducible exact And.right (by with_reducible assumption) | with_reducible exact And.right (And.right (by with_reducible assumption)) | with_reducible exact And.right (And.right (And.right (by with_reducible assumption))) | with_reducible exact And.right (And.right (And.right (And.right (by with_reducible assumption)))) | with_reducible exact And.right (And.right (And.right (And.right (And.right (by with_reducible assumption))))) | with_reducible exact And.right (And.right (And.right (And.right (And.right (And.right (by with_reducible assumption)))))) | with_reducible exact And.right (And.right (And.right (And.right (And.right (And.right (And.right (by with_reducible assumption))))))) | with_reducible exact And.right (And.right (And.right (And.right (And.right (And.right (And.right (And.right (by with_reducible assumption))))))))))
  trivial
section
variable {w : World} {mean : ExcName → Option Value} {mg mb : Str → Option Value} {dp un : Nat} {gd : Option (List Code)} {cn : Str} {cs : Scope} {a : Addr} {ccd : Value} {cl : List (Str × Addr)} {outer : List Env} {A₀ : Around} {base h₀ : Heap} {L : Addr} {m : Str → Option Value} {s : Shared} {Q E : Value → Shared → Prop}
theorem cv_t {self : Value} {text : Str} {t : Tok} {news : List (Addr × Obj)} (B : Below A₀ base outer h₀) (F : Fr h₀ L s.heap m) (X : (hd.heap_1 w.params).In h₀) (T : Top q (looseW q loose) mean mg mb h₀) (hk : cs.kind = .function) (hdp : dp + 4 < recursionLimit) (hun : un + 30 < cLine) (N0 : News h₀ L s.heap news) (ht : txtOk text) (hl : text.length ≤ 1000000)
    (hret : ∀ h' tk', Fr h₀ L h' m → News h₀ L h' news → Q (.str text t) { s with heap := h', toks := tk' }) :
    wpAny (model PySem.Challenge.pw_om0186_01 w) (ktrTop dp un gd cn cs L a ccd cl outer) (call (.ref 823) [self, .str text t] [(Str.ofString "name", .bool true)]) Q E s := by
  w_on
  have N : News h₀ L s.heap [] := News.nil
  refine wpAny_call ?_
  k_dflt (refine' code_defG ?k1 ?k2 ?k3 N ?k5 ?kA ?kF ?kK ?k6 ?k7 ?k8 ?k9 ?kB ?_ ?c2 ?c3 ?c4 ?c5; (case kA => exact rfl); (case kF => exact rfl); (case kK => assumption); (case k1 => k_asm); (case k2 => k_asm); (case k3 => k_asm); (case k5 => k_asm); (case k6 => k_is); (case k7 => k_is); (case k8 => ktr_room); (case k9 => (refine' kp_binds ?kx ?ke; (case kx => k_in); (case ke => exact fun _ => rfl))); (case c5 => decide); (case kB => exact locs rfl); (case c2 => exact rfl); (case c3 => exact rfl); (case c4 => exact rfl); k_whole; intro g' L' h' FG' F' N' B' X' T' GS'; (try dsimp only); (try k_fold))
  (try (show wpAny _ _ _ _ _ _; k_fold))
  k_steps
  exact hret _ _ (by k_asm) (news_keep N0 (gsub_keep GS' (by assumption)))
theorem cv_f {self : Value} {text : Str} {t : Tok} {news : List (Addr × Obj)} (B : Below A₀ base outer h₀) (F : Fr h₀ L s.heap m) (X : (hd.heap_1 w.params).In h₀) (T : Top q (looseW q loose) mean mg mb h₀) (hk : cs.kind = .function) (hdp : dp + 4 < recursionLimit) (hun : un + 30 < cLine) (N0 : News h₀ L s.heap news) (ht : txtOk text) (hl : text.length ≤ 1000000)
    (hret : ∀ h' tk', Fr h₀ L h' m → News h₀ L h' news → Q (.str text t) { s with heap := h', toks := tk' }) :
    wpAny (model PySem.Challenge.pw_om0186_01 w) (ktrTop dp un gd cn cs L a ccd cl outer) (call (.ref 823) [self, .str text t] [(Str.ofString "name", .bool false)]) Q E s := by
  w_on
  have N : News h₀ L s.heap [] := News.nil
  refine wpAny_call ?_
  k_dflt (refine' code_defG ?k1 ?k2 ?k3 N ?k5 ?kA ?kF ?kK ?k6 ?k7 ?k8 ?k9 ?kB ?_ ?c2 ?c3 ?c4 ?c5; (case kA => exact rfl); (case kF => exact rfl); (case kK => assumption); (case k1 => k_asm); (case k2 => k_asm); (case k3 => k_asm); (case k5 => k_asm); (case k6 => k_is); (case k7 => k_is); (case k8 => ktr_room); (case k9 => (refine' kp_binds ?kx ?ke; (case kx => k_in); (case ke => exact fun _ => rfl))); (case c5 => decide); (case kB => exact locs rfl); (case c2 => exact rfl); (case c3 => exact rfl); (case c4 => exact rfl); k_whole; intro g' L' h' FG' F' N' B' X' T' GS'; (try dsimp only); (try k_fold))
  (try (show wpAny _ _ _ _ _ _; k_fold))
  k_steps
  exact hret _ _ (by k_asm) (news_keep N0 (gsub_keep GS' (by assumption)))
end
end
-- R3
section
theorem kw17 : True := by
  k_with_none
  k_with "own all" => assumption
  k_with "exec If" => refine wpAny_If ?_
  k_with "truthy str" => refine P.truthy_str (by omega) ?_
  k_with "ite" => first | refine ite_pos (by with_reducible assumption) ?_ | refine ite_isFalse (by with_reducible assumption) ?_ | refine ite_neg (by with_reducible assumption) ?_
  k_with "execs cons" => ((with_reducible refine wpAny_execs_cons ?_); (try dsimp only); (try k_fold))
  k_with "own ne" => (refine neN ?_; (try dsimp only); first | with_reducible assumption | (refine Ne.symm ?_; with_reducible assumption) | (refine Nat.ne_of_lt ?_; first | with_reducible assumption | with_reducible exact And.left (by with_reducible assumption) | with_reducible exact And.left (And.right (by with_reducible assumption)) | with_reducible exact And.left (And.right (And.right (by with_reducible assumption))) | with_reducible exact And.left (And.right (And.right (And.right (by with_reducible assumption)))) | with_reducible exact And.left (And.right (And.right (And.right (And.right (by with_reducible assumption))))) | with_reducible exact And.left (And.right (And.right (And.right (And.right (And.right (by with_reducible assumption)))))) | with_reducible exact And.left (And.right (And.right (And.right (And.right (And.right (And.right (by with_reducible assumption))))))) | with_reducible exact And.left (And.right (And.right (And.right (And.right (And.right (And.right (And.right (by with_reducible assumption)))))))) | with_reducible exact And.left (And.right (And.right (And.right (And.right (And.right (And.right (And.right (And.right (by with_reducible assumption))))))))) | with_reducible exact And.right (by with_reducible assumption) | with_reducible exact And.right (And.right (by with_reducible assumption)) | with_reducible exact And.right (And.right (And.right (by with_reducible assumption))) | with_reducible exact And.right (And.right (And.right (And.right (by with_reducible assumption)))) | with_reducible exact And.right (And.right (And.right (And.right (And.right (by with_reducible assumption))))) | with_reducible exact And.right (And.right (And.right (And.right (And.right (And.right (by with_reducible assumption)))))) | with_reducible exact And.right (And.right (And.right (And.right (And.right (And.right (And.right (by with_reducible assumption))))))) | with_reducible exact And.right (And.right (And.right (And.right (And.right (And.right (And.right (And.right (by with_reducible assumption))))))))) | (refine Nat.ne_of_gt ?_; first | with_reducible assumption | with_reducible exact And.left (by with_reducible assumption) | with_reducible exact And.left (And.right (by with_reducible assumption)) | with_reducible exact And.left (And.right (And.right (by with_reducible assumption))) | with_reducible exact And.left (And.right (And.right (And.right (by with_reducible assumption)))) | with_reducible exact And.left (And.right (And.right (And.right (And.right (by with_reducible assumption))))) | with_reducible exact And.left (And.right (And.right (And.right (And.right (And.right (by with_reducible assumption)))))) | with_reducible exact And.left (And.right (And.right (And.right (And.right (And.right (And.right (by with_reducible assumption))))))) | with_reducible exact And.left (And.right (And.right (And.right (And.right (And.right (And.right (And.right (by with_reducible assumption)))))))) | with_reducible exact And.left (And.right (And.right (And.right (And.right (And.right (And.right (And.right (And.right (by with_reducible assumption))))))))) | with_reducible exact And.right (by with_reducible assumption) | with_reducible exact And.right (And.right (by with_reducible assumption)) | with_reducible exact And.right (And.right (And.right (by with_reducible assumption))) | with_reducible exact And.right (And.right (And.right (And.right (by with_reducible assumption)))) | with_reducible exact And.right (And.right (And.right (And.right (And.right (by with_reducible assumption))))) | with_reducible exact And.right (And.right (And.right (And.right (And.right (And.right (by with_reducible assumption)))))) | with_reducible exact And.right (And.right (And.right (And.right (And.right (And.right (And.right (by with_reducible assumption))))))) | with_reducible exact And.right (And.right (And.right (And.right (And.right (And.right (And.right (And.right (by with_reducible assumption))))))))))
  trivial

theorem occ_free {x : Str} {c : Nat} (h : c ∉ x.cps.toList) (limit : Nat) : (Builtin.Str.occurrences x ⟨#[c]⟩ 0 x.length limit).isEmpty = true := by
  rw [StrLaws.occ_eq]
  have key : ∀ (l : List Nat) (st : Array Nat × Nat), (forIn l st (StrLaws.occBody x ⟨#[c]⟩ x.length limit)).run = st := by
    intro l
    induction l with
    | nil => intro st; rfl
    | cons a l ih =>
      intro st
      rw [List.forIn_cons]
      unfold StrLaws.occBody
      rw [if_neg fun hc => h (List.mem_of_getElem? ((StrLaws.subAt_one x c a).mp ⟨hc.1.2, hc.2⟩))]
      exact ih st
  rw [key]
  rfl
theorem replace_no {prog : Program} {w : World} {A : Around} {E : Value → Shared → Prop} {s : Shared} {x y z : Str} {c : Nat} {t u v : Tok} {Q : Value → Shared → Prop} (hy : y = ⟨#[c]⟩) (hc : c ∉ x.cps.toList) (hq : Q (.str x t) s) : wpAny (model prog w) A (call (.builtin "str.replace") [.str x t, .str y u, .str z v]) Q E s := by
  have e : ((Builtin.Str.occurrences x y 0 x.length (x.length + 1)).isEmpty || (y.length == 0 && z.length == 0)) = true := by rw [hy, occ_free hc, Bool.true_or]
  refine call_gives F.slot_str_replace (typeIs_str _ _ _) F.entry_str_replace (F.args_str_replace_3 _ _ _) (gives_str_replace x y z t u v fun h => ?_) ?_
  · rw [e] at h; cases h
  · rw [if_pos e]; exact hq
theorem str92 : Str.ofString "\\" = ⟨#[92]⟩ := by decide +kernel
theorem str34' : Str.ofString "\"" = ⟨#[34]⟩ := by decide +kernel
theorem str95 : Str.ofString "_" = ⟨#[95]⟩ := by decide +kernel
theorem kw18 : True := by
  k_with "call builtin:str.replace" => ((try dsimp only [List.nil_append, List.cons_append, List.append_nil]); (with_reducible show wpAny _ _ (call (Value.builtin "str.replace") [Value.str _ _, Value.str _ _, Value.str _ _]) _ _ _); (first | refine replace_no str92 (by assumption) ?_ | refine replace_no str34' (by assumption) ?_ | refine replace_no str95 (by assumption) ?_))
  trivial
section
variable {w : World} {mean : ExcName → Option Value} {mg mb : Str → Option Value} {dp un : Nat} {gd : Option (List Code)} {cn : Str} {cs : Scope} {a : Addr} {ccd : Value} {cl : List (Str × Addr)} {outer : List Env} {A₀ : Around} {base h₀ : Heap} {L : Addr} {m : Str → Option Value} {s : Shared} {Q E : Value → Shared → Prop}
theorem fp_c {p v : Str} {tp tv : Tok} {news : List (Addr × Obj)} (B : Below A₀ base outer h₀) (F : Fr h₀ L s.heap m) (X : (hd.heap_1 w.params).In h₀) (T : Top q (looseW q loose) mean mg mb h₀) (hk : cs.kind = .function) (hdp : dp + 4 < recursionLimit) (hun : un + 30 < cLine) (N0 : News h₀ L s.heap news) (h0 : ((v.length : Int) > 0)) (hp : p.length ≤ 1000) (hv : v.length ≤ 1000) (h92 : 92 ∉ v.cps.toList) (h34 : 34 ∉ v.cps.toList)
    (hret : ∀ h' tk' t', Fr h₀ L h' m → News h₀ L h' news → Q (.str (Str.empty ++ p ++ Str.ofString "=\"" ++ v ++ Str.ofString "\"") t') { s with heap := h', toks := tk' }) :
    wpAny (model PySem.Challenge.pw_om0186_01 w) (ktrTop dp un gd cn cs L a ccd cl outer) (call (.ref 801) [.str p tp, .str v tv]) Q E s := by
  w_on
  have N : News h₀ L s.heap [] := News.nil
  refine wpAny_call ?_
  k_dflt (refine' code_defG ?k1 ?k2 ?k3 N ?k5 ?kA ?kF ?kK ?k6 ?k7 ?k8 ?k9 ?kB ?_ ?c2 ?c3 ?c4 ?c5; (case kA => exact rfl); (case kF => exact rfl); (case kK => assumption); (case k1 => k_asm); (case k2 => k_asm); (case k3 => k_asm); (case k5 => k_asm); (case k6 => k_is); (case k7 => k_is); (case k8 => ktr_room); (case k9 => first | exact BindsTo.of_eq rfl | exact binds_K (by k_in) rfl (by k_is) rfl rfl rfl); (case c5 => decide); (case kB => exact locs rfl); (case c2 => exact rfl); (case c3 => exact rfl); (case c4 => exact rfl); k_whole; intro g' L' h' FG' F' N' B' X' T' GS'; (try dsimp only); (try k_fold))
  (try (show wpAny _ _ _ _ _ _; k_fold))
  k_steps
  exact hret _ _ _ (by k_asm) (news_keep N0 (gsub_keep GS' (by assumption)))
end
end
-- R4
section
theorem join1K {prog : Program} {w : World} {A : Around} {E : Value → Shared → Prop} {s : Shared} {h₀ : Heap} {L l : Addr} {news : List (Addr × Obj)} {n : Nat} {x y : Str} {t u : Tok} {Q : Value → Shared → Prop} (N : News h₀ L s.heap news) (hm : (l, listOf #[.str y u] n) ∈ news) (hx : x.length ≤ 64) (hy : y.length ≤ 1000000) (h : ∀ t' k, Q (.str y t') { s with toks := k }) :
    wpAny (model prog w) A (call (.builtin "str.join") [.str x t, .ref l]) Q E s :=
  join_listC (ys := [y]) (News.isList N hm) (.cons y u .nil) hx (by simp only [List.map_cons, List.map_nil, List.sum_cons, List.sum_nil, List.length_cons, List.length_nil]; omega) h
theorem news_ah {h₀ h : Heap} {L hl : Addr} {items : List Value} {v : Value} {n : Nat} {t x y a b : Addr × Obj} {rest : List (Addr × Obj)} (N : News h₀ L h (t :: x :: y :: a :: b :: (hl, listOf (items.toArray.push v) n) :: rest)) : News h₀ L h (a :: b :: (hl, listOf (items ++ [v]).toArray n) :: t :: rest) := by
  rw [List.push_toArray] at N
  exact news_sub N (by intro p hp; simp only [List.mem_cons] at hp ⊢; rcases hp with h | h | h | h | h <;> simp [h])
theorem unr_end {h₀ h' : Heap} {L i : Addr} {o : Obj} {rest : (Str → Option Value) → List (Addr × Obj) → Prop} {s₁ : Shared} {tk : Nat} {m' : Str → Option Value} {news' : List (Addr × Obj)} (F : Fr h₀ L h' m') (N : News h₀ L h' ((i, o) :: news')) (hl : AllLt i news') (r : rest m' news') : UnrEndW h₀ L s₁ [(i, o)] rest { s₁ with heap := h', toks := tk } :=
  ⟨h', tk, m', news', rfl, F, N, fun p hp q hq => by rw [List.mem_singleton.mp hq]; exact ne_rest hl p hp, r⟩
theorem kw19 : True := by
  k_with_none
  k_with "own all" => first | assumption | (refine ne_rest ?_; first | assumption | exact And.right ((by assumption)) | exact And.right (And.right ((by assumption))) | exact And.right (And.right (And.right ((by assumption)))) | exact And.right (And.right (And.right (And.right ((by assumption))))) | exact And.right (And.right (And.right (And.right (And.right ((by assumption)))))) | exact And.right (And.right (And.right (And.right (And.right (And.right ((by assumption))))))) | exact And.right (And.right (And.right (And.right (And.right (And.right (And.right ((by assumption)))))))) | exact And.right (And.right (And.right (And.right (And.right (And.right (And.right (And.right ((by assumption))))))))) | exact And.right (And.right (And.right (And.right (And.right (And.right (And.right (And.right (And.right ((by assumption)))))))))) | exact And.right (And.right (And.right (And.right (And.right (And.right (And.right (And.right (And.right (And.right ((by assumption))))))))))) | exact And.right (And.right (And.right (And.right (And.right (And.right (And.right (And.right (And.right (And.right (And.right ((by assumption)))))))))))) | exact And.right (And.right (And.right (And.right (And.right (And.right (And.right (And.right (And.right (And.right (And.right (And.right ((by assumption))))))))))))) | exact And.right (And.right (And.right (And.right (And.right (And.right (And.right (And.right (And.right (And.right (And.right (And.right (And.right ((by assumption)))))))))))))))
  k_with "exec If" => refine wpAny_If ?_
  k_with "truthy str" => refine P.truthy_str (by omega) ?_
  k_with "ite" => first | refine ite_pos (by with_reducible assumption) ?_ | refine ite_isFalse (by with_reducible assumption) ?_ | refine ite_neg (by with_reducible assumption) ?_
  k_with "call builtin:str.replace" => ((try dsimp only [List.nil_append, List.cons_append, List.append_nil]); (with_reducible show wpAny _ _ (call (Value.builtin "str.replace") [Value.str _ _, Value.str _ _, Value.str _ _]) _ _ _); (first | refine replace_no str92 (by assumption) ?_ | refine replace_no str34' (by assumption) ?_ | refine replace_no str95 (by assumption) ?_))
  k_with "call ref" => (k_here; (try dsimp only [List.nil_append, List.cons_append, List.append_nil]); (with_reducible show wpAny _ _ (call (Value.ref 823) [_, Value.str _ _] _) _ _ _); k_dflt (show wpAny _ _ (call (Value.ref 823) [_, Value.str _ _] [(Str.ofString "name", Value.bool true)]) _ _ _); k_dflt (refine' cv_t ?k19q ?k29q ?k39q ?k59q ?kK9q ?kd9q ?ku9q ?kN9q ?kt9q ?kl9q ?_; (case k19q => k_asm); (case k29q => k_asm); (case k39q => k_asm); (case k59q => k_asm); (case kK9q => first | exact rfl | assumption); (case kN9q => k_asm); (case kt9q => assumption); (case kl9q => assumption); (case kd9q => ktr_room); (case ku9q => ktr_units); k_whole; intro h9k tk9k F9k N9k; (try k_sweep)))
  k_with "call ref" => (k_here; (try dsimp only [List.nil_append, List.cons_append, List.append_nil]); (with_reducible show wpAny _ _ (call (Value.ref 823) [_, Value.str _ _] _) _ _ _); k_dflt (show wpAny _ _ (call (Value.ref 823) [_, Value.str _ _] [(Str.ofString "name", Value.bool false)]) _ _ _); k_dflt (refine' cv_f ?k19q ?k29q ?k39q ?k59q ?kK9q ?kd9q ?ku9q ?kN9q ?kt9q ?kl9q ?_; (case k19q => k_asm); (case k29q => k_asm); (case k39q => k_asm); (case k59q => k_asm); (case kK9q => first | exact rfl | assumption); (case kN9q => k_asm); (case kt9q => assumption); (case kl9q => assumption); (case kd9q => ktr_room); (case ku9q => ktr_units); k_whole; intro h9k tk9k F9k N9k; (try k_sweep)))
  k_with "call ref" => (k_here; (try dsimp only [List.nil_append, List.cons_append, List.append_nil]); (with_reducible show wpAny _ _ (call (Value.ref 801) [Value.str _ _, Value.str _ _]) _ _ _); k_dflt (refine' fp_c ?k19q ?k29q ?k39q ?k59q ?kK9q ?kd9q ?ku9q ?kN9q ?k09q ?kp9q ?kv9q ?k929q ?k349q ?_; (case k19q => k_asm); (case k29q => k_asm); (case k39q => k_asm); (case k59q => k_asm); (case kK9q => first | exact rfl | assumption); (case kN9q => k_asm); (case k09q => assumption); (case kp9q => assumption); (case kv9q => assumption); (case k929q => assumption); (case k349q => assumption); (case kd9q => ktr_room); (case ku9q => ktr_units); k_whole; intro h9k tk9k t9k F9k N9k; (try k_sweep)))
  k_with "exec For Tuple Call cons nil" => (k_here; (rename Fr _ _ _ _ => lF9k); (rename News _ _ _ _ => lN9k); with_unfolding_all ((refine' For_turns lF9k ?_); k_whole; (refine MethodCall_ ?_); (refine ld lF9k (by rfl) ?_); (refine getMethod_tab (knd := PySem.strKind _ _) (enc := PyData.str) PySem.F.slot_dict_items PySem.F.type_dict_items (by k_tabat) ?_); (refine callWith_method0 ?_); (refine call_items_tab (knd := PySem.strKind _ _) (enc := PyData.str) (by k_tabat) lF9k lN9k ?_); intro h9k o9k hv9k F9k N9k; (replace N9k := kti_tail N9k); (refine kti_items (knd := PySem.strKind _ _) (enc := PyData.str) (xs := [Itm.pairF (fun t => Value.str _ t) _]) (by rfl) F9k N9k hv9k (by k_tabat) (by k_mem) (fun _ _ h => Value.isStrOf_shape h) (by rfl) ?_)); clear lF9k lN9k; intro i9k l19k; (try k_lt l19k))
  k_with "UnrEndW" => (k_here; k_dflt (refine' unr_end ?F9q ?N9q ?l9q ⟨⟨?s9q, trivial⟩, ?_⟩; (case F9q => k_asm); (case N9q => k_asm); (case l9q => assumption); (case s9q => k_mem)); refine ItemsRest.zero ?_; intro h9k tk9k F9k N9k; (try k_sweep))
  k_with "call builtin:str.join" => (k_here; (try dsimp only [List.nil_append, List.cons_append, List.append_nil]); (with_reducible show wpAny _ _ (call (Value.builtin "str.join") [Value.str _ _, Value.ref _]) _ _ _); k_dflt (refine' join1K ?N9q ?m9q ?s9q ?y9q ?_; (case N9q => k_asm); (case m9q => k_mem); (case s9q => decide); (case y9q => assumption); k_whole; intro t9k k9k))
  k_with "execs cons" => ((with_reducible refine wpAny_execs_cons ?_); (try dsimp only); (try k_fold))
  k_with "own ne" => (refine neN ?_; (try dsimp only); first | with_reducible assumption | (refine Ne.symm ?_; with_reducible assumption) | (refine Nat.ne_of_lt ?_; first | with_reducible assumption | with_reducible exact And.left (by with_reducible assumption) | with_reducible exact And.left (And.right (by with_reducible assumption)) | with_reducible exact And.left (And.right (And.right (by with_reducible assumption))) | with_reducible exact And.left (And.right (And.right (And.right (by with_reducible assumption)))) | with_reducible exact And.left (And.right (And.right (And.right (And.right (by with_reducible assumption))))) | with_reducible exact And.left (And.right (And.right (And.right (And.right (And.right (by with_reducible assumption)))))) | with_reducible exact And.left (And.right (And.right (And.right (And.right (And.right (And.right (by with_reducible assumption))))))) | with_reducible exact And.left (And.right (And.right (And.right (And.right (And.right (And.right (And.right (by with_reducible assumption)))))))) | with_reducible exact And.left (And.right (And.right (And.right (And.right (And.right (And.right (And.right (And.right (by with_reducible assumption))))))))) | with_reducible exact And.right (by with_reducible assumption) | with_reducible exact And.right (And.right (by with_reducible assumption)) | with_reducible exact And.right (And.right (And.right (by with_reducible assumption))) | with_reducible exact And.right (And.right (And.right (And.right (by with_reducible assumption)))) | with_reducible exact And.right (And.right (And.right (And.right (And.right (by with_reducible assumption))))) | with_reducible exact And.right (And.right (And.right (And.right (And.right (And.right (by with_reducible assumption)))))) | with_reducible exact And.right (And.right (And.right (And.right (And.right (And.right (And.right (by with_reducible assumption))))))) | with_reducible exact And.right (And.right (And.right (And.right (And.right (And.right (And.right (And.right (by with_reducible assumption))))))))) | (refine Nat.ne_of_gt ?_; first | with_reducible assumption | with_reducible exact And.left (by with_reducible assumption) | with_reducible exact And.left (And.right (by with_reducible assumption)) | with_reducible exact And.left (And.right (And.right (by with_reducible assumption))) | with_reducible exact And.left (And.right (And.right (And.right (by with_reducible assumption)))) | with_reducible exact And.left (And.right (And.right (And.right (And.right (by with_reducible assumption))))) | with_reducible exact And.left (And.right (And.right (And.right (And.right (And.right (by with_reducible assumption)))))) | with_reducible exact And.left (And.right (And.right (And.right (And.right (And.right (And.right (by with_reducible assumption))))))) | with_reducible exact And.left (And.right (And.right (And.right (And.right (And.right (And.right (And.right (by with_reducible assumption)))))))) | with_reducible exact And.left (And.right (And.right (And.right (And.right (And.right (And.right (And.right (And.right (by with_reducible assumption))))))))) | with_reducible exact And.right (by with_reducible assumption) | with_reducible exact And.right (And.right (by with_reducible assumption)) | with_reducible exact And.right (And.right (And.right (by with_reducible assumption))) | with_reducible exact And.right (And.right (And.right (And.right (by with_reducible assumption)))) | with_reducible exact And.right (And.right (And.right (And.right (And.right (by with_reducible assumption))))) | with_reducible exact And.right (And.right (And.right (And.right (And.right (And.right (by with_reducible assumption)))))) | with_reducible exact And.right (And.right (And.right (And.right (And.right (And.right (And.right (by with_reducible assumption))))))) | with_reducible exact And.right (And.right (And.right (And.right (And.right (And.right (And.right (And.right (by with_reducible assumption))))))))))
  trivial
section
variable {w : World} {mean : ExcName → Option Value} {mg mb : Str → Option Value} {dp un : Nat} {gd : Option (List Code)} {cn : Str} {cs : Scope} {a : Addr} {ccd : Value} {cl : List (Str × Addr)} {outer : List Env} {A₀ : Around} {base h₀ : Heap} {L : Addr} {m : Str → Option Value} {s : Shared} {Q E : Value → Shared → Prop} {rest : List (Addr × Obj)}
theorem ah_k {tb td hl : Addr} {kh tn tr : Tok} {nm row : Str} {c : Nat} {items : List Value} {nn : Nat} (B : Below A₀ base outer h₀) (F : Fr h₀ L s.heap m) (X : (hd.heap_1 w.params).In h₀) (T : Top q (looseW q loose) mean mg mb h₀) (hk : cs.kind = .function) (hdp : dp + 8 < recursionLimit) (hun : un + 80 < cLine) (h0 : ((row.length : Int) > 0)) (hr : row.length ≤ 1000) (h92 : 92 ∉ row.cps.toList) (h34 : 34 ∉ row.cps.toList) (t1 : txtOk nm) (t2 : txtOk row) (t3 : txtOk ⟨#[c]⟩) (hn : nm.length ≤ 1000000) (hr2 : row.length ≤ 1000000) (hp : (⟨#[c]⟩ : Str).length ≤ 1000) (hp2 : (⟨#[c]⟩ : Str).length ≤ 1000000) (h95 : 95 ∉ (⟨#[c]⟩ : Str).cps.toList) (e0 : @Ne Nat tb td) (e1 : @Ne Nat tb hl) (e2 : @Ne Nat td hl) (r1 : ∀ p ∈ rest, p.1 ≠ hl) (hit : items.length < 1000)
    (N : News h₀ L s.heap ((tb, instObj 922 td) :: (td, dictOf [⟨PyData.keyHash w.params (Str.ofString "_headers"), .str (Str.ofString "_headers") kh, .ref hl⟩] 1) :: (hl, listOf items.toArray nn) :: rest))
    (hret : ∀ tA t' nn' h' tk', (tb < tA ∧ td < tA ∧ hl < tA ∧ AllLt tA rest) → Fr h₀ L h' m → News h₀ L h' ((tb, instObj 922 td) :: (td, dictOf [⟨PyData.keyHash w.params (Str.ofString "_headers"), .str (Str.ofString "_headers") kh, .ref hl⟩] 1) :: (hl, listOf (items ++ [Value.ref tA]).toArray nn') :: (tA, tupO [.str nm tn, .str (Str.empty ++ ⟨#[c]⟩ ++ Str.ofString "=\"" ++ row ++ Str.ofString "\"") t']) :: rest) → Q .none { s with heap := h', toks := tk' }) :
    codeAny (model PySem.Challenge.pw_om0186_01 w) (ktrTop dp un gd cn cs L a ccd cl outer) (.call (.ref 919) ⟨[.ref tb, .str nm tn, .none], [(⟨#[c]⟩, .str row tr)]⟩) (fun r s' => match r with | .ok (.ret v) => Q v s' | .ok _ => False | .error e => E e s') s := by
  w_on
  have hv : (Str.empty ++ ⟨#[c]⟩ ++ Str.ofString "=\"" ++ row ++ Str.ofString "\"").length ≤ 1000000 := by
    simp only [Str.length_append]
    rw [show (Str.ofString "=\"").length = 2 by decide +kernel, show (Str.ofString "\"").length = 1 by decide +kernel, show Str.empty.length = 0 by decide +kernel]
    omega
  k_dflt (refine' kp_more ?k1 ?k2 ?k3 N ?k5 ?kA ?kF ?kK ?k6 ?k7 ?k8 ?kX ?kM ?kN ?kD ?kR ?kP ?kT ?kB ?_ ?c2 ?c3 ?c4 ?c5; (case kA => exact rfl); (case kF => exact rfl); (case kK => assumption); (case k1 => k_asm); (case k2 => k_asm); (case k3 => k_asm); (case k5 => k_asm); (case k6 => k_is); (case k7 => k_is); (case k8 => ktr_room); (case kX => kp_lit); (case kM => exact rfl); (case kN => exact rfl); (case kD => kp_flats); (case kR => exact rfl); (case kP => exact rfl); (case kT => exact fun _ => rfl); (case kB => exact fun _ => locs rfl); (case c5 => decide); (case c2 => exact rfl); (case c3 => exact rfl); (case c4 => exact rfl); k_whole; intro D' o' g' L' h' tk' l1 lo' hs' fs' FG' F' N' B' X' T'; (try k_lt l1); (try dsimp only); (try k_fold))
  (try (show wpAny _ _ _ _ _ _; k_fold))
  k_steps
  refine' hret _ _ _ _ _ ?c ?a (news_ah ?b)
  case a => with_reducible assumption
  case b => with_reducible assumption
  case c => exact And.right (And.right (by with_reducible assumption))
end
end
-- G1
section

/-- the items of the one list stand in Y to the items of the other -/
inductive Rel2 {α : Type} (Y : α → Value → Prop) : List α → List Value → Prop where
  | nil : Rel2 Y [] []
  | cons {i : α} {v : Value} {l : List α} {vs : List Value} : Y i v → Rel2 Y l vs → Rel2 Y (i :: l) (v :: vs)
theorem Rel2.snoc {α : Type} {Y : α → Value → Prop} {i : α} {v : Value} (hv : Y i v) : ∀ {l : List α} {vs : List Value}, Rel2 Y l vs → Rel2 Y (l ++ [i]) (vs ++ [v])
  | _, _, .nil => .cons hv .nil
  | _, _, .cons h r => .cons h (r.snoc hv)
theorem Rel2.length {α : Type} {Y : α → Value → Prop} : ∀ {l : List α} {vs : List Value}, Rel2 Y l vs → vs.length = l.length
  | _, _, .nil => rfl
  | _, _, .cons _ r => by simp [r.length]
theorem Rel2.get {α : Type} {Y : α → Value → Prop} : ∀ {l : List α} {vs : List Value} {k : Nat} {v : Value}, Rel2 Y l vs → vs[k]? = some v → ∃ i, l[k]? = some i ∧ Y i v
  | _, _, 0, _, .cons h _, e => ⟨_, rfl, by cases e; exact h⟩
  | _, _, k + 1, _, .cons _ r, e => r.get (k := k) e
theorem Rel2.at {α : Type} {Y : α → Value → Prop} : ∀ {l : List α} {vs : List Value} {k : Nat} {i : α}, Rel2 Y l vs → l[k]? = some i → ∃ v, vs[k]? = some v ∧ Y i v
  | _, _, 0, _, .cons h _, e => ⟨_, rfl, by cases e; exact h⟩
  | _, _, k + 1, _, .cons _ r, e => r.at (k := k) e
theorem Rel2.mono {α : Type} {Y Z : α → Value → Prop} (hs : ∀ i v, Y i v → Z i v) : ∀ {l : List α} {vs : List Value}, Rel2 Y l vs → Rel2 Z l vs
  | _, _, .nil => .nil
  | _, _, .cons h r => .cons (hs _ _ h) (r.mono hs)
section
variable {prog : Program} {w : World} {A : Around} {h₀ : Heap} {L : Addr} {m : Str → Option Value} {env : Env} {ct elt : PySem.Expr} {x : Str} {scope : Scope} {cl : List (Str × Addr)} {s : Shared} {S : List (Addr × Obj) → Prop} {P : Nat → Value → Prop} {Fin : List Value → List (Addr × Obj) → Prop} {news : List (Addr × Obj)}
theorem cmpT {n : Nat} (f : Nat → Bool) (Y : Nat → Value → Prop)
    (turn : ∀ i v I oI C oC D m₂ ys h tk (E' : Value → Shared → Prop), i < n → P i v → LCg.NsObj oC m₂ → m₂ x = some v → Fr h₀ L h m → News h₀ L h ((I, oI) :: (C, oC) :: (D, LCg.lst ys) :: news) → LCg.Off3 I C D news → ((@Ne Nat I C) ∧ (@Ne Nat I D) ∧ (@Ne Nat C D)) →
      wpAny (model prog w) A (isTrue ct (compEnvC scope cl C env) (eval ct (compEnvC scope cl C env))) (fun ok s' => if ok = true then
        wpAny (model prog w) A (eval elt (compEnvC scope cl C env)) (LCg.CompEnd h₀ L m { s with heap := h, toks := tk } I oI C oC D (LCg.lst ys) S (fun y news' => news' = news ∧ f i = true ∧ Y i y)) E' s'
        else LCg.CompEnd h₀ L m { s with heap := h, toks := tk } I oI C oC D (LCg.lst ys) S (fun _ news' => news' = news ∧ f i = false) Value.none s') E' { s with heap := h, toks := tk })
    (fin : ∀ ys, Rel2 Y ((List.range n).filter f) ys → Fin ys news) : LCt.CompRestT prog w A h₀ L m env ct elt x scope cl s S P Fin n 0 [] news := by
  have key : ∀ (j i : Nat) (ys : List Value), i + j = n → Rel2 Y ((List.range i).filter f) ys → LCt.CompRestT prog w A h₀ L m env ct elt x scope cl s S P Fin j i ys news := by
    intro j
    induction j with
    | zero =>
      intro i ys hi hy
      have e : i = n := by omega
      subst e
      exact LCt.CompRestT.zero (fin ys hy)
    | succ j ih =>
      intro i ys hi hy
      refine LCt.CompRestT.succ ?_
      intro v I oI C oC D m₂ h tk E' hv hC hx F N off ne
      refine wpAny_mono (turn i v I oI C oC D m₂ ys h tk E' (by omega) hv hC hx F N off ne) (fun ok s₂ hq => ?_) fun _ _ e => e
      split at hq
      · next hok =>
        rw [if_pos hok]
        refine wpAny_mono hq (fun y s₃ hz => ?_) fun _ _ e => e
        obtain ⟨h', tk', nw, e, F', N', off', hS, hn, hf, hY⟩ := hz
        rw [hn] at N' off' hS
        refine ⟨h', tk', news, e, F', N', off', hS, ih (i + 1) _ (by omega) ?_⟩
        rw [List.range_succ, List.filter_append, List.filter_cons_of_pos hf, List.filter_nil]
        exact hy.snoc hY
      · next hok =>
        rw [if_neg hok]
        obtain ⟨h', tk', nw, e, F', N', off', hS, hn, hf⟩ := hq
        rw [hn] at N' off' hS
        refine ⟨h', tk', news, e, F', N', off', hS, ih (i + 1) _ (by omega) ?_⟩
        rw [List.range_succ, List.filter_append, List.filter_cons_of_neg (by rw [hf]; exact Bool.false_ne_true), List.filter_nil, List.append_nil]
        exact hy
  exact key n 0 [] (by omega) .nil
theorem cmpU {n : Nat} (Y : Nat → Value → Prop)
    (turn : ∀ i v I oI C oC D m₂ ys h tk (E' : Value → Shared → Prop), i < n → P i v → LCg.NsObj oC m₂ → m₂ x = some v → Fr h₀ L h m → News h₀ L h ((I, oI) :: (C, oC) :: (D, LCg.lst ys) :: news) → LCg.Off3 I C D news → ((@Ne Nat I C) ∧ (@Ne Nat I D) ∧ (@Ne Nat C D)) →
      wpAny (model prog w) A (eval elt (compEnvC scope cl C env)) (LCg.CompEnd h₀ L m { s with heap := h, toks := tk } I oI C oC D (LCg.lst ys) S (fun y news' => news' = news ∧ Y i y)) E' { s with heap := h, toks := tk })
    (fin : ∀ ys, Rel2 Y (List.range n) ys → Fin ys news) : LCg.CompRest prog w A h₀ L m env elt x scope cl s S P Fin n 0 [] news := by
  have key : ∀ (j i : Nat) (ys : List Value), i + j = n → Rel2 Y (List.range i) ys → LCg.CompRest prog w A h₀ L m env elt x scope cl s S P Fin j i ys news := by
    intro j
    induction j with
    | zero =>
      intro i ys hi hy
      have e : i = n := by omega
      subst e
      exact LCg.CompRest.zero (fin ys hy)
    | succ j ih =>
      intro i ys hi hy
      refine LCg.CompRest.succ ?_
      intro v I oI C oC D m₂ h tk E' hv hC hx F N off ne
      refine wpAny_mono (turn i v I oI C oC D m₂ ys h tk E' (by omega) hv hC hx F N off ne) (fun y s₂ hz => ?_) fun _ _ e => e
      obtain ⟨h', tk', nw, e, F', N', off', hS, hn, hY⟩ := hz
      rw [hn] at N' off' hS
      refine ⟨h', tk', news, e, F', N', off', hS, ih (i + 1) _ (by omega) ?_⟩
      rw [List.range_succ]
      exact hy.snoc hY
  exact key n 0 [] (by omega) .nil
end
end
-- R6
section
theorem lowK {prog : Program} {w : World} {A : Around} {E : Value → Shared → Prop} {s : Shared} {x y : Str} {t : Tok} {Q : Value → Shared → Prop} (e : Txt.lower x = y) (hx : x.length ≤ 1000000) (h : ∀ t' k, Q (.str y t') { s with toks := k }) : wpAny (model prog w) A (call (.builtin "str.lower") [.str x t]) Q E s := by
  subst e
  exact SCL.lower (by omega) fun _ => h _ _
theorem mem_of {α : Type} {a : α} {l : List α} (h : a ∈ l) : List.Mem a l := h
theorem tupK {prog : Program} {w : World} {A : Around} {E : Value → Shared → Prop} {s : Shared} {h₀ : Heap} {L a : Addr} {news : List (Addr × Obj)} {value slice : PySem.Expr} {vs : List Value} {k : Int} {t : Tok} {v : Value} {j : Nat} {Q : Value → Shared → Prop} (N : News h₀ L s.heap news) (hm : (a, tupO vs) ∈ news) (h0 : -(2 ^ 63) ≤ k) (h1 : k < 2 ^ 63) (hj : seqIndex? k vs.length = some j) (hv : vs[j]? = some v) (hs : subscripted slice false (.ref a) (.int k t) = operate [.ref a, .int k t] (getItem (.ref a) (.int k t))) (h : Q v s) : wpAny (model prog w) A (subscriptTail value slice (.ref a) (.int k t)) Q E s :=
  item_tupleT (News.isTup N hm) h0 h1 hj hv h hs
theorem range_get {α : Type} (tab : List α) : (List.range tab.length).filterMap (fun i => tab[i]?) = tab := by
  have e : (List.range tab.length).map (fun i => tab[i]?) = tab.map some := by
    apply List.ext_getElem?
    intro i
    simp only [List.getElem?_map]
    by_cases h : i < tab.length
    · rw [List.getElem?_range h, List.getElem?_eq_getElem h]; simp [h]
    · rw [List.getElem?_eq_none (by rw [List.length_range]; omega), List.getElem?_eq_none (by omega)]; rfl
  have e2 : (List.range tab.length).filterMap (fun i => tab[i]?) = ((List.range tab.length).map (fun i => tab[i]?)).filterMap id := by rw [List.filterMap_map]; rfl
  rw [e2, e, List.filterMap_map]
  exact List.filterMap_some
theorem rel_some {tab : List (Str × Str)} : ∀ {l : List Nat} {ys : List Value}, Rel2 (fun i v => ∃ p t, tab[i]? = some p ∧ v = .str p.2 t) l ys → StrsAre ys (l.filterMap fun i => (tab[i]?).map (·.2))
  | _, _, .nil => .nil
  | _, _, .cons ⟨p, t, e, hv⟩ r => by
    subst hv
    rw [List.filterMap_cons, e]
    exact .cons _ _ (rel_some r)
theorem rel_strs {tab : List (Str × Str)} {g : Str × Str → Bool} {n : Nat} {ys : List Value} (h : Rel2 (fun i v => ∃ p t, tab[i]? = some p ∧ v = .str p.2 t) ((List.range n).filter (fun i => match tab[i]? with | some p => g p | none => false)) ys) (hn : n = tab.length) : StrsAre ys ((tab.filter g).map (·.2)) := by
  subst hn
  have := rel_some h
  have e : ((List.range tab.length).filter (fun i => match tab[i]? with | some p => g p | none => false)).filterMap (fun i => (tab[i]?).map (·.2)) = (tab.filter g).map (·.2) := by
    rw [List.filterMap_filter]
    have e1 : (fun i => if (match tab[i]? with | some p => g p | none => false) = true then (tab[i]?).map (fun q : Str × Str => q.2) else none) = fun (i : Nat) => (tab[i]?).bind fun p => if g p = true then some p.2 else none := by
      funext i
      cases tab[i]? with
      | none => rfl
      | some p => cases hg : g p <;> simp [hg]
    rw [e1, ← List.filterMap_filterMap, range_get, ← List.filterMap_eq_map, List.filterMap_filter]
    rfl
  rw [e] at this
  exact this
theorem news_ga {h₀ h : Heap} {L : Addr} {d c : Addr × Obj} {l : List (Addr × Obj)} (N : News h₀ L h (d :: c :: l)) : News h₀ L h (d :: l) := news_sub N (by intro p hp; rcases List.mem_cons.mp hp with h | h; exact h ▸ .head _; exact .tail _ (.tail _ h))
theorem ne_rest2 {d x : Addr} {l : List (Addr × Obj)} (h : AllLt d l) (e : @LT.lt Nat _ d x) : ∀ p ∈ l, p.1 ≠ x := fun p hp => Nat.ne_of_lt (Nat.lt_trans (kst_ltOf h p hp) e)
theorem kw20 : True := by
  k_with_none
  k_with "own all" => first | assumption | (refine ne_rest ?_; first | assumption | exact And.right ((by assumption)) | exact And.right (And.right ((by assumption))) | exact And.right (And.right (And.right ((by assumption)))) | exact And.right (And.right (And.right (And.right ((by assumption))))) | exact And.right (And.right (And.right (And.right (And.right ((by assumption)))))) | exact And.right (And.right (And.right (And.right (And.right (And.right ((by assumption))))))) | exact And.right (And.right (And.right (And.right (And.right (And.right (And.right ((by assumption)))))))) | exact And.right (And.right (And.right (And.right (And.right (And.right (And.right (And.right ((by assumption))))))))) | exact And.right (And.right (And.right (And.right (And.right (And.right (And.right (And.right (And.right ((by assumption)))))))))) | exact And.right (And.right (And.right (And.right (And.right (And.right (And.right (And.right (And.right (And.right ((by assumption))))))))))) | exact And.right (And.right (And.right (And.right (And.right (And.right (And.right (And.right (And.right (And.right (And.right ((by assumption)))))))))))) | exact And.right (And.right (And.right (And.right (And.right (And.right (And.right (And.right (And.right (And.right (And.right (And.right ((by assumption))))))))))))) | exact And.right (And.right (And.right (And.right (And.right (And.right (And.right (And.right (And.right (And.right (And.right (And.right (And.right ((by assumption))))))))))))))) | (first | (refine ne_rest2 ((by assumption)) ?_; (try dsimp only); omega) | (refine ne_rest2 (And.right ((by assumption))) ?_; (try dsimp only); omega) | (refine ne_rest2 (And.right (And.right ((by assumption)))) ?_; (try dsimp only); omega) | (refine ne_rest2 (And.right (And.right (And.right ((by assumption))))) ?_; (try dsimp only); omega) | (refine ne_rest2 (And.right (And.right (And.right (And.right ((by assumption)))))) ?_; (try dsimp only); omega) | (refine ne_rest2 (And.right (And.right (And.right (And.right (And.right ((by assumption))))))) ?_; (try dsimp only); omega) | (refine ne_rest2 (And.right (And.right (And.right (And.right (And.right (And.right ((by assumption)))))))) ?_; (try dsimp only); omega) | (refine ne_rest2 (And.right (And.right (And.right (And.right (And.right (And.right (And.right ((by assumption))))))))) ?_; (try dsimp only); omega) | (refine ne_rest2 (And.right (And.right (And.right (And.right (And.right (And.right (And.right (And.right ((by assumption)))))))))) ?_; (try dsimp only); omega) | (refine ne_rest2 (And.right (And.right (And.right (And.right (And.right (And.right (And.right (And.right (And.right ((by assumption))))))))))) ?_; (try dsimp only); omega) | (refine ne_rest2 (And.right (And.right (And.right (And.right (And.right (And.right (And.right (And.right (And.right (And.right ((by assumption)))))))))))) ?_; (try dsimp only); omega) | (refine ne_rest2 (And.right (And.right (And.right (And.right (And.right (And.right (And.right (And.right (And.right (And.right (And.right ((by assumption))))))))))))) ?_; (try dsimp only); omega) | (refine ne_rest2 (And.right (And.right (And.right (And.right (And.right (And.right (And.right (And.right (And.right (And.right (And.right (And.right ((by assumption)))))))))))))) ?_; (try dsimp only); omega) | (refine ne_rest2 (And.right (And.right (And.right (And.right (And.right (And.right (And.right (And.right (And.right (And.right (And.right (And.right (And.right ((by assumption))))))))))))))) ?_; (try dsimp only); omega))
  k_with "exec If" => refine wpAny_If ?_
  k_with "truthy str" => refine P.truthy_str (by omega) ?_
  k_with "ite" => first | refine ite_pos (by with_reducible assumption) ?_ | refine ite_isFalse (by with_reducible assumption) ?_ | refine ite_neg (by with_reducible assumption) ?_
  k_with "call ref" => (k_here; (try dsimp only [List.nil_append, List.cons_append, List.append_nil]); (with_reducible show wpAny _ _ (call (Value.ref 823) [_, Value.str _ _] _) _ _ _); k_dflt (show wpAny _ _ (call (Value.ref 823) [_, Value.str _ _] [(Str.ofString "name", Value.bool true)]) _ _ _); k_dflt (refine' cv_t ?k19q ?k29q ?k39q ?k59q ?kK9q ?kd9q ?ku9q ?kN9q ?kt9q ?kl9q ?_; (case k19q => k_asm); (case k29q => k_asm); (case k39q => k_asm); (case k59q => k_asm); (case kK9q => first | exact rfl | assumption); (case kN9q => k_asm); (case kt9q => assumption); (case kl9q => assumption); (case kd9q => ktr_room); (case ku9q => ktr_units); k_whole; intro h9k tk9k F9k N9k; (try k_sweep)))
  k_with "call ref" => (k_here; (try dsimp only [List.nil_append, List.cons_append, List.append_nil]); (with_reducible show wpAny _ _ (call (Value.ref 823) [_, Value.str _ _] _) _ _ _); k_dflt (show wpAny _ _ (call (Value.ref 823) [_, Value.str _ _] [(Str.ofString "name", Value.bool false)]) _ _ _); k_dflt (refine' cv_f ?k19q ?k29q ?k39q ?k59q ?kK9q ?kd9q ?ku9q ?kN9q ?kt9q ?kl9q ?_; (case k19q => k_asm); (case k29q => k_asm); (case k39q => k_asm); (case k59q => k_asm); (case kK9q => first | exact rfl | assumption); (case kN9q => k_asm); (case kt9q => assumption); (case kl9q => assumption); (case kd9q => ktr_room); (case ku9q => ktr_units); k_whole; intro h9k tk9k F9k N9k; (try k_sweep)))
  k_with "call builtin:str.lower" => (k_here; (try dsimp only [List.nil_append, List.cons_append, List.append_nil]); (with_reducible show wpAny _ _ (call (Value.builtin "str.lower") [Value.str _ _]) _ _ _); k_dflt (refine' lowK ?e9q ?l9q ?_; (case e9q => assumption); (case l9q => assumption); k_whole; intro t9k k9k))
  k_with "eval ListComp" => (k_here; k_dflt (refine LCt.ListComp_T (F₀ := by k_asm) (by with_unfolding_all rfl) (by decide) (by rfl) (by decide) (by rfl) ?_))
  k_with "CompSrcT" => refine Stop.mk ?_
  k_with "own mem" => (refine mem_of ?_; with_reducible assumption)
  k_with "subscriptTail Name Constant ref int" => (k_here; k_dflt (refine' tupK ?N9q ?m9q ?a9q ?b9q ?j9q ?v9q ?s9q ?_; (case N9q => k_asm); (case m9q => k_mem); (case a9q => decide); (case b9q => decide); (case j9q => exact rfl); (case v9q => exact rfl); (case s9q => with_unfolding_all rfl); k_whole))
  k_with "execs cons" => ((with_reducible refine wpAny_execs_cons ?_); (try dsimp only); (try k_fold))
  k_with "own ne" => (refine neN ?_; (try dsimp only); first | with_reducible assumption | (refine Ne.symm ?_; with_reducible assumption) | (refine Nat.ne_of_lt ?_; first | with_reducible assumption | with_reducible exact And.left (by with_reducible assumption) | with_reducible exact And.left (And.right (by with_reducible assumption)) | with_reducible exact And.left (And.right (And.right (by with_reducible assumption))) | with_reducible exact And.left (And.right (And.right (And.right (by with_reducible assumption)))) | with_reducible exact And.left (And.right (And.right (And.right (And.right (by with_reducible assumption))))) | with_reducible exact And.left (And.right (And.right (And.right (And.right (And.right (by with_reducible assumption)))))) | with_reducible exact And.left (And.right (And.right (And.right (And.right (And.right (And.right (by with_reducible assumption))))))) | with_reducible exact And.left (And.right (And.right (And.right (And.right (And.right (And.right (And.right (by with_reducible assumption)))))))) | with_reducible exact And.left (And.right (And.right (And.right (And.right (And.right (And.right (And.right (And.right (by with_reducible assumption))))))))) | with_reducible exact And.right (by with_reducible assumption) | with_reducible exact And.right (And.right (by with_reducible assumption)) | with_reducible exact And.right (And.right (And.right (by with_reducible assumption))) | with_reducible exact And.right (And.right (And.right (And.right (by with_reducible assumption)))) | with_reducible exact And.right (And.right (And.right (And.right (And.right (by with_reducible assumption))))) | with_reducible exact And.right (And.right (And.right (And.right (And.right (And.right (by with_reducible assumption)))))) | with_reducible exact And.right (And.right (And.right (And.right (And.right (And.right (And.right (by with_reducible assumption))))))) | with_reducible exact And.right (And.right (And.right (And.right (And.right (And.right (And.right (And.right (by with_reducible assumption))))))))) | (refine Nat.ne_of_gt ?_; first | with_reducible assumption | with_reducible exact And.left (by with_reducible assumption) | with_reducible exact And.left (And.right (by with_reducible assumption)) | with_reducible exact And.left (And.right (And.right (by with_reducible assumption))) | with_reducible exact And.left (And.right (And.right (And.right (by with_reducible assumption)))) | with_reducible exact And.left (And.right (And.right (And.right (And.right (by with_reducible assumption))))) | with_reducible exact And.left (And.right (And.right (And.right (And.right (And.right (by with_reducible assumption)))))) | with_reducible exact And.left (And.right (And.right (And.right (And.right (And.right (And.right (by with_reducible assumption))))))) | with_reducible exact And.left (And.right (And.right (And.right (And.right (And.right (And.right (And.right (by with_reducible assumption)))))))) | with_reducible exact And.left (And.right (And.right (And.right (And.right (And.right (And.right (And.right (And.right (by with_reducible assumption))))))))) | with_reducible exact And.right (by with_reducible assumption) | with_reducible exact And.right (And.right (by with_reducible assumption)) | with_reducible exact And.right (And.right (And.right (by with_reducible assumption))) | with_reducible exact And.right (And.right (And.right (And.right (by with_reducible assumption)))) | with_reducible exact And.right (And.right (And.right (And.right (And.right (by with_reducible assumption))))) | with_reducible exact And.right (And.right (And.right (And.right (And.right (And.right (by with_reducible assumption)))))) | with_reducible exact And.right (And.right (And.right (And.right (And.right (And.right (And.right (by with_reducible assumption))))))) | with_reducible exact And.right (And.right (And.right (And.right (And.right (And.right (And.right (And.right (by with_reducible assumption))))))))))
  trivial
section
variable {w : World} {mean : ExcName → Option Value} {mg mb : Str → Option Value} {dp un : Nat} {gd : Option (List Code)} {cn : Str} {cs : Scope} {a : Addr} {ccd : Value} {cl : List (Str × Addr)} {outer : List Env} {A₀ : Around} {base h₀ : Heap} {L : Addr} {m : Str → Option Value} {s : Shared} {Q E : Value → Shared → Prop} {rest : List (Addr × Obj)}
theorem ga_c {tb td hl : Addr} {kh tn : Tok} {nm nm' : Str} {items : List Value} {nn : Nat} {tab : List (Str × Str)} (B : Below A₀ base outer h₀) (F : Fr h₀ L s.heap m) (X : (hd.heap_1 w.params).In h₀) (T : Top q (looseW q loose) mean mg mb h₀) (hk : cs.kind = .function) (hdp : dp + 8 < recursionLimit) (hun : un + 80 < cLine) (hn : nm.length ≤ 1000000) (hn' : nm'.length ≤ 1000000) (hlow : Txt.lower nm = nm') (t1 : txtOk nm') (hit : items.length < 1000) (R : Rel2 (fun (p : Str × Str) v => ∃ a t u, v = .ref a ∧ (a, tupO [.str p.1 t, .str p.2 u]) ∈ rest) tab items) (hl1 : ∀ p ∈ tab, p.1.length ≤ 1000000)
    (N : News h₀ L s.heap ((tb, instObj 922 td) :: (td, dictOf [⟨PyData.keyHash w.params (Str.ofString "_headers"), .str (Str.ofString "_headers") kh, .ref hl⟩] 1) :: (hl, listOf items.toArray nn) :: rest))
    (hret : ∀ D ys h' tk', StrsAre ys ((tab.filter fun p => Txt.lower p.1 == nm').map (·.2)) → Fr h₀ L h' m → News h₀ L h' ((D, LCg.lst ys) :: (tb, instObj 922 td) :: (td, dictOf [⟨PyData.keyHash w.params (Str.ofString "_headers"), .str (Str.ofString "_headers") kh, .ref hl⟩] 1) :: (hl, listOf items.toArray nn) :: rest) → Q (.ref D) { s with heap := h', toks := tk' }) :
    wpAny (model PySem.Challenge.pw_om0186_01 w) (ktrTop dp un gd cn cs L a ccd cl outer) (call (.ref 861) [.ref tb, .str nm tn]) Q E s := by
  w_on
  refine wpAny_call ?_
  k_dflt (refine' code_defC ?k1 ?k2 ?k3 N ?k5 ?kA ?kF ?kK ?k6 ?k7 ?k8 ?k9 ?kB ?kD ?_ ?c2 ?c3 ?c4; (case kA => exact rfl); (case kF => exact rfl); (case kK => assumption); (case k1 => k_asm); (case k2 => k_asm); (case k3 => k_asm); (case k5 => k_asm); (case k6 => k_is); (case k7 => k_is); (case k8 => ktr_room); (case k9 => first | exact BindsTo.of_eq rfl | exact binds_K (by k_in) rfl (by k_is) rfl rfl rfl); (case kB => exact rfl); (case kD => decide +kernel); (case c2 => exact rfl); (case c3 => exact rfl); (case c4 => exact rfl); k_whole; intro g' L' h' tk' cells' FG' F' N' Y' B' X' T' l1; (try k_lt l1); k_cells Y'; (try simp only [List.cons_append, List.nil_append] at N'); (try dsimp only); (try k_fold))
  (try (show wpAny _ _ _ _ _ _; k_fold))
  k_steps
  unfold Stop
  k_dflt (refine' LCt.CompSrcT.ledger rfl ?F ?N ?m ?z ?_; (case F => k_asm); (case N => k_asm); (case m => k_mem); (case z => (rw [List.size_toArray, sizeLine_eq]; omega)))
  intro g'
  rw [List.size_toArray]
  refine cmpT (fun i => match tab[i]? with | some p => Txt.lower p.1 == nm' | none => false) (fun i v => ∃ p t, tab[i]? = some p ∧ v = .str p.2 t) ?turn ?fin
  case turn =>
    intro i v I oI C oC D m₂ ys h tk E' hi hv hC hx F9 N9 off ne
    rw [List.getElem?_toArray] at hv
    obtain ⟨p, hp, a, t, u, rfl, hm⟩ := R.get hv
    have hl9 := hl1 p (List.mem_of_getElem? hp)
    have hlow9 : Txt.lower p.1 = Txt.lower p.1 := rfl
    simp only [hp]
    (try (show wpAny _ _ _ _ _ _; k_fold))
    k_steps
    · exact ⟨_, _, _, rfl, F9, N9, off, .inr ⟨_, (by k_mem), rfl, _, rfl⟩, rfl, (by assumption), p, u, rfl, rfl⟩
    · exact ⟨_, _, _, rfl, F9, N9, off, .inr ⟨_, (by k_mem), rfl, _, rfl⟩, rfl, (by first | assumption | exact Bool.eq_false_iff.mpr (by assumption))⟩
  case fin =>
    intro ys hR D h tk F9 N9 off
    have hS := rel_strs (g := fun p => Txt.lower p.1 == nm') hR R.length
    (try (show wpAny _ _ _ _ _ _; k_fold))
    k_steps
    exact hret D ys _ _ hS (by k_asm) (news_ga (by k_asm))
end
end
-- R7
section
theorem joinK {prog : Program} {w : World} {A : Around} {E : Value → Shared → Prop} {s : Shared} {h₀ : Heap} {L l : Addr} {news : List (Addr × Obj)} {vs : List Value} {n : Nat} {x : Str} {ys : List Str} {t : Tok} {Q : Value → Shared → Prop} (N : News h₀ L s.heap news) (hm : (l, listOf vs.toArray n) ∈ news) (hi : StrsAre vs ys) (hx : x.length ≤ 64) (hy : (ys.map (·.length)).sum + ys.length * 64 ≤ 16777216) (h : ∀ t' k, Q (.str (Txt.join x ys) t') { s with toks := k }) :
    wpAny (model prog w) A (call (.builtin "str.join") [.str x t, .ref l]) Q E s :=
  join_listC (News.isList N hm) (by simpa using hi) hx hy h
theorem rel_app {vals : List Str} {z : Str} : ∀ {l : List Nat} {ys : List Value}, Rel2 (fun i v => ∃ y t, vals[i]? = some y ∧ v = .str (y ++ z) t) l ys → StrsAre ys (l.filterMap fun i => (vals[i]?).map (· ++ z))
  | _, _, .nil => .nil
  | _, _, .cons ⟨p, t, e, hv⟩ r => by
    subst hv
    rw [List.filterMap_cons, e]
    exact .cons _ _ (rel_app r)
theorem rel_app' {vals : List Str} {z : Str} {n : Nat} {ys : List Value} (h : Rel2 (fun i v => ∃ y t, vals[i]? = some y ∧ v = .str (y ++ z) t) (List.range n) ys) (hn : n = vals.length) : StrsAre ys (vals.map (· ++ z)) := by
  subst hn
  have := rel_app h
  have e : (List.range vals.length).filterMap (fun i => (vals[i]?).map (· ++ z)) = vals.map (· ++ z) := by
    have e1 : (fun i : Nat => (vals[i]?).map (· ++ z)) = fun (i : Nat) => (vals[i]?).bind fun y => some (y ++ z) := by
      funext i
      cases vals[i]? <;> rfl
    rw [e1, ← List.filterMap_filterMap, range_get, ← List.filterMap_eq_map]
    rfl
  rw [e] at this
  exact this
theorem strs_at : ∀ {vs : List Value} {ys : List Str} {i : Nat} {v : Value}, StrsAre vs ys → vs[i]? = some v → ∃ y t, ys[i]? = some y ∧ v = .str y t
  | _, _, 0, _, .cons y t _, e => ⟨y, t, rfl, by cases e; rfl⟩
  | _, _, i + 1, _, .cons _ _ r, e => strs_at (i := i) r e
theorem strs_len : ∀ {vs : List Value} {ys : List Str}, StrsAre vs ys → vs.length = ys.length
  | _, _, .nil => rfl
  | _, _, .cons _ _ r => by simp [strs_len r]
theorem sum_le {ys : List Str} {b : Nat} (h : ∀ y ∈ ys, y.length ≤ b) : (ys.map (·.length)).sum ≤ ys.length * b := by
  induction ys with
  | nil => simp
  | cons y ys ih =>
    have h1 := h y (.head _)
    have h2 := ih fun z hz => h z (.tail _ hz)
    simp only [List.map_cons, List.sum_cons, List.length_cons, Nat.add_mul, Nat.one_mul]
    omega
/-- the lines of a text that _law_lines hands on -/
def linesOf (vals : List Str) : Str := Txt.join (Str.ofString "") (vals.map (· ++ Str.ofString "\x0d\n"))
theorem kw21 : True := by
  k_with_none
  k_with "own all" => first | assumption | (refine ne_rest ?_; first | assumption | exact And.right ((by assumption)) | exact And.right (And.right ((by assumption))) | exact And.right (And.right (And.right ((by assumption)))) | exact And.right (And.right (And.right (And.right ((by assumption))))) | exact And.right (And.right (And.right (And.right (And.right ((by assumption)))))) | exact And.right (And.right (And.right (And.right (And.right (And.right ((by assumption))))))) | exact And.right (And.right (And.right (And.right (And.right (And.right (And.right ((by assumption)))))))) | exact And.right (And.right (And.right (And.right (And.right (And.right (And.right (And.right ((by assumption))))))))) | exact And.right (And.right (And.right (And.right (And.right (And.right (And.right (And.right (And.right ((by assumption)))))))))) | exact And.right (And.right (And.right (And.right (And.right (And.right (And.right (And.right (And.right (And.right ((by assumption))))))))))) | exact And.right (And.right (And.right (And.right (And.right (And.right (And.right (And.right (And.right (And.right (And.right ((by assumption)))))))))))) | exact And.right (And.right (And.right (And.right (And.right (And.right (And.right (And.right (And.right (And.right (And.right (And.right ((by assumption))))))))))))) | exact And.right (And.right (And.right (And.right (And.right (And.right (And.right (And.right (And.right (And.right (And.right (And.right (And.right ((by assumption))))))))))))))) | (first | (refine ne_rest2 ((by assumption)) ?_; (try dsimp only); omega) | (refine ne_rest2 (And.right ((by assumption))) ?_; (try dsimp only); omega) | (refine ne_rest2 (And.right (And.right ((by assumption)))) ?_; (try dsimp only); omega) | (refine ne_rest2 (And.right (And.right (And.right ((by assumption))))) ?_; (try dsimp only); omega) | (refine ne_rest2 (And.right (And.right (And.right (And.right ((by assumption)))))) ?_; (try dsimp only); omega) | (refine ne_rest2 (And.right (And.right (And.right (And.right (And.right ((by assumption))))))) ?_; (try dsimp only); omega) | (refine ne_rest2 (And.right (And.right (And.right (And.right (And.right (And.right ((by assumption)))))))) ?_; (try dsimp only); omega) | (refine ne_rest2 (And.right (And.right (And.right (And.right (And.right (And.right (And.right ((by assumption))))))))) ?_; (try dsimp only); omega) | (refine ne_rest2 (And.right (And.right (And.right (And.right (And.right (And.right (And.right (And.right ((by assumption)))))))))) ?_; (try dsimp only); omega) | (refine ne_rest2 (And.right (And.right (And.right (And.right (And.right (And.right (And.right (And.right (And.right ((by assumption))))))))))) ?_; (try dsimp only); omega) | (refine ne_rest2 (And.right (And.right (And.right (And.right (And.right (And.right (And.right (And.right (And.right (And.right ((by assumption)))))))))))) ?_; (try dsimp only); omega) | (refine ne_rest2 (And.right (And.right (And.right (And.right (And.right (And.right (And.right (And.right (And.right (And.right (And.right ((by assumption))))))))))))) ?_; (try dsimp only); omega) | (refine ne_rest2 (And.right (And.right (And.right (And.right (And.right (And.right (And.right (And.right (And.right (And.right (And.right (And.right ((by assumption)))))))))))))) ?_; (try dsimp only); omega) | (refine ne_rest2 (And.right (And.right (And.right (And.right (And.right (And.right (And.right (And.right (And.right (And.right (And.right (And.right (And.right ((by assumption))))))))))))))) ?_; (try dsimp only); omega))
  k_with "exec If" => refine wpAny_If ?_
  k_with "truthy str" => refine P.truthy_str (by omega) ?_
  k_with "ite" => first | refine ite_pos (by with_reducible assumption) ?_ | refine ite_isFalse (by with_reducible assumption) ?_ | refine ite_neg (by with_reducible assumption) ?_
  k_with "eval ListComp" => (k_here; k_dflt (refine LCg.ListComp_U (F₀ := by k_asm) (by with_unfolding_all rfl) (by decide) (by rfl) (by decide) (by rfl) ?_))
  k_with "CompSrc" => refine Stop.mk ?_
  k_with "call ref" => (k_here; (try dsimp only [List.nil_append, List.cons_append, List.append_nil]); (with_reducible show wpAny _ _ (call (Value.ref 861) [Value.ref _, Value.str _ _]) _ _ _); k_dflt (refine' ga_c ?k19q ?k29q ?k39q ?k59q ?kK9q ?kd9q ?ku9q ?g19q ?g29q ?g39q ?g49q ?g59q ?g69q ?g79q ?kN9q ?_; (case k19q => k_asm); (case k29q => k_asm); (case k39q => k_asm); (case k59q => k_asm); (case kK9q => first | exact rfl | assumption); (case kN9q => k_asm); (case g19q => assumption); (case g29q => assumption); (case g39q => assumption); (case g49q => assumption); (case g59q => assumption); (case g69q => assumption); (case g79q => assumption); (case kd9q => ktr_room); (case ku9q => ktr_units); k_whole; intro D9k ys9k h9k tk9k hS9k F9k N9k; (try k_sweep)))
  k_with "execs cons" => ((with_reducible refine wpAny_execs_cons ?_); (try dsimp only); (try k_fold))
  k_with "own ne" => (refine neN ?_; (try dsimp only); first | with_reducible assumption | (refine Ne.symm ?_; with_reducible assumption) | (refine Nat.ne_of_lt ?_; first | with_reducible assumption | with_reducible exact And.left (by with_reducible assumption) | with_reducible exact And.left (And.right (by with_reducible assumption)) | with_reducible exact And.left (And.right (And.right (by with_reducible assumption))) | with_reducible exact And.left (And.right (And.right (And.right (by with_reducible assumption)))) | with_reducible exact And.left (And.right (And.right (And.right (And.right (by with_reducible assumption))))) | with_reducible exact And.left (And.right (And.right (And.right (And.right (And.right (by with_reducible assumption)))))) | with_reducible exact And.left (And.right (And.right (And.right (And.right (And.right (And.right (by with_reducible assumption))))))) | with_reducible exact And.left (And.right (And.right (And.right (And.right (And.right (And.right (And.right (by with_reducible assumption)))))))) | with_reducible exact And.left (And.right (And.right (And.right (And.right (And.right (And.right (And.right (And.right (by with_reducible assumption))))))))) | with_reducible exact And.right (by with_reducible assumption) | with_reducible exact And.right (And.right (by with_reducible assumption)) | with_reducible exact And.right (And.right (And.right (by with_reducible assumption))) | with_reducible exact And.right (And.right (And.right (And.right (by with_reducible assumption)))) | with_reducible exact And.right (And.right (And.right (And.right (And.right (by with_reducible assumption))))) | with_reducible exact And.right (And.right (And.right (And.right (And.right (And.right (by with_reducible assumption)))))) | with_reducible exact And.right (And.right (And.right (And.right (And.right (And.right (And.right (by with_reducible assumption))))))) | with_reducible exact And.right (And.right (And.right (And.right (And.right (And.right (And.right (And.right (by with_reducible assumption))))))))) | (refine Nat.ne_of_gt ?_; first | with_reducible assumption | with_reducible exact And.left (by with_reducible assumption) | with_reducible exact And.left (And.right (by with_reducible assumption)) | with_reducible exact And.left (And.right (And.right (by with_reducible assumption))) | with_reducible exact And.left (And.right (And.right (And.right (by with_reducible assumption)))) | with_reducible exact And.left (And.right (And.right (And.right (And.right (by with_reducible assumption))))) | with_reducible exact And.left (And.right (And.right (And.right (And.right (And.right (by with_reducible assumption)))))) | with_reducible exact And.left (And.right (And.right (And.right (And.right (And.right (And.right (by with_reducible assumption))))))) | with_reducible exact And.left (And.right (And.right (And.right (And.right (And.right (And.right (And.right (by with_reducible assumption)))))))) | with_reducible exact And.left (And.right (And.right (And.right (And.right (And.right (And.right (And.right (And.right (by with_reducible assumption))))))))) | with_reducible exact And.right (by with_reducible assumption) | with_reducible exact And.right (And.right (by with_reducible assumption)) | with_reducible exact And.right (And.right (And.right (by with_reducible assumption))) | with_reducible exact And.right (And.right (And.right (And.right (by with_reducible assumption)))) | with_reducible exact And.right (And.right (And.right (And.right (And.right (by with_reducible assumption))))) | with_reducible exact And.right (And.right (And.right (And.right (And.right (And.right (by with_reducible assumption)))))) | with_reducible exact And.right (And.right (And.right (And.right (And.right (And.right (And.right (by with_reducible assumption))))))) | with_reducible exact And.right (And.right (And.right (And.right (And.right (And.right (And.right (And.right (by with_reducible assumption))))))))))
  trivial
section
variable {w : World} {mean : ExcName → Option Value} {mg mb : Str → Option Value} {dp un : Nat} {gd : Option (List Code)} {cn : Str} {cs : Scope} {a : Addr} {ccd : Value} {cl : List (Str × Addr)} {outer : List Env} {A₀ : Around} {base h₀ : Heap} {L : Addr} {m : Str → Option Value} {s : Shared} {Q E : Value → Shared → Prop} {rest : List (Addr × Obj)}
theorem ll_c {tb td hl : Addr} {kh tn : Tok} {nm nm' : Str} {items : List Value} {nn : Nat} {tab : List (Str × Str)} (B : Below A₀ base outer h₀) (F : Fr h₀ L s.heap m) (X : (hd.heap_1 w.params).In h₀) (T : Top q (looseW q loose) mean mg mb h₀) (hk : cs.kind = .function) (hdp : dp + 10 < recursionLimit) (hun : un + 100 < cLine) (hn : nm.length ≤ 1000000) (hn' : nm'.length ≤ 1000000) (hlow : Txt.lower nm = nm') (t1 : txtOk nm') (hit : items.length < 1000) (R : Rel2 (fun (p : Str × Str) v => ∃ a t u, v = .ref a ∧ (a, tupO [.str p.1 t, .str p.2 u]) ∈ rest) tab items) (hl1 : ∀ p ∈ tab, p.1.length ≤ 1000000) (hl2 : ∀ p ∈ tab, p.2.length ≤ 100)
    (N : News h₀ L s.heap ((tb, instObj 922 td) :: (td, dictOf [⟨PyData.keyHash w.params (Str.ofString "_headers"), .str (Str.ofString "_headers") kh, .ref hl⟩] 1) :: (hl, listOf items.toArray nn) :: rest))
    (hret : ∀ t' h' tk', Fr h₀ L h' m → News h₀ L h' ((tb, instObj 922 td) :: (td, dictOf [⟨PyData.keyHash w.params (Str.ofString "_headers"), .str (Str.ofString "_headers") kh, .ref hl⟩] 1) :: (hl, listOf items.toArray nn) :: rest) → Q (.str (linesOf ((tab.filter fun p => Txt.lower p.1 == nm').map (·.2))) t') { s with heap := h', toks := tk' }) :
    wpAny (model PySem.Challenge.pw_om0186_01 w) (ktrTop dp un gd cn cs L a ccd cl outer) (call (.ref 952) [.ref tb, .str nm tn]) Q E s := by
  w_on
  have hlen : ∀ y ∈ (tab.filter fun p => Txt.lower p.1 == nm').map (·.2), y.length ≤ 100 := by
    intro y hy
    obtain ⟨p, hp, rfl⟩ := List.mem_map.mp hy
    exact hl2 p (List.mem_filter.mp hp).1
  have hcnt : ((tab.filter fun p => Txt.lower p.1 == nm').map (·.2)).length < 1000 := by
    rw [List.length_map]
    have := List.length_filter_le (fun p : Str × Str => Txt.lower p.1 == nm') tab
    have := R.length
    omega
  unfold linesOf at hret
  refine wpAny_call ?_
  k_dflt (refine' code_def ?k1 ?k2 ?k3 N ?k5 ?kA ?kF ?kK ?k6 ?k7 ?k8 ?k9 ?kB ?_ ?c2 ?c3 ?c4 ?c5; (case kA => exact rfl); (case kF => exact rfl); (case kK => assumption); (case k1 => k_asm); (case k2 => k_asm); (case k3 => k_asm); (case k5 => k_asm); (case k6 => k_is); (case k7 => k_is); (case k8 => ktr_room); (case k9 => first | exact BindsTo.of_eq rfl | exact binds_K (by k_in) rfl (by k_is) rfl rfl rfl); (case c5 => decide); (case kB => exact locs rfl); (case c2 => exact rfl); (case c3 => exact rfl); (case c4 => exact rfl); k_whole; intro g' L' h' FG' F' N' B' X' T'; (try dsimp only); (try k_fold))
  (try (show wpAny _ _ _ _ _ _; k_fold))
  k_steps
  unfold Stop
  rename StrsAre _ _ => hS
  have hys := strs_len hS
  generalize hV : (tab.filter fun p => Txt.lower p.1 == nm').map (·.2) = vals at hret hcnt hlen hys hS
  k_dflt (refine' LCg.CompSrc.ledger rfl ?F ?N ?m ?z ?_; (case F => k_asm); (case N => k_asm); (case m => k_mem); (case z => (rw [List.size_toArray, sizeLine_eq]; omega)))
  intro g'
  rw [List.size_toArray]
  refine cmpU (fun i v => ∃ y t, vals[i]? = some y ∧ v = .str (y ++ Str.ofString "\x0d\n") t) ?turn ?fin
  case turn =>
    intro i v I oI C oC D m₂ ys h tk E' hi hv hC hx F9 N9 off ne
    rw [List.getElem?_toArray] at hv
    obtain ⟨y, t, hy, rfl⟩ := strs_at hS hv
    have hl9 := hlen y (List.mem_of_getElem? hy)
    (try (show wpAny _ _ _ _ _ _; k_fold))
    k_steps
    exact ⟨_, _, _, rfl, F9, N9, off, .inr ⟨_, (by k_mem), rfl, _, rfl⟩, rfl, y, _, hy, rfl⟩
  case fin =>
    intro ys hR D h tk F9 N9 off
    have hS2 := rel_app' hR hys
    (try (show wpAny _ _ _ _ _ _; k_fold))
    k_steps
    have hb : ((vals.map (· ++ Str.ofString "\x0d\n")).map (·.length)).sum + (vals.map (· ++ Str.ofString "\x0d\n")).length * 64 ≤ 16777216 := by
      have := sum_le (ys := vals.map (· ++ Str.ofString "\x0d\n")) (b := 102) (by
        intro y hy
        obtain ⟨z, hz, rfl⟩ := List.mem_map.mp hy
        have := hlen z hz
        rw [Str.length_append, show (Str.ofString "\x0d\n").length = 2 by decide +kernel]
        omega)
      rw [List.length_map] at this ⊢
      omega
    k_dflt (refine' joinK ?N ?m hS2 ?x hb ?_; (case N => k_asm); (case m => k_mem); (case x => decide); k_whole; intro t' k')
    (try (show wpAny _ _ _ _ _ _; k_fold))
    k_steps
    exact hret _ _ _ (by k_asm) (news_tail (news_tail (by k_asm)))
end
end
-- E1
section
open PySem.Builtin
section
variable {prog : Program} {w : World} {A : Around} {E : Value → Shared → Prop} {s : Shared}
theorem nx_tup_item {it t : Addr} {i : Nat} {items : Array Value} {x : Value} {Q : Value → Shared → Prop} (hit : s.heap.IsTupleIter it t i) (ht : s.heap.IsTuple t items) (hx : items[i]? = some x)
    (hQ : ∀ h', h'.IsTupleIter it t (i + 1) → Heap.SameBut it s.heap h' → Q x { s with heap := h' }) :
    wpAny (model prog w) A (Builtin.SmallTypes.nextOf (.ref it)) Q E s := by
  obtain ⟨o, ho, hc, hd⟩ := id hit
  obtain ⟨ol, hol, _, nl, hdl⟩ := ht
  unfold Builtin.SmallTypes.nextOf
  refine wpAny_bind (wpAny_callSpecial?_slot (name := Str.ofString "__next__") hit.typeIs F.slot_tuple_iterator_next
    (wpAny_call_entry F.slot_tuple_iterator_next hit.typeIs F.entry_tuple_iterator_next ?_ (F.args_tuple_iterator_next_1 _)))
  show wpAny _ _ (field (.ref it) 0 >>= _) _ _ s
  refine wpAny_bind (wpAny_field ho hd (x := .ref t) rfl ?_)
  show wpAny _ _ (if (Value.ref t == Value.none) = true then _ else _) _ _ s
  rw [if_neg (show ¬ ((Value.ref t == Value.none) = true) from Bool.false_ne_true)]
  show wpAny _ _ (field (.ref it) 1 >>= _) _ _ s
  refine wpAny_bind (wpAny_field ho hd (x := .int i 0) rfl ?_)
  show wpAny _ _ (seqItems? (.ref t) >>= _) _ _ s
  refine wpAny_bind (wpAny_seqItems hol hdl ?_)
  simp only [Int.toNat_natCast, hx]
  refine wpAny_bind (wpAny_setField ho hd (by simp) (wpAny_pure ⟨x, rfl, wpAny_pure (hQ _ ?_ (Heap.SameBut.update ..))⟩))
  exact ⟨_, Heap.get?_update_self _ ho (Obj.isFreed_of_fields (Obj.data_mapFields hd _)), (Obj.cls_mapFields ..).trans hc, by
    rw [Obj.data_mapFields hd]; simp [rawInt]⟩
theorem nx_tup_end {it t : Addr} {i : Nat} {items : Array Value} {Q : Value → Shared → Prop} (hh : A.handled = none) (hit : s.heap.IsTupleIter it t i) (ht : s.heap.IsTuple t items) (hx : items[i]? = none)
    (hE : ∀ h' e, Heap.ExtBut it s.heap h' → (∃ o, h'.get? e = some o ∧ o.cls = .type "StopIteration") → E (.ref e) { s with heap := h' }) :
    wpAny (model prog w) A (Builtin.SmallTypes.nextOf (.ref it)) Q E s := by
  obtain ⟨o, ho, hc, hd⟩ := id hit
  obtain ⟨ol, hol, _, nl, hdl⟩ := ht
  unfold Builtin.SmallTypes.nextOf
  refine wpAny_bind (wpAny_callSpecial?_slot (name := Str.ofString "__next__") hit.typeIs F.slot_tuple_iterator_next
    (wpAny_call_entry F.slot_tuple_iterator_next hit.typeIs F.entry_tuple_iterator_next ?_ (F.args_tuple_iterator_next_1 _)))
  show wpAny _ _ (field (.ref it) 0 >>= _) _ _ s
  refine wpAny_bind (wpAny_field ho hd (x := .ref t) rfl ?_)
  show wpAny _ _ (if (Value.ref t == Value.none) = true then _ else _) _ _ s
  rw [if_neg (show ¬ ((Value.ref t == Value.none) = true) from Bool.false_ne_true)]
  show wpAny _ _ (field (.ref it) 1 >>= _) _ _ s
  refine wpAny_bind (wpAny_field ho hd (x := .int i 0) rfl ?_)
  show wpAny _ _ (seqItems? (.ref t) >>= _) _ _ s
  refine wpAny_bind (wpAny_seqItems hol hdl ?_)
  simp only [Int.toNat_natCast, hx]
  refine wpAny_bind (wpAny_rule (wpAny_bind (wpAny_setField ho hd (by simp) ?_)))
  show wpAny _ _ (newExc (.type "StopIteration") [] >>= _) _ _ _
  refine wpAny_bind ?_
  simp only [newExc, newTuple]
  refine wpAny_bind (wpAny_newObj_type ?_ (by size_fits))
  refine wpAny_bind (m := firstArgMember _ _) (wpAny_of_eq (a := Value.none) (by first | rfl | (simp only [firstArgMember]; rfl)) ?_)
  refine wpAny_newObj_type ?_ (by size_fits)
  simp only [raiseNew]
  refine wpAny_bind (wpAny_handled ?_)
  first | rw [show A.in1.handled = none from hh] | rw [hh]
  refine wpAny_bind (wpAny_pure (wpAny_throw ?_))
  exact hE _ _ (((Heap.SameBut.update ..).extBut.push _).push _) ⟨_, Heap.get?_push_size _ rfl, rfl⟩
end
theorem draws_tup {prog : Program} {w : World} {A : Around} (hh : A.handled = none) (it l : Addr) (hne : l ≠ it) (items : Array Value) :
    Draws prog w A it [it, l] items.size (fun i v => items[i]? = some v) (fun i h => h.IsTupleIter it l i ∧ h.IsTuple l items) where
  live := fun _ _ st => let ⟨o, ho, _⟩ := st.1; ⟨o, ho⟩
  frame := fun _ _ _ st hk => ⟨st.1.at fun o e => hk it (by simp) o e, st.2.at fun o e => hk l (by simp) o e⟩
  item := fun i s Q E hi st hQ => by
    refine nx_tup_item st.1 st.2 (x := items[i]) (by simp [hi]) fun h' hit' hs' => ?_
    exact hQ _ h' s.toks (by simp [hi]) ⟨hit', st.2.extBut hs'.extBut hne⟩ hs'
  done := fun s Q E st hE => nx_tup_end hh st.1 st.2 (by simp) hE
open AutoSeq1 (wpAny_loadPart') in
theorem enum_newT (l : Addr) (items : Array Value) (n : Nat) (dct : Option Addr) (sl : Array (Option Value)) :
    Meets (Builtin.«enumerate.__new__» ⟨[.type "enumerate", .ref l], []⟩) (fun _ R s => s.heap.get? l = some { cls := .type "tuple", dict := dct, data := .seq items n, slots := sl } ∧
      R (.ok (.ret (.ref (s.heap.push { cls := .type "tuple_iterator", data := .fields #[.ref l, .int 0 0] }).objs.size)))
        { s with heap := (s.heap.push { cls := .type "tuple_iterator", data := .fields #[.ref l, .int 0 0] }).push { cls := .type "enumerate", data := .fields #[.none, .bool false, .ref s.heap.objs.size, rawInt 0, .none, .none] } }) :=
  .of_wp fun prog w A R s h => by
    obtain ⟨hp, g, d, tk, os⟩ := s; obtain ⟨hl, h⟩ := h
    have hsub := sub_enumerate
    have hL : Heap.IsTuple (Shared.heap ⟨hp, g, d, tk, os⟩) l items := ⟨_, hl, rfl, n, rfl⟩
    wp_walk using wpAny_loadPart' hl
    refine wpAny_stack_any fun st => wpAny_pure ?_
    split
    · rename_i c _ _ _ _ _
      cases (c == Value.type "enumerate")
      · wp_walk using wpAny_loadPart' hl, wpAny_pyIter_tuple hL
        exact ⟨_, rfl, h⟩
      · wp_walk using wpAny_loadPart' hl, wpAny_pyIter_tuple hL
        exact ⟨_, rfl, h⟩
    · wp_walk using wpAny_loadPart' hl, wpAny_pyIter_tuple hL
      exact ⟨_, rfl, h⟩
section
variable {prog : Program} {w : World} {A : Around} {E : Value → Shared → Prop} {s : Shared}
theorem call_enumT {l : Addr} {items : Array Value} {Q : Value → Shared → Prop} (hL : s.heap.IsTuple l items)
    (h : ∀ h', IsEnum h' (s.heap.objs.size + 1) s.heap.objs.size 0 .none → h'.IsTupleIter s.heap.objs.size l 0 → h'.objs.size = s.heap.objs.size + 2 →
      (∀ b o, s.heap.get? b = some o → h'.get? b = some o) → Q (.ref (s.heap.objs.size + 1)) { s with heap := h' }) :
    wpAny (model prog w) A (call (.type "enumerate") [.ref l]) Q E s := by
  obtain ⟨⟨c, dct, dt, sl⟩, hl, hc, n, hd⟩ := hL
  replace hc : c = .type "tuple" := hc
  replace hd : dt = .seq items n := hd
  subst hc hd
  refine callType_new F.called_enumerate (by decide) (F.typeCall_enumerate_1 _) (F.newCall_enumerate_1 _) (fun obj => F.args_object_init_2 obj _) F.entry_enumerate_new
    (enum_newT l items n dct sl) ⟨hl, ?_⟩
  have hz : (s.heap.push { cls := .type "tuple_iterator", data := .fields #[.ref l, .int 0 0] }).objs.size = s.heap.objs.size + 1 := Heap.size_push ..
  show _ ∧ _
  rw [hz]
  have he : IsEnum ((s.heap.push { cls := .type "tuple_iterator", data := .fields #[.ref l, .int 0 0] }).push
      { cls := .type "enumerate", data := .fields #[.none, .bool false, .ref s.heap.objs.size, rawInt 0, .none, .none] }) (s.heap.objs.size + 1) s.heap.objs.size 0 .none := by
    have := Heap.get?_push_size (s.heap.push { cls := .type "tuple_iterator", data := .fields #[.ref l, .int 0 0] })
      (o := { cls := .type "enumerate", data := .fields #[.none, .bool false, .ref s.heap.objs.size, rawInt 0, .none, .none] }) rfl
    rw [hz] at this; exact this
  refine ⟨⟨_, he, rfl⟩, h _ he ⟨_, Heap.get?_push_of_some _ (Heap.get?_push_size _ rfl), rfl, rfl⟩ (by rw [Heap.size_push, hz]) fun b o x => Heap.get?_push_of_some _ (Heap.get?_push_of_some _ x)⟩
end
end
-- E2
section
open PySem.Builtin
section
variable {prog : Program} {w : World} {A : Around} {E : Value → Shared → Prop} {s : Shared} {env : Env} {h₀ : Heap} {target : PySem.Expr} {body orelse : List Stmt} {Q : Flow → Shared → Prop} {K : Frag}
/-- enumerate over a tuple of the written part -/
theorem enumK {elts : List PySem.Expr} {k : Nat} {pos : Pos} {l : Addr} {lo : Obj} {vs : List Value} {n : Nat} {m₀ : Str → Option Value} {news : List (Addr × Obj)}
    (hh : A.handled = none) (F : Fr h₀ env.locals s.heap m₀) (N : News h₀ env.locals s.heap news) (X₀ : K.In h₀) (hk : K.lookup l = some lo) (hc : lo.cls = .type "tuple") (hd : lo.data = .seq vs.toArray n)
    (rest₀ : ∀ I : Addr, (∀ p ∈ news, p.1 < I) → ItemsRest prog w A E h₀ env (.Tuple elts k pos) body Q s [(I + 1, "enumerate"), (I, "tuple_iterator")] [] (enumItems 0 vs) m₀ news) :
    wpAny (model prog w) A (call (.type "enumerate") [.ref l]) (fun xv s₁ => wpAny (model prog w) A (pyIter xv) (fun it s₂ => TurnsAt prog w A h₀ env (.Tuple elts k pos) body Q E it s₂) E s₁) E s := by
  have hg : h₀.get? l = some lo := X₀ _ _ hk
  have hax : s.heap.get? l = some lo := F.keep _ _ hg
  have hl : s.heap.IsTuple l vs.toArray := ⟨lo, hax, hc, n, hd⟩
  have hlt : l < s.heap.objs.size := Heap.lt_size hax
  have hLs : env.locals < s.heap.objs.size := F.ns.lt
  refine call_enumT hl fun h' hE hI hsz hk => ?_
  refine wpAny_pyIter_enum hE ?_
  have hne1 : s.heap.objs.size + 1 ≠ s.heap.objs.size := Nat.succ_ne_self _
  have hne2 : l ≠ s.heap.objs.size := Nat.ne_of_lt hlt
  have hne3 : s.heap.objs.size + 1 ∉ [s.heap.objs.size, l] := by
    intro hm
    rcases List.mem_cons.mp hm with e | hm
    · exact hne1 e
    · exact ktu_ne 1 hlt (List.mem_singleton.mp hm).symm
  refine ktg_core (tk0 := s.toks) (keep := []) (KTurns.ofWalksU (WalksT.enumerateD (draws_tup (A := A.in1) hh s.heap.objs.size l hne2 vs.toArray) (s.heap.objs.size + 1) hne1 hne3 (by simp)).toU) (by simp [enumItems_length]) ?_ ?_ ?_ ?_ ?_ ?_ ?_ ?_ (F.keeps hk) (N.grown hk) trivial (rest₀ _ fun p hp => Heap.lt_size (N p hp).1)
  · rintro i v h ⟨T, vals, rfl, ⟨t, x, hx, rfl⟩, hT⟩
    refine ⟨_, enumItems_get vs 0 i (v := x) (by simpa using hx), T, t, rfl, ?_⟩
    show IsTup h T #[.int ((0 + i : Nat) : Int) t, x]
    rw [Nat.zero_add]
    exact hT
  · rintro i h ⟨⟨old, he⟩, ⟨oi, hoi, hic, _⟩, _⟩
    have he' : ∃ oe : Obj, h.get? (s.heap.objs.size + 1) = some oe ∧ oe.cls = .type "enumerate" := ⟨_, he, rfl⟩
    obtain ⟨oe, h1, h2⟩ := he'
    refine ⟨[(s.heap.objs.size + 1, oe), (s.heap.objs.size, oi)], ⟨⟨rfl, h2⟩, ⟨rfl, hic⟩, trivial⟩, fun p hp => ?_⟩
    rcases List.mem_cons.mp hp with rfl | hp
    · exact h1
    · rw [List.mem_singleton.mp hp]; exact hoi
  · intro b hb
    have hb' : b = s.heap.objs.size + 1 ∨ b = s.heap.objs.size := by simpa using hb
    rcases hb' with rfl | rfl
    · exact ⟨by simp, ktu_new F (Nat.le_add_right _ _)⟩
    · exact ⟨by simp, ktu_new F (Nat.le_refl _)⟩
  · intro b hb
    simpa using hb
  · intro b hb
    have hb' : b = s.heap.objs.size + 1 ∨ b = s.heap.objs.size ∨ b = l := by simpa using hb
    rcases hb' with rfl | rfl | rfl
    · exact .inl (by simp)
    · exact .inl (by simp)
    · exact .inr (.inr ⟨lo, hg⟩)
  · intro hI'
    have hb' : env.locals = s.heap.objs.size + 1 ∨ env.locals = s.heap.objs.size ∨ env.locals = l := by simpa using hI'
    rcases hb' with e | e | e
    · exact ktu_ne 1 hLs e
    · exact Nat.ne_of_lt hLs e
    · exact absurd (Heap.lt_size hg) (Nat.not_lt.mpr (e ▸ F.above))
  · intro p hp hI'
    have hb' : p.1 = s.heap.objs.size + 1 ∨ p.1 = s.heap.objs.size := by simpa using hI'
    have hlp := Heap.lt_size (N p hp).1
    rcases hb' with e | e
    · exact ktu_ne 1 hlp e
    · exact Nat.ne_of_lt hlp e
  · exact ⟨⟨.none, hE⟩, hI, hl.at fun o e => hk l o e⟩
/-- what is left of a for over a tuple, with its else -/
def ERest (prog : Program) (w : World) (A : Around) (E : Value → Shared → Prop) (h₀ : Heap) (env : Env) (target : PySem.Expr) (body orelse : List Stmt) (Q : Flow → Shared → Prop) (s : Shared) (I : Addr) : List Value → (Str → Option Value) → List (Addr × Obj) → Prop
  | [], m, news => ∀ h tk, Fr h₀ env.locals h m → News h₀ env.locals h news → wpAny (model prog w) A (execs orelse env) Q E { s with heap := h, toks := tk }
  | v :: r, m, news => ∀ oI h tk, Fr h₀ env.locals h m → News h₀ env.locals h ((I, oI) :: news) → wpAny (model prog w) A (assign target env v) (fun _ s₂ => wpAny (model prog w) A (execs body env) (fun f s₃ => match f with
      | .ret v => Q (.ret v) s₃
      | .brk => Q .next s₃
      | _ => ∃ h' tk' m' news', s₃ = { s with heap := h', toks := tk' } ∧ Fr h₀ env.locals h' m' ∧ News h₀ env.locals h' ((I, oI) :: news') ∧ (∀ p ∈ news', p.1 ≠ I) ∧ ERest prog w A E h₀ env target body orelse Q s I r m' news') E s₂) E { s with heap := h, toks := tk }
theorem for_else {iter : PySem.Expr} {pos : Pos} {ax : Addr} {lo : Obj} {vs : List Value} {n : Nat} {m₀ : Str → Option Value} {news : List (Addr × Obj)}
    (hh : A.handled = none) (F : Fr h₀ env.locals s.heap m₀) (N : News h₀ env.locals s.heap news) (X₀ : K.In h₀) (hk : K.lookup ax = some lo) (hc : lo.cls = .type "tuple") (hd : lo.data = .seq vs.toArray n)
    (hi : ∀ {Q' : Value → Shared → Prop}, Q' (.ref ax) s → wpAny (model prog w) A (eval iter env) Q' E s)
    (rest₀ : ∀ I : Addr, (∀ p ∈ news, p.1 < I) → ERest prog w A E h₀ env target body orelse Q s I vs m₀ news)
    (hs : ∀ x, foldedSetIterable iter env x = pure x := by intro _; rfl)
    (hE : PassesOwn (model prog w) A env E := by passes_own) :
    wpAny (model prog w) A (exec (.For target iter body orelse pos) env) Q E s := by
  have hg : h₀.get? ax = some lo := X₀ _ _ hk
  have hax : s.heap.get? ax = some lo := F.keep _ _ hg
  have hl : s.heap.IsTuple ax vs.toArray := ⟨lo, hax, hc, n, hd⟩
  have hlt : ax < s.heap.objs.size := Heap.lt_size hax
  have hIL : s.heap.objs.size ≠ env.locals := Nat.ne_of_gt F.ns.lt
  have hI0 : h₀.get? s.heap.objs.size = none := next_is_new F
  refine wpAny_For (hi (wpAny_pyIter_tuple hl ?_)) hs
  refine codeAny_forLoop_any (I := fun k s' => ∃ h' tk m' news' i, s' = { s with heap := h', toks := tk } ∧ h'.IsTupleIter s.heap.objs.size ax i ∧ Fr h₀ env.locals h' m' ∧ News h₀ env.locals h' news' ∧ (∀ p ∈ news', p.1 ≠ s.heap.objs.size) ∧ ERest prog w A E h₀ env target body orelse Q s s.heap.objs.size (vs.drop i) m' news' ∧ i ≤ vs.length ∧ k = vs.length + 1 - i) ?_ (vs.length + 1)
    ⟨_, s.toks, m₀, news, 0, rfl, ⟨_, Heap.get?_push_size _ rfl, rfl, rfl⟩, F.push _, fun p hp => ⟨Heap.get?_push_of_some _ (N p hp).1, (N p hp).2⟩, fun p hp => Nat.ne_of_lt (Heap.lt_size (N p hp).1), rest₀ _ fun p hp => Heap.lt_size (N p hp).1, Nat.zero_le _, rfl⟩
  rintro k s' ⟨h', tk, m', news', i, rfl, hit, F', N', off, R, hi', rfl⟩
  have hl' : h'.IsTuple ax vs.toArray := ⟨lo, F'.keep _ _ hg, hc, n, hd⟩
  by_cases hlt' : i < vs.length
  · have hv : vs.toArray[i]? = some vs[i] := by simp [hlt']
    have hdrop : vs.drop i = vs[i] :: vs.drop (i + 1) := List.drop_eq_getElem_cons hlt'
    rw [hdrop] at R
    refine wpAny_pyNext_tuple_item (s := { s with heap := h', toks := tk }) hit hl' hv fun h₁ hit₁ hs₁ => ?_
    refine letGo_tupleiter (s' := { s with heap := h₁, toks := tk }) hit₁ ?_
    have F₁ : Fr h₀ env.locals h₁ m' := F'.change hs₁ hIL hI0
    obtain ⟨oI, hoI, hcI, hdI⟩ := hit₁
    have N₁ : News h₀ env.locals h₁ ((s.heap.objs.size, oI) :: news') := by
      intro p hp
      rcases List.mem_cons.mp hp with rfl | hp
      · exact ⟨hoI, hIL, hI0⟩
      · exact ⟨hs₁.extBut _ _ (off p hp) (N' p hp).1, (N' p hp).2⟩
    refine wpAny_mono (R oI h₁ tk F₁ N₁) (fun _ s₂ h₂ => wpAny_mono h₂ (fun f s₃ h₃ => ?_) (fun e s' x => ?_)) (fun e s' x => ?_)
    · cases f with
      | ret v => exact h₃
      | brk => exact h₃
      | next =>
        obtain ⟨h₄, tk₄, m₄, news₄, e, F₄, N₄, off₄, R₄⟩ := h₃
        exact ⟨_, Nat.sub_lt_sub_left (by omega) (Nat.lt_succ_self i), h₄, tk₄, m₄, news₄, i + 1, e, ⟨oI, (N₄ _ (.head _)).1, hcI, hdI⟩, F₄, fun p hp => N₄ p (.tail _ hp), off₄, R₄, hlt', rfl⟩
      | cont =>
        obtain ⟨h₄, tk₄, m₄, news₄, e, F₄, N₄, off₄, R₄⟩ := h₃
        exact ⟨_, Nat.sub_lt_sub_left (by omega) (Nat.lt_succ_self i), h₄, tk₄, m₄, news₄, i + 1, e, ⟨oI, (N₄ _ (.head _)).1, hcI, hdI⟩, F₄, fun p hp => N₄ p (.tail _ hp), off₄, R₄, hlt', rfl⟩
    · exact hE _ _ x
    · exact hE _ _ x
  · have e : i = vs.length := by omega
    subst e
    rw [List.drop_length] at R
    refine wpAny_pyNext_tuple_end (s := { s with heap := h', toks := tk }) hh hit hl' (by simp) fun h₁ he => ?_
    have F₁ : Fr h₀ env.locals h₁ m' := ⟨F'.ns.at' fun o e => he _ o (Ne.symm hIL) e, fun b o e => he b o (fun q => by rw [q, hI0] at e; cases e) (F'.keep b o e), F'.above⟩
    refine wpAny_mono (R h₁ tk F₁ fun p hp => ⟨he _ _ (off p hp) (N' p hp).1, (N' p hp).2⟩) (fun f s₃ h₃ => h₃) (fun e s' x => hE _ _ x)
end
end
-- E3
section
def pick (cond : Int × Str → Bool) (dflt : Str) : List (Int × Str) → Str
  | [] => dflt
  | p :: ps => if cond p = true then p.2 else pick cond dflt ps
section
variable {prog : Program} {w : World} {A : Around} {E : Value → Shared → Prop} {s : Shared} {env : Env} {h₀ : Heap} {target : PySem.Expr} {body orelse : List Stmt} {Q : Flow → Shared → Prop}
theorem inner_ind {I : Addr} {news : List (Addr × Obj)} {P : Int × Str → Value → Prop} {Fm : Option Value → Option Value → Str → Option Value} (cond : Int × Str → Bool) (dflt : Str) {ps : List (Int × Str)} {vs : List Value} (R : Rel2 P ps vs) (hoff : ∀ p ∈ news, p.1 ≠ I)
    (tT : ∀ p v ob oc oI h tk, P p v → cond p = true → pick cond dflt ps = p.2 → Fr h₀ env.locals h (Fm ob oc) → News h₀ env.locals h ((I, oI) :: news) → wpAny (model prog w) A (assign target env v) (fun _ s₂ => wpAny (model prog w) A (execs body env) (fun f s₃ => Stop (f = .brk ∧ Q .next s₃)) E s₂) E { s with heap := h, toks := tk })
    (tF : ∀ p v ob oc oI h tk, P p v → cond p = false → Fr h₀ env.locals h (Fm ob oc) → News h₀ env.locals h ((I, oI) :: news) → wpAny (model prog w) A (assign target env v) (fun _ s₂ => wpAny (model prog w) A (execs body env) (fun f s₃ => Stop (f = .next ∧ ∃ h' tk' ob' oc', s₃ = { s with heap := h', toks := tk' } ∧ Fr h₀ env.locals h' (Fm ob' oc') ∧ News h₀ env.locals h' ((I, oI) :: news))) E s₂) E { s with heap := h, toks := tk })
    (tE : pick cond dflt ps = dflt → ∀ ob oc h tk, Fr h₀ env.locals h (Fm ob oc) → News h₀ env.locals h news → wpAny (model prog w) A (execs orelse env) Q E { s with heap := h, toks := tk }) :
    ∀ ob oc, ERest prog w A E h₀ env target body orelse Q s I vs (Fm ob oc) news := by
  have key : ∀ (qs : List (Int × Str)) (us : List Value), Rel2 P qs us → pick cond dflt ps = pick cond dflt qs → ∀ ob oc, ERest prog w A E h₀ env target body orelse Q s I us (Fm ob oc) news := by
    intro qs us R'
    induction R' with
    | nil => intro e ob oc h tk F N; exact tE e ob oc h tk F N
    | @cons p v qs us hP r ih =>
      intro e ob oc oI h tk F N
      cases hc : cond p with
      | true =>
        refine wpAny_mono (tT p v ob oc oI h tk hP hc (by rw [e, pick, if_pos hc]) F N) (fun _ s₂ h₂ => wpAny_mono h₂ (fun f s₃ h₃ => ?_) fun _ _ x => x) fun _ _ x => x
        obtain ⟨rfl, h₃⟩ := h₃
        exact h₃
      | false =>
        refine wpAny_mono (tF p v ob oc oI h tk hP hc F N) (fun _ s₂ h₂ => wpAny_mono h₂ (fun f s₃ h₃ => ?_) fun _ _ x => x) fun _ _ x => x
        obtain ⟨rfl, h', tk', ob', oc', e3, F3, N3⟩ := h₃
        exact ⟨h', tk', _, news, e3, F3, N3, hoff, ih (by rw [e, pick, if_neg (by rw [hc]; exact Bool.false_ne_true)]) ob' oc'⟩
  exact key ps vs R rfl
def picks (f : Nat → List (Int × Str) → Str) : Nat → List (List (Int × Str)) → List Str
  | _, [] => []
  | a, ps :: r => f a ps :: picks f (a + 1) r
theorem outer_ind {I pl : Addr} {PT : List (Int × Str) → Value → Prop} {Fm : Option Value → Option Value → Option Value → Option Value → Str → Option Value} (f : Nat → List (Int × Str) → Str) (hpl : pl < I)
    (turn : ∀ (i : Nat) ps v pv n ys oi ot ob oc T t (I1 : Addr) o1 o2 h tk, @LT.lt Nat _ I I1 → PT ps v → StrsAre pv ys → pv.length < 10 → IsTup h T #[.int (i : Int) t, v] → Fr h₀ env.locals h (Fm oi ot ob oc) → News h₀ env.locals h ((I1, o1) :: (I, o2) :: [(pl, listOf pv.toArray n)]) →
      wpAny (model prog w) A (assign target env (.ref T)) (fun _ s₂ => wpAny (model prog w) A (execs body env) (fun fl s₃ => Stop (fl = .next ∧ ∃ h' tk' oi' ot' ob' oc' n' t', s₃ = { s with heap := h', toks := tk' } ∧ Fr h₀ env.locals h' (Fm oi' ot' ob' oc') ∧ News h₀ env.locals h' ((I1, o1) :: (I, o2) :: [(pl, listOf (pv ++ [Value.str (f i ps) t']).toArray n')]))) E s₂) E { s with heap := h, toks := tk }) :
    ∀ (tabs : List (List (Int × Str))) (vs : List Value), Rel2 PT tabs vs → ∀ (a : Nat) pv n ys oi ot ob oc, StrsAre pv ys → pv.length + vs.length ≤ 10 →
      (∀ pv' n' oi' ot' ob' oc' h tk, StrsAre pv' (ys ++ picks f a tabs) → Fr h₀ env.locals h (Fm oi' ot' ob' oc') → News h₀ env.locals h [(pl, listOf pv'.toArray n')] → Q .next { s with heap := h, toks := tk }) →
      ItemsRest prog w A E h₀ env target body Q s [(I + 1, "enumerate"), (I, "tuple_iterator")] [] (enumItems a vs) (Fm oi ot ob oc) [(pl, listOf pv.toArray n)] := by
  intro tabs vs R
  induction R with
  | nil =>
    intro a pv n ys oi ot ob oc hS _ fin
    refine ItemsRest.zero fun h tk F N => ?_
    exact fin pv n oi ot ob oc h tk (by rw [picks, List.append_nil]; exact hS) F N
  | @cons ps v tabs vs hP r ih =>
    intro a pv n ys oi ot ob oc hS hlen fin
    refine ItemsRest.pair fun T t h tk hT F => ?_
    refine AllObj.cons fun o1 c1 => AllObj.cons fun o2 c2 => AllObj.nil fun N => ?_
    simp only [List.length_cons] at hlen
    refine wpAny_mono (turn a ps v pv n ys oi ot ob oc T t (I + 1) o1 o2 h tk (Nat.lt_succ_self _) hP hS (by omega) hT F N) (fun _ s₂ h₂ => wpAny_mono h₂ (fun fl s₃ h₃ => ?_) fun _ _ x => x) fun _ _ x => x
    obtain ⟨rfl, h', tk', oi', ot', ob', oc', n', t', e3, F3, N3⟩ := h₃
    refine ⟨h', tk', _, [(pl, listOf (pv ++ [Value.str (f a ps) t']).toArray n')], e3, F3, N3, ?_, trivial, ?_⟩
    · intro p hp q hq
      rw [List.mem_singleton.mp hp]
      rcases List.mem_cons.mp hq with rfl | hq
      · exact Nat.ne_of_lt (Nat.lt_succ_of_lt hpl)
      · rw [List.mem_singleton.mp hq]; exact Nat.ne_of_lt hpl
    · refine ih (a + 1) _ n' (ys ++ [f a ps]) oi' ot' ob' oc' (kct_snoc hS) (by rw [List.length_append]; simp only [List.length_cons, List.length_nil]; omega) ?_
      intro pv' n'' oi'' ot'' ob'' oc'' h tk hS' F' N'
      refine fin pv' n'' oi'' ot'' ob'' oc'' h tk ?_ F' N'
      rw [picks]
      rw [List.append_assoc] at hS'
      exact hS'
end
end
-- E4
section
abbrev fmM (pl : Addr) (md : Value) (oi ot ob oc : Option Value) : Str → Option Value := fun y => if y = Str.ofString "char" then oc else if y = Str.ofString "bit" then ob else if y = Str.ofString "table" then ot else if y = Str.ofString "index" then oi else if y = Str.ofString "perm" then some (.ref pl) else if y = Str.ofString "mode" then some md else none
theorem fr_fm {g h : Heap} {L pl : Addr} {md : Value} (F : Fr g L h (fun y => if y = Str.ofString "perm" then some (.ref pl) else List.lookup y [(Str.ofString "mode", md)])) : Fr g L h (fmM pl md none none none none) := by
  have e : (fun y => if y = Str.ofString "perm" then some (.ref pl) else List.lookup y [(Str.ofString "mode", md)]) = fmM pl md none none none none := by
    funext y
    by_cases h0 : y = Str.ofString "char"
    · subst h0; rfl
    · by_cases h1 : y = Str.ofString "bit"
      · subst h1; rfl
      · by_cases h2 : y = Str.ofString "table"
        · subst h2; rfl
        · by_cases h3 : y = Str.ofString "index"
          · subst h3; rfl
          · by_cases h4 : y = Str.ofString "perm"
            · subst h4; rfl
            · by_cases h5 : y = Str.ofString "mode"
              · subst h5; rfl
              · simp only [fmM, h0, h1, h2, h3, h4, h5, if_false]
                rw [List.lookup_cons, beq_eq_false_iff_ne.mpr h5]; rfl
  rw [e] at F; exact F
theorem fr_it {g h : Heap} {L pl : Addr} {md : Value} {oi ot ob oc xi xt : Option Value} (F : Fr g L h (fun y => if y = Str.ofString "table" then xt else if y = Str.ofString "index" then xi else fmM pl md oi ot ob oc y)) : Fr g L h (fmM pl md xi xt ob oc) := by
  have e : (fun y => if y = Str.ofString "table" then xt else if y = Str.ofString "index" then xi else fmM pl md oi ot ob oc y) = fmM pl md xi xt ob oc := by
    funext y
    by_cases h1 : y = Str.ofString "table"
    · subst h1; rfl
    · by_cases h2 : y = Str.ofString "index"
      · subst h2; rfl
      · simp only [fmM, h1, h2, if_false]
  rw [e] at F; exact F
theorem fr_bc {g h : Heap} {L pl : Addr} {md : Value} {oi ot ob oc xb xc : Option Value} (F : Fr g L h (fun y => if y = Str.ofString "char" then xc else if y = Str.ofString "bit" then xb else fmM pl md oi ot ob oc y)) : Fr g L h (fmM pl md oi ot xb xc) := by
  have e : (fun y => if y = Str.ofString "char" then xc else if y = Str.ofString "bit" then xb else fmM pl md oi ot ob oc y) = fmM pl md oi ot xb xc := by
    funext y
    by_cases h1 : y = Str.ofString "char"
    · subst h1; rfl
    · by_cases h2 : y = Str.ofString "bit"
      · subst h2; rfl
      · simp only [fmM, h1, h2, if_false]
  rw [e] at F; exact F
def fmPick (mode : Int) : Nat → List (Int × Str) → Str
  | 0, ps => pick (fun p => decide (Builtin.bitAnd mode 61440 = p.1)) (Str.ofString "?") ps
  | _ + 1, ps => pick (fun p => decide (Builtin.bitAnd mode p.1 = p.1)) (Str.ofString "-") ps
theorem news_fm {h₀ h : Heap} {L l : Addr} {i a b : Addr × Obj} {pv : List Value} {x y : Str} {t : Tok} {n : Nat} (e : x = y) (N : News h₀ L h (i :: a :: b :: [(l, listOf (pv.toArray.push (.str y t)) n)])) : News h₀ L h (a :: b :: [(l, listOf (pv ++ [Value.str x t]).toArray n)]) := by
  subst e
  rw [List.push_toArray] at N
  exact news_tail N
theorem news_fe {h₀ h : Heap} {L l : Addr} {a b : Addr × Obj} {pv : List Value} {x y : Str} {t : Tok} {n : Nat} (e : x = y) (N : News h₀ L h (a :: b :: [(l, listOf (pv.toArray.push (.str y t)) n)])) : News h₀ L h (a :: b :: [(l, listOf (pv ++ [Value.str x t]).toArray n)]) := by
  subst e
  rw [List.push_toArray] at N
  exact N
theorem Stop.out {P : Prop} (h : P) : Stop P := h
def PP (K : Frag) (p : Int × Str) (v : Value) : Prop := ∃ a t u, v = .ref a ∧ K.lookup a = some ({ cls := .type "tuple", data := .seq #[.int p.1 t, .str p.2 u] } : Obj)
def PT (K : Frag) (ps : List (Int × Str)) (v : Value) : Prop := ∃ a vs n, v = .ref a ∧ K.lookup a = some ({ cls := .type "tuple", data := .seq (List.toArray vs) n } : Obj) ∧ Rel2 (PP K) ps vs
def fmTab : List (List (Int × Str)) := [[(40960, Str.ofString "l"), (49152, Str.ofString "s"), (32768, Str.ofString "-"), (24576, Str.ofString "b"), (16384, Str.ofString "d"), (8192, Str.ofString "c"), (4096, Str.ofString "p")], [(256, Str.ofString "r")], [(128, Str.ofString "w")], [(2112, Str.ofString "s"), (2048, Str.ofString "S"), (64, Str.ofString "x")], [(32, Str.ofString "r")], [(16, Str.ofString "w")], [(1032, Str.ofString "s"), (1024, Str.ofString "S"), (8, Str.ofString "x")], [(4, Str.ofString "r")], [(2, Str.ofString "w")], [(513, Str.ofString "t"), (512, Str.ofString "T"), (1, Str.ofString "x")]]
theorem picks_length (f : Nat → List (Int × Str) → Str) : ∀ (tabs : List (List (Int × Str))) (a : Nat), (picks f a tabs).length = tabs.length
  | [], _ => rfl
  | _ :: r, a => by rw [picks, List.length_cons, List.length_cons, picks_length f r (a + 1)]
theorem pick_one {cond : Int × Str → Bool} {dflt : Str} {ps : List (Int × Str)} (h0 : dflt.length ≤ 1) (h : ∀ p ∈ ps, p.2.length ≤ 1) : (pick cond dflt ps).length ≤ 1 := by
  induction ps with
  | nil => exact h0
  | cons p ps ih =>
    rw [pick]
    split
    · exact h p (.head _)
    · exact ih fun q hq => h q (.tail _ hq)
theorem picks_one (mode : Int) : ∀ (tabs : List (List (Int × Str))) (a : Nat), (∀ ps ∈ tabs, ∀ p ∈ ps, p.2.length ≤ 1) → ∀ y ∈ picks (fmPick mode) a tabs, y.length ≤ 1
  | [], _, _, y, hy => nomatch hy
  | ps :: r, a, h, y, hy => by
    rw [picks] at hy
    rcases List.mem_cons.mp hy with e | hy
    · subst e
      cases a with
      | zero => exact pick_one (by decide +kernel) (h ps (.head _))
      | succ a => exact pick_one (by decide +kernel) (h ps (.head _))
    · exact picks_one mode r (a + 1) (fun q hq => h q (.tail _ hq)) y hy
theorem fmTab_one : ∀ ps ∈ fmTab, ∀ p ∈ ps, p.2.length ≤ 1 := by
  have : (fmTab.all fun ps => ps.all fun p => decide (p.2.length ≤ 1)) = true := by decide +kernel
  intro ps hps p hp
  exact of_decide_eq_true (List.all_eq_true.mp (List.all_eq_true.mp this ps hps) p hp)
def rowOf (mode : Int) : Str := Txt.join (Str.ofString "") (picks (fmPick mode) 0 fmTab)
theorem row_fits (mode : Int) : ((picks (fmPick mode) 0 fmTab).map (·.length)).sum + (picks (fmPick mode) 0 fmTab).length * 64 ≤ 16777216 := by
  have h1 := sum_le (picks_one mode fmTab 0 fmTab_one)
  have h2 := picks_length (fmPick mode) fmTab 0
  have h3 : fmTab.length = 10 := rfl
  omega
theorem kw22 : True := by
  k_with_none
  k_with "own all" => assumption
  k_with "exec If" => refine wpAny_If ?_
  k_with "truthy str" => refine P.truthy_str (by omega) ?_
  k_with "ite" => first | refine ite_pos (by with_reducible assumption) ?_ | refine ite_isFalse (by with_reducible assumption) ?_ | refine ite_neg (by with_reducible assumption) ?_
  k_with "exec For Tuple Call cons nil" => refine Stop.mk ?_
  k_with "call builtin:list.append" => (k_here; (try dsimp only [List.nil_append, List.cons_append, List.append_nil]); (with_reducible show wpAny _ _ (call (Value.builtin _) [Value.ref _, _]) _ _ _); k_dflt (refine' append_K ?k19q ?k29q ?k39q ?_ ?z9q; (case k19q => k_asm); (case k29q => k_asm); (case k39q => k_upd); (case z9q => size_fits); k_whole); intro h9k F9k N9k; (try k_sweep))
  k_with "assign Tuple" => (k_here; (with_reducible show wpAny _ _ (assign (Expr.Tuple _ _ _) _ (Value.ref _)) _ _ _); k_dflt (refine' unpackK ?F9q ?N9q ?X9q ?k9q ?c9q ?d9q ?k19q ?k29q ?k39q ?_; (case F9q => k_asm); (case N9q => k_asm); (case X9q => k_asm); (case k9q => assumption); (case c9q => exact rfl); (case d9q => exact rfl); (case k19q => exact rfl); (case k29q => exact rfl); (case k39q => exact rfl)); intro h9k F9k N9k; (try k_sweep))
  k_with "exec For Tuple Name cons cons" => refine Stop.mk ?_
  k_with "call type:enumerate" => refine Stop.mk ?_
  k_with "execs cons" => ((with_reducible refine wpAny_execs_cons ?_); (try dsimp only); (try k_fold))
  k_with "own ne" => (refine neN ?_; (try dsimp only); first | with_reducible assumption | (refine Ne.symm ?_; with_reducible assumption) | (refine Nat.ne_of_lt ?_; first | with_reducible assumption | with_reducible exact And.left (by with_reducible assumption) | with_reducible exact And.left (And.right (by with_reducible assumption)) | with_reducible exact And.left (And.right (And.right (by with_reducible assumption))) | with_reducible exact And.left (And.right (And.right (And.right (by with_reducible assumption)))) | with_reducible exact And.left (And.right (And.right (And.right (And.right (by with_reducible assumption))))) | with_reducible exact And.left (And.right (And.right (And.right (And.right (And.right (by with_reducible assumption)))))) | with_reducible exact And.left (And.right (And.right (And.right (And.right (And.right (And.right (by with_reducible assumption))))))) | with_reducible exact And.left (And.right (And.right (And.right (And.right (And.right (And.right (And.right (by with_reducible assumption)))))))) | with_reducible exact And.left (And.right (And.right (And.right (And.right (And.right (And.right (And.right (And.right (by with_reducible assumption))))))))) | with_reducible exact And.right (by with_reducible assumption) | with_reducible exact And.right (And.right (by with_reducible assumption)) | with_reducible exact And.right (And.right (And.right (by with_reducible assumption))) | with_reducible exact And.right (And.right (And.right (And.right (by with_reducible assumption)))) | with_reducible exact And.right (And.right (And.right (And.right (And.right (by with_reducible assumption))))) | with_reducible exact And.right (And.right (And.right (And.right (And.right (And.right (by with_reducible assumption)))))) | with_reducible exact And.right (And.right (And.right (And.right (And.right (And.right (And.right (by with_reducible assumption))))))) | with_reducible exact And.right (And.right (And.right (And.right (And.right (And.right (And.right (And.right (by with_reducible assumption))))))))) | (refine Nat.ne_of_gt ?_; first | with_reducible assumption | with_reducible exact And.left (by with_reducible assumption) | with_reducible exact And.left (And.right (by with_reducible assumption)) | with_reducible exact And.left (And.right (And.right (by with_reducible assumption))) | with_reducible exact And.left (And.right (And.right (And.right (by with_reducible assumption)))) | with_reducible exact And.left (And.right (And.right (And.right (And.right (by with_reducible assumption))))) | with_reducible exact And.left (And.right (And.right (And.right (And.right (And.right (by with_reducible assumption)))))) | with_reducible exact And.left (And.right (And.right (And.right (And.right (And.right (And.right (by with_reducible assumption))))))) | with_reducible exact And.left (And.right (And.right (And.right (And.right (And.right (And.right (And.right (by with_reducible assumption)))))))) | with_reducible exact And.left (And.right (And.right (And.right (And.right (And.right (And.right (And.right (And.right (by with_reducible assumption))))))))) | with_reducible exact And.right (by with_reducible assumption) | with_reducible exact And.right (And.right (by with_reducible assumption)) | with_reducible exact And.right (And.right (And.right (by with_reducible assumption))) | with_reducible exact And.right (And.right (And.right (And.right (by with_reducible assumption)))) | with_reducible exact And.right (And.right (And.right (And.right (And.right (by with_reducible assumption))))) | with_reducible exact And.right (And.right (And.right (And.right (And.right (And.right (by with_reducible assumption)))))) | with_reducible exact And.right (And.right (And.right (And.right (And.right (And.right (And.right (by with_reducible assumption))))))) | with_reducible exact And.right (And.right (And.right (And.right (And.right (And.right (And.right (And.right (by with_reducible assumption))))))))))
  trivial
section
variable {w : World} {mean : ExcName → Option Value} {mg mb : Str → Option Value} {dp un : Nat} {gd : Option (List Code)} {cn : Str} {cs : Scope} {a : Addr} {ccd : Value} {cl : List (Str × Addr)} {outer : List Env} {A₀ : Around} {base h₀ : Heap} {L : Addr} {m : Str → Option Value} {s : Shared} {Q E : Value → Shared → Prop}
theorem fm_c {mode : Int} {t : Tok} {news : List (Addr × Obj)} (B : Below A₀ base outer h₀) (F : Fr h₀ L s.heap m) (X : (hd.heap_1 w.params).In h₀) (T : Top q (looseW q loose) mean mg mb h₀) (hk : cs.kind = .function) (hdp : dp + 4 < recursionLimit) (hun : un + 30 < cLine) (N0 : News h₀ L s.heap news) (h0 : 0 ≤ mode) (h1 : mode < 65536)
    (hret : ∀ t' h' tk', Fr h₀ L h' m → News h₀ L h' news → Q (.str (rowOf mode) t') { s with heap := h', toks := tk' }) :
    wpAny (model PySem.Challenge.pw_om0186_01 w) (ktrTop dp un gd cn cs L a ccd cl outer) (call (.ref 778) [.int mode t]) Q E s := by
  w_on
  have N : News h₀ L s.heap [] := News.nil
  refine wpAny_call ?_
  k_dflt (refine' code_defG ?k1 ?k2 ?k3 N ?k5 ?kA ?kF ?kK ?k6 ?k7 ?k8 ?k9 ?kB ?_ ?c2 ?c3 ?c4 ?c5; (case kA => exact rfl); (case kF => exact rfl); (case kK => assumption); (case k1 => k_asm); (case k2 => k_asm); (case k3 => k_asm); (case k5 => k_asm); (case k6 => k_is); (case k7 => k_is); (case k8 => ktr_room); (case k9 => first | exact BindsTo.of_eq rfl | exact binds_K (by k_in) rfl (by k_is) rfl rfl rfl); (case c5 => decide); (case kB => exact locs rfl); (case c2 => exact rfl); (case c3 => exact rfl); (case c4 => exact rfl); k_whole; intro g' L' h' FG' F' N' B' X' T' GS'; (try dsimp only); (try k_fold))
  (try (show wpAny _ _ _ _ _ _; k_fold))
  k_steps
  refine Stop.out ?_
  (rename Fr _ _ _ _ => lF')
  replace lF' := fr_fm lF'
  refine For_turns lF' ?_
  (try (show wpAny _ _ _ _ _ _; k_fold))
  k_steps
  refine Stop.out ?_
  refine enumK (K := hd.heap_1 w.params) rfl lF' (by k_asm) (by k_asm) (by k_is) rfl rfl ?_
  intro I hI
  have hI' := hI _ (.head _)
  k_lt2 hI'
  refine outer_ind (PT := PT (hd.heap_1 w.params)) (Fm := fmM _ (.int mode t)) (fmPick mode) (hI _ (.head _)) ?turn fmTab _ ?rel 0 [] 0 [] none none none none .nil (by decide) ?fin
  case rel =>
    repeat' (first | exact Rel2.nil | refine Rel2.cons ⟨_, _, _, rfl, by k_is, ?_⟩ ?_ | refine Rel2.cons ⟨_, _, _, rfl, by k_is⟩ ?_)
  case turn =>
    intro i ps v pv n ys oi ot ob oc T tt I1 o1 o2 h tk hI1 hP hS hlen hT F9 N9
    obtain ⟨a', vs', n', rfl, hk', hR⟩ := hP
    (try (show wpAny _ _ _ _ _ _; k_fold))
    k_steps
    refine Stop.out ?_
    (rename Fr _ _ _ _ => lF2)
    replace lF2 := fr_it lF2
    refine for_else (K := hd.heap_1 w.params) rfl lF2 (by k_asm) (by k_asm) hk' rfl rfl (fun q => ld lF2 rfl q) ?_
    intro I2 hI2
    have hoff := fun p hp => Nat.ne_of_lt (hI2 p hp)
    k_lt hI2
    cases i with
    | zero =>
      refine inner_ind (P := PP (hd.heap_1 w.params)) (Fm := fun ob oc => fmM _ (.int mode t) _ _ ob oc) (fun p => decide (Builtin.bitAnd mode 61440 = p.1)) (Str.ofString "?") hR hoff ?tT ?tF ?tE _ _
      case tT =>
        intro p v ob oc oI h tk hP hc hpk F8 N8
        obtain ⟨a8, t8, u8, rfl, hk8⟩ := hP
        have hc7 := of_decide_eq_true hc
        have hc8 : (Builtin.bitAnd mode 61440 == p.1) = true := beq_iff_eq.mpr hc7
        (try (show wpAny _ _ _ _ _ _; k_fold))
        k_steps
        (try dsimp only)
        refine Stop.out ⟨rfl, ?_⟩
        (try (show wpAny _ _ _ _ _ _; k_fold))
        k_steps
        exact Stop.out ⟨rfl, _, _, _, _, _, _, _, _, rfl, fr_bc (by k_asm), news_fm hpk (by k_asm)⟩
      case tF =>
        intro p v ob oc oI h tk hP hc F8 N8
        obtain ⟨a8, t8, u8, rfl, hk8⟩ := hP
        have hc7 := of_decide_eq_false hc
        have hc8 : (Builtin.bitAnd mode 61440 == p.1) = false := beq_eq_false_iff_ne.mpr hc7
        (try (show wpAny _ _ _ _ _ _; k_fold))
        k_steps
        exact Stop.out ⟨rfl, _, _, _, _, rfl, fr_bc (by k_asm), (by k_asm)⟩
      case tE =>
        intro hpk ob oc h tk F8 N8
        (try (show wpAny _ _ _ _ _ _; k_fold))
        k_steps
        exact Stop.out ⟨rfl, _, _, _, _, _, _, _, _, rfl, (by k_asm), news_fe hpk (by k_asm)⟩
    | succ i =>
      have hi9 : ((((i + 1 : Nat) : Int)) == 0) = false := by rw [beq_eq_false_iff_ne]; omega
      refine inner_ind (P := PP (hd.heap_1 w.params)) (Fm := fun ob oc => fmM _ (.int mode t) _ _ ob oc) (fun p => decide (Builtin.bitAnd mode p.1 = p.1)) (Str.ofString "-") hR hoff ?tT ?tF ?tE _ _
      case tT =>
        intro p v ob oc oI h tk hP hc hpk F8 N8
        obtain ⟨a8, t8, u8, rfl, hk8⟩ := hP
        have hc7 := of_decide_eq_true hc
        have hc8 : (Builtin.bitAnd mode p.1 == p.1) = true := beq_iff_eq.mpr hc7
        (try (show wpAny _ _ _ _ _ _; k_fold))
        k_steps
        (try dsimp only)
        refine Stop.out ⟨rfl, ?_⟩
        (try (show wpAny _ _ _ _ _ _; k_fold))
        k_steps
        exact Stop.out ⟨rfl, _, _, _, _, _, _, _, _, rfl, fr_bc (by k_asm), news_fm hpk (by k_asm)⟩
      case tF =>
        intro p v ob oc oI h tk hP hc F8 N8
        obtain ⟨a8, t8, u8, rfl, hk8⟩ := hP
        have hc7 := of_decide_eq_false hc
        have hc8 : (Builtin.bitAnd mode p.1 == p.1) = false := beq_eq_false_iff_ne.mpr hc7
        (try (show wpAny _ _ _ _ _ _; k_fold))
        k_steps
        exact Stop.out ⟨rfl, _, _, _, _, rfl, fr_bc (by k_asm), (by k_asm)⟩
      case tE =>
        intro hpk ob oc h tk F8 N8
        (try (show wpAny _ _ _ _ _ _; k_fold))
        k_steps
        exact Stop.out ⟨rfl, _, _, _, _, _, _, _, _, rfl, (by k_asm), news_fe hpk (by k_asm)⟩
  case fin =>
    intro pv n oi ot ob oc h tk hS F9 N9
    (try (show wpAny _ _ _ _ _ _; k_fold))
    k_steps
    dsimp only [List.nil_append, List.cons_append, List.append_nil]
    k_dflt (refine' joinK ?N ?m hS ?x (row_fits mode) ?_; (case N => k_asm); (case m => k_mem); (case x => decide); k_whole; intro t' k')
    (try dsimp only)
    (try (show wpAny _ _ _ _ _ _; k_fold))
    k_steps
    exact hret _ _ _ (by k_asm) (news_keep N0 (gsub_keep GS' (by assumption)))
end
end
-- E5
section
abbrev lrM (md : Value) (row : Str) (tr : Tok) (o1 o2 o3 : Option Value) : Str → Option Value := fun y => if y = Str.ofString "last" then o3 else if y = Str.ofString "above" then o2 else if y = Str.ofString "run" then o1 else if y = Str.ofString "row" then some (.str row tr) else if y = Str.ofString "mode" then some md else none
theorem fr_lr {g h : Heap} {L : Addr} {md : Value} {row : Str} {tr : Tok} (F : Fr g L h (fun y => if y = Str.ofString "row" then some (.str row tr) else List.lookup y [(Str.ofString "mode", md)])) : Fr g L h (lrM md row tr none none none) := by
  have e : (fun y => if y = Str.ofString "row" then some (.str row tr) else List.lookup y [(Str.ofString "mode", md)]) = lrM md row tr none none none := by
    funext y
    by_cases h0 : y = Str.ofString "last"
    · subst h0; rfl
    · by_cases h1 : y = Str.ofString "above"
      · subst h1; rfl
      · by_cases h2 : y = Str.ofString "run"
        · subst h2; rfl
        · by_cases h4 : y = Str.ofString "row"
          · subst h4; rfl
          · by_cases h5 : y = Str.ofString "mode"
            · subst h5; rfl
            · simp only [lrM, h0, h1, h2, h4, h5, if_false]
              rw [List.lookup_cons, beq_eq_false_iff_ne.mpr h5]; rfl
  rw [e] at F; exact F
theorem fr_lt {g h : Heap} {L : Addr} {md : Value} {row row' : Str} {tr tr' : Tok} {o1 o2 o3 x1 x2 x3 : Option Value} (F : Fr g L h (fun y => if y = Str.ofString "row" then some (.str row' tr') else if y = Str.ofString "last" then x3 else if y = Str.ofString "above" then x2 else if y = Str.ofString "run" then x1 else lrM md row tr o1 o2 o3 y)) : Fr g L h (lrM md row' tr' x1 x2 x3) := by
  have e : (fun y => if y = Str.ofString "row" then some (.str row' tr') else if y = Str.ofString "last" then x3 else if y = Str.ofString "above" then x2 else if y = Str.ofString "run" then x1 else lrM md row tr o1 o2 o3 y) = lrM md row' tr' x1 x2 x3 := by
    funext y
    by_cases h0 : y = Str.ofString "row"
    · subst h0; rfl
    · by_cases h1 : y = Str.ofString "last"
      · subst h1; rfl
      · by_cases h2 : y = Str.ofString "above"
        · subst h2; rfl
        · by_cases h3 : y = Str.ofString "run"
          · subst h3; rfl
          · simp only [lrM, h0, h1, h2, h3, if_false]
  rw [e] at F; exact F
structure Triple where
  run : Int
  above : Int
  last : Str
def TrP (news : List (Addr × Obj)) (p : Triple) (v : Value) : Prop := (0 < p.run ∧ p.run < 100000) ∧ (0 < p.above ∧ p.above < 100000) ∧ p.last.length = 4 ∧ ∃ a t u x, v = .ref a ∧ (a, ({ cls := .type "tuple", data := .seq #[.int p.run t, .int p.above u, .str p.last x] } : Obj)) ∈ news
def trStep (mode : Int) (p : Triple) (row : Str) : Str := row ++ (Txt.item (Str.ofString "-r") (((mode.fdiv p.run).fdiv 4).fmod 2) ++ Txt.item (Str.ofString "-w") (((mode.fdiv p.run).fdiv 2).fmod 2) ++ Txt.item p.last ((mode.fdiv p.above).fmod 2 * 2 + (mode.fdiv p.run).fmod 2))
section
variable {prog : Program} {w : World} {A : Around} {E : Value → Shared → Prop} {s : Shared} {env : Env} {h₀ : Heap} {target : PySem.Expr} {body : List Stmt} {Q : Flow → Shared → Prop}
theorem row_ind {mode : Int} {md : Value} {I : Addr} {keep news : List (Addr × Obj)} (hkp : SubL keep news) (hoff : ∀ p ∈ news, p.1 ≠ I)
    (turn : ∀ p v row tr o1 o2 o3 oI h tk, TrP news p v → row.length ≤ 100 → Fr h₀ env.locals h (lrM md row tr o1 o2 o3) → News h₀ env.locals h ((I, oI) :: news) →
      wpAny (model prog w) A (assign target env v) (fun _ s₂ => wpAny (model prog w) A (execs body env) (fun fl s₃ => Stop (fl = .next ∧ ∃ h' tk' tr' x1 x2 x3, (trStep mode p row).length ≤ row.length + 3 ∧ s₃ = { s with heap := h', toks := tk' } ∧ Fr h₀ env.locals h' (lrM md (trStep mode p row) tr' x1 x2 x3) ∧ News h₀ env.locals h' ((I, oI) :: news))) E s₂) E { s with heap := h, toks := tk }) :
    ∀ (ps : List Triple) (vs : List Value), Rel2 (TrP news) ps vs → ∀ row tr o1 o2 o3, row.length + 3 * ps.length ≤ 100 →
      (∀ tr' x1 x2 x3 h tk, Fr h₀ env.locals h (lrM md (ps.foldl (fun r p => trStep mode p r) row) tr' x1 x2 x3) → News h₀ env.locals h news → Q .next { s with heap := h, toks := tk }) →
      ItemsRest prog w A E h₀ env target body Q s [(I, "tuple_iterator")] keep (vs.map .val) (lrM md row tr o1 o2 o3) news := by
  intro ps vs R
  induction R with
  | nil =>
    intro row tr o1 o2 o3 _ fin
    exact ItemsRest.zero fun h tk F N => fin tr o1 o2 o3 h tk F N
  | @cons p v ps vs hP r ih =>
    intro row tr o1 o2 o3 hl fin
    simp only [List.length_cons] at hl
    refine ItemsRest.val fun h tk F => AllObj.cons fun oI c1 => AllObj.nil fun N => ?_
    refine wpAny_mono (turn p v row tr o1 o2 o3 oI h tk hP (by omega) F N) (fun _ s₂ h₂ => wpAny_mono h₂ (fun fl s₃ h₃ => ?_) fun _ _ x => x) fun _ _ x => x
    obtain ⟨rfl, h', tk', tr', x1, x2, x3, hlen, e3, F3, N3⟩ := h₃
    exact ⟨h', tk', _, news, e3, F3, N3, fun p hp q hq => by rw [List.mem_singleton.mp hq]; exact hoff p hp, hkp, ih _ tr' x1 x2 x3 (by omega) fin⟩
end
def lrTab : List Triple := [⟨64, 2048, Str.ofString "-xSs"⟩, ⟨8, 1024, Str.ofString "-xSs"⟩, ⟨1, 512, Str.ofString "-xTt"⟩]
def lawRow (mode : Int) : Str := lrTab.foldl (fun r p => trStep mode p r) (Txt.item (Str.ofString "?pc?d?b?-?l?s???") (mode.fdiv 4096))
theorem itemK {prog : Program} {w : World} {A : Around} {E : Value → Shared → Prop} {s : Shared} {value slice : PySem.Expr} {x : Str} {t u : Tok} {i : Int} {n : Nat} {Q : Value → Shared → Prop} (hn : x.length = n) (h0 : 0 ≤ i) (h1 : i < (n : Int)) (hb : n ≤ 1000000) (hs : subscripted slice false (.str x t) (.int i u) = operate [.str x t, .int i u] (getItem (.str x t) (.int i u))) (ht : ∀ r, letTemporaryGo value (.str x t) r = pure ()) (h : ∀ t' k, (Txt.item x i).length = 1 → Q (.str (Txt.item x i) t') { s with toks := k }) : wpAny (model prog w) A (subscriptTail value slice (.str x t) (.int i u)) Q E s := by
  subst hn
  exact item_str (fitsSsize_of (N := 9223372036854775808) (by omega) (by omega) (Int.le_refl _)) (by omega) (by omega) (fun z => h _ _ (Nat.le_antisymm z.2 z.1)) hs ht
theorem kw23 : True := by
  k_with_none
  k_with "own all" => assumption
  k_with "exec If" => refine wpAny_If ?_
  k_with "truthy str" => refine P.truthy_str (by omega) ?_
  k_with "ite" => first | refine ite_pos (by with_reducible assumption) ?_ | refine ite_isFalse (by with_reducible assumption) ?_ | refine ite_neg (by with_reducible assumption) ?_
  k_with "pyIter ref" => refine Stop.mk ?_
  k_with "subscriptTail Constant BinOp str int" => (k_here; k_dflt (refine' itemK ?n9q ?a9q ?b9q ?z9q ?s9q ?t9q ?_; (case n9q => first | assumption | decide +kernel); (case a9q => assumption); (case b9q => assumption); (case z9q => decide); (case s9q => with_unfolding_all rfl); (case t9q => (intro _; with_unfolding_all rfl)); k_whole; intro t9k k9k hl9k))
  k_with "subscriptTail Name BinOp str int" => (k_here; k_dflt (refine' itemK ?n9q ?a9q ?b9q ?z9q ?s9q ?t9q ?_; (case n9q => first | assumption | decide +kernel); (case a9q => assumption); (case b9q => assumption); (case z9q => decide); (case s9q => with_unfolding_all rfl); (case t9q => (intro _; with_unfolding_all rfl)); k_whole; intro t9k k9k hl9k))
  k_with "binaryOp FloorDiv int int" => (refine floordiv_int (by first | assumption | decide) ?_ (Or.inl (PyProof.noPylong_small (by first | assumption | decide))))
  k_with "binaryOp Mod int int" => (refine mod_int' (by first | assumption | decide) ?_)
  k_with "binaryOp Mult int int" => (refine PyProof.Rows.mul_int ?_ (PySem.IntMulOk.of_right (by decide)))
  k_with "binaryOp Add int int" => (refine PyProof.Rows.add_int ?_)
  k_with "execs nil" => ((with_reducible refine wpAny_execs_nil ?_); try dsimp only)
  k_with "own mem" => (refine mem_of ?_; with_reducible assumption)
  k_with "execs cons" => ((with_reducible refine wpAny_execs_cons ?_); (try dsimp only); (try k_fold))
  k_with "own ne" => (refine neN ?_; (try dsimp only); first | with_reducible assumption | (refine Ne.symm ?_; with_reducible assumption) | (refine Nat.ne_of_lt ?_; first | with_reducible assumption | with_reducible exact And.left (by with_reducible assumption) | with_reducible exact And.left (And.right (by with_reducible assumption)) | with_reducible exact And.left (And.right (And.right (by with_reducible assumption))) | with_reducible exact And.left (And.right (And.right (And.right (by with_reducible assumption)))) | with_reducible exact And.left (And.right (And.right (And.right (And.right (by with_reducible assumption))))) | with_reducible exact And.left (And.right (And.right (And.right (And.right (And.right (by with_reducible assumption)))))) | with_reducible exact And.left (And.right (And.right (And.right (And.right (And.right (And.right (by with_reducible assumption))))))) | with_reducible exact And.left (And.right (And.right (And.right (And.right (And.right (And.right (And.right (by with_reducible assumption)))))))) | with_reducible exact And.left (And.right (And.right (And.right (And.right (And.right (And.right (And.right (And.right (by with_reducible assumption))))))))) | with_reducible exact And.right (by with_reducible assumption) | with_reducible exact And.right (And.right (by with_reducible assumption)) | with_reducible exact And.right (And.right (And.right (by with_reducible assumption))) | with_reducible exact And.right (And.right (And.right (And.right (by with_reducible assumption)))) | with_reducible exact And.right (And.right (And.right (And.right (And.right (by with_reducible assumption))))) | with_reducible exact And.right (And.right (And.right (And.right (And.right (And.right (by with_reducible assumption)))))) | with_reducible exact And.right (And.right (And.right (And.right (And.right (And.right (And.right (by with_reducible assumption))))))) | with_reducible exact And.right (And.right (And.right (And.right (And.right (And.right (And.right (And.right (by with_reducible assumption))))))))) | (refine Nat.ne_of_gt ?_; first | with_reducible assumption | with_reducible exact And.left (by with_reducible assumption) | with_reducible exact And.left (And.right (by with_reducible assumption)) | with_reducible exact And.left (And.right (And.right (by with_reducible assumption))) | with_reducible exact And.left (And.right (And.right (And.right (by with_reducible assumption)))) | with_reducible exact And.left (And.right (And.right (And.right (And.right (by with_reducible assumption))))) | with_reducible exact And.left (And.right (And.right (And.right (And.right (And.right (by with_reducible assumption)))))) | with_reducible exact And.left (And.right (And.right (And.right (And.right (And.right (And.right (by with_reducible assumption))))))) | with_reducible exact And.left (And.right (And.right (And.right (And.right (And.right (And.right (And.right (by with_reducible assumption)))))))) | with_reducible exact And.left (And.right (And.right (And.right (And.right (And.right (And.right (And.right (And.right (by with_reducible assumption))))))))) | with_reducible exact And.right (by with_reducible assumption) | with_reducible exact And.right (And.right (by with_reducible assumption)) | with_reducible exact And.right (And.right (And.right (by with_reducible assumption))) | with_reducible exact And.right (And.right (And.right (And.right (by with_reducible assumption)))) | with_reducible exact And.right (And.right (And.right (And.right (And.right (by with_reducible assumption))))) | with_reducible exact And.right (And.right (And.right (And.right (And.right (And.right (by with_reducible assumption)))))) | with_reducible exact And.right (And.right (And.right (And.right (And.right (And.right (And.right (by with_reducible assumption))))))) | with_reducible exact And.right (And.right (And.right (And.right (And.right (And.right (And.right (And.right (by with_reducible assumption))))))))))
  trivial
section
variable {w : World} {mean : ExcName → Option Value} {mg mb : Str → Option Value} {dp un : Nat} {gd : Option (List Code)} {cn : Str} {cs : Scope} {a : Addr} {ccd : Value} {cl : List (Str × Addr)} {outer : List Env} {A₀ : Around} {base h₀ : Heap} {L : Addr} {m : Str → Option Value} {s : Shared} {Q E : Value → Shared → Prop}
theorem lr_c {mode : Int} {t : Tok} {news : List (Addr × Obj)} (B : Below A₀ base outer h₀) (F : Fr h₀ L s.heap m) (X : (hd.heap_1 w.params).In h₀) (T : Top q (looseW q loose) mean mg mb h₀) (hk : cs.kind = .function) (hdp : dp + 4 < recursionLimit) (hun : un + 30 < cLine) (N0 : News h₀ L s.heap news) (h0 : 0 ≤ mode) (h1 : mode < 65536)
    (hret : ∀ t' h' tk', Fr h₀ L h' m → News h₀ L h' news → Q (.str (lawRow mode) t') { s with heap := h', toks := tk' }) :
    wpAny (model PySem.Challenge.pw_om0186_01 w) (ktrTop dp un gd cn cs L a ccd cl outer) (call (.ref 933) [.int mode t]) Q E s := by
  w_on
  have N : News h₀ L s.heap [] := News.nil
  have q0 : 0 ≤ mode.fdiv 4096 := by rw [Int.fdiv_eq_ediv_of_nonneg _ (by decide)]; omega
  have q9 : mode.fdiv 4096 < ((16 : Nat) : Int) := by rw [Int.fdiv_eq_ediv_of_nonneg _ (by decide)]; omega
  refine wpAny_call ?_
  k_dflt (refine' code_defG ?k1 ?k2 ?k3 N ?k5 ?kA ?kF ?kK ?k6 ?k7 ?k8 ?k9 ?kB ?_ ?c2 ?c3 ?c4 ?c5; (case kA => exact rfl); (case kF => exact rfl); (case kK => assumption); (case k1 => k_asm); (case k2 => k_asm); (case k3 => k_asm); (case k5 => k_asm); (case k6 => k_is); (case k7 => k_is); (case k8 => ktr_room); (case k9 => first | exact BindsTo.of_eq rfl | exact binds_K (by k_in) rfl (by k_is) rfl rfl rfl); (case c5 => decide); (case kB => exact locs rfl); (case c2 => exact rfl); (case c3 => exact rfl); (case c4 => exact rfl); k_whole; intro g' L' h' FG' F' N' B' X' T' GS'; (try dsimp only); (try k_fold))
  (try (show wpAny _ _ _ _ _ _; k_fold))
  k_steps
  refine Stop.out ?_
  (rename Fr _ _ _ _ => lF')
  replace lF' := fr_lr lF'
  refine iter_tupTurns (vs := [_, _, _]) rfl lF' (by k_asm) (by k_mem) rfl rfl ?_
  intro I hI
  have hoff := fun p hp => Nat.ne_of_lt (hI p hp)
  k_lt hI
  refine row_ind (mode := mode) ?kp hoff ?turn lrTab _ ?rel _ _ _ _ _ ?len ?fin
  case kp => exact And.intro (by k_mem) trivial
  case rel => exact .cons ⟨by decide, by decide, by decide +kernel, _, _, _, _, rfl, by k_mem⟩ (.cons ⟨by decide, by decide, by decide +kernel, _, _, _, _, rfl, by k_mem⟩ (.cons ⟨by decide, by decide, by decide +kernel, _, _, _, _, rfl, by k_mem⟩ .nil))
  case len =>
    have e9 : (Txt.item (Str.ofString "?pc?d?b?-?l?s???") (mode.fdiv 4096)).length = 1 := by assumption
    rw [e9]
    decide
  case turn =>
    intro p v row tr o1 o2 o3 oI h tk hP hrow F9 N9
    obtain ⟨p1, p2, p3, a9, t9, u9, x9, rfl, hm9⟩ := hP
    have q1 : p.run ≠ 0 := by omega
    have q2 : p.run.natAbs < 1073741824 := by omega
    have q3 : p.above ≠ 0 := by omega
    have q4 : p.above.natAbs < 1073741824 := by omega
    have a1 := Int.fmod_nonneg_of_pos ((mode.fdiv p.run).fdiv 4) (by decide : (0 : Int) < 2)
    have a2 : ((mode.fdiv p.run).fdiv 4).fmod 2 < ((2 : Nat) : Int) := Int.fmod_lt_of_pos _ (by decide : (0 : Int) < 2)
    have a3 := Int.fmod_nonneg_of_pos ((mode.fdiv p.run).fdiv 2) (by decide : (0 : Int) < 2)
    have a4 : ((mode.fdiv p.run).fdiv 2).fmod 2 < ((2 : Nat) : Int) := Int.fmod_lt_of_pos _ (by decide : (0 : Int) < 2)
    have b1 := Int.fmod_nonneg_of_pos (mode.fdiv p.above) (by decide : (0 : Int) < 2)
    have b2 : (mode.fdiv p.above).fmod 2 < 2 := Int.fmod_lt_of_pos _ (by decide : (0 : Int) < 2)
    have b3 := Int.fmod_nonneg_of_pos (mode.fdiv p.run) (by decide : (0 : Int) < 2)
    have b4 : (mode.fdiv p.run).fmod 2 < 2 := Int.fmod_lt_of_pos _ (by decide : (0 : Int) < 2)
    have a5 : 0 ≤ (mode.fdiv p.above).fmod 2 * 2 + (mode.fdiv p.run).fmod 2 := by omega
    have a6 : (mode.fdiv p.above).fmod 2 * 2 + (mode.fdiv p.run).fmod 2 < ((4 : Nat) : Int) := by omega
    clear b1 b2 b3 b4
    (try (show wpAny _ _ _ _ _ _; k_fold))
    k_steps
    have hlen9 : (trStep mode p row).length ≤ row.length + 3 := by
      unfold trStep
      simp only [Str.length_append, len_item]
      omega
    exact Stop.out ⟨rfl, _, _, _, _, _, _, hlen9, rfl, fr_lt (by k_asm), (by k_asm)⟩
  case fin =>
    intro tr x1 x2 x3 h tk F9 N9
    (try (show wpAny _ _ _ _ _ _; k_fold))
    k_steps
    exact hret _ _ _ (by k_asm) (news_keep N0 (gsub_keep GS' (by assumption)))
end
end
-- E6
section
theorem kw24 : True := by
  k_with_none
  k_with "own all" => assumption
  k_with "exec If" => refine wpAny_If ?_
  k_with "truthy str" => refine P.truthy_str (by omega) ?_
  k_with "ite" => first | refine ite_pos (by with_reducible assumption) ?_ | refine ite_isFalse (by with_reducible assumption) ?_ | refine ite_neg (by with_reducible assumption) ?_
  k_with "subscriptTail Constant BinOp str int" => (k_here; k_dflt (refine' itemK ?n9q ?a9q ?b9q ?z9q ?s9q ?t9q ?_; (case n9q => first | assumption | decide +kernel); (case a9q => assumption); (case b9q => assumption); (case z9q => decide); (case s9q => with_unfolding_all rfl); (case t9q => (intro _; with_unfolding_all rfl)); k_whole; intro t9k k9k hl9k))
  k_with "subscriptTail Name BinOp str int" => (k_here; k_dflt (refine' itemK ?n9q ?a9q ?b9q ?z9q ?s9q ?t9q ?_; (case n9q => first | assumption | decide +kernel); (case a9q => assumption); (case b9q => assumption); (case z9q => decide); (case s9q => with_unfolding_all rfl); (case t9q => (intro _; with_unfolding_all rfl)); k_whole; intro t9k k9k hl9k))
  k_with "binaryOp FloorDiv int int" => (refine floordiv_int (by first | assumption | decide) ?_ (Or.inl (PyProof.noPylong_small (by first | assumption | decide))))
  k_with "binaryOp Mod int int" => (refine mod_int' (by first | assumption | decide) ?_)
  k_with "binaryOp Mult int int" => (refine PyProof.Rows.mul_int ?_ (PySem.IntMulOk.of_right (by decide)))
  k_with "binaryOp Add int int" => (refine PyProof.Rows.add_int ?_)
  k_with "execs nil" => ((with_reducible refine wpAny_execs_nil ?_); try dsimp only)
  k_with "execs cons" => ((with_reducible refine wpAny_execs_cons ?_); (try dsimp only); (try k_fold))
  k_with "own ne" => (refine neN ?_; (try dsimp only); first | with_reducible assumption | (refine Ne.symm ?_; with_reducible assumption) | (refine Nat.ne_of_lt ?_; first | with_reducible assumption | with_reducible exact And.left (by with_reducible assumption) | with_reducible exact And.left (And.right (by with_reducible assumption)) | with_reducible exact And.left (And.right (And.right (by with_reducible assumption))) | with_reducible exact And.left (And.right (And.right (And.right (by with_reducible assumption)))) | with_reducible exact And.left (And.right (And.right (And.right (And.right (by with_reducible assumption))))) | with_reducible exact And.left (And.right (And.right (And.right (And.right (And.right (by with_reducible assumption)))))) | with_reducible exact And.left (And.right (And.right (And.right (And.right (And.right (And.right (by with_reducible assumption))))))) | with_reducible exact And.left (And.right (And.right (And.right (And.right (And.right (And.right (And.right (by with_reducible assumption)))))))) | with_reducible exact And.left (And.right (And.right (And.right (And.right (And.right (And.right (And.right (And.right (by with_reducible assumption))))))))) | with_reducible exact And.right (by with_reducible assumption) | with_reducible exact And.right (And.right (by with_reducible assumption)) | with_reducible exact And.right (And.right (And.right (by with_reducible assumption))) | with_reducible exact And.right (And.right (And.right (And.right (by with_reducible assumption)))) | with_reducible exact And.right (And.right (And.right (And.right (And.right (by with_reducible assumption))))) | with_reducible exact And.right (And.right (And.right (And.right (And.right (And.right (by with_reducible assumption)))))) | with_reducible exact And.right (And.right (And.right (And.right (And.right (And.right (And.right (by with_reducible assumption))))))) | with_reducible exact And.right (And.right (And.right (And.right (And.right (And.right (And.right (And.right (by with_reducible assumption))))))))) | (refine Nat.ne_of_gt ?_; first | with_reducible assumption | with_reducible exact And.left (by with_reducible assumption) | with_reducible exact And.left (And.right (by with_reducible assumption)) | with_reducible exact And.left (And.right (And.right (by with_reducible assumption))) | with_reducible exact And.left (And.right (And.right (And.right (by with_reducible assumption)))) | with_reducible exact And.left (And.right (And.right (And.right (And.right (by with_reducible assumption))))) | with_reducible exact And.left (And.right (And.right (And.right (And.right (And.right (by with_reducible assumption)))))) | with_reducible exact And.left (And.right (And.right (And.right (And.right (And.right (And.right (by with_reducible assumption))))))) | with_reducible exact And.left (And.right (And.right (And.right (And.right (And.right (And.right (And.right (by with_reducible assumption)))))))) | with_reducible exact And.left (And.right (And.right (And.right (And.right (And.right (And.right (And.right (And.right (by with_reducible assumption))))))))) | with_reducible exact And.right (by with_reducible assumption) | with_reducible exact And.right (And.right (by with_reducible assumption)) | with_reducible exact And.right (And.right (And.right (by with_reducible assumption))) | with_reducible exact And.right (And.right (And.right (And.right (by with_reducible assumption)))) | with_reducible exact And.right (And.right (And.right (And.right (And.right (by with_reducible assumption))))) | with_reducible exact And.right (And.right (And.right (And.right (And.right (And.right (by with_reducible assumption)))))) | with_reducible exact And.right (And.right (And.right (And.right (And.right (And.right (And.right (by with_reducible assumption))))))) | with_reducible exact And.right (And.right (And.right (And.right (And.right (And.right (And.right (And.right (by with_reducible assumption))))))))))
  trivial
def lawMode (x : Int) : Int := (if (x.fmod 2 == 1) = true then (x.fdiv 2).fmod 16 else 4) * 4096 + (64 + x.fdiv 32).fmod 4096
theorem lawMode_lo (x : Int) : 0 ≤ lawMode x ∧ lawMode x < 65536 := by
  have a1 := Int.fmod_nonneg_of_pos (x.fdiv 2) (by decide : (0 : Int) < 16)
  have a2 := Int.fmod_lt_of_pos (x.fdiv 2) (by decide : (0 : Int) < 16)
  have b1 := Int.fmod_nonneg_of_pos (64 + x.fdiv 32) (by decide : (0 : Int) < 4096)
  have b2 := Int.fmod_lt_of_pos (64 + x.fdiv 32) (by decide : (0 : Int) < 4096)
  unfold lawMode
  split <;> omega
section
variable {w : World} {mean : ExcName → Option Value} {mg mb : Str → Option Value} {dp un : Nat} {gd : Option (List Code)} {cn : Str} {cs : Scope} {a : Addr} {ccd : Value} {cl : List (Str × Addr)} {outer : List Env} {A₀ : Around} {base h₀ : Heap} {L : Addr} {m : Str → Option Value} {s : Shared} {Q E : Value → Shared → Prop}
theorem lm_c {x : Int} {t : Tok} {news : List (Addr × Obj)} (B : Below A₀ base outer h₀) (F : Fr h₀ L s.heap m) (X : (hd.heap_1 w.params).In h₀) (T : Top q (looseW q loose) mean mg mb h₀) (hk : cs.kind = .function) (hdp : dp + 4 < recursionLimit) (hun : un + 30 < cLine) (N0 : News h₀ L s.heap news)
    (hret : ∀ t' h' tk', Fr h₀ L h' m → News h₀ L h' news → Q (.int (lawMode x) t') { s with heap := h', toks := tk' }) :
    wpAny (model PySem.Challenge.pw_om0186_01 w) (ktrTop dp un gd cn cs L a ccd cl outer) (call (.ref 940) [.int x t]) Q E s := by
  w_on
  have N : News h₀ L s.heap [] := News.nil
  cases hb : (x.fmod 2 == 1) with
  | true =>
    have hv : lawMode x = (x.fdiv 2).fmod 16 * 4096 + (64 + x.fdiv 32).fmod 4096 := by unfold lawMode; rw [if_pos hb]
    rw [hv] at hret
    refine wpAny_call ?_
    k_dflt (refine' code_defG ?k1 ?k2 ?k3 N ?k5 ?kA ?kF ?kK ?k6 ?k7 ?k8 ?k9 ?kB ?_ ?c2 ?c3 ?c4 ?c5; (case kA => exact rfl); (case kF => exact rfl); (case kK => assumption); (case k1 => k_asm); (case k2 => k_asm); (case k3 => k_asm); (case k5 => k_asm); (case k6 => k_is); (case k7 => k_is); (case k8 => ktr_room); (case k9 => first | exact BindsTo.of_eq rfl | exact binds_K (by k_in) rfl (by k_is) rfl rfl rfl); (case c5 => decide); (case kB => exact locs rfl); (case c2 => exact rfl); (case c3 => exact rfl); (case c4 => exact rfl); k_whole; intro g' L' h' FG' F' N' B' X' T' GS'; (try dsimp only); (try k_fold))
    (try (show wpAny _ _ _ _ _ _; k_fold))
    k_steps
    exact hret _ _ _ (by k_asm) (news_keep N0 (gsub_keep GS' (by assumption)))
  | false =>
    have hv : lawMode x = 4 * 4096 + (64 + x.fdiv 32).fmod 4096 := by unfold lawMode; rw [if_neg (by rw [hb]; exact Bool.false_ne_true)]
    rw [hv] at hret
    refine wpAny_call ?_
    k_dflt (refine' code_defG ?k1 ?k2 ?k3 N ?k5 ?kA ?kF ?kK ?k6 ?k7 ?k8 ?k9 ?kB ?_ ?c2 ?c3 ?c4 ?c5; (case kA => exact rfl); (case kF => exact rfl); (case kK => assumption); (case k1 => k_asm); (case k2 => k_asm); (case k3 => k_asm); (case k5 => k_asm); (case k6 => k_is); (case k7 => k_is); (case k8 => ktr_room); (case k9 => first | exact BindsTo.of_eq rfl | exact binds_K (by k_in) rfl (by k_is) rfl rfl rfl); (case c5 => decide); (case kB => exact locs rfl); (case c2 => exact rfl); (case c3 => exact rfl); (case c4 => exact rfl); k_whole; intro g' L' h' FG' F' N' B' X' T' GS'; (try dsimp only); (try k_fold))
    (try (show wpAny _ _ _ _ _ _; k_fold))
    k_steps
    exact hret _ _ _ (by k_asm) (news_keep N0 (gsub_keep GS' (by assumption)))
end
end
-- T0
section
theorem lenK {prog : Program} {w : World} {A : Around} {E : Value → Shared → Prop} {s : Shared} {h₀ : Heap} {L l : Addr} {news : List (Addr × Obj)} {vs : List Value} {n k : Nat} {Q : Value → Shared → Prop} (N : News h₀ L s.heap news) (hm : (l, listOf vs.toArray n) ∈ news) (e : vs.length = k) (hk : k < 1000000) (h : ∀ t' k', Q (.int (k : Int) t') { s with toks := k' }) : wpAny (model prog w) A (call (.builtin "len") [.ref l]) Q E s := by
  subst e
  exact len_list (News.isList N hm) (by simp; omega) (by simpa using h _ _)
section
variable {prog : Program} {w : World} {A : Around} {E : Value → Shared → Prop} {s : Shared} {env : Env} {h₀ : Heap} {x : Str} {body : List Stmt} {Q : Flow → Shared → Prop}
theorem range_ind {I : Addr} {a : Int} {n : Nat} (J : Nat → (Str → Option Value) → List (Addr × Obj) → Prop)
    (turn : ∀ i m news t it h tk, i < n → J i m news → Fr h₀ env.locals h (fun y => if y = x then some (.int (a + (i : Int)) t) else m y) → News h₀ env.locals h ((I, it) :: news) →
      wpAny (model prog w) A (execs body env) (fun f s₃ => Stop (f = .next ∧ ∃ h' tk' m' news', s₃ = { s with heap := h', toks := tk' } ∧ Fr h₀ env.locals h' m' ∧ News h₀ env.locals h' ((I, it) :: news') ∧ (∀ p ∈ news', p.1 ≠ I) ∧ J (i + 1) m' news')) E { s with heap := h, toks := tk })
    (fin : ∀ m news h tk, J n m news → Fr h₀ env.locals h m → News h₀ env.locals h news → Q .next { s with heap := h, toks := tk }) :
    ∀ m news, J 0 m news → RangeRest prog w A E h₀ env x body Q s I a n n 0 m news := by
  have key : ∀ (j i : Nat), i + j = n → ∀ m news, J i m news → RangeRest prog w A E h₀ env x body Q s I a n j i m news := by
    intro j
    induction j with
    | zero =>
      intro i hi m news hJ
      have e : i = n := by omega
      subst e
      exact RangeRest.zero fun h tk F N => fin m news h tk hJ F N
    | succ j ih =>
      intro i hi m news hJ
      refine RangeRest.succ fun t h tk F N => ?_
      refine wpAny_mono (turn i m news t _ h tk (by omega) hJ F N) (fun f s₃ h₃ => ?_) fun _ _ e => e
      obtain ⟨rfl, h', tk', m', news', e3, F3, N3, off, hJ'⟩ := h₃
      exact ⟨h', tk', m', news', e3, F3, N3, off, ih (i + 1) (by omega) m' news' hJ'⟩
  exact fun m news hJ => key n 0 (by omega) m news hJ
end
def nmL (i : Nat) : Str := if i = 0 then Str.ofString "top" else ⟨#[96 + i]⟩
def nmU (i : Nat) : Str := if i = 0 then Str.ofString "TOP" else ⟨#[64 + i]⟩
theorem upto {P : Nat → Bool} (h : (List.range 9).all P = true) {i : Nat} (hi : i ≤ 8) : P i = true := List.all_eq_true.mp h i (List.mem_range.mpr (by omega))
theorem nm_up {i : Nat} (hi : i ≤ 8) : Txt.upper (nmL i) = nmU i := eq_of_beq (upto (P := fun i => Txt.upper (nmL i) == nmU i) (by decide +kernel) hi)
theorem nm_lo {i : Nat} (hi : i ≤ 8) : Txt.lower (nmL i) = nmL i := eq_of_beq (upto (P := fun i => Txt.lower (nmL i) == nmL i) (by decide +kernel) hi)
theorem nm_ul {i : Nat} (hi : i ≤ 8) : Txt.lower (nmU i) = nmL i := eq_of_beq (upto (P := fun i => Txt.lower (nmU i) == nmL i) (by decide +kernel) hi)
def txtB (x : Str) : Bool := x.cps.toList.all fun c => decide (32 ≤ c) && decide (c < 127)
theorem txtB_ok {x : Str} (h : txtB x = true) : txtOk x := fun c hc => by
  have := List.all_eq_true.mp h c hc
  rw [Bool.and_eq_true] at this
  exact ⟨of_decide_eq_true this.1, of_decide_eq_true this.2⟩
theorem nm_t1 {i : Nat} (hi : i ≤ 8) : txtOk (nmL i) := txtB_ok (upto (P := fun i => txtB (nmL i)) (by decide +kernel) hi)
theorem nm_t2 {i : Nat} (hi : i ≤ 8) : txtOk (nmU i) := txtB_ok (upto (P := fun i => txtB (nmU i)) (by decide +kernel) hi)
theorem nm_l1 {i : Nat} (hi : i ≤ 8) : (nmL i).length ≤ 3 := of_decide_eq_true (upto (P := fun i => decide ((nmL i).length ≤ 3)) (by decide +kernel) hi)
theorem nm_l2 {i : Nat} (hi : i ≤ 8) : (nmU i).length ≤ 3 := of_decide_eq_true (upto (P := fun i => decide ((nmU i).length ≤ 3)) (by decide +kernel) hi)
theorem nm_inj {i j : Nat} (hi : i ≤ 8) (hj : j ≤ 8) : (nmL i == nmL j) = decide (i = j) := eq_of_beq (upto (P := fun i => (nmL i == nmL j) == decide (i = j)) (List.all_eq_true.mpr fun k hk => upto (P := fun j => (nmL k == nmL j) == decide (k = j)) (List.all_eq_true.mp (by decide +kernel : (List.range 9).all (fun k => (List.range 9).all fun j => (nmL k == nmL j) == decide (k = j)) = true) k hk) hj) hi)
/-- one row of the table -/
def tabAt (par : Nat → Nat) (rowS : Nat → Str) (k : Nat) : Str × Str := (if k % 2 = 1 then nmU (par k) else nmL (par k), Str.empty ++ ⟨#[97 + k]⟩ ++ Str.ofString "=\"" ++ rowS k ++ Str.ofString "\"")
def tabOf (par : Nat → Nat) (rowS : Nat → Str) (n : Nat) : List (Str × Str) := (List.range n).map (tabAt par rowS)
def TabR (news : List (Addr × Obj)) (tab : List (Str × Str)) (items : List Value) : Prop := Rel2 (fun (p : Str × Str) v => ∃ a t u, v = .ref a ∧ (a, tupO [.str p.1 t, .str p.2 u]) ∈ news) tab items
def rowOk (r : Str) : Prop := r.length = 10 ∧ 92 ∉ r.cps.toList ∧ 34 ∉ r.cps.toList ∧ txtOk r
abbrev ltM (nl pl rl tb : Addr) (ok on : Option Value) : Str → Option Value := fun y => if y = Str.ofString "name" then on else if y = Str.ofString "k" then ok else if y = Str.ofString "table" then some (.ref tb) else if y = Str.ofString "rows" then some (.ref rl) else if y = Str.ofString "parents" then some (.ref pl) else if y = Str.ofString "names" then some (.ref nl) else none
theorem fr_lt0 {g h : Heap} {L nl pl rl tb : Addr} (F : Fr g L h (fun y => if y = Str.ofString "table" then some (.ref tb) else List.lookup y [(Str.ofString "rows", .ref rl), (Str.ofString "parents", .ref pl), (Str.ofString "names", .ref nl)])) : Fr g L h (ltM nl pl rl tb none none) := by
  have e : (fun y => if y = Str.ofString "table" then some (Value.ref tb) else List.lookup y [(Str.ofString "rows", .ref rl), (Str.ofString "parents", .ref pl), (Str.ofString "names", .ref nl)]) = ltM nl pl rl tb none none := by
    funext y
    by_cases h0 : y = Str.ofString "name"
    · subst h0; rfl
    · by_cases h1 : y = Str.ofString "k"
      · subst h1; rfl
      · by_cases h2 : y = Str.ofString "table"
        · subst h2; rfl
        · by_cases h3 : y = Str.ofString "rows"
          · subst h3; rfl
          · by_cases h4 : y = Str.ofString "parents"
            · subst h4; rfl
            · by_cases h5 : y = Str.ofString "names"
              · subst h5; rfl
              · simp only [ltM, h0, h1, h2, h3, h4, h5, if_false]
                rw [List.lookup_cons, beq_eq_false_iff_ne.mpr h3, List.lookup_cons, beq_eq_false_iff_ne.mpr h4, List.lookup_cons, beq_eq_false_iff_ne.mpr h5]; rfl
  rw [e] at F; exact F
theorem fr_lt1 {g h : Heap} {L nl pl rl tb : Addr} {ok on xk xn : Option Value} (F : Fr g L h (fun y => if y = Str.ofString "name" then xn else if y = Str.ofString "k" then xk else ltM nl pl rl tb ok on y)) : Fr g L h (ltM nl pl rl tb xk xn) := by
  have e : (fun y => if y = Str.ofString "name" then xn else if y = Str.ofString "k" then xk else ltM nl pl rl tb ok on y) = ltM nl pl rl tb xk xn := by
    funext y
    by_cases h1 : y = Str.ofString "name"
    · subst h1; rfl
    · by_cases h2 : y = Str.ofString "k"
      · subst h2; rfl
      · simp only [ltM, h1, h2, if_false]
  rw [e] at F; exact F
end
-- X1
section
abbrev emD : Obj := { cls := .type "dict", data := .dict #[] }
theorem isStr_self (k : Str) (t : Tok) : Value.isStrOf k (.str k t) = true := by simp [Value.isStrOf]
theorem sub_dict_self : isSubtype (.type "dict") (.type "dict") = pure true := by rw [isSubtype_type]; kernel_rfl
section
variable {prog : Program} {w : World} {A : Around} {E : Value → Shared → Prop} {s : Shared} {env : Env}
theorem dict0 {h : Heap} {d : Addr} (e : h.get? d = some emD) : h.DictOf (PySem.strKind prog w) d [] :=
  ⟨_, #[], 0, e, ⟨rfl, rfl, rfl⟩, rfl, fun _ h => by simp at h, .nil, List.nodup_nil⟩
theorem dict1 {ke ve : PySem.Expr} {pos : Pos} {Q : Value → Shared → Prop}
    (h : wpAny (model prog w) A (eval ke env) (fun kv s₁ => wpAny (model prog w) A (eval ve env) (fun vv s₂ => ∃ k t, kv = .str k t ∧ s₂.heap.get? s.heap.objs.size = some emD ∧
      ∀ h' tk, h'.DictOf (PySem.strKind prog w) s.heap.objs.size [(k, vv)] → Heap.SameBut s.heap.objs.size s₂.heap h' → Q (.ref s.heap.objs.size) { s₂ with heap := h', toks := tk }) E s₁) E { s with heap := s.heap.push emD }) :
    wpAny (model prog w) A (eval (.Dict [some ke] [ve] pos) env) Q E s := by
  refine wpAny_Dict_any rfl rfl (List.cons_ne_nil _ _) (by show 1 ≤ 15; decide) ?_
  refine evalPairs_cons ?_
  refine wpAny_mono h (fun kv s₁ h₁ => wpAny_bind (wpAny_mono h₁ (fun vv s₂ h₂ => wpAny_bind (wpAny_standAt (wpAny_pure (evalPairs_nil ?_)))) fun _ _ x => x)) fun _ _ x => x
  obtain ⟨k, t, rfl, hd, hq⟩ := h₂
  unfold storeAll
  rw [List.forIn_cons]
  refine wpAny_bind (wpAny_bind (wpAny_dictSet_pairs (knd := PySem.strKind prog w) (k := k) (isStr_self k t) (dict0 hd) (fun h' hm hs => wpAny_pure ?_)))
  show wpAny _ _ (forIn [] _ _) _ _ _
  rw [List.forIn_nil]
  exact wpAny_pure (hq _ _ hm hs)
theorem merge1 {d a : Addr} {k : Str} {v : Value} {Q : Unit → Shared → Prop} (hne : d ≠ a) (hsys : (a == sysModules) = false) (hd : s.heap.get? d = some emD) (ha : s.heap.DictOf (PySem.strKind prog w) a [(k, v)])
    (h : ∀ h', h'.DictOf (PySem.strKind prog w) d [(k, v)] → Heap.SameBut d s.heap h' → Q () { s with heap := h' }) : wpAny (model prog w) A (mergeMapping d (.ref a) true) Q E s := by
  obtain ⟨o, es, ep, ho, hc, hda, hk, hp, hn⟩ := ha
  obtain ⟨l⟩ := es
  replace hp : Pairs (PySem.strKind prog w) l [(k, v)] := hp
  cases hp with
  | @cons e kv es kvs h1 h2 h3 =>
  cases h3
  obtain ⟨t, hkey⟩ := Value.isStrOf_shape h1
  obtain ⟨k', hk1, hk2⟩ := hk e (by simp)
  have ekk : k' = k := Value.isStrOf_inj _ _ _ hk1 h1
  subst ekk
  obtain ⟨eh, ek, ev⟩ := e
  dsimp only at hkey h2 hk2
  subst hkey h2 hk2
  have hT : s.TypeIs (.ref a) "dict" := ⟨o, ho, hc.1⟩
  unfold mergeMapping
  (try dsimp only)
  refine wpAny_bind (m := isInstance (.ref a) (.type "dict")) (wpAny_isInstance hT sub_dict_self ?_)
  rw [if_pos rfl]
  refine wpAny_bind (m := specialOf (.ref a) (Str.ofString "__iter__")) (wpAny_specialOf hT F.slot_dict_iter.lookup ?_)
  refine wpAny_bind (wpAny_pure ?_)
  show wpAny _ _ (if (a == sysModules) = true then _ else _) _ _ _
  rw [if_neg (by rw [hsys]; exact Bool.false_ne_true)]
  refine wpAny_bind (m := dictEntries d) (wpAny_dictEntries hd rfl ?_)
  rw [if_pos (show (#[] : Array DictEntry).isEmpty = true from rfl)]
  refine wpAny_bind (m := dictEntries a) (wpAny_dictEntries ho hda ?_)
  simp only [List.forIn_toArray, List.forIn_cons, List.forIn_nil]
  refine wpAny_bind (wpAny_bind (wpAny_pure (wpAny_pure ?_)))
  refine wpAny_bind (m := dictEntries a) (wpAny_dictEntries ho hda ?_)
  have ep1 : ∀ {s' : Shared} {Q' : Nat → Shared → Prop}, s'.heap.get? a = some o → Q' ep s' → wpAny (model prog w) A (dictEpoch a) Q' E s' := by
    intro s' Q' ho' hq'
    unfold dictEpoch
    refine wpAny_bind (wpAny_loadPart ho' ?_)
    rw [hda]
    exact wpAny_pure hq'
  refine wpAny_bind (m := dictEpoch a) (ep1 ho ?_)
  show wpAny _ _ (forIn [0] _ _ >>= _) _ _ _
  simp only [List.forIn_cons, List.forIn_nil]
  refine wpAny_bind (wpAny_bind ?_)
  refine wpAny_bind (m := dictEntries a) (wpAny_dictEntries ho hda ?_)
  show wpAny _ _ (holding _ _ >>= _) _ _ _
  refine wpAny_bind (wpAny_holding ?_)
  rw [if_pos trivial]
  have hke : KeysOf (PySem.strKind prog w) #[] := fun _ h => by simp at h
  have fd : ∀ {Q' : Option Nat → Shared → Prop}, Q' none s → wpAny (model prog w) A (dictFind d (.str k' t) ((PySem.strKind prog w).hash k')) Q' E s := fun hq' => wpAny_dictFind_of (knd := PySem.strKind prog w) (isStr_self k' t) hd rfl hke (by simpa using hq')
  refine wpAny_bind (m := dictFind d (.str k' t) ((PySem.strKind prog w).hash k')) (fd ?_)
  rw [if_neg (by decide)]
  show wpAny _ _ (dictPut d ((PySem.strKind prog w).hash k') (.str k' t) ev) _ _ _
  unfold dictPut
  refine wpAny_bind (m := dictFind d (.str k' t) ((PySem.strKind prog w).hash k')) (fd ?_)
  refine wpAny_updateDictKeys hd rfl ?_ (by decide) (by simp)
  have hg : (s.heap.update d (Obj.mapDictKeys (·.push ⟨(PySem.strKind prog w).hash k', .str k' t, ev⟩))).get? d = some { cls := .type "dict", data := .dict #[⟨(PySem.strKind prog w).hash k', .str k' t, ev⟩] 1 } := Heap.get?_update_self _ hd rfl
  have hs : Heap.SameBut d s.heap (s.heap.update d (Obj.mapDictKeys (·.push ⟨(PySem.strKind prog w).hash k', .str k' t, ev⟩))) := Heap.SameBut.update ..
  refine wpAny_bind (m := dictEpoch a) (ep1 ((hs.2 a (Ne.symm hne)).trans ho) ?_)
  rw [if_neg (by simp)]
  refine wpAny_pure (wpAny_pure (wpAny_pure (h _ ⟨_, _, _, hg, ⟨rfl, rfl, rfl⟩, rfl, ?_, .cons (isStr_self k' t) rfl .nil, by simp⟩ hs)))
  intro e he
  have : e = ⟨(PySem.strKind prog w).hash k', .str k' t, ev⟩ := by simpa using he
  subst this
  exact ⟨k', isStr_self k' t, rfl⟩
theorem kwIn {f : Value} {d : Addr} {k : Str} {v : Value} {Q : List (Str × Value) → Shared → Prop} (hd : s.heap.DictOf (PySem.strKind prog w) d [(k, v)]) (h : Q [(k, v)] s) : wpAny (model prog w) A (keywordsIn f d) Q E s := by
  obtain ⟨o, es, ep, ho, hc, hda, hk, hp, hn⟩ := hd
  obtain ⟨l⟩ := es
  replace hp : Pairs (PySem.strKind prog w) l [(k, v)] := hp
  cases hp with
  | @cons e kv es kvs h1 h2 h3 =>
  cases h3
  obtain ⟨t, hkey⟩ := Value.isStrOf_shape h1
  obtain ⟨eh, ek, ev⟩ := e
  dsimp only at hkey h2
  subst hkey h2
  unfold keywordsIn
  (try dsimp only)
  refine wpAny_bind (m := dictEntries d) (wpAny_dictEntries ho hda ?_)
  simp only [List.forIn_toArray, List.forIn_cons, List.forIn_nil]
  exact wpAny_bind (wpAny_bind (wpAny_pure (wpAny_pure (wpAny_pure h))))
end
end
-- X2
section
section
variable {prog : Program} {w : World} {A : Around} {E : Value → Shared → Prop} {s : Shared} {env : Env}
/-- what is left of a call f(ps, **{ke: ve}) once its plain arguments stand -/
def KwAt (prog : Program) (w : World) (A : Around) (E : Value → Shared → Prop) (env : Env) (ke ve : PySem.Expr) (fv : Value) (ps : List Value) (Q : Value → Shared → Prop) (s : Shared) : Prop :=
  wpAny (model prog w) A (eval ke env) (fun kv s₁ => wpAny (model prog w) A (eval ve env) (fun vv s₂ => Stop (∃ k t, kv = .str k t ∧ s₂.heap.get? s.heap.objs.size = some emD ∧ s₂.heap.get? (s.heap.objs.size + 1) = some emD ∧ ((s.heap.objs.size + 1 == sysModules) = false) ∧
    ∀ h' tk, (∀ b o, b ≠ s.heap.objs.size → b ≠ s.heap.objs.size + 1 → s₂.heap.get? b = some o → h'.get? b = some o) → Looks (model prog w) h' (keeperOf fv) .boundFrame ∧ wpAny (model prog w) A (call fv ps [(k, vv)]) Q E { s₂ with heap := h', toks := tk })) E s₁) E { s with heap := (s.heap.push emD).push emD }
theorem merged1 {f : Value} {ke ve : PySem.Expr} {dpos pos : Pos} {Q : Addr → Shared → Prop}
    (h : wpAny (model prog w) A (eval ke env) (fun kv s₁ => wpAny (model prog w) A (eval ve env) (fun vv s₂ => ∃ k t, kv = .str k t ∧ s₂.heap.get? s.heap.objs.size = some emD ∧ s₂.heap.get? (s.heap.objs.size + 1) = some emD ∧ ((s.heap.objs.size + 1 == sysModules) = false) ∧
      ∀ h' tk, (∀ b o, b ≠ s.heap.objs.size → b ≠ s.heap.objs.size + 1 → s₂.heap.get? b = some o → h'.get? b = some o) → h'.DictOf (PySem.strKind prog w) s.heap.objs.size [(k, vv)] → Q s.heap.objs.size { s₂ with heap := h', toks := tk }) E s₁) E { s with heap := (s.heap.push emD).push emD }) :
    wpAny (model prog w) A (mergedKeywords f [(none, do let v ← eval (.Dict [some ke] [ve] dpos) env; standAt pos; pure v)]) Q E s := by
  have hz : (s.heap.push emD).objs.size = s.heap.objs.size + 1 := Heap.size_push ..
  unfold mergedKeywords
  refine wpAny_bind (wpAny_alloc ?_)
  refine wpAny_bind (wpAny_holding ?_)
  refine wpAny_bind ?_
  rw [List.forIn_cons]
  refine wpAny_bind ?_
  refine wpAny_bind (wpAny_pure ?_)
  refine wpAny_bind (wpAny_bind (dict1 (s := { s with heap := s.heap.push emD }) ?_))
  show wpAny _ _ _ _ _ { s with heap := (s.heap.push emD).push emD }
  refine wpAny_mono h (fun kv s₁ h₁ => wpAny_mono h₁ (fun vv s₂ h₂ => ?_) fun _ _ x => x) fun _ _ x => x
  obtain ⟨k, t, rfl, g0, g1, gs, hq⟩ := h₂
  show ∃ k' t', _ ∧ _ ∧ _
  (try dsimp only)
  rw [hz]
  refine ⟨k, t, rfl, g1, fun h' tk hm hs => wpAny_bind (wpAny_standAt (wpAny_pure ?_))⟩
  refine wpAny_bind (wpAny_onRaise (wpAny_holding (wpAny_tryCatch (wpAny_onRaise ?_))))
  refine merge1 (s := { s₂ with heap := h', toks := tk }) (k := k) (v := vv) (Nat.ne_of_lt (Nat.lt_succ_self _)) gs ((hs.2 _ (Nat.ne_of_lt (Nat.lt_succ_self _))).trans g0) hm fun h'' hm' hs' => ?_
  refine wpAny_pure (wpAny_pure ?_)
  rw [if_pos (show ([] : List (Str × Sem Value)).isEmpty = true from rfl)]
  refine wpAny_pure (wpAny_pure (hq h'' tk (fun b o hb0 hb1 e => hs'.extBut b o hb0 (hs.extBut b o hb1 e)) hm'))
theorem callStar {x name : Str} {px apos pos dpos kpos : Pos} {a1 a2 ke ve : PySem.Expr} {Q : Value → Shared → Prop}
    (h1 : starEach [a1, a2] env = [(false, eval a1 env), (false, eval a2 env)])
    (h : wpAny (model prog w) A (eval (.Name x px) env) (fun ov s₁ => wpAny (model prog w) A (getAttr ov name true) (fun fv s₂ => wpAny (model prog w) A (spliced (backTo pos (starEach [a1, a2] env))) (fun ps s₃ => KwAt prog w A E env ke ve fv ps Q s₃) E s₂) E s₁) E s) :
    wpAny (model prog w) A (eval (.Call (.Attribute (.Name x px) name apos) [a1, a2] [⟨none, .Dict [some ke] [ve] dpos, kpos⟩] pos) env) Q E s := by
  show wpAny (model prog w) A (do
    let ov ← eval (.Name x px) env
    standAt apos.atName
    methodCall (.Name x px) name apos pos env ov 3 (backTo pos (starEach [a1, a2] env)) [(none, do let v ← eval (.Dict [some ke] [ve] dpos) env; standAt pos; pure v)]) Q E s
  refine wpAny_bind (wpAny_mono h (fun ov s₁ g₁ => wpAny_bind (wpAny_standAt ?_)) fun _ _ e => e)
  have hm : methodCallForm 3 (backTo pos (starEach [a1, a2] env)) [(none, do let v ← eval (.Dict [some ke] [ve] dpos) env; standAt pos; pure v)] = false := by
    unfold methodCallForm
    simp
  unfold methodCall
  rw [hm]
  show wpAny _ _ (holding [ov] (do pure (← getAttr ov name true, [])) >>= _) _ _ _
  refine wpAny_bind (wpAny_holding (wpAny_bind (wpAny_mono g₁ (fun fv s₂ g₂ => wpAny_pure ?_) fun _ _ e => e)))
  refine wpAny_bind (m := methodCallPos false (.Name x px) env apos pos) (wpAny_pure ?_)
  rw [h1] at g₂ ⊢
  unfold callWith
  refine wpAny_bind (wpAny_holding ?_)
  unfold evalArgs
  (try dsimp only)
  refine wpAny_bind (wpAny_mono g₂ (fun ps s₃ g₃ => wpAny_bind (wpAny_pure ?_)) fun _ _ e => e)
  refine wpAny_holding ?_
  rw [if_neg (by simp)]
  unfold KwAt at g₃
  refine wpAny_bind (merged1 (wpAny_mono g₃ (fun kv s₄ g₄ => wpAny_mono g₄ (fun vv s₅ g₅ => ?_) fun _ _ e => e) fun _ _ e => e))
  obtain ⟨k, t, rfl, e0, e1, e2, g⟩ := g₅
  refine ⟨k, t, rfl, e0, e1, e2, fun h' tk hk hm => ?_⟩
  obtain ⟨L, g⟩ := g h' tk hk
  refine wpAny_bind (wpAny_pure (wpAny_bind (wpAny_holding (kwIn (s := { s₅ with heap := h', toks := tk }) hm (wpAny_pure ?_)))))
  refine wpAny_bind (wpAny_standAt ?_)
  refine wpAny_bind (L A _ _ _ (fun _ _ e => e) ?_)
  show wpAny _ _ (operate _ (call fv ([] ++ ps) [(k, vv)]) >>= _) _ _ _
  exact wpAny_bind (wpAny_mono (wpAny_operating g) (fun r s₂ hr => wpAny_bind (wpAny_holding (wpAny_point (wpAny_pure hr)))) fun _ _ x => x)
end
end
-- X3
section
section
variable {prog : Program} {w : World} {A : Around} {E : Value → Shared → Prop} {s : Shared} {env : Env} {h₀ : Heap} {L : Addr} {m : Str → Option Value} {news : List (Addr × Obj)} {K : Frag}
theorem keeper_bound {M : Model} {h : Heap} {q f : Addr} {self : Value} {o : Obj} {fd : FuncData} (hq : h.get? q = some (methodObj (.ref f) self)) (hf : h.get? f = some o) (hd : o.data = .func fd) : Looks M h (keeperOf (.ref q)) .boundFrame := by
  intro A Q E s k hQ
  unfold keeperOf
  refine wpAny_bind (wpAny_load (k _ _ hq) ?_)
  show wpAny _ _ (if (Value.type "method" != Value.type "method") = true then _ else _) _ _ _
  rw [if_neg (by decide)]
  show wpAny _ _ (load f >>= _) _ _ _
  refine wpAny_bind (wpAny_load (k _ _ hf) ?_)
  rw [hd]
  exact wpAny_pure hQ
theorem kwAtK {p : Program} {loose : List Str} {mean : ExcName → Option Value} {mg mb : Str → Option Value} {ke ve : PySem.Expr} {q f : Addr} {self : Value} {ps : List Value} {Q : Value → Shared → Prop} {o : Obj} {fd : FuncData} (F : Fr h₀ L s.heap m) (X : K.In h₀) (N : News h₀ L s.heap news) (T : Top p loose mean mg mb h₀) (hq : (q, methodObj (.ref f) self) ∈ news) (hf : K.lookup f = some o) (hd : o.data = .func fd)
    (h : ∀ d0 d1 h', (∀ p ∈ news, p.1 < d0) → d0 < d1 → Fr h₀ L h' m → News h₀ L h' ((d1, emD) :: (d0, emD) :: news) →
      wpAny (model prog w) A (eval ke env) (fun kv s₁ => wpAny (model prog w) A (eval ve env) (fun vv s₂ => Stop (∃ k t h'' tk'', kv = .str k t ∧ s₂ = { s with heap := h'', toks := tk'' } ∧ Fr h₀ L h'' m ∧ News h₀ L h'' ((d1, emD) :: (d0, emD) :: news) ∧
        ∀ h3 tk3, Fr h₀ L h3 m → News h₀ L h3 news → wpAny (model prog w) A (call (.ref q) ps [(k, vv)]) Q E { s with heap := h3, toks := tk3 })) E s₁) E { s with heap := h' }) : KwAt prog w A E env ke ve (.ref q) ps Q s := by
  have hz : (s.heap.push emD).objs.size = s.heap.objs.size + 1 := Heap.size_push ..
  have F1 := F.push emD
  have N1 := News.push F N emD
  have F2 := F1.push emD
  have N2 := News.push F1 N1 emD
  rw [hz] at N2
  have hsys := F1.notModules (modules_low T.nolimit)
  rw [hz] at hsys
  unfold KwAt
  refine wpAny_mono (h s.heap.objs.size (s.heap.objs.size + 1) _ (fun p hp => Heap.lt_size (N p hp).1) (Nat.lt_succ_self _) F2 N2) (fun kv s₁ h₁ => wpAny_mono h₁ (fun vv s₂ h₂ => ?_) fun _ _ x => x) fun _ _ x => x
  obtain ⟨k, t, h'', tk'', rfl, rfl, F3, N3, g⟩ := h₂
  have n1 := N3 _ (.head _)
  have n0 := N3 _ (.tail _ (.head _))
  refine ⟨k, t, rfl, n0.1, n1.1, hsys, fun h3 tk3 hk => ?_⟩
  have up : ∀ b o, h₀.get? b = some o → h3.get? b = some o := fun b o e => hk b o (fun q => by rw [q, n0.2.2] at e; cases e) (fun q => by rw [q, n1.2.2] at e; cases e) (F3.keep b o e)
  have F4 : Fr h₀ L h3 m := ⟨F3.ns.at' fun o e => hk L o (fun q => n0.2.1 q.symm) (fun q => n1.2.1 q.symm) e, up, F3.above⟩
  have N4 : News h₀ L h3 news := fun p hp => by
    have z := N3 p (.tail _ (.tail _ hp))
    have lt := Heap.lt_size (N p hp).1
    exact ⟨hk _ _ (Nat.ne_of_lt lt) (Nat.ne_of_lt (Nat.lt_succ_of_lt lt)) z.1, z.2⟩
  exact ⟨keeper_bound (N4 _ hq).1 (up _ _ (X _ _ hf)) hd, g h3 tk3 F4 N4⟩
end
end
-- T1
section
theorem a_0i {i : Nat} : (0 + (i : Int)).toNat = i := by omega
theorem a_0j {i : Nat} : (0 + (i : Int) + 1).toNat = i + 1 := by omega
theorem a_ge {i : Nat} : (0 : Int) ≤ 0 + (i : Int) := by omega
theorem a_gf {i : Nat} : (0 : Int) ≤ 0 + (i : Int) + 1 := by omega
theorem a_lt {i : Nat} (h : i ≤ 7) : 0 + (i : Int) < 1000000 := by omega
theorem a_lu {i : Nat} (h : i ≤ 7) : 0 + (i : Int) + 1 < 1000000 := by omega
theorem a_lp {p : Nat} (h : p ≤ 8) : ((p : Nat) : Int) < 1000000 := by omega
theorem a_3 {k : Nat} (h : k ≤ 3) : k ≤ 1000000 := Nat.le_trans h (by decide)
theorem a_7 {i n : Nat} (h : i < n) (hn : n ≤ 8) : i ≤ 7 := Nat.le_of_lt_succ (Nat.lt_of_lt_of_le h hn)
theorem nm_s {i : Nat} : nmL (i + 1) = ⟨#[97 + i]⟩ := by unfold nmL; rw [if_neg (by omega), show 96 + (i + 1) = 97 + i by omega]
theorem one_txt {i : Nat} (h : i ≤ 7) : txtOk ⟨#[97 + i]⟩ := fun c hc => have e : c = 97 + i := by simpa using hc
  ⟨by omega, by omega⟩
theorem one_ul {i : Nat} : 95 ∉ (⟨#[97 + i]⟩ : Str).cps.toList := by simp; omega
theorem one_l {i k : Nat} (h : 1 ≤ k) : (⟨#[97 + i]⟩ : Str).length ≤ k := h
theorem row_l {r : Str} (h : r.length = 10) : ((r.length : Int) > 0) ∧ r.length ≤ 1000 ∧ r.length ≤ 1000000 := by omega
/-- ways that meet: the value is said once -/
theorem join2 {M : Model} {A : Around} {tree : Sem Value} {E : Value → Shared → Prop} {s : Shared} {x : Str} {Q : Value → Shared → Prop} (h1 : ∀ t k, Q (.str x t) { s with toks := k }) (h2 : ∀ Q' : Value → Shared → Prop, (∀ t k, Q' (.str x t) { s with toks := k }) → wpAny M A tree Q' E s) : wpAny M A tree Q E s := h2 Q h1
theorem listK {prog : Program} {w : World} {A : Around} {E : Value → Shared → Prop} {s : Shared} {h₀ : Heap} {L l : Addr} {news : List (Addr × Obj)} {value slice : PySem.Expr} {vs : List Value} {n : Nat} {k : Int} {t : Tok} {v : Value} {Q : Value → Shared → Prop} (N : News h₀ L s.heap news) (hm : (l, listOf vs.toArray n) ∈ news) (hv : vs[k.toNat]? = some v) (h0 : 0 ≤ k) (hb : k < 1000000) (hs : subscripted slice false (.ref l) (.int k t) = operate [.ref l, .int k t] (getItem (.ref l) (.int k t))) (hg : ∀ r, letTemporaryGo value (.ref l) r = pure ()) (h : Q v s) : wpAny (model prog w) A (subscriptTail value slice (.ref l) (.int k t)) Q E s :=
  item_list (News.isList N hm) h0 (by omega) (by simpa using hv) h hs hg
theorem upK {prog : Program} {w : World} {A : Around} {E : Value → Shared → Prop} {s : Shared} {x y : Str} {t : Tok} {Q : Value → Shared → Prop} (e : Txt.upper x = y) (hx : x.length ≤ 1000000) (h : ∀ t' k, Q (.str y t') { s with toks := k }) : wpAny (model prog w) A (call (.builtin "str.upper") [.str x t]) Q E s := by
  subst e
  exact SCL.upper (by omega) fun _ => h _ _
def LtJ (P : Params) (nl pl rl tb td hl I : Addr) (rest : List (Addr × Obj)) (par : Nat → Nat) (rowS : Nat → Str) (i : Nat) (m : Str → Option Value) (news : List (Addr × Obj)) : Prop :=
  ∃ ok on kh items nn rest', m = ltM nl pl rl tb ok on ∧ news = (tb, instObj 922 td) :: (td, dictOf [⟨PyData.keyHash P (Str.ofString "_headers"), .str (Str.ofString "_headers") kh, .ref hl⟩] 1) :: (hl, listOf (List.toArray items) nn) :: rest' ∧ (∀ p ∈ rest, p ∈ rest') ∧ (∀ p ∈ rest', p.1 ≠ hl) ∧ (∀ p ∈ rest', p.1 ≠ I) ∧ TabR rest' (tabOf par rowS i) items ∧ items.length = i
section
variable {prog : Program} {w : World} {A : Around} {E : Value → Shared → Prop} {s : Shared} {env : Env} {h₀ : Heap} {x : Str} {body : List Stmt} {Q : Flow → Shared → Prop}
theorem lt_ind {P : Params} {nl pl rl tb td hl I : Addr} {rest : List (Addr × Obj)} {par : Nat → Nat} {rowS : Nat → Str} {a : Int} {n : Nat} {m : Str → Option Value} {news : List (Addr × Obj)} (st : LtJ P nl pl rl tb td hl I rest par rowS 0 m news)
    (turn : ∀ i m news t it h tk, i < n → LtJ P nl pl rl tb td hl I rest par rowS i m news → Fr h₀ env.locals h (fun y => if y = x then some (.int (a + (i : Int)) t) else m y) → News h₀ env.locals h ((I, it) :: news) →
      wpAny (model prog w) A (execs body env) (fun f s₃ => Stop (f = .next ∧ ∃ h' tk' m' news', s₃ = { s with heap := h', toks := tk' } ∧ Fr h₀ env.locals h' m' ∧ News h₀ env.locals h' ((I, it) :: news') ∧ (∀ p ∈ news', p.1 ≠ I) ∧ LtJ P nl pl rl tb td hl I rest par rowS (i + 1) m' news')) E { s with heap := h, toks := tk })
    (fin : ∀ m news h tk, LtJ P nl pl rl tb td hl I rest par rowS n m news → Fr h₀ env.locals h m → News h₀ env.locals h news → Q .next { s with heap := h, toks := tk }) :
    RangeRest prog w A E h₀ env x body Q s I a n n 0 m news := range_ind _ turn fin m news st
end
theorem tab_snoc {rest : List (Addr × Obj)} {par : Nat → Nat} {rowS : Nat → Str} {i : Nat} {items : List Value} {tA : Addr} {x : Str} {t u : Tok} (hT : TabR rest (tabOf par rowS i) items) (e : (tabAt par rowS i).1 = x) :
    TabR ((tA, tupO [.str x t, .str (Str.empty ++ ⟨#[97 + i]⟩ ++ Str.ofString "=\"" ++ rowS i ++ Str.ofString "\"") u]) :: rest) (tabOf par rowS (i + 1)) (items ++ [.ref tA]) := by
  subst e
  unfold TabR tabOf at hT ⊢
  rw [List.range_succ, List.map_append]
  exact (hT.mono fun p v ⟨a, t, u, e, hm⟩ => ⟨a, t, u, e, .tail _ hm⟩).snoc ⟨tA, t, u, rfl, .head _⟩
theorem odd_of {i : Nat} (h : (Int.fmod (0 + (i : Int)) 2 == 1) = true) : i % 2 = 1 := by
  have := eq_of_beq h
  rw [Int.fmod_eq_emod_of_nonneg _ (by decide)] at this
  omega
theorem even_of {i : Nat} (h : (Int.fmod (0 + (i : Int)) 2 == 1) = false) : ¬ i % 2 = 1 := by
  have := beq_eq_false_iff_ne.mp h
  rw [Int.fmod_eq_emod_of_nonneg _ (by decide)] at this
  omega
theorem news_l5 {h₀ h : Heap} {L : Addr} {q i a b c : Addr × Obj} {rest : List (Addr × Obj)} (N : News h₀ L h (q :: i :: a :: b :: c :: rest)) : News h₀ L h (a :: b :: c :: q :: i :: rest) := news_sub N (by intro p hp; simp only [List.mem_cons] at hp ⊢; rcases hp with h | h | h | h | h | h <;> simp [h])
theorem news_l6 {h₀ h : Heap} {L : Addr} {q i a b c t : Addr × Obj} {rest : List (Addr × Obj)} (N : News h₀ L h (a :: b :: c :: t :: q :: i :: rest)) : News h₀ L h (i :: a :: b :: c :: t :: rest) := news_sub N (by intro p hp; simp only [List.mem_cons] at hp ⊢; rcases hp with h | h | h | h | h | h <;> simp [h])
theorem news_lt {h₀ h : Heap} {L : Addr} {a b c : Addr × Obj} {rest : List (Addr × Obj)} (N : News h₀ L h (c :: a :: b :: rest)) : News h₀ L h (a :: b :: c :: rest) := news_sub N (by intro p hp; simp only [List.mem_cons] at hp ⊢; rcases hp with h | h | h | h <;> simp [h])
theorem kw25 : True := by
  k_with_none
  k_with "own all" => first | assumption | (refine ne_rest ?_; first | assumption | exact And.right ((by assumption)) | exact And.right (And.right ((by assumption))) | exact And.right (And.right (And.right ((by assumption)))) | exact And.right (And.right (And.right (And.right ((by assumption))))) | exact And.right (And.right (And.right (And.right (And.right ((by assumption)))))) | exact And.right (And.right (And.right (And.right (And.right (And.right ((by assumption))))))) | exact And.right (And.right (And.right (And.right (And.right (And.right (And.right ((by assumption)))))))) | exact And.right (And.right (And.right (And.right (And.right (And.right (And.right (And.right ((by assumption))))))))) | exact And.right (And.right (And.right (And.right (And.right (And.right (And.right (And.right (And.right ((by assumption)))))))))) | exact And.right (And.right (And.right (And.right (And.right (And.right (And.right (And.right (And.right (And.right ((by assumption))))))))))) | exact And.right (And.right (And.right (And.right (And.right (And.right (And.right (And.right (And.right (And.right (And.right ((by assumption)))))))))))) | exact And.right (And.right (And.right (And.right (And.right (And.right (And.right (And.right (And.right (And.right (And.right (And.right ((by assumption))))))))))))) | exact And.right (And.right (And.right (And.right (And.right (And.right (And.right (And.right (And.right (And.right (And.right (And.right (And.right ((by assumption))))))))))))))) | (first | (refine ne_rest2 ((by assumption)) ?_; (try dsimp only); omega) | (refine ne_rest2 (And.right ((by assumption))) ?_; (try dsimp only); omega) | (refine ne_rest2 (And.right (And.right ((by assumption)))) ?_; (try dsimp only); omega) | (refine ne_rest2 (And.right (And.right (And.right ((by assumption))))) ?_; (try dsimp only); omega) | (refine ne_rest2 (And.right (And.right (And.right (And.right ((by assumption)))))) ?_; (try dsimp only); omega) | (refine ne_rest2 (And.right (And.right (And.right (And.right (And.right ((by assumption))))))) ?_; (try dsimp only); omega) | (refine ne_rest2 (And.right (And.right (And.right (And.right (And.right (And.right ((by assumption)))))))) ?_; (try dsimp only); omega) | (refine ne_rest2 (And.right (And.right (And.right (And.right (And.right (And.right (And.right ((by assumption))))))))) ?_; (try dsimp only); omega) | (refine ne_rest2 (And.right (And.right (And.right (And.right (And.right (And.right (And.right (And.right ((by assumption)))))))))) ?_; (try dsimp only); omega) | (refine ne_rest2 (And.right (And.right (And.right (And.right (And.right (And.right (And.right (And.right (And.right ((by assumption))))))))))) ?_; (try dsimp only); omega) | (refine ne_rest2 (And.right (And.right (And.right (And.right (And.right (And.right (And.right (And.right (And.right (And.right ((by assumption)))))))))))) ?_; (try dsimp only); omega) | (refine ne_rest2 (And.right (And.right (And.right (And.right (And.right (And.right (And.right (And.right (And.right (And.right (And.right ((by assumption))))))))))))) ?_; (try dsimp only); omega) | (refine ne_rest2 (And.right (And.right (And.right (And.right (And.right (And.right (And.right (And.right (And.right (And.right (And.right (And.right ((by assumption)))))))))))))) ?_; (try dsimp only); omega) | (refine ne_rest2 (And.right (And.right (And.right (And.right (And.right (And.right (And.right (And.right (And.right (And.right (And.right (And.right (And.right ((by assumption))))))))))))))) ?_; (try dsimp only); omega))
  k_with "exec If" => refine wpAny_If ?_
  k_with "truthy str" => refine P.truthy_str (by omega) ?_
  k_with "ite" => first | refine ite_pos (by with_reducible assumption) ?_ | refine ite_isFalse (by with_reducible assumption) ?_ | refine ite_neg (by with_reducible assumption) ?_
  k_with "subscriptTail Constant BinOp str int" => (k_here; k_dflt (refine' itemK ?n9q ?a9q ?b9q ?z9q ?s9q ?t9q ?_; (case n9q => first | assumption | decide +kernel); (case a9q => assumption); (case b9q => assumption); (case z9q => decide); (case s9q => with_unfolding_all rfl); (case t9q => (intro _; with_unfolding_all rfl)); k_whole; intro t9k k9k hl9k))
  k_with "subscriptTail Name BinOp str int" => (k_here; k_dflt (refine' itemK ?n9q ?a9q ?b9q ?z9q ?s9q ?t9q ?_; (case n9q => first | assumption | decide +kernel); (case a9q => assumption); (case b9q => assumption); (case z9q => decide); (case s9q => with_unfolding_all rfl); (case t9q => (intro _; with_unfolding_all rfl)); k_whole; intro t9k k9k hl9k))
  k_with "binaryOp FloorDiv int int" => (refine floordiv_int (by first | assumption | decide) ?_ (Or.inl (PyProof.noPylong_small (by first | assumption | decide))))
  k_with "binaryOp Mod int int" => (refine mod_int' (by first | assumption | decide) ?_)
  k_with "binaryOp Mult int int" => (refine PyProof.Rows.mul_int ?_ (PySem.IntMulOk.of_right (by decide)))
  k_with "binaryOp Add int int" => (refine PyProof.Rows.add_int ?_)
  k_with "call builtin:len" => (k_here; (try dsimp only [List.nil_append, List.cons_append, List.append_nil]); (with_reducible show wpAny _ _ (call (Value.builtin "len") [Value.ref _]) _ _ _); k_dflt (refine' lenK ?N9q ?m9q ?e9q ?k9q ?_; (case N9q => k_asm); (case m9q => k_mem); (case e9q => with_reducible assumption); (case k9q => with_reducible assumption); k_whole; intro t9k k9k))
  k_with "exec For Tuple Name cons nil" => (k_here; (rename Fr _ _ _ _ => lF9k); (with_unfolding_all refine' For_turns lF9k ?_; k_whole); k_dflt (refine ld lF9k (by rfl) ?_); k_dflt (refine' iter_listTurns (vs := []) ?h9q lF9k ?N9q ?m9q ?c9q ?d9q ?_; (case h9q => exact rfl); (case N9q => k_asm); (case m9q => k_mem); (case c9q => exact rfl); (case d9q => exact rfl)); clear lF9k; intro i9k l19k; refine ItemsRest.zero ?_; intro h9k tk9k F9k N9k; (try k_sweep))
  k_with "exec For Name Call cons nil" => refine Stop.mk ?_
  k_with "pyIter ref" => refine Stop.mk ?_
  k_with "subscriptTail Name Name ref int" => (k_here; k_dflt (refine' listK ?N9q ?m9q ?v9q ?a9q ?b9q ?s9q ?g9q ?_; (case N9q => k_asm); (case m9q => k_mem); (case v9q => with_reducible assumption); (case a9q => with_reducible assumption); (case b9q => with_reducible assumption); (case s9q => with_unfolding_all rfl); (case g9q => (intro _; with_unfolding_all rfl)); k_whole))
  k_with "subscriptTail Name Subscript ref int" => (k_here; k_dflt (refine' listK ?N9q ?m9q ?v9q ?a9q ?b9q ?s9q ?g9q ?_; (case N9q => k_asm); (case m9q => k_mem); (case v9q => with_reducible assumption); (case a9q => with_reducible assumption); (case b9q => with_reducible assumption); (case s9q => with_unfolding_all rfl); (case g9q => (intro _; with_unfolding_all rfl)); k_whole))
  k_with "subscriptTail Name BinOp ref int" => (k_here; k_dflt (refine' listK ?N9q ?m9q ?v9q ?a9q ?b9q ?s9q ?g9q ?_; (case N9q => k_asm); (case m9q => k_mem); (case v9q => with_reducible assumption); (case a9q => with_reducible assumption); (case b9q => with_reducible assumption); (case s9q => with_unfolding_all rfl); (case g9q => (intro _; with_unfolding_all rfl)); k_whole))
  k_with "call builtin:str.upper" => (k_here; (try dsimp only [List.nil_append, List.cons_append, List.append_nil]); (with_reducible show wpAny _ _ (call (Value.builtin "str.upper") [Value.str _ _]) _ _ _); k_dflt (refine' upK ?e9q ?l9q ?_; (case e9q => with_reducible assumption); (case l9q => with_reducible assumption); k_whole; intro t9k k9k))
  k_with "own mem" => (refine mem_of ?_; with_reducible assumption)
  k_with "eval Call Attribute" => (k_here; (with_reducible show wpAny _ _ (eval (Expr.Call (Expr.Attribute (Expr.Name _ _) _ _) [_, _] [Keyword.mk none (Expr.Dict [some _] [_] _) _] _) _) _ _ _); k_dflt (refine' callStar ?h19q ?_; (case h19q => exact rfl)); k_whole)
  k_with "eval IfExp" => ((with_reducible show wpAny _ _ (eval (Expr.IfExp (Expr.Compare (Expr.BinOp _ _ _ _) _ _ _) _ _ _) _) _ _ _); refine Stop.mk ?_)
  k_with "KwAt" => refine Stop.mk ?_
  k_with "call ref" => (k_here; (with_reducible show wpAny _ _ (call (Value.ref _) [_, _] [_]) _ _ _); refine Stop.mk ?_)
  k_with "execs cons" => ((with_reducible refine wpAny_execs_cons ?_); (try dsimp only); (try k_fold))
  k_with "own ne" => (refine neN ?_; (try dsimp only); first | with_reducible assumption | (refine Ne.symm ?_; with_reducible assumption) | (refine Nat.ne_of_lt ?_; first | with_reducible assumption | with_reducible exact And.left (by with_reducible assumption) | with_reducible exact And.left (And.right (by with_reducible assumption)) | with_reducible exact And.left (And.right (And.right (by with_reducible assumption))) | with_reducible exact And.left (And.right (And.right (And.right (by with_reducible assumption)))) | with_reducible exact And.left (And.right (And.right (And.right (And.right (by with_reducible assumption))))) | with_reducible exact And.left (And.right (And.right (And.right (And.right (And.right (by with_reducible assumption)))))) | with_reducible exact And.left (And.right (And.right (And.right (And.right (And.right (And.right (by with_reducible assumption))))))) | with_reducible exact And.left (And.right (And.right (And.right (And.right (And.right (And.right (And.right (by with_reducible assumption)))))))) | with_reducible exact And.left (And.right (And.right (And.right (And.right (And.right (And.right (And.right (And.right (by with_reducible assumption))))))))) | with_reducible exact And.right (by with_reducible assumption) | with_reducible exact And.right (And.right (by with_reducible assumption)) | with_reducible exact And.right (And.right (And.right (by with_reducible assumption))) | with_reducible exact And.right (And.right (And.right (And.right (by with_reducible assumption)))) | with_reducible exact And.right (And.right (And.right (And.right (And.right (by with_reducible assumption))))) | with_reducible exact And.right (And.right (And.right (And.right (And.right (And.right (by with_reducible assumption)))))) | with_reducible exact And.right (And.right (And.right (And.right (And.right (And.right (And.right (by with_reducible assumption))))))) | with_reducible exact And.right (And.right (And.right (And.right (And.right (And.right (And.right (And.right (by with_reducible assumption))))))))) | (refine Nat.ne_of_gt ?_; first | with_reducible assumption | with_reducible exact And.left (by with_reducible assumption) | with_reducible exact And.left (And.right (by with_reducible assumption)) | with_reducible exact And.left (And.right (And.right (by with_reducible assumption))) | with_reducible exact And.left (And.right (And.right (And.right (by with_reducible assumption)))) | with_reducible exact And.left (And.right (And.right (And.right (And.right (by with_reducible assumption))))) | with_reducible exact And.left (And.right (And.right (And.right (And.right (And.right (by with_reducible assumption)))))) | with_reducible exact And.left (And.right (And.right (And.right (And.right (And.right (And.right (by with_reducible assumption))))))) | with_reducible exact And.left (And.right (And.right (And.right (And.right (And.right (And.right (And.right (by with_reducible assumption)))))))) | with_reducible exact And.left (And.right (And.right (And.right (And.right (And.right (And.right (And.right (And.right (by with_reducible assumption))))))))) | with_reducible exact And.right (by with_reducible assumption) | with_reducible exact And.right (And.right (by with_reducible assumption)) | with_reducible exact And.right (And.right (And.right (by with_reducible assumption))) | with_reducible exact And.right (And.right (And.right (And.right (by with_reducible assumption)))) | with_reducible exact And.right (And.right (And.right (And.right (And.right (by with_reducible assumption))))) | with_reducible exact And.right (And.right (And.right (And.right (And.right (And.right (by with_reducible assumption)))))) | with_reducible exact And.right (And.right (And.right (And.right (And.right (And.right (And.right (by with_reducible assumption))))))) | with_reducible exact And.right (And.right (And.right (And.right (And.right (And.right (And.right (And.right (by with_reducible assumption))))))))))
  trivial
section
variable {w : World} {mean : ExcName → Option Value} {mg mb : Str → Option Value} {dp un : Nat} {gd : Option (List Code)} {cn : Str} {cs : Scope} {a : Addr} {ccd : Value} {cl : List (Str × Addr)} {outer : List Env} {A₀ : Around} {base h₀ : Heap} {L : Addr} {m : Str → Option Value} {s : Shared} {Q E : Value → Shared → Prop} {rest : List (Addr × Obj)}
theorem lt_c {nl pl rl : Addr} {nvs pvs rvs : List Value} {n n1 n2 n3 : Nat} {par : Nat → Nat} {rowS : Nat → Str} (B : Below A₀ base outer h₀) (F : Fr h₀ L s.heap m) (X : (hd.heap_1 w.params).In h₀) (T : Top q (looseW q loose) mean mg mb h₀) (hk : cs.kind = .function) (hdp : dp + 10 < recursionLimit) (hun : un + 100 < cLine) (N : News h₀ L s.heap rest) (hm1 : (nl, listOf nvs.toArray n1) ∈ rest) (hm2 : (pl, listOf pvs.toArray n2) ∈ rest) (hm3 : (rl, listOf rvs.toArray n3) ∈ rest)
    (hn : Rel2 (fun i v => ∃ t, v = .str (nmL i) t) (List.range (n + 1)) nvs) (hp : Rel2 (fun k v => ∃ t, v = .int ((par k : Nat) : Int) t) (List.range n) pvs) (hr : Rel2 (fun k v => ∃ t, v = .str (rowS k) t) (List.range n) rvs) (hn8 : n ≤ 8) (hpar : ∀ k, k < n → par k ≤ k) (hrow : ∀ k, k < n → rowOk (rowS k))
    (hret : ∀ tb td hl kh items nn rest' h' tk', (∀ p ∈ rest, p ∈ rest') → TabR rest' (tabOf par rowS n) items → items.length = n → Fr h₀ L h' m → News h₀ L h' ((tb, instObj 922 td) :: (td, dictOf [⟨PyData.keyHash w.params (Str.ofString "_headers"), .str (Str.ofString "_headers") kh, .ref hl⟩] 1) :: (hl, listOf (List.toArray items) nn) :: rest') → Q (.ref tb) { s with heap := h', toks := tk' }) :
    wpAny (model PySem.Challenge.pw_om0186_01 w) (ktrTop dp un gd cn cs L a ccd cl outer) (call (.ref 947) [.ref nl, .ref pl, .ref rl]) Q E s := by
  w_on
  have hlr : rvs.length = n := by rw [hr.length, List.length_range]
  have hn9 : n < 1000000 := by omega
  refine wpAny_call ?_
  k_dflt (refine' code_def ?k1 ?k2 ?k3 N ?k5 ?kA ?kF ?kK ?k6 ?k7 ?k8 ?k9 ?kB ?_ ?c2 ?c3 ?c4 ?c5; (case kA => exact rfl); (case kF => exact rfl); (case kK => assumption); (case k1 => k_asm); (case k2 => k_asm); (case k3 => k_asm); (case k5 => k_asm); (case k6 => k_is); (case k7 => k_is); (case k8 => ktr_room); (case k9 => first | exact BindsTo.of_eq rfl | exact binds_K (by k_in) rfl (by k_is) rfl rfl rfl); (case c5 => decide); (case kB => exact locs rfl); (case c2 => exact rfl); (case c3 => exact rfl); (case c4 => exact rfl); k_whole; intro g' L' h' FG' F' N' B' X' T'; (try dsimp only); (try k_fold))
  (try (show wpAny _ _ _ _ _ _; k_fold))
  k_steps
  refine Stop.out ?_
  (rename Fr _ _ _ _ => lF')
  replace lF' := fr_lt0 lF'
  refine For_invVF lF' rfl rfl ?_
  (try (show wpAny _ _ _ _ _ _; k_fold))
  k_steps
  refine Stop.out ?_
  refine iter_rangeUnr (n := n) rfl (by assumption) (small_one (by omega) (by omega) (by omega) (by omega)) ((rangeSize_nat _ _).trans (by omega)) (by k_asm) (news_lt (by k_asm)) ?_
  intro I hI
  refine' lt_ind (P := w.params) (nl := nl) (pl := pl) (rl := rl) (rest := rest) (par := par) (rowS := rowS) ?start ?turn ?fin
  case start =>
    refine ⟨none, none, _, [], _, rest, rfl, rfl, fun _ h => h, ?_, fun p hp => Nat.ne_of_lt (hI p (.tail _ (.tail _ (.tail _ hp)))), .nil, rfl⟩
    k_all
  case turn =>
    intro i m news t it h tk hi hJ F9 N9
    obtain ⟨ok, on, kh, items, nn, rest', rfl, rfl, hsub, hne, hnI, hT, hlen⟩ := hJ
    have hi9 : i ≤ 7 := a_7 hi hn8
    obtain ⟨vp, hvp, tp, rfl⟩ := hp.at (k := i) (i := i) (List.getElem?_range hi)
    obtain ⟨vr, hvr, tr, rfl⟩ := hr.at (k := i) (i := i) (List.getElem?_range hi)
    have hpi : par i ≤ 8 := Nat.le_trans (hpar i hi) (Nat.le_trans hi9 (by decide))
    obtain ⟨vn, hvn, tn, rfl⟩ := hn.at (k := par i) (i := par i) (List.getElem?_range (Nat.lt_succ_of_le (Nat.le_trans (hpar i hi) (Nat.le_of_lt hi))))
    obtain ⟨vm, hvm, tm, rfl⟩ := hn.at (k := i + 1) (i := i + 1) (List.getElem?_range (Nat.succ_lt_succ hi))
    have e9 : (0 + (i : Int)).toNat = i := a_0i
    have e8 : (0 + (i : Int) + 1).toNat = i + 1 := a_0j
    have e7 : ((par i : Nat) : Int).toNat = par i := Int.toNat_natCast _
    have en : nmL (i + 1) = ⟨#[97 + i]⟩ := nm_s
    have hvp' : pvs[(0 + (i : Int)).toNat]? = some (.int ((par i : Nat) : Int) tp) := by rw [e9]; exact hvp
    have hvr' : rvs[(0 + (i : Int)).toNat]? = some (.str (rowS i) tr) := by rw [e9]; exact hvr
    have hvm' : nvs[(0 + (i : Int) + 1).toNat]? = some (.str ⟨#[97 + i]⟩ tm) := by rw [e8, ← en]; exact hvm
    have hvn' : nvs[((par i : Nat) : Int).toNat]? = some (.str (nmL (par i)) tn) := by rw [e7]; exact hvn
    have g1 : (0 : Int) ≤ 0 + (i : Int) := a_ge
    have g2 : 0 + (i : Int) < 1000000 := a_lt hi9
    have g3 : (0 : Int) ≤ 0 + (i : Int) + 1 := a_gf
    have g4 : 0 + (i : Int) + 1 < 1000000 := a_lu hi9
    have g5 : (0 : Int) ≤ ((par i : Nat) : Int) := Int.natCast_nonneg _
    have g6 : ((par i : Nat) : Int) < 1000000 := a_lp hpi
    have m1 := hsub _ hm1
    have m2 := hsub _ hm2
    have m3 := hsub _ hm3
    have u1 := nm_up hpi
    have u2 : (nmL (par i)).length ≤ 1000000 := a_3 (nm_l1 hpi)
    obtain ⟨r1, r2, r3, r4⟩ := hrow i hi
    have r5 : (((rowS i).length : Int) > 0) := (row_l r1).1
    have r6 : (rowS i).length ≤ 1000 := (row_l r1).2.1
    have r7 : (rowS i).length ≤ 1000000 := (row_l r1).2.2
    have c1 : txtOk ⟨#[97 + i]⟩ := one_txt hi9
    have c2 : (⟨#[97 + i]⟩ : Str).length ≤ 1000 := one_l (by decide)
    have c3 : (⟨#[97 + i]⟩ : Str).length ≤ 1000000 := one_l (by decide)
    have c4 : 95 ∉ (⟨#[97 + i]⟩ : Str).cps.toList := one_ul
    have z1 := nm_t1 hpi
    have z2 := nm_t2 hpi
    have z3 : (nmU (par i)).length ≤ 1000000 := a_3 (nm_l2 hpi)
    have z4 : items.length < 1000 := by rw [hlen]; exact Nat.lt_of_le_of_lt hi9 (by decide)
    k_lt hI
    obtain ⟨nm9, en9, zn9, ln9, ho9, he9⟩ : ∃ nm9 : Str, (tabAt par rowS i).1 = nm9 ∧ txtOk nm9 ∧ nm9.length ≤ 1000000 ∧ ((Int.fmod (0 + (i : Int)) 2 == 1) = true → nmU (par i) = nm9) ∧ ((Int.fmod (0 + (i : Int)) 2 == 1) = false → nmL (par i) = nm9) := by
      cases hb : (Int.fmod (0 + (i : Int)) 2 == 1) with
      | true => exact ⟨_, if_pos (odd_of hb), z2, z3, fun _ => rfl, fun h => by cases h⟩
      | false => exact ⟨_, if_neg (even_of hb), z1, u2, (fun h => by cases h), fun _ => rfl⟩
    (try (show wpAny _ _ _ _ _ _; k_fold))
    k_steps
    refine Stop.out ?_
    refine join2 (x := nm9) ?joinR ?joinT
    case joinT =>
      intro Q' hQ'
      refine wpAny_IfExp ?_
      cases hb : (Int.fmod (0 + (i : Int)) 2 == 1) with
      | true =>
        (try (show wpAny _ _ _ _ _ _; k_fold))
        k_steps
        rw [ho9 hb]
        exact hQ' _ _
      | false =>
        (try (show wpAny _ _ _ _ _ _; k_fold))
        k_steps
        rw [he9 hb]
        exact hQ' _ _
    intro t9 k9
    (try (show wpAny _ _ _ _ _ _; k_fold))
    k_steps
    refine Stop.out ?_
    refine kwAtK (K := hd.heap_1 w.params) (by k_asm) (by k_asm) (by k_asm) (by k_asm) (by k_mem) (by k_is) rfl ?_
    intro d0 d1 h2 l1 l2 F2 N2
    k_lt l1
    k_lt2 l2
    (try (show wpAny _ _ _ _ _ _; k_fold))
    k_steps
    refine Stop.out ⟨_, _, _, _, rfl, rfl, by k_asm, by k_asm, ?_⟩
    intro h3 tk3 F3 N3
    (try (show wpAny _ _ _ _ _ _; k_fold))
    k_steps
    refine Stop.out ?_
    refine call_meth N3 (by k_mem) ?_
    refine ah_k (by k_asm) F3 (by k_asm) (by k_asm) rfl (by ktr_room) (by ktr_units) r5 r6 r2 r3 zn9 r4 c1 ln9 r7 c2 c3 c4 (by k_ne) (by k_ne) (by k_ne) (List.forall_mem_cons.mpr ⟨by k_ne, List.forall_mem_cons.mpr ⟨by k_ne, hne⟩⟩) z4 (news_l5 N3) ?_
    intro tA t' nn' h4 tk4 hA F4 N4
    (try dsimp only)
    (try (show wpAny _ _ _ _ _ _; k_fold))
    k_steps
    have hA2 := hA.2.2
    simp only [AllLt] at hA2
    refine Stop.out ⟨rfl, _, _, _, _, rfl, fr_lt1 (by k_asm), news_l6 (by k_asm), ?_, _, _, kh, items ++ [.ref tA], nn', _, rfl, rfl, fun p hp => .tail _ (hsub p hp), ?_, ?_, tab_snoc hT en9, by rw [List.length_append, hlen]; rfl⟩
    · exact List.forall_mem_cons.mpr ⟨by k_ne, List.forall_mem_cons.mpr ⟨by k_ne, List.forall_mem_cons.mpr ⟨by k_ne, List.forall_mem_cons.mpr ⟨by k_ne, hnI⟩⟩⟩⟩
    · exact List.forall_mem_cons.mpr ⟨by k_ne, hne⟩
    · exact List.forall_mem_cons.mpr ⟨by k_ne, hnI⟩
  case fin =>
    intro m news h tk hJ F9 N9
    obtain ⟨ok, on, kh, items, nn, rest', rfl, rfl, hsub, hne, hnI, hT, hlen⟩ := hJ
    (try (show wpAny _ _ _ _ _ _; k_fold))
    k_steps
    exact hret _ _ _ kh items nn rest' _ _ hsub hT hlen (by k_asm) (by k_asm)
end
end
-- P1
section
structure Ev where
  i : Nat
  pl : Nat
  k : Nat
structure Fk where
  i : Nat
  pl : Nat
  ks : List Nat
/-- what a stack of files hands out -/
inductive Runs (kids : Nat → List Nat) (dir : Nat → Bool) : List Fk → List Ev → Prop where
  | nil : Runs kids dir [] []
  | pop {i pl : Nat} {st : List Fk} {ev : List Ev} : Runs kids dir st ev → Runs kids dir (⟨i, pl, []⟩ :: st) ev
  | file {i pl k : Nat} {ks : List Nat} {st : List Fk} {ev : List Ev} : dir k = false → Runs kids dir (⟨i, pl + 1, ks⟩ :: st) ev → Runs kids dir (⟨i, pl, k :: ks⟩ :: st) (⟨i, pl + 1, k⟩ :: ev)
  | dir {i pl k : Nat} {ks : List Nat} {st : List Fk} {ev : List Ev} : dir k = true → Runs kids dir (⟨k + 1, 0, kids (k + 1)⟩ :: ⟨i, pl + 1, ks⟩ :: st) ev → Runs kids dir (⟨i, pl, k :: ks⟩ :: st) (⟨i, pl + 1, k⟩ :: ev)
variable {kids : Nat → List Nat} {dir : Nat → Bool}
theorem Runs.det {st : List Fk} {ev : List Ev} (h : Runs kids dir st ev) : ∀ {ev' : List Ev}, Runs kids dir st ev' → ev = ev' := by
  induction h with
  | nil => intro ev' h'; cases h'; rfl
  | pop _ ih => intro ev' h'; cases h' with | pop h' => exact ih h'
  | file hd _ ih =>
    intro ev' h'
    cases h' with
    | file _ h' => rw [ih h']
    | dir hd' _ => rw [hd] at hd'; cases hd'
  | dir hd _ ih =>
    intro ev' h'
    cases h' with
    | file hd' _ => rw [hd] at hd'; cases hd'
    | dir _ h' => rw [ih h']
/-- there is such a list where each row of file i has a number that is i or greater, below n -/
theorem Runs.ex {n : Nat} (hk : ∀ i, ∀ k ∈ kids i, i ≤ k ∧ k < n) : ∀ (f i : Nat), n - i ≤ f → ∀ (ks : List Nat), (∀ k ∈ ks, i ≤ k ∧ k < n) → ∀ pl st ev, Runs kids dir st ev → ∃ D, Runs kids dir (⟨i, pl, ks⟩ :: st) (D ++ ev) := by
  intro f
  induction f with
  | zero =>
    intro i hf ks hks pl st ev h
    cases ks with
    | nil => exact ⟨[], .pop h⟩
    | cons k ks => have := hks k (.head _); omega
  | succ f ih =>
    intro i hf ks
    induction ks with
    | nil => intro _ pl st ev h; exact ⟨[], .pop h⟩
    | cons k ks ihk =>
      intro hks pl st ev h
      obtain ⟨D, hD⟩ := ihk (fun q hq => hks q (.tail _ hq)) (pl + 1) st ev h
      have hk1 := hks k (.head _)
      cases hd : dir k with
      | false => exact ⟨⟨i, pl + 1, k⟩ :: D, .file hd hD⟩
      | true =>
        obtain ⟨D2, hD2⟩ := ih (k + 1) (by omega) (kids (k + 1)) (hk (k + 1)) 0 _ _ hD
        have e : (D2 ++ D) ++ ev = D2 ++ (D ++ ev) := List.append_assoc ..
        rw [← e] at hD2
        exact ⟨⟨i, pl + 1, k⟩ :: (D2 ++ D), .dir hd hD2⟩
end
-- S1
section
/-- a text that the lexer reads or has laid aside -/
structure Lf where
  x : Addr
  dx : Addr
  i : Nat
  ti : Tok
  ln : Int
  tl : Tok
  text : Str
  p : Nat
  k1 : Tok
  k2 : Tok
  k3 : Tok
  t1 : Tok
  t2 : Tok
  t3 : Tok
abbrev sioOf (P : Params) (f : Lf) : Obj := sioD P f.k1 f.k2 f.k3 (.str (Str.ofString "\n") f.t1) (.str f.text f.t2) (.int (f.p : Int) f.t3)
def tailOf (P : Params) : Lf → List (Addr × Lf) → List (Addr × Obj) → List (Addr × Obj)
  | f, [], base => (f.x, instObj 592 f.dx) :: (f.dx, sioOf P f) :: base
  | f, q :: gs, base => (f.x, instObj 592 f.dx) :: (f.dx, sioOf P f) :: (q.1, tupO [.str (nmL q.2.i) q.2.ti, .ref q.2.x, .int q.2.ln q.2.tl]) :: tailOf P q.2 gs base
abbrev itemsOf (gs : List (Addr × Lf)) : List Value := gs.map fun q => Value.ref q.1
def textL (rowC : Nat → List Nat) (ks : List Nat) : List Nat := ks.flatMap fun k => (97 + k) :: 61 :: 34 :: (rowC k ++ [34, 13, 10])
theorem textL_cons (rowC : Nat → List Nat) (k : Nat) (ks : List Nat) : textL rowC (k :: ks) = (97 + k) :: 61 :: 34 :: (rowC k ++ 34 :: 13 :: 10 :: textL rowC ks) := by
  unfold textL
  rw [List.flatMap_cons]
  simp
structure FOk (rowC : Nat → List Nat) (f : Lf) (pl : Nat) (ks : List Nat) : Prop where
  drop : f.text.cps.toList.drop f.p = (if pl = 0 then [] else [10]) ++ textL rowC ks
  ln : f.ln = (if pl = 0 then 1 else (pl : Int))
  size : f.text.length ≤ 1000000
inductive StOk (rowC : Nat → List Nat) : Lf → List (Addr × Lf) → List Fk → Prop where
  | one {f : Lf} {pl : Nat} {ks : List Nat} : FOk rowC f pl ks → StOk rowC f [] [⟨f.i, pl, ks⟩]
  | more {f g : Lf} {tA : Addr} {gs : List (Addr × Lf)} {pl : Nat} {ks : List Nat} {st : List Fk} : FOk rowC f pl ks → StOk rowC g gs st → StOk rowC f ((tA, g) :: gs) (⟨f.i, pl, ks⟩ :: st)
/-- the lexer's own four objects are apart -/
structure Four (lx ld pa fa : Addr) : Prop where
  e0 : @Ne Nat lx ld
  e1 : @Ne Nat lx pa
  e2 : @Ne Nat lx fa
  e3 : @Ne Nat ld pa
  e4 : @Ne Nat ld fa
  e5 : @Ne Nat pa fa
structure Off (lx ld pa fa b : Addr) : Prop where
  e0 : @Ne Nat b lx
  e1 : @Ne Nat b ld
  e2 : @Ne Nat b pa
  e3 : @Ne Nat b fa
def Apart (P : Params) (lx ld pa fa : Addr) : Lf → List (Addr × Lf) → List (Addr × Obj) → Prop
  | f, [], base => Off lx ld pa fa f.x ∧ Off lx ld pa fa f.dx ∧ @Ne Nat f.x f.dx ∧ ∀ p ∈ base, p.1 ≠ ld ∧ p.1 ≠ pa ∧ p.1 ≠ fa ∧ p.1 ≠ f.dx
  | f, q :: gs, base => Off lx ld pa fa f.x ∧ Off lx ld pa fa f.dx ∧ @Ne Nat f.x f.dx ∧ Off lx ld pa fa q.1 ∧ @Ne Nat f.x q.1 ∧ @Ne Nat f.dx q.1 ∧ (∀ p ∈ tailOf P q.2 gs base, p.1 ≠ f.dx) ∧ Apart P lx ld pa fa q.2 gs base
theorem apart_all {P : Params} {lx ld pa fa : Addr} {base : List (Addr × Obj)} : ∀ {gs : List (Addr × Lf)} {f : Lf}, Apart P lx ld pa fa f gs base → ∀ p ∈ tailOf P f gs base, p.1 ≠ ld ∧ p.1 ≠ pa ∧ p.1 ≠ fa
  | [], f, ⟨h1, h2, _, hb⟩, p, hp => by
    rcases List.mem_cons.mp hp with e | hp
    · subst e; exact ⟨h1.e1, h1.e2, h1.e3⟩
    · rcases List.mem_cons.mp hp with e | hp
      · subst e; exact ⟨h2.e1, h2.e2, h2.e3⟩
      · exact ⟨(hb p hp).1, (hb p hp).2.1, (hb p hp).2.2.1⟩
  | q :: gs, f, ⟨h1, h2, _, h3, _, _, _, ha⟩, p, hp => by
    rcases List.mem_cons.mp hp with e | hp
    · subst e; exact ⟨h1.e1, h1.e2, h1.e3⟩
    · rcases List.mem_cons.mp hp with e | hp
      · subst e; exact ⟨h2.e1, h2.e2, h2.e3⟩
      · rcases List.mem_cons.mp hp with e | hp
        · subst e; exact ⟨h3.e1, h3.e2, h3.e3⟩
        · exact apart_all ha p hp
/-- what a stack comes to when the empty ones on top are taken off -/
inductive Pops : List Fk → List Fk → Prop where
  | here {i pl k : Nat} {ks : List Nat} {st : List Fk} : Pops (⟨i, pl, k :: ks⟩ :: st) (⟨i, pl, k :: ks⟩ :: st)
  | pop {i pl : Nat} {st st' : List Fk} : Pops st st' → Pops (⟨i, pl, []⟩ :: st) st'
inductive AllNil : List Fk → Nat → Nat → Prop where
  | one {i pl : Nat} : AllNil [⟨i, pl, []⟩] i pl
  | more {i pl j pj : Nat} {st : List Fk} : AllNil st j pj → AllNil (⟨i, pl, []⟩ :: st) j pj
def letFacts (W : Str) (k : Nat) : Bool := ((⟨#[97 + k]⟩ : Str) == Str.ofString "\n") == false && (Builtin.Str.occurrences (Str.ofString " \t\r\n") (⟨#[97 + k]⟩) 0 (PySem.Str.ofString " \t\r\n").length 1).isEmpty && (Builtin.Str.occurrences (Str.ofString "#") (⟨#[97 + k]⟩) 0 (PySem.Str.ofString "#").length 1).isEmpty && (Builtin.Str.occurrences (Str.ofString "\\") (⟨#[97 + k]⟩) 0 (PySem.Str.ofString "\\").length 1).isEmpty
theorem eof_of {rowC : Nat → List Nat} {f : Lf} {pl : Nat} (h : FOk rowC f pl []) : ∃ p', (f.text.length ≤ f.p ∧ (pl : Int) + 1 = f.ln ∧ p' = f.p) ∨ (f.text.cps.toList.drop f.p = [10] ∧ (pl : Int) + 1 = f.ln + 1 ∧ p' = f.p + 1) := by
  obtain ⟨h1, h2, h3⟩ := h
  by_cases e : pl = 0
  · rw [if_pos e] at h1 h2
    have h4 : f.text.cps.toList.drop f.p = [] := h1
    have h5 := List.drop_eq_nil_iff.mp h4
    refine ⟨_, .inl ⟨?_, by rw [h2, e]; rfl, rfl⟩⟩
    show f.text.cps.size ≤ f.p
    simpa using h5
  · rw [if_neg e] at h1 h2
    exact ⟨_, .inr ⟨h1, by rw [h2], rfl⟩⟩
end
-- S2
section
theorem let_ok {k : Nat} (hk : k < 8) : ((⟨#[97 + k]⟩ : Str) == Str.ofString "\n") = false ∧ (Builtin.Str.occurrences (Str.ofString " \t\r\n") (⟨#[97 + k]⟩) 0 (PySem.Str.ofString " \t\r\n").length 1).isEmpty = true ∧ (Builtin.Str.occurrences (Str.ofString "#") (⟨#[97 + k]⟩) 0 (PySem.Str.ofString "#").length 1).isEmpty = true ∧ (Builtin.Str.occurrences (Str.ofString "\\") (⟨#[97 + k]⟩) 0 (PySem.Str.ofString "\\").length 1).isEmpty = true := by
  have h : (List.range 8).all (fun k => letFacts (Str.ofString "") k) = true := by decide +kernel
  have := List.all_eq_true.mp h k (List.mem_range.mpr hk)
  unfold letFacts at this
  simp only [Bool.and_eq_true, beq_iff_eq] at this
  exact ⟨this.1.1.1, this.1.1.2, this.1.2, this.2⟩
theorem w_let {W : Str} (h : wOk W = true) {k : Nat} (hk : k < 8) : (Builtin.Str.occurrences W (⟨#[97 + k]⟩) 0 W.length 1).isEmpty = false := by
  unfold wOk at h
  rw [Bool.and_eq_true] at h
  have := List.all_eq_true.mp h.2 k (List.mem_range.mpr hk)
  simpa using this
theorem w_quote {W : Str} (h : wOk W = true) : (Builtin.Str.occurrences W (Str.ofString "\"") 0 W.length 1).isEmpty = true := by
  unfold wOk at h
  rw [Bool.and_eq_true, Bool.and_eq_true] at h
  exact h.1.1
theorem w_eq {W : Str} (h : wOk W = true) : (Builtin.Str.occurrences W (Str.ofString "=") 0 W.length 1).isEmpty = true := by
  unfold wOk at h
  rw [Bool.and_eq_true, Bool.and_eq_true] at h
  exact h.1.2
section
variable {w : World} {lx ld pa fa : Addr} {kt ct : Nat → Tok} {W : Str} {rowC : Nat → List Nat} {base : List (Addr × Obj)}
theorem gts_stack (h4 : Four lx ld pa fa) (hW : wOk W = true) {st st' : List Fk} (hp : Pops st st') : ∀ {i pl k : Nat} {ks : List Nat} {st2 : List Fk}, st' = ⟨i, pl, k :: ks⟩ :: st2 → k < 8 → ∀ {f : Lf} {gs : List (Addr × Lf)}, StOk rowC f gs st → Apart w.params lx ld pa fa f gs base → gs.length < 900 → ∀ (nf : Int),
    ∃ (f' : Lf) (gs' : List (Addr × Lf)) (nf' : Int) (p' : Nat), StOk rowC f' gs' (⟨i, pl, k :: ks⟩ :: st2) ∧ Apart w.params lx ld pa fa f' gs' base ∧ gs'.length ≤ gs.length ∧ f'.text.cps.toList.drop p' = 34 :: (rowC k ++ 34 :: 13 :: 10 :: textL rowC ks) ∧
      GtSome w lx ld pa fa kt ct W (14 + gs.length) f.x (.str (nmL f.i) f.ti) f.ln nf (itemsOf gs) (tailOf w.params f gs base) (97 + k) f'.x (.str (nmL f'.i) f'.ti) ((pl : Int) + 1) nf' (itemsOf gs') (fun t3' => tailOf w.params { f' with p := p', t3 := t3' } gs' base) := by
  induction hp with
  | @here i pl k ks st =>
    intro i' pl' k' ks' st2 e hk f gs hs ha hgs nf
    obtain ⟨e1, e2⟩ := List.cons.inj e
    injection e1 with a1 a2 a3
    obtain ⟨a3, a4⟩ := List.cons.inj a3
    subst a1 a2 a3 a4 e2
    obtain ⟨l1, l2, l3, l4⟩ := let_ok hk
    have key : ∀ (rest : List (Addr × Obj)) (g : Lf), FOk rowC g pl (k :: ks) → Off lx ld pa fa g.x → Off lx ld pa fa g.dx → @Ne Nat g.x g.dx → (∀ p ∈ rest, p.1 ≠ ld) → (∀ p ∈ rest, p.1 ≠ g.dx) → (∀ p ∈ rest, p.1 ≠ pa) → ∃ p', g.text.cps.toList.drop p' = 34 :: (rowC k ++ 34 :: 13 :: 10 :: textL rowC ks) ∧
        GtSome w lx ld pa fa kt ct W (14 + gs.length) g.x (.str (nmL g.i) g.ti) g.ln nf (itemsOf gs) ((g.x, instObj 592 g.dx) :: (g.dx, sioOf w.params g) :: rest) (97 + k) g.x (.str (nmL g.i) g.ti) ((pl : Int) + 1) nf (itemsOf gs) (fun t3' => (g.x, instObj 592 g.dx) :: (g.dx, sioOf w.params { g with p := p', t3 := t3' }) :: rest) := by
      intro rest g hf o1 o2 o3 r1 r2 r3
      obtain ⟨d1, d2, d3⟩ := hf
      rw [textL_cons] at d1
      by_cases e : pl = 0
      · rw [if_pos e] at d1 d2
        have d1' : g.text.cps.toList.drop g.p = (97 + k) :: 61 :: 34 :: (rowC k ++ 34 :: 13 :: 10 :: textL rowC ks) := d1
        refine ⟨g.p + 2, ?_, gts_here (by omega) d3 h4.e0 o1.e0.symm o2.e0.symm h4.e1 h4.e2 o1.e1.symm o2.e1.symm h4.e3 h4.e4 o3 o1.e2 o1.e3 o2.e2 o2.e3 h4.e5 r1 r2 r3 l1 l2 l3 l4 (w_let hW hk) (w_eq hW) (.inl ⟨d1', by rw [d2, e]; rfl, rfl⟩)⟩
        rw [← List.drop_drop, d1']; rfl
      · rw [if_neg e] at d1 d2
        have d1' : g.text.cps.toList.drop g.p = 10 :: (97 + k) :: 61 :: 34 :: (rowC k ++ 34 :: 13 :: 10 :: textL rowC ks) := d1
        refine ⟨g.p + 3, ?_, gts_here (by omega) d3 h4.e0 o1.e0.symm o2.e0.symm h4.e1 h4.e2 o1.e1.symm o2.e1.symm h4.e3 h4.e4 o3 o1.e2 o1.e3 o2.e2 o2.e3 h4.e5 r1 r2 r3 l1 l2 l3 l4 (w_let hW hk) (w_eq hW) (.inr ⟨d1', by rw [d2], rfl⟩)⟩
        rw [← List.drop_drop, d1']; rfl
    cases hs with
    | one hf =>
      obtain ⟨o1, o2, o3, hb⟩ := ha
      obtain ⟨p', hd, hg⟩ := key base f hf o1 o2 o3 (fun p hp => (hb p hp).1) (fun p hp => (hb p hp).2.2.2) (fun p hp => (hb p hp).2.1)
      exact ⟨f, [], nf, p', .one hf, ⟨o1, o2, o3, hb⟩, Nat.le_refl _, hd, hg⟩
    | @more _ g tA gs' _ _ _ hf hs' =>
      obtain ⟨o1, o2, o3, o4, o5, o6, o7, ha'⟩ := ha
      have hall := apart_all ha'
      obtain ⟨p', hd, hg⟩ := key ((tA, tupO [.str (nmL g.i) g.ti, .ref g.x, .int g.ln g.tl]) :: tailOf w.params g gs' base) f hf o1 o2 o3
        (List.forall_mem_cons.mpr ⟨o4.e1, fun p hp => (hall p hp).1⟩) (List.forall_mem_cons.mpr ⟨o6.symm, o7⟩) (List.forall_mem_cons.mpr ⟨o4.e2, fun p hp => (hall p hp).2.1⟩)
      exact ⟨f, (tA, g) :: gs', nf, p', .more hf hs', ⟨o1, o2, o3, o4, o5, o6, o7, ha'⟩, Nat.le_refl _, hd, hg⟩
  | @pop i pl st st' _ ih =>
    intro i' pl' k' ks' st2 e hk f gs hs ha hgs nf
    cases hs with
    | one hf => subst e; rename_i hpp; cases hpp
    | @more _ g tA gs' _ _ _ hf hs' =>
      obtain ⟨o1, o2, o3, o4, o5, o6, o7, ha'⟩ := ha
      have hall := apart_all ha'
      simp only [List.length_cons] at hgs
      obtain ⟨f', gs'', nf', p', h1, h2, h3, h5, h6⟩ := ih e hk hs' ha' (by omega) (nf + 1)
      refine ⟨f', gs'', nf', p', h1, h2, Nat.le_trans h3 (Nat.le_succ _), h5, ?_⟩
      obtain ⟨q, hq⟩ := eof_of hf
      exact gts_pop (k1 := f.k1) (k2 := f.k2) (k3 := f.k3) (nl := .str (Str.ofString "\n") f.t1) (t2 := f.t2) (t3 := f.t3) (inf := .str (nmL f.i) f.ti) (by omega) hf.size h4.e0 o1.e0.symm o2.e0.symm h4.e1 h4.e2 o4.e0.symm o1.e1.symm o2.e1.symm h4.e3 h4.e4 o4.e1.symm o3 o1.e2 o1.e3 o5 o2.e2 o2.e3 o6 h4.e5 o4.e2.symm o4.e3.symm (fun p hp => (hall p hp).1) o7 (fun p hp => (hall p hp).2.2) (by rw [List.length_map]; omega) hq @h6
theorem gtn_stack (h4 : Four lx ld pa fa) {st : List Fk} {j pj : Nat} (hp : AllNil st j pj) : ∀ {f : Lf} {gs : List (Addr × Lf)}, StOk rowC f gs st → Apart w.params lx ld pa fa f gs base → gs.length < 900 → ∀ (nf : Int),
    ∃ (xF : Addr) (tj : Tok) (nf' : Int) (tailF : Tok → List (Addr × Obj)), (∀ t, ∀ p ∈ base, p ∈ tailF t) ∧
      GtNone w lx ld pa fa kt ct W (14 + gs.length) f.x (.str (nmL f.i) f.ti) f.ln nf (itemsOf gs) (tailOf w.params f gs base) xF (.str (nmL j) tj) ((pj : Int) + 1) nf' tailF := by
  induction hp with
  | @one i pl =>
    intro f gs hs ha hgs nf
    cases hs with
    | one hf =>
      obtain ⟨o1, o2, o3, hb⟩ := ha
      obtain ⟨q, hq⟩ := eof_of hf
      exact ⟨f.x, f.ti, nf, _, fun t p hp => .tail _ (.tail _ hp), gtn_stop (c := 0) (rs := []) (by omega) hf.size h4.e0 o1.e0.symm o2.e0.symm h4.e1 h4.e2 o1.e1.symm o2.e1.symm h4.e3 h4.e4 o3 o1.e2 o1.e3 o2.e2 o2.e3 h4.e5 (fun p hp => (hb p hp).1) (fun p hp => (hb p hp).2.2.2) (fun p hp => (hb p hp).2.1) hq⟩
    | more hf hs' => cases hs'
  | @more i pl j pj st hp ih =>
    intro f gs hs ha hgs nf
    cases hs with
    | one hf => cases hp
    | @more _ g tA gs' _ _ _ hf hs' =>
      obtain ⟨o1, o2, o3, o4, o5, o6, o7, ha'⟩ := ha
      have hall := apart_all ha'
      simp only [List.length_cons] at hgs
      obtain ⟨xF, tj, nf', tailF, h5, h6⟩ := ih hs' ha' (by omega) (nf + 1)
      obtain ⟨q, hq⟩ := eof_of hf
      refine ⟨xF, tj, nf', tailF, h5, ?_⟩
      exact gtn_pop (c := 0) (itemsF := []) (k1 := f.k1) (k2 := f.k2) (k3 := f.k3) (nl := .str (Str.ofString "\n") f.t1) (t2 := f.t2) (t3 := f.t3) (inf := .str (nmL f.i) f.ti) (by omega) hf.size h4.e0 o1.e0.symm o2.e0.symm h4.e1 h4.e2 o4.e0.symm o1.e1.symm o2.e1.symm h4.e3 h4.e4 o4.e1.symm o3 o1.e2 o1.e3 o5 o2.e2 o2.e3 o6 h4.e5 o4.e2.symm o4.e3.symm (fun p hp => (hall p hp).1) o7 (fun p hp => (hall p hp).2.2) (by rw [List.length_map]; omega) hq @h6
end
end
-- S3
section
section
variable {prog : Program} {w : World} {A : Around} {env : Env} {test : PySem.Expr} {body orelse : List Stmt} {Q : Flow → Shared → Prop}
theorem while_ind (J : Nat → Shared → Prop)
    (turn : ∀ n s, J n s → wpAny (model prog w) A (isTrue test env (eval test env)) (fun b s₂ => WhlIf b (wpAny (model prog w) A (execs body env) (fun f s₃ => Stop (f = .next ∧ ∃ n', n' < n ∧ J n' s₃)) (fun _ _ => False) s₂) (wpAny (model prog w) A (execs orelse env) Q (fun _ _ => False) s₂)) (fun _ _ => False) s) :
    ∀ n s, J n s → WhlRest prog w A (fun _ _ => False) env test body orelse Q 1 s := by
  intro n
  induction n using Nat.strongRecOn with
  | _ n ih =>
    intro s hJ
    refine whl_turn PassesOwn.never ?_
    refine wpAny_mono (turn n s hJ) (fun b s₂ h₂ => ?_) fun _ _ e => e
    cases b with
    | false => exact h₂
    | true =>
      refine WhlIf.yes rfl ?_
      have h₃ : wpAny (model prog w) A (execs body env) (fun f s₃ => Stop (f = .next ∧ ∃ n', n' < n ∧ J n' s₃)) (fun _ _ => False) s₂ := by
        unfold WhlIf at h₂
        rw [if_pos rfl] at h₂
        exact h₂
      refine wpAny_mono h₃ (fun f s₃ h₄ => ?_) fun _ _ e => e
      obtain ⟨rfl, n', hn, hJ'⟩ := h₄
      exact ih n' hn s₃ hJ'
end
section
variable {kids : Nat → List Nat} {dir : Nat → Bool}
theorem runs_end {st : List Fk} {ev : List Ev} (h : Runs kids dir st ev) : ev = [] → st ≠ [] → ∃ j pj, AllNil st j pj := by
  induction h with
  | nil => intro _ h; exact absurd rfl h
  | @pop i pl st ev h ih =>
    intro e _
    by_cases hs : st = []
    · subst hs; exact ⟨_, _, .one⟩
    · obtain ⟨j, pj, h⟩ := ih e hs
      exact ⟨j, pj, .more h⟩
  | file => intro e; cases e
  | dir => intro e; cases e
theorem runs_next {st : List Fk} {ev : List Ev} (h : Runs kids dir st ev) : ∀ {e ev'}, ev = e :: ev' → ∃ pl ks st2, Pops st (⟨e.i, pl, e.k :: ks⟩ :: st2) ∧ e.pl = pl + 1 ∧ ((dir e.k = false ∧ Runs kids dir (⟨e.i, pl + 1, ks⟩ :: st2) ev') ∨ (dir e.k = true ∧ Runs kids dir (⟨e.k + 1, 0, kids (e.k + 1)⟩ :: ⟨e.i, pl + 1, ks⟩ :: st2) ev')) := by
  induction h with
  | nil => intro _ _ e; cases e
  | pop h ih =>
    intro e ev' he
    obtain ⟨pl, ks, st2, hp, h⟩ := ih he
    exact ⟨pl, ks, st2, .pop hp, h⟩
  | @file i pl k ks st ev hd h ih =>
    intro e ev' he
    obtain ⟨rfl, rfl⟩ := List.cons.inj he
    exact ⟨pl, ks, st, .here, rfl, .inl ⟨hd, h⟩⟩
  | @dir i pl k ks st ev hd h ih =>
    intro e ev' he
    obtain ⟨rfl, rfl⟩ := List.cons.inj he
    exact ⟨pl, ks, st, .here, rfl, .inr ⟨hd, h⟩⟩
/-- a stack that is not deep, with the top file at its foot -/
inductive Good (n c : Nat) : List Fk → Prop where
  | one {pl : Nat} {ks : List Nat} : pl + ks.length = c → (∀ k ∈ ks, 0 ≤ k ∧ k < n) → Good n c [⟨0, pl, ks⟩]
  | more {i pl : Nat} {ks : List Nat} {st : List Fk} : Good n c st → st.length ≤ i → i ≤ n → (∀ k ∈ ks, i ≤ k ∧ k < n) → Good n c (⟨i, pl, ks⟩ :: st)
variable {n c : Nat}
theorem Good.len {st : List Fk} (h : Good n c st) : st.length ≤ n + 1 := by
  cases h with
  | one => simp
  | more _ h1 h2 => simp only [List.length_cons]; omega
theorem Good.pops {st st' : List Fk} (hp : Pops st st') : Good n c st → Good n c st' := by
  induction hp with
  | here => exact id
  | pop hp ih =>
    intro h
    cases h with
    | one => cases hp
    | more h => exact ih h
theorem Good.step {i pl k : Nat} {ks : List Nat} {st : List Fk} (h : Good n c (⟨i, pl, k :: ks⟩ :: st)) : i ≤ n ∧ k < n ∧ Good n c (⟨i, pl + 1, ks⟩ :: st) ∧ st.length ≤ k := by
  cases h with
  | one h1 h2 =>
    have := h2 k (.head _)
    exact ⟨by omega, this.2, .one (by simp only [List.length_cons] at h1; omega) fun q hq => h2 q (.tail _ hq), Nat.zero_le _⟩
  | more h1 h2 h3 h4 =>
    have := h4 k (.head _)
    exact ⟨h3, this.2, .more h1 h2 h3 fun q hq => h4 q (.tail _ hq), by omega⟩
theorem Good.push {i pl k : Nat} {ks ks' : List Nat} {st : List Fk} (h : Good n c (⟨i, pl, k :: ks⟩ :: st)) (hk : ∀ q ∈ ks', k + 1 ≤ q ∧ q < n) : Good n c (⟨k + 1, 0, ks'⟩ :: ⟨i, pl + 1, ks⟩ :: st) := by
  obtain ⟨h1, h2, h3, h4⟩ := h.step
  exact .more h3 (by simp only [List.length_cons]; omega) (by omega) hk
theorem Good.bot {st : List Fk} {j pj : Nat} (ha : AllNil st j pj) : Good n c st → j = 0 ∧ pj = c := by
  induction ha with
  | one =>
    intro h
    cases h with
    | one h => exact ⟨rfl, by simpa using h⟩
    | more h => cases h
  | more ha ih =>
    intro h
    cases h with
    | one => cases ha
    | more h => exact ih h
end
theorem StOk.len {rowC : Nat → List Nat} {f : Lf} {gs : List (Addr × Lf)} {st : List Fk} (h : StOk rowC f gs st) : gs.length + 1 = st.length := by
  induction h with
  | one => rfl
  | more _ _ ih => simp only [List.length_cons]; omega
theorem StOk.ne {rowC : Nat → List Nat} {f : Lf} {gs : List (Addr × Lf)} {st : List Fk} (h : StOk rowC f gs st) : st ≠ [] := by
  cases h <;> simp
theorem tail_app {P : Params} : ∀ (gs : List (Addr × Lf)) (f : Lf) (base : List (Addr × Obj)), tailOf P f gs base = tailOf P f gs [] ++ base
  | [], _, _ => rfl
  | q :: gs, f, base => by
    simp only [tailOf, List.cons_append]
    rw [tail_app gs q.2 base]
theorem tail_mem {P : Params} {gs : List (Addr × Lf)} {f : Lf} {base : List (Addr × Obj)} {p : Addr × Obj} : p ∈ tailOf P f gs base ↔ p ∈ tailOf P f gs [] ∨ p ∈ base := by
  rw [tail_app, List.mem_append]
theorem apart_base {P : Params} {lx ld pa fa : Addr} {base base' : List (Addr × Obj)} : ∀ {gs : List (Addr × Lf)} {f : Lf}, Apart P lx ld pa fa f gs base → (∀ p ∈ base', p.1 ≠ ld ∧ p.1 ≠ pa ∧ p.1 ≠ fa ∧ ((∃ q ∈ base, q.1 = p.1) ∨ ∀ q ∈ tailOf P f gs [], q.1 ≠ p.1)) → Apart P lx ld pa fa f gs base'
  | [], f, ⟨h1, h2, h3, hb⟩, hn => ⟨h1, h2, h3, fun p hp => by
    obtain ⟨a1, a2, a3, a4⟩ := hn p hp
    refine ⟨a1, a2, a3, ?_⟩
    rcases a4 with ⟨q, hq, e⟩ | h
    · rw [← e]; exact (hb q hq).2.2.2
    · exact fun e => h (f.dx, sioOf P f) (.tail _ (.head _)) e.symm⟩
  | q :: gs, f, ⟨h1, h2, h3, h4, h5, h6, h7, ha⟩, hn => by
    refine ⟨h1, h2, h3, h4, h5, h6, ?_, apart_base ha fun p hp => ?_⟩
    · intro p hp
      rcases tail_mem.mp hp with hp | hp
      · exact h7 p (tail_mem.mpr (.inl hp))
      · obtain ⟨a1, a2, a3, a4⟩ := hn p hp
        rcases a4 with ⟨r, hr, e⟩ | h
        · rw [← e]; exact h7 r (tail_mem.mpr (.inr hr))
        · exact fun e => h (f.dx, sioOf P f) (.tail _ (.head _)) e.symm
    · obtain ⟨a1, a2, a3, a4⟩ := hn p hp
      refine ⟨a1, a2, a3, ?_⟩
      rcases a4 with h | h
      · exact .inl h
      · exact .inr fun r hr => h r (.tail _ (.tail _ (.tail _ hr)))
/-- the frame on top may have moved on in its text -/
theorem apart_top {P : Params} {lx ld pa fa : Addr} {base : List (Addr × Obj)} {gs : List (Addr × Lf)} {f f' : Lf} (h : Apart P lx ld pa fa f gs base) (e1 : f'.x = f.x) (e2 : f'.dx = f.dx) : Apart P lx ld pa fa f' gs base := by
  cases gs with
  | nil => unfold Apart at h ⊢; rw [e1, e2]; exact h
  | cons q gs => unfold Apart at h ⊢; rw [e1, e2]; exact h
def rowCs (rowS : Nat → Str) (k : Nat) : List Nat := (rowS k).cps.toList
def kidsOf (par : Nat → Nat) (n i : Nat) : List Nat := (List.range n).filter fun k => decide (par k = i)
theorem join_cps0 : ∀ (l : List Str), (Str.join (Str.ofString "") l).cps.toList = l.flatMap fun x => x.cps.toList
  | [] => rfl
  | [x] => by show x.cps.toList = _; simp
  | x :: y :: r => by
    show (x ++ Str.ofString "" ++ Str.join (Str.ofString "") (y :: r)).cps.toList = _
    rw [Str.cps_append, Str.cps_append, List.flatMap_cons, ← join_cps0 (y :: r)]
    simp [show (Str.ofString "").cps = #[] by decide +kernel]
theorem join_cps (l : List Str) : (Txt.join (Str.ofString "") l).cps.toList = l.flatMap fun x => x.cps.toList := by
  show (Builtin.Str.glued (Str.ofString "") l).cps.toList = _
  rw [StrLaws.glued_eq_join, join_cps0]
theorem line_cps (k : Nat) (r : Str) : (Str.empty ++ ⟨#[97 + k]⟩ ++ Str.ofString "=\"" ++ r ++ Str.ofString "\"" ++ Str.ofString "\x0d\n").cps.toList = (97 + k) :: 61 :: 34 :: (r.cps.toList ++ [34, 13, 10]) := by
  simp only [Str.cps_append]
  simp [show (Str.ofString "=\"").cps = #[61, 34] by decide +kernel, show (Str.ofString "\"").cps = #[34] by decide +kernel, show (Str.ofString "\x0d\n").cps = #[13, 10] by decide +kernel, Str.empty]
theorem tab_low {par : Nat → Nat} {rowS : Nat → Str} {k i : Nat} (hp : par k ≤ 8) (hi : i ≤ 8) : (Txt.lower (tabAt par rowS k).1 == nmL i) = decide (par k = i) := by
  rw [← nm_inj hp hi]
  unfold tabAt
  (try dsimp only)
  split
  · rw [nm_ul hp]
  · rw [nm_lo hp]
theorem lines_cps {par : Nat → Nat} {rowS : Nat → Str} {n i : Nat} (hp : ∀ k, k < n → par k ≤ 8) (hi : i ≤ 8) : (linesOf (((tabOf par rowS n).filter fun p => Txt.lower p.1 == nmL i).map (·.2))).cps.toList = textL (rowCs rowS) (kidsOf par n i) := by
  unfold linesOf textL kidsOf tabOf
  rw [join_cps, List.filter_map, List.map_map, List.map_map, List.flatMap_map]
  have e : List.filter ((fun p => Txt.lower p.1 == nmL i) ∘ tabAt par rowS) (List.range n) = List.filter (fun k => decide (par k = i)) (List.range n) := by
    refine List.filter_congr fun k hk => ?_
    exact tab_low (hp k (List.mem_range.mp hk)) hi
  rw [e]
  refine congrArg (List.flatMap · _) ?_
  funext k
  exact line_cps k (rowS k)
theorem text_len {rowC : Nat → List Nat} : ∀ {ks : List Nat}, (∀ k ∈ ks, (rowC k).length ≤ 10) → (textL rowC ks).length ≤ 16 * ks.length
  | [], _ => by simp [textL]
  | k :: ks, h => by
    have h1 := text_len (ks := ks) fun q hq => h q (.tail _ hq)
    have h2 := h k (.head _)
    rw [textL_cons]
    simp only [List.length_cons, List.length_append]
    omega
theorem kids_mem {par : Nat → Nat} {n i k : Nat} (h : k ∈ kidsOf par n i) : k < n ∧ par k = i := by
  unfold kidsOf at h
  rw [List.mem_filter] at h
  exact ⟨List.mem_range.mp h.1, of_decide_eq_true h.2⟩
theorem kids_len {par : Nat → Nat} {n i : Nat} : (kidsOf par n i).length ≤ n := by
  have := List.length_filter_le (fun k => decide (par k = i)) (List.range n)
  rw [List.length_range] at this
  exact this
end
-- U0
section
theorem kw26 : True := by
  k_with_none
  k_with "own all" => first | assumption | (refine ne_rest ?_; first | assumption | exact And.right ((by assumption)) | exact And.right (And.right ((by assumption))) | exact And.right (And.right (And.right ((by assumption)))) | exact And.right (And.right (And.right (And.right ((by assumption))))) | exact And.right (And.right (And.right (And.right (And.right ((by assumption)))))) | exact And.right (And.right (And.right (And.right (And.right (And.right ((by assumption))))))) | exact And.right (And.right (And.right (And.right (And.right (And.right (And.right ((by assumption)))))))) | exact And.right (And.right (And.right (And.right (And.right (And.right (And.right (And.right ((by assumption))))))))) | exact And.right (And.right (And.right (And.right (And.right (And.right (And.right (And.right (And.right ((by assumption)))))))))) | exact And.right (And.right (And.right (And.right (And.right (And.right (And.right (And.right (And.right (And.right ((by assumption))))))))))) | exact And.right (And.right (And.right (And.right (And.right (And.right (And.right (And.right (And.right (And.right (And.right ((by assumption)))))))))))) | exact And.right (And.right (And.right (And.right (And.right (And.right (And.right (And.right (And.right (And.right (And.right (And.right ((by assumption))))))))))))) | exact And.right (And.right (And.right (And.right (And.right (And.right (And.right (And.right (And.right (And.right (And.right (And.right (And.right ((by assumption)))))))))))))))
  k_with "exec If" => refine wpAny_If ?_
  k_with "truthy str" => refine P.truthy_str (by omega) ?_
  k_with "getMethod ref" => (k_here; (with_reducible show wpAny _ _ (getMethod (Value.ref _) (PySem.Str.ofString "appendleft") _) _ _ _); k_dflt (refine' dqK_apl ?N9q ?h9q ?_; (case N9q => k_asm); (case h9q => k_mem); k_whole))
  k_with "getMethod ref" => (k_here; (with_reducible show wpAny _ _ (getMethod (Value.ref _) (PySem.Str.ofString "popleft") _) _ _ _); k_dflt (refine' dqK_pop ?N9q ?h9q ?_; (case N9q => k_asm); (case h9q => k_mem); k_whole))
  k_with "call builtin:collections.deque.appendleft" => (k_here; k_dflt (refine' dqK_appendleft ?F9q ?N9q ?U9q ?z9q ?_; (case F9q => k_asm); (case N9q => k_asm); (case U9q => k_upd); (case z9q => first | exact Nat.le_of_ble_eq_true rfl | assumption | (simp only [List.length_cons]; omega)); k_whole; intro h9k F9k N9k; (try k_sweep)))
  k_with "call builtin:collections.deque.popleft" => (k_here; k_dflt (refine' dqK_popleft ?F9q ?N9q ?U9q ?z9q ?_; (case F9q => k_asm); (case N9q => k_asm); (case U9q => k_upd); (case z9q => first | exact Nat.le_of_ble_eq_true rfl | assumption | (simp only [List.length_cons]; omega)); k_whole; intro h9k F9k N9k; (try k_sweep)))
  k_with "truthy ref" => (k_here; k_dflt (refine' dqK_truthy ?N9q ?h9q ?z9q ?_; (case N9q => k_asm); (case h9q => k_mem); (case z9q => first | exact Nat.le_of_ble_eq_true rfl | assumption | (simp only [List.length_cons]; omega)); k_whole; intro tk9k))
  k_with "ite" => first | refine ite_pos (by with_reducible assumption) ?_ | refine ite_isFalse (by with_reducible assumption) ?_ | refine ite_neg (by with_reducible assumption) ?_
  k_with "call ref" => (k_here; (try dsimp only [List.nil_append, List.cons_append, List.append_nil]); (with_reducible show wpAny _ _ (call (Value.ref 592) [Value.str _ _]) _ _ _); k_dflt (refine' mk_sio ?k19q ?k29q ?k39q ?k59q ?kK9q ?kd9q ?ku9q ?kl9q ?kN9q ?_; (case k19q => k_asm); (case k29q => k_asm); (case k39q => k_asm); (case k59q => k_asm); (case kK9q => first | exact rfl | assumption); (case kl9q => assumption); (case kN9q => k_asm); (case kd9q => ktr_room); (case ku9q => ktr_units); k_whole; intro x9k dx9k k19k k29k k39k t19k t29k t39k h9k tk9k l19k l29k F9k N9k; (try k_lt l19k); (try k_lt2 l29k); (try k_sweep)))
  k_with "call type:collections.deque" => (k_here; (try dsimp only [List.nil_append, List.cons_append, List.append_nil]); (with_reducible show wpAny _ _ (call (Value.type "collections.deque") []) _ _ _); k_dflt (refine' dqK_new ?F9q ?N9q ?_; (case F9q => k_asm); (case N9q => k_asm); k_whole; intro d9k h9k l19k F9k N9k; (try k_lt l19k); (try k_sweep)))
  k_with "execs cons" => ((with_reducible refine wpAny_execs_cons ?_); (try dsimp only); (try k_fold))
  k_with "own ne" => (refine neN ?_; (try dsimp only); first | with_reducible assumption | (refine Ne.symm ?_; with_reducible assumption) | (refine Nat.ne_of_lt ?_; first | with_reducible assumption | with_reducible exact And.left (by with_reducible assumption) | with_reducible exact And.left (And.right (by with_reducible assumption)) | with_reducible exact And.left (And.right (And.right (by with_reducible assumption))) | with_reducible exact And.left (And.right (And.right (And.right (by with_reducible assumption)))) | with_reducible exact And.left (And.right (And.right (And.right (And.right (by with_reducible assumption))))) | with_reducible exact And.left (And.right (And.right (And.right (And.right (And.right (by with_reducible assumption)))))) | with_reducible exact And.left (And.right (And.right (And.right (And.right (And.right (And.right (by with_reducible assumption))))))) | with_reducible exact And.left (And.right (And.right (And.right (And.right (And.right (And.right (And.right (by with_reducible assumption)))))))) | with_reducible exact And.left (And.right (And.right (And.right (And.right (And.right (And.right (And.right (And.right (by with_reducible assumption))))))))) | with_reducible exact And.right (by with_reducible assumption) | with_reducible exact And.right (And.right (by with_reducible assumption)) | with_reducible exact And.right (And.right (And.right (by with_reducible assumption))) | with_reducible exact And.right (And.right (And.right (And.right (by with_reducible assumption)))) | with_reducible exact And.right (And.right (And.right (And.right (And.right (by with_reducible assumption))))) | with_reducible exact And.right (And.right (And.right (And.right (And.right (And.right (by with_reducible assumption)))))) | with_reducible exact And.right (And.right (And.right (And.right (And.right (And.right (And.right (by with_reducible assumption))))))) | with_reducible exact And.right (And.right (And.right (And.right (And.right (And.right (And.right (And.right (by with_reducible assumption))))))))) | (refine Nat.ne_of_gt ?_; first | with_reducible assumption | with_reducible exact And.left (by with_reducible assumption) | with_reducible exact And.left (And.right (by with_reducible assumption)) | with_reducible exact And.left (And.right (And.right (by with_reducible assumption))) | with_reducible exact And.left (And.right (And.right (And.right (by with_reducible assumption)))) | with_reducible exact And.left (And.right (And.right (And.right (And.right (by with_reducible assumption))))) | with_reducible exact And.left (And.right (And.right (And.right (And.right (And.right (by with_reducible assumption)))))) | with_reducible exact And.left (And.right (And.right (And.right (And.right (And.right (And.right (by with_reducible assumption))))))) | with_reducible exact And.left (And.right (And.right (And.right (And.right (And.right (And.right (And.right (by with_reducible assumption)))))))) | with_reducible exact And.left (And.right (And.right (And.right (And.right (And.right (And.right (And.right (And.right (by with_reducible assumption))))))))) | with_reducible exact And.right (by with_reducible assumption) | with_reducible exact And.right (And.right (by with_reducible assumption)) | with_reducible exact And.right (And.right (And.right (by with_reducible assumption))) | with_reducible exact And.right (And.right (And.right (And.right (by with_reducible assumption)))) | with_reducible exact And.right (And.right (And.right (And.right (And.right (by with_reducible assumption))))) | with_reducible exact And.right (And.right (And.right (And.right (And.right (And.right (by with_reducible assumption)))))) | with_reducible exact And.right (And.right (And.right (And.right (And.right (And.right (And.right (by with_reducible assumption))))))) | with_reducible exact And.right (And.right (And.right (And.right (And.right (And.right (And.right (And.right (by with_reducible assumption))))))))))
  trivial
section
variable {w : World} {mean : ExcName → Option Value} {mg mb : Str → Option Value} {dp un : Nat} {gd : Option (List Code)} {cn : Str} {cs : Scope} {a : Addr} {ccd : Value} {cl : List (Str × Addr)} {outer : List Env} {A₀ : Around} {base h₀ : Heap} {L : Addr} {m : Str → Option Value} {s : Shared} {Q E : Value → Shared → Prop} {rest : List (Addr × Obj)}
theorem lex_k {R : Result → Shared → Prop} {lx ld : Addr} {text infn : Str} {t ti : Tok} (B : Below A₀ base outer h₀) (F : Fr h₀ L s.heap m) (X : (hd.heap_1 w.params).In h₀) (T : Top q (looseW q loose) mean mg mb h₀) (hk : cs.kind = .function) (hdp : dp + 14 < recursionLimit) (hun : un + 140 < cLine) (hl : text.length ≤ 1000000) (e0 : @Ne Nat lx ld) (r1 : ∀ p ∈ rest, p.1 ≠ ld) (N : News h₀ L s.heap ((lx, instObj 727 ld) :: (ld, dictOf [] 0) :: rest))
    (hret : ∀ x dx pa fa kt ct W k1 k2 k3 t1 t2 t3 ts tl tt h' tk', (lx < dx ∧ ld < dx ∧ AllLt dx rest) → dx < x → (x < pa ∧ dx < pa ∧ lx < pa ∧ ld < pa ∧ AllLt pa rest) → (pa < fa ∧ x < fa ∧ dx < fa ∧ lx < fa ∧ ld < fa ∧ AllLt fa rest) → wOk W = true → Fr h₀ L h' m → News h₀ L h' ((lx, instObj 727 ld) :: (ld, lexD w.params kt ct W (.ref x) (.str infn ti) (.str (Str.ofString " ") ts) (.ref pa) (.int 1 tl) (.str (Str.ofString "") tt) (.ref fa)) :: (pa, dqO 0 []) :: (fa, dqO 0 []) :: (x, instObj 592 dx) :: (dx, sioD w.params k1 k2 k3 (.str (Str.ofString "\n") t1) (.str text t2) (.int 0 t3)) :: rest) → R (.ok (.ret .none)) { s with heap := h', toks := tk' }) :
    codeAny (model PySem.Challenge.pw_om0186_01 w) (ktrTop dp un gd cn cs L a ccd cl outer) (.call (.ref 651) ⟨[.ref lx, .str text t, .str infn ti, .bool true], []⟩) R s := by
  w_on
  k_dflt (refine' code_def ?k1 ?k2 ?k3 N ?k5 ?kA ?kF ?kK ?k6 ?k7 ?k8 ?k9 ?kB ?_ ?c2 ?c3 ?c4 ?c5; (case kA => exact rfl); (case kF => exact rfl); (case kK => assumption); (case k1 => k_asm); (case k2 => k_asm); (case k3 => k_asm); (case k5 => k_asm); (case k6 => k_is); (case k7 => k_is); (case k8 => ktr_room); (case k9 => first | exact BindsTo.of_eq rfl | exact binds_K (by k_in) rfl (by k_is) rfl rfl rfl); (case c5 => decide); (case kB => exact locs rfl); (case c2 => exact rfl); (case c3 => exact rfl); (case c4 => exact rfl); k_whole; intro g' L' h' FG' F' N' B' X' T'; (try dsimp only); (try k_fold))
  (try (show wpAny _ _ _ _ _ _; k_fold))
  k_steps
  refine' news_lex ?n ?w ?k
  case n => with_reducible assumption
  case w => decide +kernel
  case k =>
    intro kt ct z
    exact hret _ _ _ _ _ _ _ _ _ _ _ _ _ _ _ _ _ _ (by assumption) (by assumption) (by assumption) (by assumption) (by decide +kernel) (by with_reducible assumption) z
end
end
-- U1
section
theorem kw27 : True := by
  k_with_none
  k_with "execs cons" => ((with_reducible refine wpAny_execs_cons ?_); (try dsimp only); (try k_fold))
  k_with "own ne" => (refine neN ?_; (try dsimp only); first | with_reducible assumption | (refine Ne.symm ?_; with_reducible assumption) | (refine Nat.ne_of_lt ?_; first | with_reducible assumption | with_reducible exact And.left (by with_reducible assumption) | with_reducible exact And.left (And.right (by with_reducible assumption)) | with_reducible exact And.left (And.right (And.right (by with_reducible assumption))) | with_reducible exact And.left (And.right (And.right (And.right (by with_reducible assumption)))) | with_reducible exact And.left (And.right (And.right (And.right (And.right (by with_reducible assumption))))) | with_reducible exact And.left (And.right (And.right (And.right (And.right (And.right (by with_reducible assumption)))))) | with_reducible exact And.left (And.right (And.right (And.right (And.right (And.right (And.right (by with_reducible assumption))))))) | with_reducible exact And.left (And.right (And.right (And.right (And.right (And.right (And.right (And.right (by with_reducible assumption)))))))) | with_reducible exact And.left (And.right (And.right (And.right (And.right (And.right (And.right (And.right (And.right (by with_reducible assumption))))))))) | with_reducible exact And.right (by with_reducible assumption) | with_reducible exact And.right (And.right (by with_reducible assumption)) | with_reducible exact And.right (And.right (And.right (by with_reducible assumption))) | with_reducible exact And.right (And.right (And.right (And.right (by with_reducible assumption)))) | with_reducible exact And.right (And.right (And.right (And.right (And.right (by with_reducible assumption))))) | with_reducible exact And.right (And.right (And.right (And.right (And.right (And.right (by with_reducible assumption)))))) | with_reducible exact And.right (And.right (And.right (And.right (And.right (And.right (And.right (by with_reducible assumption))))))) | with_reducible exact And.right (And.right (And.right (And.right (And.right (And.right (And.right (And.right (by with_reducible assumption))))))))) | (refine Nat.ne_of_gt ?_; first | with_reducible assumption | with_reducible exact And.left (by with_reducible assumption) | with_reducible exact And.left (And.right (by with_reducible assumption)) | with_reducible exact And.left (And.right (And.right (by with_reducible assumption))) | with_reducible exact And.left (And.right (And.right (And.right (by with_reducible assumption)))) | with_reducible exact And.left (And.right (And.right (And.right (And.right (by with_reducible assumption))))) | with_reducible exact And.left (And.right (And.right (And.right (And.right (And.right (by with_reducible assumption)))))) | with_reducible exact And.left (And.right (And.right (And.right (And.right (And.right (And.right (by with_reducible assumption))))))) | with_reducible exact And.left (And.right (And.right (And.right (And.right (And.right (And.right (And.right (by with_reducible assumption)))))))) | with_reducible exact And.left (And.right (And.right (And.right (And.right (And.right (And.right (And.right (And.right (by with_reducible assumption))))))))) | with_reducible exact And.right (by with_reducible assumption) | with_reducible exact And.right (And.right (by with_reducible assumption)) | with_reducible exact And.right (And.right (And.right (by with_reducible assumption))) | with_reducible exact And.right (And.right (And.right (And.right (by with_reducible assumption)))) | with_reducible exact And.right (And.right (And.right (And.right (And.right (by with_reducible assumption))))) | with_reducible exact And.right (And.right (And.right (And.right (And.right (And.right (by with_reducible assumption)))))) | with_reducible exact And.right (And.right (And.right (And.right (And.right (And.right (And.right (by with_reducible assumption))))))) | with_reducible exact And.right (And.right (And.right (And.right (And.right (And.right (And.right (And.right (by with_reducible assumption))))))))))
  trivial
def EvR (rowS : Nat → Str) (news : List (Addr × Obj)) (ev : List Ev) (vals : List Value) : Prop := Rel2 (fun (e : Ev) v => ∃ a t1 t2 t3 t4 t5, v = .ref a ∧ (a, tupO [.str (nmL e.i) t1, .int ((e.pl : Nat) : Int) t2, .str ⟨#[97 + e.k]⟩ t3, .str (Str.ofString "=") t4, .str (rowS e.k) t5]) ∈ news) ev vals
def rowDir (r : Str) : Bool := (r.cps.toList.getD 0 0 == 100) && (r.cps.toList.getD 3 0 == 120 || r.cps.toList.getD 3 0 == 115)
/-- what holds when a name has been read -/
def RunF (P : Params) (lx ld pa fa : Addr) (rowC : Nat → List Nat) (kids : Nat → List Nat) (dir : Nat → Bool) (n c : Nat) (f : Lf) (gs : List (Addr × Lf)) (bs : List (Addr × Obj)) (e : Ev) (ev' : List Ev) : Prop :=
  ∃ pl ks st2, e.pl = pl + 1 ∧ f.i = e.i ∧ f.text.cps.toList.drop f.p = 34 :: (rowC e.k ++ 34 :: 13 :: 10 :: textL rowC ks) ∧ f.text.length ≤ 1000000 ∧ (∃ f0 : Lf, f0.i = f.i ∧ StOk rowC f0 gs (⟨e.i, pl, e.k :: ks⟩ :: st2)) ∧ Apart P lx ld pa fa f gs bs ∧ Good n c (⟨e.i, pl, e.k :: ks⟩ :: st2) ∧
    ((dir e.k = false ∧ Runs kids dir (⟨e.i, pl + 1, ks⟩ :: st2) ev') ∨ (dir e.k = true ∧ Runs kids dir (⟨e.k + 1, 0, kids (e.k + 1)⟩ :: ⟨e.i, pl + 1, ks⟩ :: st2) ev'))
theorem stok_i {rowC : Nat → List Nat} {f : Lf} {gs : List (Addr × Lf)} {i pl : Nat} {ks : List Nat} {st : List Fk} (h : StOk rowC f gs (⟨i, pl, ks⟩ :: st)) : f.i = i ∧ FOk rowC f pl ks := by
  cases h with
  | one h => exact ⟨rfl, h⟩
  | more h => exact ⟨rfl, h⟩
theorem stok_step {rowC : Nat → List Nat} {f f' : Lf} {gs : List (Addr × Lf)} {i pl pl' : Nat} {ks ks' : List Nat} {st : List Fk} (h : StOk rowC f gs (⟨i, pl, ks⟩ :: st)) (e : f.i = f'.i) (h' : FOk rowC f' pl' ks') : StOk rowC f' gs (⟨i, pl', ks'⟩ :: st) := by
  cases h with
  | one h => rw [e]; exact .one h'
  | more h hs => rw [e]; exact .more h' hs
/-- the value and the ledger after a reading of a name -/
def NextS (P : Params) (kt ct : Nat → Tok) (W : Str) (lx ld pa fa : Addr) (rowC : Nat → List Nat) (kids : Nat → List Nat) (dir : Nat → Bool) (n c : Nat) (bs : List (Addr × Obj)) (ev : List Ev) (v : Value) (news : List (Addr × Obj)) : Prop :=
  (∃ e ev' f gs nd nf ts tl tt tb tq, ev = e :: ev' ∧ v = .str ⟨#[97 + e.k]⟩ tq ∧ RunF P lx ld pa fa rowC kids dir n c f gs bs e ev' ∧ news = (lx, instObj 727 ld) :: (ld, lexD P kt ct W (.ref f.x) (.str (nmL f.i) f.ti) (.str (Str.ofString " ") ts) (.ref pa) (.int ((e.pl : Nat) : Int) tl) (.str (Str.ofString "") tt) (.ref fa)) :: (pa, dqO nd [.str (Str.ofString "=") tb]) :: (fa, dqO nf (itemsOf gs)) :: tailOf P f gs bs) ∨
  (∃ x ti tl tt, ev = [] ∧ v = .none ∧ news = (lx, instObj 727 ld) :: (ld, lexD P kt ct W (.ref x) (.str (nmL 0) ti) .none (.ref pa) (.int ((c : Int) + 1) tl) (.str (Str.ofString "") tt) (.ref fa)) :: bs)
section
variable {w : World} {mean : ExcName → Option Value} {mg mb : Str → Option Value} {dp un : Nat} {gd : Option (List Code)} {cn : Str} {cs : Scope} {a : Addr} {ccd : Value} {cl : List (Str × Addr)} {outer : List Env} {A₀ : Around} {base h₀ : Heap} {L : Addr} {m : Str → Option Value} {s : Shared} {Q E : Value → Shared → Prop} {rest : List (Addr × Obj)}
theorem td_next {lx ld pa fa : Addr} {kt ct : Nat → Tok} {W : Str} {rowC : Nat → List Nat} {kids : Nat → List Nat} {dir : Nat → Bool} {n c : Nat} {f : Lf} {gs : List (Addr × Lf)} {bs : List (Addr × Obj)} {st : List Fk} {ev : List Ev} {nd nf : Int} {ts tl tt : Tok} (B : Below A₀ base outer h₀) (F : Fr h₀ L s.heap m) (X : (hd.heap_1 w.params).In h₀) (T : Top q (looseW q loose) mean mg mb h₀) (hk : cs.kind = .function) (hdp : dp + 24 < recursionLimit) (hun : un + 240 < cLine)
    (N : News h₀ L s.heap ((lx, instObj 727 ld) :: (ld, lexD w.params kt ct W (.ref f.x) (.str (nmL f.i) f.ti) (.str (Str.ofString " ") ts) (.ref pa) (.int f.ln tl) (.str (Str.ofString "") tt) (.ref fa)) :: (pa, dqO nd []) :: (fa, dqO nf (itemsOf gs)) :: tailOf w.params f gs bs)) (h4 : Four lx ld pa fa) (hW : wOk W = true) (hs : StOk rowC f gs st) (ha : Apart w.params lx ld pa fa f gs bs) (hg : Good n c st) (hn8 : n ≤ 8) (hr : Runs kids dir st ev)
    (h1 : ∀ (e : Ev) (ev' : List Ev) (f : Lf) (gs : List (Addr × Lf)) (nd nf : Int) (ts tl tt tb tq : Tok) (h' : Heap) (tk' : Nat), ev = e :: ev' → RunF w.params lx ld pa fa rowC kids dir n c f gs bs e ev' → Fr h₀ L h' m → News h₀ L h' ((lx, instObj 727 ld) :: (ld, lexD w.params kt ct W (.ref f.x) (.str (nmL f.i) f.ti) (.str (Str.ofString " ") ts) (.ref pa) (.int ((e.pl : Nat) : Int) tl) (.str (Str.ofString "") tt) (.ref fa)) :: (pa, dqO nd [.str (Str.ofString "=") tb]) :: (fa, dqO nf (itemsOf gs)) :: tailOf w.params f gs bs) → Q (.str ⟨#[97 + e.k]⟩ tq) { s with heap := h', toks := tk' })
    (h2 : ∀ (x : Addr) (ti tl tt : Tok) (h' : Heap) (tk' : Nat), ev = [] → Fr h₀ L h' m → News h₀ L h' ((lx, instObj 727 ld) :: (ld, lexD w.params kt ct W (.ref x) (.str (nmL 0) ti) .none (.ref pa) (.int ((c : Int) + 1) tl) (.str (Str.ofString "") tt) (.ref fa)) :: bs) → Q .none { s with heap := h', toks := tk' }) :
    wpAny (model PySem.Challenge.pw_om0186_01 w) (ktrTop dp un gd cn cs L a ccd cl outer) (call (.ref 688) [.ref lx]) Q E s := by
  have hlen := hs.len
  have hgl := hg.len
  cases ev with
  | nil =>
    obtain ⟨j, pj, hn⟩ := runs_end hr rfl hs.ne
    obtain ⟨rfl, rfl⟩ := hg.bot hn
    obtain ⟨xF, tj, nf', tailF, hb, h6⟩ := gtn_stack (kt := kt) (ct := ct) (W := W) (w := w) h4 hn hs ha (by omega) nf
    refine h6 B F X T hk (by omega) (by omega) N ?_
    intro t3' tr tz h' tk' F' N'
    exact h2 xF tj tr tz h' tk' rfl F' (news_sub N' (List.forall_mem_cons.mpr ⟨.head _, List.forall_mem_cons.mpr ⟨.tail _ (.head _), fun p hp => .tail _ (.tail _ (.tail _ (.tail _ (hb _ p hp))))⟩⟩))
  | cons e ev' =>
    obtain ⟨pl, ks, st2, hp, hpl, hrun⟩ := runs_next hr rfl
    have hg' := hg.pops hp
    obtain ⟨s1, s2, s3, s4⟩ := hg'.step
    obtain ⟨f', gs', nf', p', a1, a2, a3, a4, a5⟩ := gts_stack (kt := kt) (ct := ct) (w := w) h4 hW hp rfl (by omega) hs ha (by omega) nf
    refine a5 B F X T hk (by omega) (by omega) N ?_
    intro t3' ta' tb' tq' tr' tz' h' tk' F' N'
    obtain ⟨b1, b2⟩ := stok_i a1
    rw [show (pl : Int) + 1 = ((e.pl : Nat) : Int) by rw [hpl]; rfl] at N'
    exact h1 e ev' { f' with p := p', t3 := t3' } gs' _ _ _ _ _ _ _ _ _ rfl ⟨pl, ks, st2, hpl, b1, a4, b2.size, ⟨f', rfl, a1⟩, apart_top a2 rfl rfl, hg', hrun⟩ F' N'
theorem td_nx {lx ld pa fa : Addr} {kt ct : Nat → Tok} {W : Str} {rowC : Nat → List Nat} {kids : Nat → List Nat} {dir : Nat → Bool} {n c : Nat} {f : Lf} {gs : List (Addr × Lf)} {bs : List (Addr × Obj)} {st : List Fk} {ev : List Ev} {nd nf : Int} {ts tl tt : Tok} (B : Below A₀ base outer h₀) (F : Fr h₀ L s.heap m) (X : (hd.heap_1 w.params).In h₀) (T : Top q (looseW q loose) mean mg mb h₀) (hk : cs.kind = .function) (hdp : dp + 24 < recursionLimit) (hun : un + 240 < cLine)
    (N : News h₀ L s.heap ((lx, instObj 727 ld) :: (ld, lexD w.params kt ct W (.ref f.x) (.str (nmL f.i) f.ti) (.str (Str.ofString " ") ts) (.ref pa) (.int f.ln tl) (.str (Str.ofString "") tt) (.ref fa)) :: (pa, dqO nd []) :: (fa, dqO nf (itemsOf gs)) :: tailOf w.params f gs bs)) (h4 : Four lx ld pa fa) (hW : wOk W = true) (hs : StOk rowC f gs st) (ha : Apart w.params lx ld pa fa f gs bs) (hg : Good n c st) (hn8 : n ≤ 8) (hr : Runs kids dir st ev)
    (hret : ∀ (v : Value) (news : List (Addr × Obj)) (h' : Heap) (tk' : Nat), NextS w.params kt ct W lx ld pa fa rowC kids dir n c bs ev v news → Fr h₀ L h' m → News h₀ L h' news → Q v { s with heap := h', toks := tk' }) :
    wpAny (model PySem.Challenge.pw_om0186_01 w) (ktrTop dp un gd cn cs L a ccd cl outer) (call (.ref 688) [.ref lx]) Q E s := by
  refine td_next B F X T hk hdp hun N h4 hW hs ha hg hn8 hr ?_ ?_
  · intro e ev' f gs nd nf ts tl tt tb tq h' tk' e1 hF F' N'
    exact hret _ _ h' tk' (.inl ⟨e, ev', f, gs, nd, nf, ts, tl, tt, tb, tq, e1, rfl, hF, rfl⟩) F' N'
  · intro x ti tl tt h' tk' e1 F' N'
    exact hret _ _ h' tk' (.inr ⟨x, ti, tl, tt, e1, rfl, rfl⟩) F' N'
end
end
-- T2
local macro_rules | `(tactic| walk_at "call ref") => `(tactic| (k_here; (try dsimp only [List.nil_append, List.cons_append, List.append_nil]); (with_reducible show wpAny _ _ (call (Value.ref 727) [_, _, _]) _ _ _); (k_dflt (refine' call_cls ?k1 ?k2 ?k3 ?k4 ?k5 ?k6 ?_; (case k1 => k_asm); (case k2 => k_asm); (case k3 => k_asm); (case k4 => k_is); (case k5 => k_is); (case k6 => k_is); k_whole; intro x' d' h' F' N' l1 l2; (try k_lt l1); (try k_lt2 l2); (try k_sweep))); refine Stop.mk ?_))
theorem kw28 : True := by
  k_with_none
  k_with "own all" => first | assumption | (refine ne_rest ?_; first | assumption | exact And.right ((by assumption)) | exact And.right (And.right ((by assumption))) | exact And.right (And.right (And.right ((by assumption)))) | exact And.right (And.right (And.right (And.right ((by assumption))))) | exact And.right (And.right (And.right (And.right (And.right ((by assumption)))))) | exact And.right (And.right (And.right (And.right (And.right (And.right ((by assumption))))))) | exact And.right (And.right (And.right (And.right (And.right (And.right (And.right ((by assumption)))))))) | exact And.right (And.right (And.right (And.right (And.right (And.right (And.right (And.right ((by assumption))))))))) | exact And.right (And.right (And.right (And.right (And.right (And.right (And.right (And.right (And.right ((by assumption)))))))))) | exact And.right (And.right (And.right (And.right (And.right (And.right (And.right (And.right (And.right (And.right ((by assumption))))))))))) | exact And.right (And.right (And.right (And.right (And.right (And.right (And.right (And.right (And.right (And.right (And.right ((by assumption)))))))))))) | exact And.right (And.right (And.right (And.right (And.right (And.right (And.right (And.right (And.right (And.right (And.right (And.right ((by assumption))))))))))))) | exact And.right (And.right (And.right (And.right (And.right (And.right (And.right (And.right (And.right (And.right (And.right (And.right (And.right ((by assumption))))))))))))))) | (first | (refine ne_rest2 ((by assumption)) ?_; (try dsimp only); omega) | (refine ne_rest2 (And.right ((by assumption))) ?_; (try dsimp only); omega) | (refine ne_rest2 (And.right (And.right ((by assumption)))) ?_; (try dsimp only); omega) | (refine ne_rest2 (And.right (And.right (And.right ((by assumption))))) ?_; (try dsimp only); omega) | (refine ne_rest2 (And.right (And.right (And.right (And.right ((by assumption)))))) ?_; (try dsimp only); omega) | (refine ne_rest2 (And.right (And.right (And.right (And.right (And.right ((by assumption))))))) ?_; (try dsimp only); omega) | (refine ne_rest2 (And.right (And.right (And.right (And.right (And.right (And.right ((by assumption)))))))) ?_; (try dsimp only); omega) | (refine ne_rest2 (And.right (And.right (And.right (And.right (And.right (And.right (And.right ((by assumption))))))))) ?_; (try dsimp only); omega) | (refine ne_rest2 (And.right (And.right (And.right (And.right (And.right (And.right (And.right (And.right ((by assumption)))))))))) ?_; (try dsimp only); omega) | (refine ne_rest2 (And.right (And.right (And.right (And.right (And.right (And.right (And.right (And.right (And.right ((by assumption))))))))))) ?_; (try dsimp only); omega) | (refine ne_rest2 (And.right (And.right (And.right (And.right (And.right (And.right (And.right (And.right (And.right (And.right ((by assumption)))))))))))) ?_; (try dsimp only); omega) | (refine ne_rest2 (And.right (And.right (And.right (And.right (And.right (And.right (And.right (And.right (And.right (And.right (And.right ((by assumption))))))))))))) ?_; (try dsimp only); omega) | (refine ne_rest2 (And.right (And.right (And.right (And.right (And.right (And.right (And.right (And.right (And.right (And.right (And.right (And.right ((by assumption)))))))))))))) ?_; (try dsimp only); omega) | (refine ne_rest2 (And.right (And.right (And.right (And.right (And.right (And.right (And.right (And.right (And.right (And.right (And.right (And.right (And.right ((by assumption))))))))))))))) ?_; (try dsimp only); omega))
  k_with "exec If" => refine wpAny_If ?_
  k_with "truthy str" => refine P.truthy_str (by omega) ?_
  k_with "ite" => first | refine ite_pos (by with_reducible assumption) ?_ | refine ite_isFalse (by with_reducible assumption) ?_ | refine ite_neg (by with_reducible assumption) ?_
  k_with "call builtin:str.upper" => (k_here; (try dsimp only [List.nil_append, List.cons_append, List.append_nil]); (with_reducible show wpAny _ _ (call (Value.builtin "str.upper") [Value.str _ _]) _ _ _); k_dflt (refine' upK ?e9q ?l9q ?_; (case e9q => with_reducible assumption); (case l9q => with_reducible assumption); k_whole; intro t9k k9k))
  k_with "own mem" => (refine mem_of ?_; with_reducible assumption)
  k_with "exec While" => refine Stop.mk ?_
  k_with "call ref" => (k_here; (try dsimp only [List.nil_append, List.cons_append, List.append_nil]); (with_reducible show wpAny _ _ (call (Value.ref 688) [Value.ref _]) _ _ _); refine Stop.mk ?_)
  k_with "call ref" => (k_here; (try dsimp only [List.nil_append, List.cons_append, List.append_nil]); (with_reducible show wpAny _ _ (call (Value.ref 952) [Value.ref _, Value.str _ _]) _ _ _); refine Stop.mk ?_)
  k_with "call ref" => (k_here; (try dsimp only [List.nil_append, List.cons_append, List.append_nil]); (with_reducible show wpAny _ _ (call (Value.ref 674) [Value.ref _, Value.str _ _, _]) _ _ _); refine Stop.mk ?_)
  k_with "execs cons" => ((with_reducible refine wpAny_execs_cons ?_); (try dsimp only); (try k_fold))
  k_with "own ne" => (refine neN ?_; (try dsimp only); first | with_reducible assumption | (refine Ne.symm ?_; with_reducible assumption) | (refine Nat.ne_of_lt ?_; first | with_reducible assumption | with_reducible exact And.left (by with_reducible assumption) | with_reducible exact And.left (And.right (by with_reducible assumption)) | with_reducible exact And.left (And.right (And.right (by with_reducible assumption))) | with_reducible exact And.left (And.right (And.right (And.right (by with_reducible assumption)))) | with_reducible exact And.left (And.right (And.right (And.right (And.right (by with_reducible assumption))))) | with_reducible exact And.left (And.right (And.right (And.right (And.right (And.right (by with_reducible assumption)))))) | with_reducible exact And.left (And.right (And.right (And.right (And.right (And.right (And.right (by with_reducible assumption))))))) | with_reducible exact And.left (And.right (And.right (And.right (And.right (And.right (And.right (And.right (by with_reducible assumption)))))))) | with_reducible exact And.left (And.right (And.right (And.right (And.right (And.right (And.right (And.right (And.right (by with_reducible assumption))))))))) | with_reducible exact And.right (by with_reducible assumption) | with_reducible exact And.right (And.right (by with_reducible assumption)) | with_reducible exact And.right (And.right (And.right (by with_reducible assumption))) | with_reducible exact And.right (And.right (And.right (And.right (by with_reducible assumption)))) | with_reducible exact And.right (And.right (And.right (And.right (And.right (by with_reducible assumption))))) | with_reducible exact And.right (And.right (And.right (And.right (And.right (And.right (by with_reducible assumption)))))) | with_reducible exact And.right (And.right (And.right (And.right (And.right (And.right (And.right (by with_reducible assumption))))))) | with_reducible exact And.right (And.right (And.right (And.right (And.right (And.right (And.right (And.right (by with_reducible assumption))))))))) | (refine Nat.ne_of_gt ?_; first | with_reducible assumption | with_reducible exact And.left (by with_reducible assumption) | with_reducible exact And.left (And.right (by with_reducible assumption)) | with_reducible exact And.left (And.right (And.right (by with_reducible assumption))) | with_reducible exact And.left (And.right (And.right (And.right (by with_reducible assumption)))) | with_reducible exact And.left (And.right (And.right (And.right (And.right (by with_reducible assumption))))) | with_reducible exact And.left (And.right (And.right (And.right (And.right (And.right (by with_reducible assumption)))))) | with_reducible exact And.left (And.right (And.right (And.right (And.right (And.right (And.right (by with_reducible assumption))))))) | with_reducible exact And.left (And.right (And.right (And.right (And.right (And.right (And.right (And.right (by with_reducible assumption)))))))) | with_reducible exact And.left (And.right (And.right (And.right (And.right (And.right (And.right (And.right (And.right (by with_reducible assumption))))))))) | with_reducible exact And.right (by with_reducible assumption) | with_reducible exact And.right (And.right (by with_reducible assumption)) | with_reducible exact And.right (And.right (And.right (by with_reducible assumption))) | with_reducible exact And.right (And.right (And.right (And.right (by with_reducible assumption)))) | with_reducible exact And.right (And.right (And.right (And.right (And.right (by with_reducible assumption))))) | with_reducible exact And.right (And.right (And.right (And.right (And.right (And.right (by with_reducible assumption)))))) | with_reducible exact And.right (And.right (And.right (And.right (And.right (And.right (And.right (by with_reducible assumption))))))) | with_reducible exact And.right (And.right (And.right (And.right (And.right (And.right (And.right (And.right (by with_reducible assumption))))))))))
  trivial
abbrev tdM (tb lx ta : Addr) (on os orr : Option Value) : Str → Option Value := fun y => if y = Str.ofString "name" then on else if y = Str.ofString "row" then orr else if y = Str.ofString "sign" then os else if y = Str.ofString "told" then some (.ref ta) else if y = Str.ofString "lexer" then some (.ref lx) else if y = Str.ofString "table" then some (.ref tb) else none
theorem fr_td0 {g h : Heap} {L lx ta tb : Addr} {xn : Option Value} (F : Fr g L h (fun y => if y = Str.ofString "name" then xn else if y = Str.ofString "told" then some (.ref ta) else if y = Str.ofString "lexer" then some (.ref lx) else List.lookup y [(Str.ofString "table", .ref tb)])) : Fr g L h (tdM tb lx ta xn none none) := by
  have e : (fun y => if y = Str.ofString "name" then xn else if y = Str.ofString "told" then some (.ref ta) else if y = Str.ofString "lexer" then some (.ref lx) else List.lookup y [(Str.ofString "table", .ref tb)]) = tdM tb lx ta xn none none := by
    funext y
    by_cases h0 : y = Str.ofString "name"
    · subst h0; rfl
    · by_cases h1 : y = Str.ofString "row"
      · subst h1; rfl
      · by_cases h2 : y = Str.ofString "sign"
        · subst h2; rfl
        · by_cases h3 : y = Str.ofString "told"
          · subst h3; rfl
          · by_cases h4 : y = Str.ofString "lexer"
            · subst h4; rfl
            · by_cases h5 : y = Str.ofString "table"
              · subst h5; rfl
              · (simp only [tdM, h0, h1, h2, h3, h4, h5, if_false]; rw [List.lookup_cons, beq_eq_false_iff_ne.mpr h5]; rfl)
  rw [e] at F; exact F
theorem fr_td1 {g h : Heap} {L lx ta tb : Addr} {on os orr xn xs xr : Option Value} (F : Fr g L h (fun y => if y = Str.ofString "name" then xn else if y = Str.ofString "row" then xr else if y = Str.ofString "sign" then xs else tdM tb lx ta on os orr y)) : Fr g L h (tdM tb lx ta xn xs xr) := by
  have e : (fun y => if y = Str.ofString "name" then xn else if y = Str.ofString "row" then xr else if y = Str.ofString "sign" then xs else tdM tb lx ta on os orr y) = tdM tb lx ta xn xs xr := by
    funext y
    by_cases h0 : y = Str.ofString "name"
    · subst h0; rfl
    · by_cases h1 : y = Str.ofString "row"
      · subst h1; rfl
      · by_cases h2 : y = Str.ofString "sign"
        · subst h2; rfl
        · simp only [tdM, h0, h1, h2, if_false]
  rw [e] at F; exact F
def tail2 (P : Params) (gs : List (Addr × Lf)) (base : List (Addr × Obj)) : List (Addr × Obj) := match gs with
  | [] => base
  | q :: gs => (q.1, tupO [.str (nmL q.2.i) q.2.ti, .ref q.2.x, .int q.2.ln q.2.tl]) :: tailOf P q.2 gs base
theorem tailOf_eq {P : Params} {f : Lf} {gs : List (Addr × Lf)} {base : List (Addr × Obj)} : tailOf P f gs base = (f.x, instObj 592 f.dx) :: (f.dx, sioOf P f) :: tail2 P gs base := by
  cases gs <;> rfl
theorem tail2_mem {P : Params} {gs : List (Addr × Lf)} {base : List (Addr × Obj)} {p : Addr × Obj} : p ∈ tail2 P gs base ↔ p ∈ tail2 P gs [] ∨ p ∈ base := by
  cases gs with
  | nil => simp [tail2]
  | cons q gs =>
    unfold tail2
    simp only [List.mem_cons]
    rw [tail_mem, or_assoc]
theorem apart_fst {P : Params} {lx ld pa fa : Addr} {f : Lf} {gs : List (Addr × Lf)} {base : List (Addr × Obj)} (h : Apart P lx ld pa fa f gs base) : Off lx ld pa fa f.x ∧ Off lx ld pa fa f.dx ∧ @Ne Nat f.x f.dx ∧ ∀ p ∈ tail2 P gs base, p.1 ≠ ld ∧ p.1 ≠ pa ∧ p.1 ≠ fa ∧ p.1 ≠ f.dx := by
  cases gs with
  | nil => exact h
  | cons q gs =>
    obtain ⟨h1, h2, h3, h4, h5, h6, h7, ha⟩ := h
    refine ⟨h1, h2, h3, List.forall_mem_cons.mpr ⟨⟨h4.e1, h4.e2, h4.e3, h6.symm⟩, fun p hp => ?_⟩⟩
    have := apart_all ha p hp
    exact ⟨this.1, this.2.1, this.2.2, h7 p hp⟩
theorem news_g {h₀ h : Heap} {L : Addr} {a b c d x y : Addr × Obj} {l : List (Addr × Obj)} (N : News h₀ L h (a :: b :: c :: d :: x :: y :: l)) : News h₀ L h (a :: b :: x :: y :: c :: d :: l) := news_sub N (by intro p hp; simp only [List.mem_cons] at hp ⊢; rcases hp with h | h | h | h | h | h | h <;> simp [h])
theorem news_h {P : Params} {h₀ h : Heap} {L : Addr} {a b c d t : Addr × Obj} {f : Lf} {gs : List (Addr × Lf)} {R : List (Addr × Obj)} (N : News h₀ L h (a :: b :: (f.x, instObj 592 f.dx) :: (f.dx, sioOf P f) :: c :: d :: tail2 P gs (t :: R))) : News h₀ L h (t :: a :: b :: c :: d :: tailOf P f gs R) := news_sub N (by
  intro p hp
  rw [tailOf_eq] at hp
  simp only [List.mem_cons] at hp ⊢
  rw [tail2_mem, List.mem_cons]
  rw [tail2_mem] at hp
  rcases hp with h | h | h | h | h | h | h | h | h <;> simp [h])
theorem tail_obj {P : Params} {vs : Array Value} {nn : Nat} : ∀ (gs : List (Addr × Lf)) (f : Lf), ∀ p ∈ tailOf P f gs [], p.2 ≠ listOf vs nn
  | [], f, p, hp => by
    rcases List.mem_cons.mp hp with e | hp
    · subst e; intro h; have := congrArg Obj.cls h; cases this
    · rcases List.mem_cons.mp hp with e | hp
      · subst e; intro h; have h1 : Value.type _ = Value.type _ := congrArg Obj.cls h; injection h1 with h2; exact absurd h2 (by decide)
      · cases hp
  | q :: gs, f, p, hp => by
    rcases List.mem_cons.mp hp with e | hp
    · subst e; intro h; have := congrArg Obj.cls h; cases this
    · rcases List.mem_cons.mp hp with e | hp
      · subst e; intro h; have h1 : Value.type _ = Value.type _ := congrArg Obj.cls h; injection h1 with h2; exact absurd h2 (by decide)
      · rcases List.mem_cons.mp hp with e | hp
        · subst e; intro h; have h1 : Value.type _ = Value.type _ := congrArg Obj.cls h; injection h1 with h2; exact absurd h2 (by decide)
        · exact tail_obj gs q.2 p hp
theorem news_apart {h₀ h : Heap} {L a b : Addr} {o o' : Obj} {news : List (Addr × Obj)} (N : News h₀ L h news) (h1 : (a, o) ∈ news) (h2 : (b, o') ∈ news) (ne : o ≠ o') : a ≠ b := by
  intro e
  subst e
  exact ne (Option.some.inj ((N _ h1).1.symm.trans (N _ h2).1))
theorem addK {prog : Program} {w : World} {A : Around} {E : Value → Shared → Prop} {s : Shared} {h₀ : Heap} {L a b : Addr} {m : Str → Option Value} {news : List (Addr × Obj)} {vs ws : List Value} {n k : Nat} {Q : Value → Shared → Prop} (F : Fr h₀ L s.heap m) (N : News h₀ L s.heap news) (h1 : (a, listOf vs.toArray n) ∈ news) (h2 : (b, listOf ws.toArray k) ∈ news) (hz : vs.length + ws.length ≤ 1000000)
    (h : ∀ D h', Fr h₀ L h' m → News h₀ L h' ((D, listOf (vs ++ ws).toArray 0) :: news) → (∀ p ∈ news, p.1 < D) → Q (.ref D) { s with heap := h' }) : wpAny (model prog w) A (binaryOp .Add (.ref a) (.ref b)) Q E s :=
  kmk_add_lit F N (News.isList N h1) (News.isList N h2) rfl h (by rw [sizeLine_eq]; show vs.length + ws.length ≤ _; omega)
theorem EvR.length {rowS : Nat → Str} {news : List (Addr × Obj)} {ev : List Ev} {vals : List Value} (h : EvR rowS news ev vals) : vals.length = ev.length := Rel2.length h
theorem EvR.mono {rowS : Nat → Str} {news news' : List (Addr × Obj)} {ev : List Ev} {vals : List Value} (h : EvR rowS news ev vals) (hs : ∀ p ∈ news, p ∈ news') : EvR rowS news' ev vals := Rel2.mono (fun e v ⟨a, t1, t2, t3, t4, t5, e1, hm⟩ => ⟨a, t1, t2, t3, t4, t5, e1, hs _ hm⟩) h
theorem rowAt {prog : Program} {w : World} {A : Around} {E : Value → Shared → Prop} {s : Shared} {value slice : PySem.Expr} {x : Str} {t u : Tok} {i : Int} {c : Nat} {Q : Value → Shared → Prop} (hk : x.length = 10) (h0 : 0 ≤ i) (h1 : i < 10) (hc : x.cps.toList.getD i.toNat 0 = c) (hs : subscripted slice false (.str x t) (.int i u) = operate [.str x t, .int i u] (getItem (.str x t) (.int i u))) (hg : ∀ r, letTemporaryGo value (.str x t) r = pure ()) (h : ∀ t' k, Q (.str ⟨#[c]⟩ t') { s with toks := k }) :
    wpAny (model prog w) A (subscriptTail value slice (.str x t) (.int i u)) Q E s := by
  have hlt : i.toNat < x.cps.size := by
    have : x.cps.size = 10 := hk
    omega
  have e : Txt.item x i = ⟨#[c]⟩ := by
    refine item_meets h0 ?_
    rw [← hc, ← Array.getElem?_toList, List.getD_eq_getElem?_getD]
    rw [List.getElem?_eq_getElem (by simpa using hlt)]
    rfl
  refine KXi.item (n := 10) hk (by omega) (by omega) (by omega) (fun _ => ?_) hs hg
  rw [e]
  exact h _ _
theorem chr_ne {c d : Nat} (h : c ≠ d) : ((⟨#[c]⟩ : Str) == ⟨#[d]⟩) = false := by
  refine beq_eq_false_iff_ne.mpr fun e => h ?_
  have := congrArg (fun x : Str => x.cps.toList) e
  simpa using this
theorem strd : Str.ofString "d" = ⟨#[100]⟩ := by decide +kernel
theorem in_xs {c : Nat} (h : c < 127) : (Builtin.Str.occurrences (Str.ofString "xs") (⟨#[c]⟩) 0 (PySem.Str.ofString "xs").length 1).isEmpty = !(c == 120 || c == 115) := by
  have h1 : (List.range 127).all (fun c => (Builtin.Str.occurrences (Str.ofString "xs") (⟨#[c]⟩) 0 (PySem.Str.ofString "xs").length 1).isEmpty == !(c == 120 || c == 115)) = true := by decide +kernel
  exact eq_of_beq (List.all_eq_true.mp h1 c (List.mem_range.mpr h))
theorem drop_row {l r t : List Nat} {p : Nat} (h : l.drop p = 34 :: (r ++ 34 :: 13 :: t)) (hr : r.length = 10) : l.drop (p + 10 + 3) = t := by
  have e : p + 10 + 3 = p + (1 + (r.length + 2)) := by omega
  rw [e, ← List.drop_drop, h, ← List.drop_drop, List.drop_one, List.tail_cons, ← List.drop_drop, List.drop_left]
  rfl
theorem news_k {P : Params} {h₀ h : Heap} {L : Addr} {u t a b c d : Addr × Obj} {f : Lf} {gs : List (Addr × Lf)} {R V : List (Addr × Obj)} (e : tailOf P f gs R = V) (N : News h₀ L h (u :: t :: a :: b :: c :: d :: V)) : News h₀ L h (a :: b :: c :: d :: tailOf P f gs (t :: u :: R)) := by
  subst e
  refine news_sub N ?_
  intro p hp
  simp only [List.mem_cons] at hp ⊢
  rw [tail_mem]
  rw [tail_mem, List.mem_cons, List.mem_cons] at hp
  rcases hp with h | h | h | h | h | h | h | h <;> simp [h]
/-- what holds at the loop's head -/
def TdJ (P : Params) (kt ct : Nat → Tok) (W : Str) (lx ld pa fa ta tb : Addr) (rest : List (Addr × Obj)) (rowS : Nat → Str) (kids : Nat → List Nat) (dir : Nat → Bool) (n c : Nat) (evs : List Ev) (h₀ : Heap) (L : Addr) (s : Shared) (j : Nat) (s' : Shared) : Prop :=
  ∃ h tk dn ev vals nn R v os orr news, s' = { s with heap := h, toks := tk } ∧ evs = dn ++ ev ∧ j = ev.length ∧ EvR rowS R dn vals ∧ (∀ p ∈ rest, p ∈ R) ∧ (∀ p ∈ R, p.1 ≠ ld ∧ p.1 ≠ pa ∧ p.1 ≠ fa ∧ p.1 ≠ ta) ∧ Fr h₀ L h (tdM tb lx ta (some v) os orr) ∧ NextS P kt ct W lx ld pa fa (rowCs rowS) kids dir n c ((ta, listOf (List.toArray vals) nn) :: R) ev v news ∧ News h₀ L h news
theorem news_i {h₀ h : Heap} {L : Addr} {t a b c d x y : Addr × Obj} {l : List (Addr × Obj)} (N : News h₀ L h (t :: a :: b :: c :: d :: x :: y :: l)) : News h₀ L h (a :: b :: c :: d :: x :: y :: t :: l) := news_sub N (by intro p hp; simp only [List.mem_cons] at hp ⊢; rcases hp with h | h | h | h | h | h | h | h <;> simp [h])
theorem kw29 : True := by
  k_with "subscriptTail Name Constant str int" => (k_here; k_dflt (refine' rowAt ?k9q ?a9q ?b9q ?c9q ?s9q ?g9q ?_; (case k9q => with_reducible assumption); (case c9q => with_reducible assumption); (case a9q => decide); (case b9q => decide); (case s9q => with_unfolding_all rfl); (case g9q => (intro _; with_unfolding_all rfl)); k_whole; intro t9k k9k))
  trivial
theorem rm {dp a k : Nat} (h : dp + 40 < recursionLimit) (e : a + k ≤ 40) : dp + a + k < recursionLimit := Nat.lt_of_le_of_lt (by rw [Nat.add_assoc]; exact Nat.add_le_add_left e dp) h
theorem ru {un a k : Nat} (h : un + 400 < cLine) (e : a + k ≤ 400) : un + a + k < cLine := Nat.lt_of_le_of_lt (by rw [Nat.add_assoc]; exact Nat.add_le_add_left e un) h
section
variable {w : World} {mean : ExcName → Option Value} {mg mb : Str → Option Value} {dp un : Nat} {gd : Option (List Code)} {cn : Str} {cs : Scope} {a : Addr} {ccd : Value} {cl : List (Str × Addr)} {outer : List Env} {A₀ : Around} {base h₀ : Heap} {L : Addr} {m : Str → Option Value} {s : Shared} {Q E : Value → Shared → Prop} {rest : List (Addr × Obj)}
theorem ll_m {tb td hl : Addr} {kh tn : Tok} {nm nm' : Str} {items : List Value} {nn : Nat} {tab : List (Str × Str)} {V news : List (Addr × Obj)} (B : Below A₀ base outer h₀) (F : Fr h₀ L s.heap m) (X : (hd.heap_1 w.params).In h₀) (T : Top q (looseW q loose) mean mg mb h₀) (hk : cs.kind = .function) (hdp : dp + 10 < recursionLimit) (hun : un + 100 < cLine) (N : News h₀ L s.heap news) (hV : ∀ p ∈ V, p ∈ news) (hn : nm.length ≤ 1000000) (hn' : nm'.length ≤ 1000000) (hlow : Txt.lower nm = nm') (t1 : txtOk nm') (hit : items.length < 1000) (R : TabR V tab items) (hl1 : ∀ p ∈ tab, p.1.length ≤ 1000000) (hl2 : ∀ p ∈ tab, p.2.length ≤ 100)
    (hm1 : (tb, instObj 922 td) ∈ V) (hm2 : (td, dictOf [⟨PyData.keyHash w.params (Str.ofString "_headers"), .str (Str.ofString "_headers") kh, .ref hl⟩] 1) ∈ V) (hm3 : (hl, listOf items.toArray nn) ∈ V)
    (hret : ∀ t' h' tk', Fr h₀ L h' m → News h₀ L h' news → Q (.str (linesOf ((tab.filter fun p => Txt.lower p.1 == nm').map (·.2))) t') { s with heap := h', toks := tk' }) :
    wpAny (model PySem.Challenge.pw_om0186_01 w) (ktrTop dp un gd cn cs L a ccd cl outer) (call (.ref 952) [.ref tb, .str nm tn]) Q E s :=
  ll_c (nn := nn) (kh := kh) (td := td) (hl := hl) B F X T hk hdp hun hn hn' hlow t1 hit (Rel2.mono (fun p v ⟨a, t, u, e, hm⟩ => ⟨a, t, u, e, hV _ hm⟩) R) hl1 hl2 (news_sub N (List.forall_mem_cons.mpr ⟨hV _ hm1, List.forall_mem_cons.mpr ⟨hV _ hm2, List.forall_mem_cons.mpr ⟨hV _ hm3, fun _ h => h⟩⟩⟩)) fun t' h' tk' F' N' => hret t' h' tk' F' (news_tail (news_tail (news_tail N')))
theorem gt_rowR {lx ld : Addr} {kt ct : Nat → Tok} {W : Str} {infile fs : Value} {x dx pa : Addr} {nd : Int} {t2 k1 k2 k3 : Tok} {text : Str} {nl : Value} {ts tt tl t3 : Tok} {ln : Int} {p : Nat} {rs : List Nat} {r : Str} (B : Below A₀ base outer h₀) (F : Fr h₀ L s.heap m) (X : (hd.heap_1 w.params).In h₀) (T : Top q (looseW q loose) mean mg mb h₀) (hk : cs.kind = .function) (hdp : dp + 14 < recursionLimit) (hun : un + 140 < cLine) (hsz : text.length ≤ 1000000) (n0 : @Ne Nat lx ld) (n1 : @Ne Nat lx x) (n2 : @Ne Nat lx dx) (n3 : @Ne Nat ld x) (n4 : @Ne Nat ld dx) (n5 : @Ne Nat x dx) (m0 : @Ne Nat lx pa) (m1 : @Ne Nat ld pa) (m2 : @Ne Nat x pa) (m3 : @Ne Nat dx pa) (r1 : ∀ p ∈ rest, p.1 ≠ ld) (r2 : ∀ p ∈ rest, p.1 ≠ dx) (r3 : ∀ p ∈ rest, p.1 ≠ pa) (N : News h₀ L s.heap ((lx, instObj 727 ld) :: (ld, lexD w.params kt ct W (.ref x) (infile) (.str (Str.ofString " ") ts) (.ref pa) (.int ln tl) (.str (Str.ofString "") tt) fs) :: (x, instObj 592 dx) :: (dx, sioD w.params k1 k2 k3 nl (.str text t2) (.int ((p : Int)) t3)) :: (pa, dqO nd []) :: rest)) (hl : r.length = 10) (hw : (Builtin.Str.occurrences W (Str.ofString "\"") 0 W.length 1).isEmpty = true) (hcs : ∀ c ∈ r.cps.toList, rowCh c) (hc : text.cps.toList.drop p = 34 :: (r.cps.toList ++ 34 :: 13 :: rs))
    (hret : ∀ (t3' ta tb tq : Tok) (h' : Heap) (tk' : Nat), Fr h₀ L h' m → News h₀ L h' ((lx, instObj 727 ld) :: (ld, lexD w.params kt ct W (.ref x) (infile) (.str (Str.ofString " ") ta) (.ref pa) (.int ln tl) (.str (Str.ofString "") tb) fs) :: (x, instObj 592 dx) :: (dx, sioD w.params k1 k2 k3 nl (.str text t2) (.int (((p + 10 + 3 : Nat) : Int)) t3')) :: (pa, dqO nd []) :: rest) → Q (.str r tq) { s with heap := h', toks := tk' }) :
    wpAny (model PySem.Challenge.pw_om0186_01 w) (ktrTop dp un gd cn cs L a ccd cl outer) (call (.ref 688) [.ref lx]) Q E s := by
  have e : r.cps.toList.length = 10 := by rw [Array.length_toList]; exact hl
  refine gt_row (l := r.cps.toList) B F X T hk hdp hun hsz n0 n1 n2 n3 n4 n5 m0 m1 m2 m3 r1 r2 r3 N (by omega) (by intro h; rw [h] at e; cases e) hw hcs hc ?_
  rw [e]
  exact hret
theorem td_c {tb td hl : Addr} {kh : Tok} {items : List Value} {nn n : Nat} {par : Nat → Nat} {rowS : Nat → Str} {dir : Nat → Bool} {ev : List Ev} (B : Below A₀ base outer h₀) (F : Fr h₀ L s.heap m) (X : (hd.heap_1 w.params).In h₀) (T : Top q (looseW q loose) mean mg mb h₀) (hk : cs.kind = .function) (hdp : dp + 40 < recursionLimit) (hun : un + 400 < cLine) (N : News h₀ L s.heap rest) (hm1 : (tb, instObj 922 td) ∈ rest) (hm2 : (td, dictOf [⟨PyData.keyHash w.params (Str.ofString "_headers"), .str (Str.ofString "_headers") kh, .ref hl⟩] 1) ∈ rest) (hm3 : (hl, listOf items.toArray nn) ∈ rest)
    (hT : TabR rest (tabOf par rowS n) items) (hit : items.length = n) (hn8 : n ≤ 8) (hpar : ∀ k, k < n → par k ≤ k) (hrow : ∀ k, k < n → rowOk (rowS k)) (hch : ∀ k, k < n → ∀ c ∈ (rowS k).cps.toList, rowCh c) (hdir : ∀ k, k < n → dir k = rowDir (rowS k)) (hR : Runs (kidsOf par n) dir [⟨0, 0, kidsOf par n 0⟩] ev) (hev : ev.length < 900)
    (hret : ∀ ta z vals nn t t' rest' h' tk', (∀ p ∈ rest, p ∈ rest') → EvR rowS rest' ev vals → (z, tupO [.str (nmL 0) t, .int ((kidsOf par n 0).length + 1 : Int) t']) ∈ rest' → Fr h₀ L h' m → News h₀ L h' ((ta, listOf (vals ++ [Value.ref z]).toArray nn) :: rest') → Q (.ref ta) { s with heap := h', toks := tk' }) :
    wpAny (model PySem.Challenge.pw_om0186_01 w) (ktrTop dp un gd cn cs L a ccd cl outer) (call (.ref 959) [.ref tb]) Q E s := by
  w_on
  have hp8 : ∀ k, k < n → par k ≤ 8 := fun k hk => Nat.le_trans (hpar k hk) (Nat.le_of_lt (Nat.lt_of_lt_of_le hk hn8))
  have hl1 : ∀ p ∈ tabOf par rowS n, p.1.length ≤ 1000000 := by
    intro p hp
    obtain ⟨k, hk, rfl⟩ := List.mem_map.mp hp
    have h8 := hp8 k (List.mem_range.mp hk)
    unfold tabAt
    (try dsimp only)
    split
    · exact a_3 (nm_l2 h8)
    · exact a_3 (nm_l1 h8)
  have hl2 : ∀ p ∈ tabOf par rowS n, p.2.length ≤ 100 := by
    intro p hp
    obtain ⟨k, hk, rfl⟩ := List.mem_map.mp hp
    have h8 := (hrow k (List.mem_range.mp hk)).1
    unfold tabAt
    simp only [Str.length_append]
    rw [h8, show (Str.ofString "=\"").length = 2 by decide +kernel, show (Str.ofString "\"").length = 1 by decide +kernel, show (Str.empty).length = 0 by decide +kernel]
    show 0 + 1 + 2 + 10 + 1 ≤ 100
    omega
  have hsz : ∀ i, i ≤ 8 → (linesOf (((tabOf par rowS n).filter fun p => Txt.lower p.1 == nmL i).map (·.2))).length ≤ 1000000 := by
    intro i hi
    have h1 := lines_cps (rowS := rowS) hp8 hi
    have h2 := text_len (rowC := rowCs rowS) (ks := kidsOf par n i) fun k hk => by
      have := (hrow k (kids_mem hk).1).1
      unfold rowCs
      rw [Array.length_toList]
      exact Nat.le_of_eq this
    have h3 := kids_len (par := par) (n := n) (i := i)
    rw [← h1, Array.length_toList] at h2
    exact Nat.le_trans h2 (by omega)
  refine wpAny_call ?_
  k_dflt (refine' code_def ?k1 ?k2 ?k3 N ?k5 ?kA ?kF ?kK ?k6 ?k7 ?k8 ?k9 ?kB ?_ ?c2 ?c3 ?c4 ?c5; (case kA => exact rfl); (case kF => exact rfl); (case kK => assumption); (case k1 => k_asm); (case k2 => k_asm); (case k3 => k_asm); (case k5 => k_asm); (case k6 => k_is); (case k7 => k_is); (case k8 => ktr_room); (case k9 => first | exact BindsTo.of_eq rfl | exact binds_K (by k_in) rfl (by k_is) rfl rfl rfl); (case c5 => decide); (case kB => exact locs rfl); (case c2 => exact rfl); (case c3 => exact rfl); (case c4 => exact rfl); k_whole; intro g' L' h' FG' F' N' B' X' T'; (try dsimp only); (try k_fold))
  (try (show wpAny _ _ _ _ _ _; k_fold))
  k_steps
  refine Stop.out ?_
  refine ll_m (by k_asm) (by k_asm) (by k_asm) (by k_asm) rfl (by first | exact rm hdp (by decide) | ktr_room) (by first | exact ru hun (by decide) | ktr_units) (by k_asm) (fun _ h => h) (by decide) (by decide) (nm_ul (i := 0) (by omega)) (nm_t1 (i := 0) (by omega)) (by omega) hT hl1 hl2 hm1 hm2 hm3 ?_
  intro t1 h1 tk1 F1 N1
  (try (show wpAny _ _ _ _ _ _; k_fold))
  k_steps
  refine Stop.out ?_
  generalize htx : linesOf (((tabOf par rowS n).filter fun p => Txt.lower p.1 == nmL 0).map (·.2)) = text0
  have hsz0 : text0.length ≤ 1000000 := by rw [← htx]; exact hsz 0 (by omega)
  rename_i lx ld h2 F2 N2 q1 q2
  have w0 : (Code.builtin "type.__call__" ⟨[.ref 727, .str text0 t1, .str (Str.ofString "top") tk1, .bool true], []⟩).weight ≤ 1 := Nat.le_of_ble_eq_true (by kernel_rfl)
  have w1 : (Code.builtin "type.__call__" ⟨[.ref 727, .str text0 t1, .str (Str.ofString "top") tk1, .bool true], []⟩).cUnits ≤ 20 := Nat.le_of_ble_eq_true (by kernel_rfl)
  refine lex_k (by k_asm) F2 (by k_asm) (by k_asm) rfl (by first | exact rm hdp (by decide) | ktr_room) (by first | exact ru hun (by decide) | ktr_units) hsz0 (by k_ne) (by k_all) N2 ?_
  intro x dx pa fa kt ct W k1 k2 k3 t1' t2' t3' ts tl tt h3 tk3 g1 g2 g3 g4 hW F3 N3
  refine ⟨rfl, ?_⟩
  (try dsimp only)
  (try (show wpAny _ _ _ _ _ _; k_fold))
  k_steps
  refine Stop.out ?_
  rename_i h8 ta h9 l1 h10 F4 N4
  have o1 : @LT.lt Nat _ lx dx := g1.1
  have o2 : @LT.lt Nat _ dx x := g2
  have o3 : @LT.lt Nat _ x pa := g3.1
  have o4 : @LT.lt Nat _ pa fa := g4.1
  have o5 : @LT.lt Nat _ ld lx := q2
  have h4 : Four lx ld pa fa := by constructor <;> k_ne
  have hlt := kst_ltOf l1.2.2.2.2.2.2
  have hb : ∀ p ∈ rest, p.1 ≠ ld ∧ p.1 ≠ pa ∧ p.1 ≠ fa ∧ p.1 ≠ dx ∧ p.1 ≠ ta := fun p hp => ⟨Nat.ne_of_lt (q1 p hp), Nat.ne_of_lt (kst_ltOf g3.2.2.2.2 p hp), Nat.ne_of_lt (kst_ltOf g4.2.2.2.2.2 p hp), Nat.ne_of_lt (kst_ltOf g1.2.2 p hp), Nat.ne_of_lt (hlt p hp)⟩
  have hbs : ∀ p ∈ ((ta, listOf (List.toArray ([] : List Value)) 0) :: rest), p.1 ≠ ld ∧ p.1 ≠ pa ∧ p.1 ≠ fa ∧ p.1 ≠ dx := List.forall_mem_cons.mpr ⟨⟨(show @Ne Nat _ _ by k_ne), (show @Ne Nat _ _ by k_ne), (show @Ne Nat _ _ by k_ne), (show @Ne Nat _ _ by k_ne)⟩, fun p hp => ⟨(hb p hp).1, (hb p hp).2.1, (hb p hp).2.2.1, (hb p hp).2.2.2.1⟩⟩
  have htc := lines_cps (rowS := rowS) hp8 (i := 0) (by omega)
  rw [htx] at htc
  refine td_nx (rowC := rowCs rowS) (kids := kidsOf par n) (dir := dir) (n := n) (c := (kidsOf par n 0).length) (f := ⟨x, dx, 0, tk1, 1, tl, text0, 0, k1, k2, k3, t1', t2', t3'⟩) (gs := []) (bs := (ta, listOf (List.toArray ([] : List Value)) 0) :: rest) (st := [⟨0, 0, kidsOf par n 0⟩]) (ev := ev) (by k_asm) F4 (by k_asm) (by k_asm) rfl (by first | exact rm hdp (by decide) | ktr_room) (by first | exact ru hun (by decide) | ktr_units) (news_i N4) h4 hW (.one ⟨htc, rfl, hsz0⟩) ⟨⟨by k_ne, by k_ne, by k_ne, by k_ne⟩, ⟨by k_ne, by k_ne, by k_ne, by k_ne⟩, by k_ne, hbs⟩ (.one (by omega) fun k hk => ⟨Nat.zero_le _, (kids_mem hk).1⟩) hn8 hR ?_
  intro v news h5 tk5 hS F5 N5
  (try (show wpAny _ _ _ _ _ _; k_fold))
  k_steps
  refine Stop.out ?_
  refine wpAny_mono (whl_start 1 (while_ind (TdJ w.params kt ct W lx ld pa fa ta tb rest rowS (kidsOf par n) dir n (kidsOf par n 0).length ev g' L' s) ?turn ev.length _ ?start)) (fun _ _ x => x) (fun _ _ x => x.elim)
  case start =>
    exact ⟨_, _, [], ev, [], 0, rest, v, none, none, news, rfl, rfl, rfl, .nil, fun _ h => h, fun p hp => ⟨(hb p hp).1, (hb p hp).2.1, (hb p hp).2.2.1, (hb p hp).2.2.2.2⟩, fr_td0 (by k_asm), hS, by k_asm⟩
  case turn =>
    intro j s' hJ
    obtain ⟨h, tk, dn, ev1, vals, nn1, R, v, os, orr, news, rfl, hev1, rfl, hE, hsub, hRn, F6, hS, N6⟩ := hJ
    rcases hS with ⟨e, ev', f, gs, nd, nf, ts, tl, tt, tb', tq, rfl, rfl, hF, rfl⟩ | ⟨x, ti, tl, tt, rfl, rfl, rfl⟩
    · k_steps
      refine Stop.out ?_
      obtain ⟨pl, ks, st2, hpl, hfi, hdrop, hszf, ⟨f0, hf0, hst⟩, hap, hgd, hrun⟩ := hF
      obtain ⟨a1, a2, a3, a4⟩ := apart_fst hap
      obtain ⟨s1, hek, s3, s4⟩ := hgd.step
      have r1 : ∀ p ∈ ((fa, dqO nf (itemsOf gs)) :: tail2 w.params gs ((ta, listOf (List.toArray vals) nn1) :: R)), p.1 ≠ ld := List.forall_mem_cons.mpr ⟨h4.e4.symm, fun p hp => (a4 p hp).1⟩
      have r2 : ∀ p ∈ ((fa, dqO nf (itemsOf gs)) :: tail2 w.params gs ((ta, listOf (List.toArray vals) nn1) :: R)), p.1 ≠ f.dx := List.forall_mem_cons.mpr ⟨a2.e3.symm, fun p hp => (a4 p hp).2.2.2⟩
      have r3 : ∀ p ∈ ((fa, dqO nf (itemsOf gs)) :: tail2 w.params gs ((ta, listOf (List.toArray vals) nn1) :: R)), p.1 ≠ pa := List.forall_mem_cons.mpr ⟨h4.e5.symm, fun p hp => (a4 p hp).2.1⟩
      rw [tailOf_eq] at N6
      replace N6 := news_g N6
      refine gt_sign (by k_asm) F6 (by k_asm) (by k_asm) rfl (by first | exact rm hdp (by decide) | ktr_room) (by first | exact ru hun (by decide) | ktr_units) hszf h4.e0 a1.e0.symm a2.e0.symm a1.e1.symm a2.e1.symm a3 h4.e1 h4.e3 a1.e2 a2.e2 r1 r2 r3 N6 ?_
      intro h7 tk7 F7 N7
      (try dsimp only)
      (try (show wpAny _ _ _ _ _ _; k_fold))
      k_steps
      refine Stop.out ?_
      refine gt_rowR (r := rowS e.k) (p := f.p) (x := f.x) (dx := f.dx) (text := f.text) (by k_asm) (by k_asm) (by k_asm) (by k_asm) rfl (by first | exact rm hdp (by decide) | ktr_room) (by first | exact ru hun (by decide) | ktr_units) hszf h4.e0 a1.e0.symm a2.e0.symm a1.e1.symm a2.e1.symm a3 h4.e1 h4.e3 a1.e2 a2.e2 r1 r2 r3 (by k_asm) (hrow _ hek).1 (w_quote hW) (hch _ hek) hdrop ?_
      intro t3' ta' tb2 tq' h9 tk9 F9 N9
      (try dsimp only)
      have N10 := news_h (f := { f with p := f.p + 10 + 3, t3 := t3', ln := ((e.pl : Nat) : Int), tl := tl }) N9
      have hVta : ∀ p ∈ tailOf w.params { f with p := f.p + 10 + 3, t3 := t3', ln := ((e.pl : Nat) : Int), tl := tl } gs R, p.1 ≠ ta := fun p hp => (tail_mem.mp hp).elim (fun hp' => news_apart N10 (.tail _ (.tail _ (.tail _ (.tail _ (.tail _ hp))))) (.head _) (tail_obj _ _ p hp')) fun hp' => (hRn p hp').2.2.2
      clear N9
      generalize hV : tailOf w.params { f with p := f.p + 10 + 3, t3 := t3', ln := ((e.pl : Nat) : Int), tl := tl } gs R = V at N10 hVta
      have v1 : vals.length < 1000 := by
        have := hE.length
        rw [hev1, List.length_append] at hev
        omega
      (try (show wpAny _ _ _ _ _ _; k_fold))
      k_steps
      rename_i h11 D1 h12 F11 N11 l11
      refine append_K F11 N11 (.tail (Nat.ne_of_gt l11.1) (.head (List.forall_mem_cons.mpr ⟨Nat.ne_of_lt l1.1, List.forall_mem_cons.mpr ⟨Nat.ne_of_lt l1.2.1, List.forall_mem_cons.mpr ⟨Nat.ne_of_lt l1.2.2.1, List.forall_mem_cons.mpr ⟨Nat.ne_of_lt l1.2.2.2.1, hVta⟩⟩⟩⟩))) ?_ (by rw [sizeLine_eq]; show vals.length ≤ _; omega)
      intro h13 F13 N13
      rw [List.push_toArray] at N13
      have hlr := (hrow _ hek).1
      have hl10 : (rowS e.k).cps.toList.length = 10 := by rw [Array.length_toList]; exact hlr
      obtain ⟨c0, hc0⟩ : ∃ c, (rowS e.k).cps.toList.getD (0 : Int).toNat 0 = c := ⟨_, rfl⟩
      obtain ⟨c3, hc3⟩ : ∃ c, (rowS e.k).cps.toList.getD (3 : Int).toNat 0 = c := ⟨_, rfl⟩
      have hc3' : c3 < 127 := by
        have hm : c3 ∈ (rowS e.k).cps.toList := by
          rw [← hc3, List.getD_eq_getElem?_getD, List.getElem?_eq_getElem (by rw [hl10]; decide)]
          exact List.getElem_mem _
        exact ((hrow _ hek).2.2.2 c3 hm).2
      have hdk : dir e.k = (c0 == 100 && (c3 == 120 || c3 == 115)) := by rw [hdir _ hek, ← hc0, ← hc3]; rfl
      obtain ⟨bs', hbs'⟩ : ∃ b, b = (ta, listOf (vals ++ [Value.ref D1]).toArray (nn1 + 1)) :: (D1, tupO [.str (nmL f.i) f.ti, .int ((e.pl : Nat) : Int) tl, .str ⟨#[97 + e.k]⟩ tq, .str (Str.ofString "=") tb', .str (rowS e.k) tq']) :: R := ⟨_, rfl⟩
      have hltV := kst_ltOf l11.2.2.2.2.2
      have hap2 : Apart w.params lx ld pa fa { f with p := f.p + 10 + 3, t3 := t3', ln := ((e.pl : Nat) : Int), tl := tl } gs bs' := by
        rw [hbs']
        refine apart_base (apart_top (f' := { f with p := f.p + 10 + 3, t3 := t3', ln := ((e.pl : Nat) : Int), tl := tl }) hap rfl rfl) (List.forall_mem_cons.mpr ⟨⟨Nat.ne_of_gt l1.2.1, Nat.ne_of_gt l1.2.2.1, Nat.ne_of_gt l1.2.2.2.1, .inl ⟨_, .head _, rfl⟩⟩, List.forall_mem_cons.mpr ⟨⟨Nat.ne_of_gt l11.2.2.1, Nat.ne_of_gt l11.2.2.2.1, Nat.ne_of_gt l11.2.2.2.2.1, .inr fun q hq => Nat.ne_of_lt (hltV q (by rw [← hV]; exact tail_mem.mpr (.inl hq)))⟩, fun p hp => ⟨(hRn p hp).1, (hRn p hp).2.1, (hRn p hp).2.2.1, .inl ⟨p, .tail _ hp, rfl⟩⟩⟩⟩)
      have hst2 : StOk (rowCs rowS) { f with p := f.p + 10 + 3, t3 := t3', ln := ((e.pl : Nat) : Int), tl := tl } gs (⟨e.i, pl + 1, ks⟩ :: st2) := stok_step hst hf0 ⟨by rw [if_neg (by omega)]; exact drop_row hdrop hl10, by rw [if_neg (by omega)]; show ((e.pl : Nat) : Int) = _; rw [hpl], hszf⟩
      have hE' : EvR rowS ((D1, tupO [.str (nmL f.i) f.ti, .int ((e.pl : Nat) : Int) tl, .str ⟨#[97 + e.k]⟩ tq, .str (Str.ofString "=") tb', .str (rowS e.k) tq']) :: R) (dn ++ [e]) (vals ++ [.ref D1]) := Rel2.snoc ⟨D1, f.ti, tl, tq, tb', tq', rfl, by rw [← hfi]; exact .head _⟩ (hE.mono fun p hp => .tail _ hp)
      have hRn' : ∀ p ∈ ((D1, tupO [.str (nmL f.i) f.ti, .int ((e.pl : Nat) : Int) tl, .str ⟨#[97 + e.k]⟩ tq, .str (Str.ofString "=") tb', .str (rowS e.k) tq']) :: R), p.1 ≠ ld ∧ p.1 ≠ pa ∧ p.1 ≠ fa ∧ p.1 ≠ ta := List.forall_mem_cons.mpr ⟨⟨Nat.ne_of_gt l11.2.2.1, Nat.ne_of_gt l11.2.2.2.1, Nat.ne_of_gt l11.2.2.2.2.1, Nat.ne_of_gt l11.1⟩, hRn⟩
      rcases hrun with ⟨hd, hrun⟩ | ⟨hd, hrun⟩
      · by_cases e0 : c0 = 100
        · have b0 : ((⟨#[c0]⟩ : Str) == Str.ofString "d") = true := by rw [e0, strd]; exact beq_self_eq_true _
          have b3 : (Builtin.Str.occurrences (Str.ofString "xs") (⟨#[c3]⟩) 0 (PySem.Str.ofString "xs").length 1).isEmpty = true := by
            rw [in_xs hc3']
            rw [hdk, e0] at hd
            simpa using hd
          (try (show wpAny _ _ _ _ _ _; k_fold))
          k_steps
          refine Stop.out ?_
          refine td_nx (rowC := rowCs rowS) (kids := kidsOf par n) (dir := dir) (n := n) (c := (kidsOf par n 0).length) (f := { f with p := f.p + 10 + 3, t3 := t3', ln := ((e.pl : Nat) : Int), tl := tl }) (gs := gs) (bs := bs') (st := ⟨e.i, pl + 1, ks⟩ :: st2) (ev := ev') (by k_asm) (by k_asm) (by k_asm) (by k_asm) rfl (by first | exact rm hdp (by decide) | ktr_room) (by first | exact ru hun (by decide) | ktr_units) (by rw [hbs']; exact news_k hV (by k_asm)) h4 hW hst2 hap2 s3 hn8 hrun ?_
          intro v news h20 tk20 hS20 F20 N20
          (try (show wpAny _ _ _ _ _ _; k_fold))
          k_steps
          subst hbs'
          exact Stop.mk ⟨rfl, ev'.length, by simp, _, _, dn ++ [e], ev', vals ++ [.ref D1], nn1 + 1, _, v, _, _, news, rfl, by rw [List.append_assoc]; exact hev1, rfl, hE', fun p hp => .tail _ (hsub p hp), hRn', fr_td1 (by k_asm), hS20, by k_asm⟩
        · have b0 : ((⟨#[c0]⟩ : Str) == Str.ofString "d") = false := by rw [strd]; exact chr_ne e0
          (try (show wpAny _ _ _ _ _ _; k_fold))
          k_steps
          refine Stop.out ?_
          refine td_nx (rowC := rowCs rowS) (kids := kidsOf par n) (dir := dir) (n := n) (c := (kidsOf par n 0).length) (f := { f with p := f.p + 10 + 3, t3 := t3', ln := ((e.pl : Nat) : Int), tl := tl }) (gs := gs) (bs := bs') (st := ⟨e.i, pl + 1, ks⟩ :: st2) (ev := ev') (by k_asm) (by k_asm) (by k_asm) (by k_asm) rfl (by first | exact rm hdp (by decide) | ktr_room) (by first | exact ru hun (by decide) | ktr_units) (by rw [hbs']; exact news_k hV (by k_asm)) h4 hW hst2 hap2 s3 hn8 hrun ?_
          intro v news h20 tk20 hS20 F20 N20
          (try (show wpAny _ _ _ _ _ _; k_fold))
          k_steps
          subst hbs'
          exact Stop.mk ⟨rfl, ev'.length, by simp, _, _, dn ++ [e], ev', vals ++ [.ref D1], nn1 + 1, _, v, _, _, news, rfl, by rw [List.append_assoc]; exact hev1, rfl, hE', fun p hp => .tail _ (hsub p hp), hRn', fr_td1 (by k_asm), hS20, by k_asm⟩
      · rw [hdk] at hd
        have hd2 := Bool.and_eq_true_iff.mp hd
        have b0 : ((⟨#[c0]⟩ : Str) == Str.ofString "d") = true := by rw [eq_of_beq hd2.1, strd]; exact beq_self_eq_true _
        have b3 : (Builtin.Str.occurrences (Str.ofString "xs") (⟨#[c3]⟩) 0 (PySem.Str.ofString "xs").length 1).isEmpty = false := by
          rw [in_xs hc3', hd2.2]
          rfl
        have en : nmL (e.k + 1) = ⟨#[97 + e.k]⟩ := nm_s
        have hk8 : e.k + 1 ≤ 8 := Nat.le_trans hek hn8
        have u1 : Txt.upper ⟨#[97 + e.k]⟩ = nmU (e.k + 1) := by rw [← en]; exact nm_up hk8
        have u2 : (⟨#[97 + e.k]⟩ : Str).length ≤ 1000000 := by show 1 ≤ 1000000; decide
        have hRV : ∀ p ∈ rest, p ∈ V := fun p hp => by rw [← hV]; exact tail_mem.mpr (.inr (hsub p hp))
        (try (show wpAny _ _ _ _ _ _; k_fold))
        k_steps
        refine Stop.out ?_
        refine ll_m (by k_asm) (by k_asm) (by k_asm) (by k_asm) rfl (by first | exact rm hdp (by decide) | ktr_room) (by first | exact ru hun (by decide) | ktr_units) (by k_asm) (fun p h => .tail _ (.tail _ (.tail _ (.tail _ (.tail _ (.tail _ (hRV p h))))))) (a_3 (nm_l2 hk8)) (a_3 (nm_l1 hk8)) (nm_ul hk8) (nm_t1 hk8) (by omega) hT hl1 hl2 hm1 hm2 hm3 ?_
        intro t14 h14 tk14 F14 N14
        generalize htx1 : linesOf (((tabOf par rowS n).filter fun p => Txt.lower p.1 == nmL (e.k + 1)).map (·.2)) = text1
        have hsz1 : text1.length ≤ 1000000 := by rw [← htx1]; exact hsz _ hk8
        have htc1 := lines_cps (rowS := rowS) hp8 hk8
        rw [htx1] at htc1
        (try (show wpAny _ _ _ _ _ _; k_fold))
        k_steps
        refine Stop.out ?_
        have hall := apart_all hap2
        have hgl : gs.length < 1000 := by
          have := hst.len
          have := hgd.len
          omega
        refine push_c (items := itemsOf gs) (rest := tailOf w.params { f with p := f.p + 10 + 3, t3 := t3', ln := ((e.pl : Nat) : Int), tl := tl } gs bs') (infn := nmL f.i) (ti := f.ti) (ln := ((e.pl : Nat) : Int)) (tl := tl) (by k_asm) (by k_asm) (by k_asm) (by k_asm) rfl (by first | exact rm hdp (by decide) | ktr_room) (by first | exact ru hun (by decide) | ktr_units) hsz1 (by rw [List.length_map]; exact hgl) h4.e0 h4.e1 h4.e2 h4.e3 h4.e4 h4.e5 (fun p hp => (hall p hp).1) (fun p hp => (hall p hp).2.2) (by rw [hbs']; exact news_k hV (by k_asm)) ?_
        intro x' dx' tA k1' k2' k3' t1'' t2'' t3'' tl' h15 tk15 y1 y2 y3 F15 N15
        rw [← en] at N15
        (try dsimp only)
        (try (show wpAny _ _ _ _ _ _; k_fold))
        k_steps
        have y4 := kst_ltOf y1.2.2.2.2
        have z1 : @LT.lt Nat _ lx dx' := y1.1
        have z2 : @LT.lt Nat _ ld dx' := y1.2.1
        have z3 : @LT.lt Nat _ pa dx' := y1.2.2.1
        have z4 : @LT.lt Nat _ fa dx' := y1.2.2.2.1
        have z5 : @LT.lt Nat _ dx' x' := y2
        have z6 : @LT.lt Nat _ x' tA := y3
        have w1' : Off lx ld pa fa x' := ⟨Nat.ne_of_gt (Nat.lt_trans z1 z5), Nat.ne_of_gt (Nat.lt_trans z2 z5), Nat.ne_of_gt (Nat.lt_trans z3 z5), Nat.ne_of_gt (Nat.lt_trans z4 z5)⟩
        have w2' : Off lx ld pa fa dx' := ⟨Nat.ne_of_gt z1, Nat.ne_of_gt z2, Nat.ne_of_gt z3, Nat.ne_of_gt z4⟩
        have w3' : Off lx ld pa fa tA := ⟨Nat.ne_of_gt (Nat.lt_trans z1 (Nat.lt_trans z5 z6)), Nat.ne_of_gt (Nat.lt_trans z2 (Nat.lt_trans z5 z6)), Nat.ne_of_gt (Nat.lt_trans z3 (Nat.lt_trans z5 z6)), Nat.ne_of_gt (Nat.lt_trans z4 (Nat.lt_trans z5 z6))⟩
        have w4' : @Ne Nat x' dx' := Nat.ne_of_gt z5
        have w5' : @Ne Nat x' tA := Nat.ne_of_lt z6
        have w6' : @Ne Nat dx' tA := Nat.ne_of_lt (Nat.lt_trans z5 z6)
        have hap3 : Apart w.params lx ld pa fa ⟨x', dx', e.k + 1, tq, 1, tl', text1, 0, k1', k2', k3', t1'', t2'', t3''⟩ ((tA, { f with p := f.p + 10 + 3, t3 := t3', ln := ((e.pl : Nat) : Int), tl := tl }) :: gs) bs' := ⟨w1', w2', w4', w3', w5', w6', fun p hp => Nat.ne_of_lt (y4 p hp), hap2⟩
        have hst3 : StOk (rowCs rowS) ⟨x', dx', e.k + 1, tq, 1, tl', text1, 0, k1', k2', k3', t1'', t2'', t3''⟩ ((tA, { f with p := f.p + 10 + 3, t3 := t3', ln := ((e.pl : Nat) : Int), tl := tl }) :: gs) (⟨e.k + 1, 0, kidsOf par n (e.k + 1)⟩ :: ⟨e.i, pl + 1, ks⟩ :: st2) := .more ⟨htc1, rfl, hsz1⟩ hst2
        have hg3 := hgd.push (ks' := kidsOf par n (e.k + 1)) fun q hq => ⟨by have := kids_mem hq; have := hpar q this.1; omega, (kids_mem hq).1⟩
        refine Stop.out ?_
        refine td_nx (rowC := rowCs rowS) (kids := kidsOf par n) (dir := dir) (n := n) (c := (kidsOf par n 0).length) (f := ⟨x', dx', e.k + 1, tq, 1, tl', text1, 0, k1', k2', k3', t1'', t2'', t3''⟩) (gs := ((tA, { f with p := f.p + 10 + 3, t3 := t3', ln := ((e.pl : Nat) : Int), tl := tl }) :: gs)) (bs := bs') (st := ⟨e.k + 1, 0, kidsOf par n (e.k + 1)⟩ :: ⟨e.i, pl + 1, ks⟩ :: st2) (ev := ev') (by k_asm) (by k_asm) (by k_asm) (by k_asm) rfl (by first | exact rm hdp (by decide) | ktr_room) (by first | exact ru hun (by decide) | ktr_units) (by k_asm) h4 hW hst3 hap3 hg3 hn8 hrun ?_
        intro v news h20 tk20 hS20 F20 N20
        (try (show wpAny _ _ _ _ _ _; k_fold))
        k_steps
        subst hbs'
        exact Stop.mk ⟨rfl, ev'.length, by simp, _, _, dn ++ [e], ev', vals ++ [.ref D1], nn1 + 1, _, v, _, _, news, rfl, by rw [List.append_assoc]; exact hev1, rfl, hE', fun p hp => .tail _ (hsub p hp), hRn', fr_td1 (by k_asm), hS20, by k_asm⟩
    · k_steps
      rename_i D1 _ _ l1' _ F7 N7 _
      refine addK F7 N7 (.tail _ (.tail _ (.tail _ (.tail _ (.head _))))) (.head _) ?_ ?_
      · have := hE.length
        rw [hev1, List.length_append] at hev
        simp only [List.length_cons, List.length_nil]
        omega
      intro D2 h8 F8 N8 l2
      (try (show wpAny _ _ _ _ _ _; k_fold))
      k_steps
      rw [List.append_nil] at hev1
      subst hev1
      refine hret D2 D1 vals 0 ti tl ((D1, tupO [.str (nmL 0) ti, .int ((kidsOf par n 0).length + 1 : Int) tl]) :: R) _ _ (fun p hp => .tail _ (hsub p hp)) (hE.mono fun p hp => .tail _ hp) (.head _) (by k_asm) (news_sub (by k_asm) ?_)
      intro p hp
      simp only [List.mem_cons] at hp ⊢
      rcases hp with h | h | h <;> simp [h]
end
-- T3
section
abbrev duM (vi : Value) (nl pl ml dl : Addr) (op ok : Option Value) : Str → Option Value := fun y => if y = Str.ofString "k" then ok else if y = Str.ofString "place" then op else if y = Str.ofString "due" then some (.ref dl) else if y = Str.ofString "modes" then some (.ref ml) else if y = Str.ofString "parents" then some (.ref pl) else if y = Str.ofString "names" then some (.ref nl) else if y = Str.ofString "inside" then some vi else none
theorem fr_du0 {g h : Heap} {L nl pl ml dl : Addr} {vi : Value} {xp : Option Value} (F : Fr g L h (fun y => if y = Str.ofString "place" then xp else if y = Str.ofString "due" then some (.ref dl) else List.lookup y [(Str.ofString "modes", .ref ml), (Str.ofString "parents", .ref pl), (Str.ofString "names", .ref nl), (Str.ofString "inside", vi)])) : Fr g L h (duM vi nl pl ml dl xp none) := by
  have e : (fun y => if y = Str.ofString "place" then xp else if y = Str.ofString "due" then some (.ref dl) else List.lookup y [(Str.ofString "modes", .ref ml), (Str.ofString "parents", .ref pl), (Str.ofString "names", .ref nl), (Str.ofString "inside", vi)]) = duM vi nl pl ml dl xp none := by
    funext y
    by_cases h0 : y = Str.ofString "k"
    · subst h0; rfl
    · by_cases h1 : y = Str.ofString "place"
      · subst h1; rfl
      · by_cases h2 : y = Str.ofString "due"
        · subst h2; rfl
        · by_cases h3 : y = Str.ofString "modes"
          · subst h3; rfl
          · by_cases h4 : y = Str.ofString "parents"
            · subst h4; rfl
            · by_cases h5 : y = Str.ofString "names"
              · subst h5; rfl
              · by_cases h6 : y = Str.ofString "inside"
                · subst h6; rfl
                · (simp only [duM, h0, h1, h2, h3, h4, h5, h6, if_false]; rw [List.lookup_cons, beq_eq_false_iff_ne.mpr h3, List.lookup_cons, beq_eq_false_iff_ne.mpr h4, List.lookup_cons, beq_eq_false_iff_ne.mpr h5, List.lookup_cons, beq_eq_false_iff_ne.mpr h6]; rfl)
  rw [e] at F; exact F
theorem fr_du1 {g h : Heap} {L nl pl ml dl : Addr} {vi : Value} {op ok xk : Option Value} (F : Fr g L h (fun y => if y = Str.ofString "k" then xk else duM vi nl pl ml dl op ok y)) : Fr g L h (duM vi nl pl ml dl op xk) := by
  have e : (fun y => if y = Str.ofString "k" then xk else duM vi nl pl ml dl op ok y) = duM vi nl pl ml dl op xk := by
    funext y
    by_cases h0 : y = Str.ofString "k"
    · subst h0; rfl
    · simp only [duM, h0, if_false]
  rw [e] at F; exact F
theorem fr_du2 {g h : Heap} {L nl pl ml dl : Addr} {vi : Value} {op ok xp xk : Option Value} (F : Fr g L h (fun y => if y = Str.ofString "place" then xp else if y = Str.ofString "k" then xk else duM vi nl pl ml dl op ok y)) : Fr g L h (duM vi nl pl ml dl xp xk) := by
  have e : (fun y => if y = Str.ofString "place" then xp else if y = Str.ofString "k" then xk else duM vi nl pl ml dl op ok y) = duM vi nl pl ml dl xp xk := by
    funext y
    by_cases h0 : y = Str.ofString "k"
    · subst h0; rfl
    · by_cases h1 : y = Str.ofString "place"
      · subst h1; rfl
      · simp only [duM, h0, h1, if_false]
  rw [e] at F; exact F
theorem extK {prog : Program} {w : World} {A : Around} {E : Value → Shared → Prop} {s : Shared} {h₀ : Heap} {L D b : Addr} {m : Str → Option Value} {news : List (Addr × Obj)} {news' : Obj → List (Addr × Obj)} {vs ws : List Value} {n k : Nat} {Q : Value → Shared → Prop} (F : Fr h₀ L s.heap m) (N : News h₀ L s.heap news) (hb : (b, listOf ws.toArray k) ∈ news) (U : ∀ o', Upd D (listOf vs.toArray n) o' news (news' o')) (hz : vs.length + ws.length ≤ 1000000)
    (h : ∀ n' h', Fr h₀ L h' m → News h₀ L h' (news' (listOf (vs ++ ws).toArray n')) → Q .none { s with heap := h' }) : wpAny (model prog w) A (call (.builtin "list.extend") [.ref D, .ref b]) Q E s := by
  have z : vs.toArray.size + ws.toArray.size ≤ sizeLine := by rw [sizeLine_eq]; show vs.length + ws.length ≤ _; omega
  have z1 : vs.toArray.toList.length ≤ sizeLine := by rw [sizeLine_eq]; show vs.length ≤ _; omega
  cases ws with
  | nil =>
    refine kxn_extend F N hb rfl (U _) (extend_door z) z1 (Nat.le_succ_of_le z) fun h' F' N' => ?_
    have := h n h' F'
    rw [List.append_nil] at this
    exact this N'
  | cons v ws => exact kl_extend F N hb rfl (Nat.succ_ne_zero _) (U _) (extend_door z) z1 (Nat.le_succ_of_le z) fun h' F' N' => h _ h' F' N'
def kidsUp (par : Nat → Nat) (inside i : Nat) : List Nat := (List.range i).filter fun k => decide (par k = inside)
theorem kidsUp_no {par : Nat → Nat} {inside i : Nat} (h : par i ≠ inside) : kidsUp par inside (i + 1) = kidsUp par inside i := by
  unfold kidsUp
  rw [List.range_succ, List.filter_append, List.filter_cons_of_neg (by simpa using h)]
  simp
theorem kidsUp_yes {par : Nat → Nat} {inside i : Nat} (h : par i = inside) : kidsUp par inside (i + 1) = kidsUp par inside i ++ [i] := by
  unfold kidsUp
  rw [List.range_succ, List.filter_append, List.filter_cons_of_pos (by simpa using h)]
  rfl
/-- the events D take the rows that have been passed -/
def DuR (kids : Nat → List Nat) (dir : Nat → Bool) (inside : Nat) (A : List Nat) (D : List Ev) : Prop := ∀ ks st ev, Runs kids dir (⟨inside, A.length, ks⟩ :: st) ev → Runs kids dir (⟨inside, 0, A ++ ks⟩ :: st) (D ++ ev)
theorem DuR.nil {kids : Nat → List Nat} {dir : Nat → Bool} {inside : Nat} : DuR kids dir inside [] [] := fun _ _ _ h => h
theorem DuR.file {kids : Nat → List Nat} {dir : Nat → Bool} {inside k : Nat} {A : List Nat} {D : List Ev} (h : DuR kids dir inside A D) (hd : dir k = false) : DuR kids dir inside (A ++ [k]) (D ++ [⟨inside, A.length + 1, k⟩]) := fun ks st ev hr => by
  rw [List.length_append] at hr
  have := h (k :: ks) st _ (.file hd hr)
  rw [List.append_assoc, List.append_assoc]
  exact this
theorem DuR.dir {kids : Nat → List Nat} {dir : Nat → Bool} {inside k : Nat} {A : List Nat} {D D2 : List Ev} (h : DuR kids dir inside A D) (hd : dir k = true) (h2 : ∀ st ev, Runs kids dir st ev → Runs kids dir (⟨k + 1, 0, kids (k + 1)⟩ :: st) (D2 ++ ev)) : DuR kids dir inside (A ++ [k]) ((D ++ [⟨inside, A.length + 1, k⟩]) ++ D2) := fun ks st ev hr => by
  rw [List.length_append] at hr
  have := h (k :: ks) st _ (.dir hd (h2 _ _ hr))
  rw [List.append_assoc, List.append_assoc, List.append_assoc]
  exact this
/-- what a call of _law_due for a file is to answer -/
def DuC (w : World) (nl pl ml : Addr) (nvs pvs mvs : List Value) (n1 n2 n3 n : Nat) (par : Nat → Nat) (rowS : Nat → Str) (dir : Nat → Bool) (inside : Nat) : Prop :=
  ∀ ⦃mean : ExcName → Option Value⦄ ⦃mg mb : Str → Option Value⦄ ⦃dp un : Nat⦄ ⦃gd : Option (List Code)⦄ ⦃cn : Str⦄ ⦃cs : Scope⦄ ⦃a : Addr⦄ ⦃ccd : Value⦄ ⦃cl : List (Str × Addr)⦄ ⦃outer : List Env⦄ ⦃A₀ : Around⦄ ⦃base h₀ : Heap⦄ ⦃L : Addr⦄ ⦃m : Str → Option Value⦄ ⦃s : Shared⦄ ⦃Q E : Value → Shared → Prop⦄ ⦃rest : List (Addr × Obj)⦄ ⦃t : Tok⦄ ⦃v : Int⦄, v = (inside : Int) → Below A₀ base outer h₀ → Fr h₀ L s.heap m → (hd.heap_1 w.params).In h₀ → Top q (looseW q loose) mean mg mb h₀ → cs.kind = .function → dp + 6 + 2 * (n - inside) < recursionLimit → un + 100 + 20 * (n - inside) < cLine →
    News h₀ L s.heap rest → (nl, listOf nvs.toArray n1) ∈ rest → (pl, listOf pvs.toArray n2) ∈ rest → (ml, listOf mvs.toArray n3) ∈ rest →
    (∀ dl D vals nn new h' tk', DuR (kidsOf par n) dir inside (kidsOf par n inside) D → D.length + 1 ≤ 2 ^ (n - inside) → EvR rowS new D vals → (∀ p ∈ (dl, listOf (List.toArray vals) nn) :: new, ∀ r ∈ rest, @LT.lt Nat _ r.1 p.1) → Fr h₀ L h' m → News h₀ L h' ((dl, listOf (List.toArray vals) nn) :: (new ++ rest)) → Q (.ref dl) { s with heap := h', toks := tk' }) →
    wpAny (model PySem.Challenge.pw_om0186_01 w) (ktrTop dp un gd cn cs L a ccd cl outer) (call (.ref 966) [.int v t, .ref nl, .ref pl, .ref ml]) Q E s
/-- what holds at the head of a turn -/
def DuJ (nl pl ml dl I : Addr) (vi : Value) (rest : List (Addr × Obj)) (par : Nat → Nat) (rowS : Nat → Str) (dir : Nat → Bool) (inside n : Nat) (i : Nat) (m : Str → Option Value) (news : List (Addr × Obj)) : Prop :=
  ∃ tp ok D vals nn new, m = duM vi nl pl ml dl (some (.int ((kidsUp par inside i).length : Int) tp)) ok ∧ news = (dl, listOf (List.toArray vals) nn) :: (new ++ rest) ∧ (∀ p ∈ new, p.1 ≠ I ∧ p.1 ≠ dl ∧ ∀ r ∈ rest, @LT.lt Nat _ r.1 p.1) ∧ EvR rowS new D vals ∧ DuR (kidsOf par n) dir inside (kidsUp par inside i) D ∧ D.length + 2 ^ (n - max i inside) ≤ 2 ^ (n - inside)
section
variable {prog : Program} {w : World} {A : Around} {E : Value → Shared → Prop} {s : Shared} {env : Env} {h₀ : Heap} {x : Str} {body : List Stmt} {Q : Flow → Shared → Prop}
theorem du_ind {nl pl ml dl I : Addr} {vi : Value} {rest : List (Addr × Obj)} {par : Nat → Nat} {rowS : Nat → Str} {dir : Nat → Bool} {inside n : Nat} {a : Int} {m : Str → Option Value} {news : List (Addr × Obj)} (st : DuJ nl pl ml dl I vi rest par rowS dir inside n 0 m news)
    (turn : ∀ i m news t it h tk, i < n → DuJ nl pl ml dl I vi rest par rowS dir inside n i m news → Fr h₀ env.locals h (fun y => if y = x then some (.int (a + (i : Int)) t) else m y) → News h₀ env.locals h ((I, it) :: news) →
      wpAny (model prog w) A (execs body env) (fun f s₃ => Stop (f = .next ∧ ∃ h' tk' m' news', s₃ = { s with heap := h', toks := tk' } ∧ Fr h₀ env.locals h' m' ∧ News h₀ env.locals h' ((I, it) :: news') ∧ (∀ p ∈ news', p.1 ≠ I) ∧ DuJ nl pl ml dl I vi rest par rowS dir inside n (i + 1) m' news')) E { s with heap := h, toks := tk })
    (fin : ∀ m news h tk, DuJ nl pl ml dl I vi rest par rowS dir inside n n m news → Fr h₀ env.locals h m → News h₀ env.locals h news → Q .next { s with heap := h, toks := tk }) :
    RangeRest prog w A E h₀ env x body Q s I a n n 0 m news := range_ind _ turn fin m news st
end
theorem Rel2.append {α : Type} {Y : α → Value → Prop} : ∀ {l l2 : List α} {vs vs2 : List Value}, Rel2 Y l vs → Rel2 Y l2 vs2 → Rel2 Y (l ++ l2) (vs ++ vs2)
  | _, _, _, _, .nil, h => h
  | _, _, _, _, .cons hv r, h => .cons hv (Rel2.append r h)
theorem pow_step {n i inside x y : Nat} (hi : i < n) (hin : inside ≤ i) (h : x + 2 ^ (n - max i inside) ≤ 2 ^ (n - inside)) (hy : y + 1 ≤ 2 ^ (n - (i + 1))) : x + 1 + y + 2 ^ (n - max (i + 1) inside) ≤ 2 ^ (n - inside) := by
  rw [show max i inside = i by omega] at h
  rw [show max (i + 1) inside = i + 1 by omega]
  rw [show n - i = (n - (i + 1)) + 1 by omega, Nat.pow_succ] at h
  omega
theorem pow_one_le {a : Nat} : 0 + 1 ≤ 2 ^ a := Nat.pow_pos (by decide)
theorem du_app {h₀ h : Heap} {L nl pl ml dl I D1 : Addr} {vi : Value} {rest V new : List (Addr × Obj)} {par : Nat → Nat} {rowS : Nat → Str} {dir : Nat → Bool} {inside n i nn : Nat} {it : Obj} {vals : List Value} {D : List Ev} {op ok xk : Option Value} {t1 t2 t3 t4 t5 tq : Tok} {r : Str}
    (F : Fr h₀ L h (fun y => if y = Str.ofString "place" then some (.int (((kidsUp par inside i).length : Int) + 1) tq) else if y = Str.ofString "k" then xk else duM vi nl pl ml dl op ok y))
    (N : News h₀ L h ((D1, tupO [.str (nmL inside) t1, .int (((kidsUp par inside i).length : Int) + 1) t2, .str ⟨#[97 + i]⟩ t3, .str (Str.ofString "=") t4, .str r t5]) :: (I, it) :: (dl, listOf (vals.toArray.push (.ref D1)) (nn + 1)) :: V))
    (l9 : @LT.lt Nat _ I D1 ∧ @LT.lt Nat _ dl D1 ∧ AllLt D1 V) (hV : new ++ rest = V) (hr : rowS i = r) (hb : par i = inside) (hi : i < n) (hin : inside ≤ i) (hd : dir i = false) (hI1 : @Ne Nat dl I) (q2 : ∀ p ∈ V, p.1 ≠ I)
    (hnew : ∀ p ∈ new, p.1 ≠ I ∧ p.1 ≠ dl ∧ ∀ r ∈ rest, @LT.lt Nat _ r.1 p.1) (hE : EvR rowS new D vals) (hD : DuR (kidsOf par n) dir inside (kidsUp par inside i) D) (hlen : D.length + 2 ^ (n - max i inside) ≤ 2 ^ (n - inside)) :
    ∃ m' news', Fr h₀ L h m' ∧ News h₀ L h ((I, it) :: news') ∧ (∀ p ∈ news', p.1 ≠ I) ∧ DuJ nl pl ml dl I vi rest par rowS dir inside n (i + 1) m' news' := by
  subst hV
  subst hr
  rw [List.push_toArray] at N
  have hlt := kst_ltOf l9.2.2
  refine ⟨_, (dl, listOf (vals ++ [Value.ref D1]).toArray (nn + 1)) :: (((D1, tupO [.str (nmL inside) t1, .int (((kidsUp par inside i).length : Int) + 1) t2, .str ⟨#[97 + i]⟩ t3, .str (Str.ofString "=") t4, .str (rowS i) t5]) :: new) ++ rest), fr_du2 F, news_sub N ?_, ?_, tq, xk, D ++ [⟨inside, (kidsUp par inside i).length + 1, i⟩], vals ++ [.ref D1], nn + 1, (D1, tupO [.str (nmL inside) t1, .int (((kidsUp par inside i).length : Int) + 1) t2, .str ⟨#[97 + i]⟩ t3, .str (Str.ofString "=") t4, .str (rowS i) t5]) :: new, ?_, rfl, ?_, ?_, ?_, ?_⟩
  · intro p hp
    simp only [List.mem_cons, List.cons_append] at hp ⊢
    rcases hp with h | h | h | h <;> simp [h]
  · rw [List.cons_append]
    exact List.forall_mem_cons.mpr ⟨hI1, List.forall_mem_cons.mpr ⟨Nat.ne_of_gt l9.1, q2⟩⟩
  · rw [kidsUp_yes hb, List.length_append]; rfl
  · exact List.forall_mem_cons.mpr ⟨⟨Nat.ne_of_gt l9.1, Nat.ne_of_gt l9.2.1, fun r hr => hlt r (List.mem_append.mpr (.inr hr))⟩, hnew⟩
  · exact Rel2.snoc ⟨D1, t1, t2, t3, t4, t5, rfl, .head _⟩ (hE.mono fun p hp => .tail _ hp)
  · rw [kidsUp_yes hb]; exact hD.file hd
  · rw [List.length_append]
    exact pow_step (y := 0) hi hin hlen pow_one_le
theorem du_extA {h₀ h : Heap} {L dl I D1 dl2 : Addr} {V new2 : List (Addr × Obj)} {it tp o2 : Obj} {vals : List Value} {nn : Nat} (N : News h₀ L h ((dl2, o2) :: (new2 ++ ((D1, tp) :: (I, it) :: (dl, listOf (vals.toArray.push (.ref D1)) (nn + 1)) :: V)))) : News h₀ L h ((dl, listOf (vals ++ [Value.ref D1]).toArray (nn + 1)) :: (I, it) :: (dl2, o2) :: (new2 ++ ((D1, tp) :: V))) := by
  rw [List.push_toArray] at N
  refine news_sub N ?_
  intro p hp
  simp only [List.mem_cons, List.mem_append] at hp ⊢
  rcases hp with h | h | h | h | h | h <;> simp [h]
theorem du_extB {h₀ h : Heap} {L nl pl ml dl I D1 dl2 : Addr} {vi : Value} {rest V new new2 : List (Addr × Obj)} {par : Nat → Nat} {rowS : Nat → Str} {dir : Nat → Bool} {inside n i n' nn2 : Nat} {it : Obj} {vals vals2 : List Value} {D D2 : List Ev} {op ok xk : Option Value} {t1 t2 t3 t4 t5 tq : Tok} {r : Str}
    (F : Fr h₀ L h (fun y => if y = Str.ofString "place" then some (.int (((kidsUp par inside i).length : Int) + 1) tq) else if y = Str.ofString "k" then xk else duM vi nl pl ml dl op ok y))
    (N : News h₀ L h ((dl, listOf ((vals ++ [Value.ref D1]) ++ vals2).toArray n') :: (I, it) :: (dl2, listOf vals2.toArray nn2) :: (new2 ++ ((D1, tupO [.str (nmL inside) t1, .int (((kidsUp par inside i).length : Int) + 1) t2, .str ⟨#[97 + i]⟩ t3, .str (Str.ofString "=") t4, .str r t5]) :: V))))
    (l9 : @LT.lt Nat _ I D1 ∧ @LT.lt Nat _ dl D1 ∧ AllLt D1 V) (hV : new ++ rest = V) (hr : rowS i = r) (hb : par i = inside) (hi : i < n) (hin : inside ≤ i) (hd : dir i = true) (hI1 : @Ne Nat dl I) (q2 : ∀ p ∈ V, p.1 ≠ I)
    (hnew : ∀ p ∈ new, p.1 ≠ I ∧ p.1 ≠ dl ∧ ∀ r ∈ rest, @LT.lt Nat _ r.1 p.1) (hE : EvR rowS new D vals) (hD : DuR (kidsOf par n) dir inside (kidsUp par inside i) D) (hlen : D.length + 2 ^ (n - max i inside) ≤ 2 ^ (n - inside))
    (hD2 : DuR (kidsOf par n) dir (i + 1) (kidsOf par n (i + 1)) D2) (hlen2 : D2.length + 1 ≤ 2 ^ (n - (i + 1))) (hE2 : EvR rowS new2 D2 vals2) (hf : ∀ p ∈ (dl2, listOf vals2.toArray nn2) :: new2, @LT.lt Nat _ I p.1 ∧ @LT.lt Nat _ dl p.1 ∧ ∀ r ∈ V, @LT.lt Nat _ r.1 p.1) :
    ∃ m' news', Fr h₀ L h m' ∧ News h₀ L h ((I, it) :: news') ∧ (∀ p ∈ news', p.1 ≠ I) ∧ DuJ nl pl ml dl I vi rest par rowS dir inside n (i + 1) m' news' := by
  subst hV
  subst hr
  have hlt := kst_ltOf l9.2.2
  have hf2 := (List.forall_mem_cons.mp hf).2
  have hf1 := (List.forall_mem_cons.mp hf).1
  refine ⟨_, (dl, listOf ((vals ++ [Value.ref D1]) ++ vals2).toArray n') :: (((dl2, listOf vals2.toArray nn2) :: (new2 ++ ((D1, tupO [.str (nmL inside) t1, .int (((kidsUp par inside i).length : Int) + 1) t2, .str ⟨#[97 + i]⟩ t3, .str (Str.ofString "=") t4, .str (rowS i) t5]) :: new))) ++ rest), fr_du2 F, news_sub N ?_, ?_, tq, xk, (D ++ [⟨inside, (kidsUp par inside i).length + 1, i⟩]) ++ D2, (vals ++ [.ref D1]) ++ vals2, n', (dl2, listOf vals2.toArray nn2) :: (new2 ++ ((D1, tupO [.str (nmL inside) t1, .int (((kidsUp par inside i).length : Int) + 1) t2, .str ⟨#[97 + i]⟩ t3, .str (Str.ofString "=") t4, .str (rowS i) t5]) :: new)), ?_, rfl, ?_, ?_, ?_, ?_⟩
  · intro p hp
    simp only [List.mem_cons, List.mem_append, List.cons_append] at hp ⊢
    rcases hp with h | h | h | (h | h | h) | h <;> simp [h]
  · intro p hp
    simp only [List.mem_cons, List.mem_append, List.cons_append] at hp
    rcases hp with h | h | (h | h | h) | h
    · subst h; exact hI1
    · subst h; exact Nat.ne_of_gt hf1.1
    · exact Nat.ne_of_gt (hf2 p h).1
    · subst h; exact Nat.ne_of_gt l9.1
    · exact q2 p (List.mem_append.mpr (.inl h))
    · exact q2 p (List.mem_append.mpr (.inr h))
  · rw [kidsUp_yes hb, List.length_append]; rfl
  · intro p hp
    simp only [List.mem_cons, List.mem_append] at hp
    rcases hp with h | h | h | h
    · subst h; exact ⟨Nat.ne_of_gt hf1.1, Nat.ne_of_gt hf1.2.1, fun r hr => hf1.2.2 r (List.mem_append.mpr (.inr hr))⟩
    · exact ⟨Nat.ne_of_gt (hf2 p h).1, Nat.ne_of_gt (hf2 p h).2.1, fun r hr => (hf2 p h).2.2 r (List.mem_append.mpr (.inr hr))⟩
    · subst h; exact ⟨Nat.ne_of_gt l9.1, Nat.ne_of_gt l9.2.1, fun r hr => hlt r (List.mem_append.mpr (.inr hr))⟩
    · exact hnew p h
  · exact Rel2.append (Rel2.snoc ⟨D1, t1, t2, t3, t4, t5, rfl, .tail _ (List.mem_append.mpr (.inr (.head _)))⟩ (hE.mono fun p hp => .tail _ (List.mem_append.mpr (.inr (.tail _ hp))))) (hE2.mono fun p hp => .tail _ (List.mem_append.mpr (.inl hp)))
  · rw [kidsUp_yes hb]
    refine hD.dir hd fun st ev hr => ?_
    have := hD2 [] st ev (.pop hr)
    rw [List.append_nil] at this
    exact this
  · rw [List.length_append, List.length_append]
    exact pow_step hi hin hlen hlen2
theorem kw30 : True := by
  k_with_none
  k_with "own all" => first | assumption | (refine ne_rest ?_; first | assumption | exact And.right ((by assumption)) | exact And.right (And.right ((by assumption))) | exact And.right (And.right (And.right ((by assumption)))) | exact And.right (And.right (And.right (And.right ((by assumption))))) | exact And.right (And.right (And.right (And.right (And.right ((by assumption)))))) | exact And.right (And.right (And.right (And.right (And.right (And.right ((by assumption))))))) | exact And.right (And.right (And.right (And.right (And.right (And.right (And.right ((by assumption)))))))) | exact And.right (And.right (And.right (And.right (And.right (And.right (And.right (And.right ((by assumption))))))))) | exact And.right (And.right (And.right (And.right (And.right (And.right (And.right (And.right (And.right ((by assumption)))))))))) | exact And.right (And.right (And.right (And.right (And.right (And.right (And.right (And.right (And.right (And.right ((by assumption))))))))))) | exact And.right (And.right (And.right (And.right (And.right (And.right (And.right (And.right (And.right (And.right (And.right ((by assumption)))))))))))) | exact And.right (And.right (And.right (And.right (And.right (And.right (And.right (And.right (And.right (And.right (And.right (And.right ((by assumption))))))))))))) | exact And.right (And.right (And.right (And.right (And.right (And.right (And.right (And.right (And.right (And.right (And.right (And.right (And.right ((by assumption))))))))))))))) | (first | (refine ne_rest2 ((by assumption)) ?_; (try dsimp only); omega) | (refine ne_rest2 (And.right ((by assumption))) ?_; (try dsimp only); omega) | (refine ne_rest2 (And.right (And.right ((by assumption)))) ?_; (try dsimp only); omega) | (refine ne_rest2 (And.right (And.right (And.right ((by assumption))))) ?_; (try dsimp only); omega) | (refine ne_rest2 (And.right (And.right (And.right (And.right ((by assumption)))))) ?_; (try dsimp only); omega) | (refine ne_rest2 (And.right (And.right (And.right (And.right (And.right ((by assumption))))))) ?_; (try dsimp only); omega) | (refine ne_rest2 (And.right (And.right (And.right (And.right (And.right (And.right ((by assumption)))))))) ?_; (try dsimp only); omega) | (refine ne_rest2 (And.right (And.right (And.right (And.right (And.right (And.right (And.right ((by assumption))))))))) ?_; (try dsimp only); omega) | (refine ne_rest2 (And.right (And.right (And.right (And.right (And.right (And.right (And.right (And.right ((by assumption)))))))))) ?_; (try dsimp only); omega) | (refine ne_rest2 (And.right (And.right (And.right (And.right (And.right (And.right (And.right (And.right (And.right ((by assumption))))))))))) ?_; (try dsimp only); omega) | (refine ne_rest2 (And.right (And.right (And.right (And.right (And.right (And.right (And.right (And.right (And.right (And.right ((by assumption)))))))))))) ?_; (try dsimp only); omega) | (refine ne_rest2 (And.right (And.right (And.right (And.right (And.right (And.right (And.right (And.right (And.right (And.right (And.right ((by assumption))))))))))))) ?_; (try dsimp only); omega) | (refine ne_rest2 (And.right (And.right (And.right (And.right (And.right (And.right (And.right (And.right (And.right (And.right (And.right (And.right ((by assumption)))))))))))))) ?_; (try dsimp only); omega) | (refine ne_rest2 (And.right (And.right (And.right (And.right (And.right (And.right (And.right (And.right (And.right (And.right (And.right (And.right (And.right ((by assumption))))))))))))))) ?_; (try dsimp only); omega))
  k_with "exec If" => refine wpAny_If ?_
  k_with "truthy str" => refine P.truthy_str (by omega) ?_
  k_with "ite" => first | refine ite_pos (by with_reducible assumption) ?_ | refine ite_isFalse (by with_reducible assumption) ?_ | refine ite_neg (by with_reducible assumption) ?_
  k_with "subscriptTail Constant BinOp str int" => (k_here; k_dflt (refine' itemK ?n9q ?a9q ?b9q ?z9q ?s9q ?t9q ?_; (case n9q => first | assumption | decide +kernel); (case a9q => assumption); (case b9q => assumption); (case z9q => decide); (case s9q => with_unfolding_all rfl); (case t9q => (intro _; with_unfolding_all rfl)); k_whole; intro t9k k9k hl9k))
  k_with "subscriptTail Name BinOp str int" => (k_here; k_dflt (refine' itemK ?n9q ?a9q ?b9q ?z9q ?s9q ?t9q ?_; (case n9q => first | assumption | decide +kernel); (case a9q => assumption); (case b9q => assumption); (case z9q => decide); (case s9q => with_unfolding_all rfl); (case t9q => (intro _; with_unfolding_all rfl)); k_whole; intro t9k k9k hl9k))
  k_with "binaryOp FloorDiv int int" => (refine floordiv_int (by first | assumption | decide) ?_ (Or.inl (PyProof.noPylong_small (by first | assumption | decide))))
  k_with "binaryOp Mod int int" => (refine mod_int' (by first | assumption | decide) ?_)
  k_with "binaryOp Mult int int" => (refine PyProof.Rows.mul_int ?_ (PySem.IntMulOk.of_right (by decide)))
  k_with "binaryOp Add int int" => (refine PyProof.Rows.add_int ?_)
  k_with "call builtin:len" => (k_here; (try dsimp only [List.nil_append, List.cons_append, List.append_nil]); (with_reducible show wpAny _ _ (call (Value.builtin "len") [Value.ref _]) _ _ _); k_dflt (refine' lenK ?N9q ?m9q ?e9q ?k9q ?_; (case N9q => k_asm); (case m9q => k_mem); (case e9q => with_reducible assumption); (case k9q => with_reducible assumption); k_whole; intro t9k k9k))
  k_with "exec For Name Call cons nil" => refine Stop.mk ?_
  k_with "pyIter ref" => refine Stop.mk ?_
  k_with "subscriptTail Name Name ref int" => (k_here; k_dflt (refine' listK ?N9q ?m9q ?v9q ?a9q ?b9q ?s9q ?g9q ?_; (case N9q => k_asm); (case m9q => k_mem); (case v9q => with_reducible assumption); (case a9q => with_reducible assumption); (case b9q => with_reducible assumption); (case s9q => with_unfolding_all rfl); (case g9q => (intro _; with_unfolding_all rfl)); k_whole))
  k_with "subscriptTail Name Subscript ref int" => (k_here; k_dflt (refine' listK ?N9q ?m9q ?v9q ?a9q ?b9q ?s9q ?g9q ?_; (case N9q => k_asm); (case m9q => k_mem); (case v9q => with_reducible assumption); (case a9q => with_reducible assumption); (case b9q => with_reducible assumption); (case s9q => with_unfolding_all rfl); (case g9q => (intro _; with_unfolding_all rfl)); k_whole))
  k_with "subscriptTail Name BinOp ref int" => (k_here; k_dflt (refine' listK ?N9q ?m9q ?v9q ?a9q ?b9q ?s9q ?g9q ?_; (case N9q => k_asm); (case m9q => k_mem); (case v9q => with_reducible assumption); (case a9q => with_reducible assumption); (case b9q => with_reducible assumption); (case s9q => with_unfolding_all rfl); (case g9q => (intro _; with_unfolding_all rfl)); k_whole))
  k_with "own mem" => (refine mem_of ?_; with_reducible assumption)
  k_with "call ref" => (k_here; (try dsimp only [List.nil_append, List.cons_append, List.append_nil]); (with_reducible show wpAny _ _ (call (Value.ref 933) [Value.int _ _]) _ _ _); refine Stop.mk ?_)
  k_with "call builtin:list.append" => (k_here; (try dsimp only [List.nil_append, List.cons_append, List.append_nil]); (with_reducible show wpAny _ _ (call (Value.builtin _) [Value.ref _, _]) _ _ _); k_dflt (refine' append_K ?k19q ?k29q ?k39q ?_ ?z9q; (case k19q => k_asm); (case k29q => k_asm); (case k39q => k_upd); (case z9q => with_reducible assumption); k_whole); intro h9k F9k N9k; (try k_sweep))
  k_with "call ref" => (k_here; (try dsimp only [List.nil_append, List.cons_append, List.append_nil]); (with_reducible show wpAny _ _ (call (Value.ref 966) [_, _, _, _]) _ _ _); refine Stop.mk ?_)
  k_with "call builtin:list.extend" => refine Stop.mk ?_
  k_with "execs cons" => ((with_reducible refine wpAny_execs_cons ?_); (try dsimp only); (try k_fold))
  k_with "own ne" => (refine neN ?_; (try dsimp only); first | with_reducible assumption | (refine Ne.symm ?_; with_reducible assumption) | (refine Nat.ne_of_lt ?_; first | with_reducible assumption | with_reducible exact And.left (by with_reducible assumption) | with_reducible exact And.left (And.right (by with_reducible assumption)) | with_reducible exact And.left (And.right (And.right (by with_reducible assumption))) | with_reducible exact And.left (And.right (And.right (And.right (by with_reducible assumption)))) | with_reducible exact And.left (And.right (And.right (And.right (And.right (by with_reducible assumption))))) | with_reducible exact And.left (And.right (And.right (And.right (And.right (And.right (by with_reducible assumption)))))) | with_reducible exact And.left (And.right (And.right (And.right (And.right (And.right (And.right (by with_reducible assumption))))))) | with_reducible exact And.left (And.right (And.right (And.right (And.right (And.right (And.right (And.right (by with_reducible assumption)))))))) | with_reducible exact And.left (And.right (And.right (And.right (And.right (And.right (And.right (And.right (And.right (by with_reducible assumption))))))))) | with_reducible exact And.right (by with_reducible assumption) | with_reducible exact And.right (And.right (by with_reducible assumption)) | with_reducible exact And.right (And.right (And.right (by with_reducible assumption))) | with_reducible exact And.right (And.right (And.right (And.right (by with_reducible assumption)))) | with_reducible exact And.right (And.right (And.right (And.right (And.right (by with_reducible assumption))))) | with_reducible exact And.right (And.right (And.right (And.right (And.right (And.right (by with_reducible assumption)))))) | with_reducible exact And.right (And.right (And.right (And.right (And.right (And.right (And.right (by with_reducible assumption))))))) | with_reducible exact And.right (And.right (And.right (And.right (And.right (And.right (And.right (And.right (by with_reducible assumption))))))))) | (refine Nat.ne_of_gt ?_; first | with_reducible assumption | with_reducible exact And.left (by with_reducible assumption) | with_reducible exact And.left (And.right (by with_reducible assumption)) | with_reducible exact And.left (And.right (And.right (by with_reducible assumption))) | with_reducible exact And.left (And.right (And.right (And.right (by with_reducible assumption)))) | with_reducible exact And.left (And.right (And.right (And.right (And.right (by with_reducible assumption))))) | with_reducible exact And.left (And.right (And.right (And.right (And.right (And.right (by with_reducible assumption)))))) | with_reducible exact And.left (And.right (And.right (And.right (And.right (And.right (And.right (by with_reducible assumption))))))) | with_reducible exact And.left (And.right (And.right (And.right (And.right (And.right (And.right (And.right (by with_reducible assumption)))))))) | with_reducible exact And.left (And.right (And.right (And.right (And.right (And.right (And.right (And.right (And.right (by with_reducible assumption))))))))) | with_reducible exact And.right (by with_reducible assumption) | with_reducible exact And.right (And.right (by with_reducible assumption)) | with_reducible exact And.right (And.right (And.right (by with_reducible assumption))) | with_reducible exact And.right (And.right (And.right (And.right (by with_reducible assumption)))) | with_reducible exact And.right (And.right (And.right (And.right (And.right (by with_reducible assumption))))) | with_reducible exact And.right (And.right (And.right (And.right (And.right (And.right (by with_reducible assumption)))))) | with_reducible exact And.right (And.right (And.right (And.right (And.right (And.right (And.right (by with_reducible assumption))))))) | with_reducible exact And.right (And.right (And.right (And.right (And.right (And.right (And.right (And.right (by with_reducible assumption))))))))))
  trivial
theorem ds_room {dp n i inside : Nat} (h : dp + 6 + 2 * (n - inside) < recursionLimit) (a : inside ≤ i) (b : i < n) : dp + 1 + 6 + 2 * (n - (i + 1)) < recursionLimit := Nat.lt_of_le_of_lt (by omega) h
theorem ds_units {un n i inside : Nat} (h : un + 100 + 20 * (n - inside) < cLine) (a : inside ≤ i) (b : i < n) : un + 3 + 100 + 20 * (n - (i + 1)) < cLine := Nat.lt_of_le_of_lt (by omega) h
theorem ds_8 {n k : Nat} (h : n ≤ 8) : n - k ≤ 8 := Nat.le_trans (Nat.sub_le _ _) h
theorem ds_max {n i inside : Nat} : n - max (i + 1) inside ≤ n - max i inside := Nat.sub_le_sub_left (Nat.max_le.mpr ⟨Nat.le_trans (Nat.le_succ _) (Nat.le_max_left _ _), Nat.le_max_right _ _⟩) _
theorem ds_n {n inside : Nat} : n - max n inside = 0 := Nat.sub_eq_zero_of_le (Nat.le_max_left _ _)
theorem ds_i {i : Nat} (h : i < 8) : (0 : Int) + (i : Int) < 1000000 ∧ (0 : Int) + (i : Int) + 1 < 1000000 ∧ (0 : Int) ≤ 0 + (i : Int) ∧ (0 : Int) ≤ 0 + (i : Int) + 1 := by omega
theorem ds_e {i : Nat} : (0 + (i : Int)).toNat = i ∧ (0 + (i : Int) + 1).toNat = i + 1 := by omega
theorem du_step {w : World} {nl pl ml : Addr} {nvs pvs mvs : List Value} {n1 n2 n3 n : Nat} {par : Nat → Nat} {rowS : Nat → Str} {dir : Nat → Bool} {mode : Nat → Int} {inside : Nat}
    (hn : Rel2 (fun i v => ∃ t, v = .str (nmL i) t) (List.range (n + 1)) nvs) (hp : Rel2 (fun k v => ∃ t, v = .int ((par k : Nat) : Int) t) (List.range n) pvs) (hmo : Rel2 (fun k v => ∃ t, v = .int (mode k) t) (List.range n) mvs) (hn8 : n ≤ 8) (hpar : ∀ k, k < n → par k ≤ k) (hm0 : ∀ k, k < n → 0 ≤ mode k ∧ mode k < 65536) (hrow : ∀ k, k < n → rowS k = lawRow (mode k)) (hdir : ∀ k, k < n → dir k = ((mode k).fdiv 4096 == 4 && ((mode k).fdiv 64).fmod 2 == 1))
    (IH : ∀ k, inside ≤ k → k < n → DuC w nl pl ml nvs pvs mvs n1 n2 n3 n par rowS dir (k + 1)) : DuC w nl pl ml nvs pvs mvs n1 n2 n3 n par rowS dir inside := by
  intro mean mg mb dp un gd cn cs a ccd cl outer A₀ base h₀ L m s Q E rest t v hv B F X T hk hdp hun N hm1 hm2 hm3 hret
  subst hv
  w_on
  have hlm : mvs.length = n := by rw [hmo.length, List.length_range]
  have hn9 : n < 1000000 := by omega
  have hn8' : Stop (n ≤ 8) := Stop.mk hn8
  clear hn8
  refine wpAny_call ?_
  k_dflt (refine' code_def ?k1 ?k2 ?k3 N ?k5 ?kA ?kF ?kK ?k6 ?k7 ?k8 ?k9 ?kB ?_ ?c2 ?c3 ?c4 ?c5; (case kA => exact rfl); (case kF => exact rfl); (case kK => assumption); (case k1 => k_asm); (case k2 => k_asm); (case k3 => k_asm); (case k5 => k_asm); (case k6 => k_is); (case k7 => k_is); (case k8 => ktr_room); (case k9 => first | exact BindsTo.of_eq rfl | exact binds_K (by k_in) rfl (by k_is) rfl rfl rfl); (case c5 => decide); (case kB => exact locs rfl); (case c2 => exact rfl); (case c3 => exact rfl); (case c4 => exact rfl); k_whole; intro g' L' h' FG' F' N' B' X' T'; (try dsimp only); (try k_fold))
  (try (show wpAny _ _ _ _ _ _; k_fold))
  k_steps
  refine Stop.out ?_
  (rename Fr _ _ _ _ => lF')
  replace lF' := fr_du0 lF'
  refine For_invVF lF' rfl rfl ?_
  (try (show wpAny _ _ _ _ _ _; k_fold))
  k_steps
  refine Stop.out ?_
  have hn8 : n ≤ 8 := Stop.out hn8'
  rename (∀ p ∈ rest, p.1 < _) => l0
  obtain ⟨dl, edl, l0⟩ := (⟨_, rfl, l0⟩ : ∃ d : Addr, d = _ ∧ ∀ p ∈ rest, p.1 < d)
  subst edl
  refine iter_rangeUnr (n := n) rfl (by assumption) (small_one (by omega) (by omega) (by omega) (by omega)) ((rangeSize_nat _ _).trans (by omega)) (by k_asm) (by k_asm) ?_
  intro I hI
  refine' du_ind (nl := nl) (pl := pl) (ml := ml) (vi := .int (inside : Int) t) (rest := rest) (par := par) (rowS := rowS) (dir := dir) (inside := inside) (n := n) ?start ?turn ?fin
  case start =>
    refine ⟨_, none, [], [], _, [], rfl, rfl, fun p hp => (by cases hp), .nil, .nil, ?_⟩
    rw [Nat.zero_max]
    simp
  case turn =>
    intro i m news t' it h tk hi hJ F9 N9
    obtain ⟨tp, ok, D, vals, nn, new, rfl, rfl, hnew, hE, hD, hlen⟩ := hJ
    obtain ⟨vp, hvp, tp', rfl⟩ := hp.at (k := i) (i := i) (List.getElem?_range hi)
    obtain ⟨vm, hvm, tm, rfl⟩ := hmo.at (k := i) (i := i) (List.getElem?_range hi)
    obtain ⟨vn, hvn, tn, rfl⟩ := hn.at (k := i + 1) (i := i + 1) (List.getElem?_range (by omega))
    have e9 : (0 + (i : Int)).toNat = i := ds_e.1
    have e8 : (0 + (i : Int) + 1).toNat = i + 1 := ds_e.2
    have en : nmL (i + 1) = ⟨#[97 + i]⟩ := by unfold nmL; rw [if_neg (by omega), show 96 + (i + 1) = 97 + i by omega]
    have hvp' : pvs[(0 + (i : Int)).toNat]? = some (.int ((par i : Nat) : Int) tp') := by rw [e9]; exact hvp
    have hvm' : mvs[(0 + (i : Int)).toNat]? = some (.int (mode i) tm) := by rw [e9]; exact hvm
    have hvn' : nvs[(0 + (i : Int) + 1).toNat]? = some (.str ⟨#[97 + i]⟩ tn) := by rw [e8, ← en]; exact hvn
    have gi := ds_i (Nat.lt_of_lt_of_le hi hn8)
    have g1 : (0 : Int) ≤ 0 + (i : Int) := gi.2.2.1
    have g2 : 0 + (i : Int) < 1000000 := gi.1
    have g3 : (0 : Int) ≤ 0 + (i : Int) + 1 := gi.2.2.2
    have g4 : 0 + (i : Int) + 1 < 1000000 := gi.2.1
    clear gi
    have g5 : (0 : Int) ≤ (inside : Int) := Int.natCast_nonneg _
    obtain ⟨z1, z2⟩ := hm0 i hi
    have hI1 : @Ne Nat dl I := Nat.ne_of_lt (hI _ (.head _))
    have hI2 : ∀ r ∈ rest, @LT.lt Nat _ r.1 I := fun r hr => hI _ (.tail _ hr)
    have q1 : ∀ p ∈ (new ++ rest), p.1 ≠ dl := fun p hp => (List.mem_append.mp hp).elim (fun h => (hnew p h).2.1) fun h => Nat.ne_of_lt (l0 p h)
    have q2 : ∀ p ∈ (new ++ rest), p.1 ≠ I := fun p hp => (List.mem_append.mp hp).elim (fun h => (hnew p h).1) fun h => Nat.ne_of_lt (hI2 p h)
    have m1 : (nl, listOf nvs.toArray n1) ∈ new ++ rest := List.mem_append.mpr (.inr hm1)
    have m2 : (pl, listOf pvs.toArray n2) ∈ new ++ rest := List.mem_append.mpr (.inr hm2)
    have m3 : (ml, listOf mvs.toArray n3) ∈ new ++ rest := List.mem_append.mpr (.inr hm3)
    have v0 := hE.length
    have v1 : (List.toArray vals).size ≤ sizeLine := by
      rw [sizeLine_eq]
      show vals.length ≤ _
      rw [v0]
      exact Nat.le_trans (Nat.le_trans (Nat.le_add_right _ _) hlen) (Nat.le_trans (Nat.pow_le_pow_right (n := 2) (j := 8) (by decide) (ds_8 hn8)) (by decide))
    generalize hV : new ++ rest = V at N9 q1 q2 m1 m2 m3
    by_cases hb : par i = inside
    · have b0 : (((par i : Nat) : Int) == (inside : Int)) = true := by rw [hb]; exact beq_self_eq_true _
      have hin : inside ≤ i := by rw [← hb]; exact hpar i hi
      have g6 : (inside : Int) < 1000000 := by omega
      obtain ⟨vq, hvq, tq, rfl⟩ := hn.at (k := inside) (i := inside) (List.getElem?_range (by omega))
      have hvq' : nvs[((inside : Nat) : Int).toNat]? = some (.str (nmL inside) tq) := hvq
      (try (show wpAny _ _ _ _ _ _; k_fold))
      k_steps
      refine Stop.out ?_
      refine lr_c (by k_asm) (by k_asm) (by k_asm) (by k_asm) rfl (by ktr_room) (by ktr_units) (by k_asm) z1 z2 ?_
      intro t2 h2 tk2 F2 N2
      cases hd1 : ((mode i).fdiv 4096 == 4) with
      | false =>
        have hdk : dir i = false := by rw [hdir i hi, hd1]; rfl
        (try (show wpAny _ _ _ _ _ _; k_fold))
        k_steps
        obtain ⟨m', news', f1, f2, f3, f4⟩ := du_app (rest := rest) (rowS := rowS) (dir := dir) (n := n) (new := new) (D := D) (by k_asm) (by k_asm) (by with_reducible assumption) hV (hrow i hi) hb hi hin hdk hI1 q2 hnew hE hD hlen
        exact Stop.mk ⟨rfl, _, _, m', news', rfl, f1, f2, f3, f4⟩
      | true =>
        cases hd2 : (((mode i).fdiv 64).fmod 2 == 1) with
        | false =>
          have hdk : dir i = false := by rw [hdir i hi, hd1, hd2]; rfl
          (try (show wpAny _ _ _ _ _ _; k_fold))
          k_steps
          obtain ⟨m', news', f1, f2, f3, f4⟩ := du_app (rest := rest) (rowS := rowS) (dir := dir) (n := n) (new := new) (D := D) (by k_asm) (by k_asm) (by with_reducible assumption) hV (hrow i hi) hb hi hin hdk hI1 q2 hnew hE hD hlen
          exact Stop.mk ⟨rfl, _, _, m', news', rfl, f1, f2, f3, f4⟩
        | true =>
          have hdk : dir i = true := by rw [hdir i hi, hd1, hd2]; rfl
          (try (show wpAny _ _ _ _ _ _; k_fold))
          k_steps
          refine Stop.out ?_
          refine IH i hin hi (v := 0 + (i : Int) + 1) (by omega) (by k_asm) (by k_asm) (by k_asm) (by k_asm) rfl (by first | exact ds_room hdp hin hi | ktr_room) (by first | exact ds_units hun hin hi | ktr_units) (by k_asm) (.tail _ (.tail _ (.tail _ m1))) (.tail _ (.tail _ (.tail _ m2))) (.tail _ (.tail _ (.tail _ m3))) ?_
          intro dl2 D2 vals2 nn2 new2 h3 tk3 hD2 hlen2 hE2 hfr2 F3 N3
          rename (@LT.lt Nat _ I _ ∧ _) => l9
          have N4 := du_extA N3
          clear N3
          (try (show wpAny _ _ _ _ _ _; k_fold))
          k_steps
          refine Stop.out ?_
          have hf : ∀ p ∈ (dl2, listOf vals2.toArray nn2) :: new2, @LT.lt Nat _ I p.1 ∧ @LT.lt Nat _ dl p.1 ∧ ∀ r ∈ V, @LT.lt Nat _ r.1 p.1 := fun p hp => ⟨hfr2 p hp _ (.tail _ (.head _)), hfr2 p hp _ (.tail _ (.tail _ (.head _))), fun r hr => hfr2 p hp r (.tail _ (.tail _ (.tail _ hr)))⟩
          refine extK (news' := fun o' => (dl, o') :: _) (by k_asm) N4 (.tail _ (.tail _ (.head _))) (fun o' => .head ?_) ?_ ?_
          · refine List.forall_mem_cons.mpr ⟨hI1.symm, List.forall_mem_cons.mpr ⟨Nat.ne_of_gt (hf _ (.head _)).2.1, fun p hp => ?_⟩⟩
            rcases List.mem_append.mp hp with h | h
            · exact Nat.ne_of_gt (hf p (.tail _ h)).2.1
            · rcases List.mem_cons.mp h with h | h
              · subst h; exact Nat.ne_of_gt l9.2.1
              · exact q1 p h
          · have := hE2.length
            rw [List.length_append]
            have a1 : D.length ≤ 256 := Nat.le_trans (Nat.le_trans (Nat.le_add_right _ _) hlen) (Nat.pow_le_pow_right (n := 2) (j := 8) (by decide) (ds_8 hn8))
            have a2 : D2.length ≤ 256 := Nat.le_trans (Nat.le_trans (Nat.le_add_right _ _) hlen2) (Nat.pow_le_pow_right (n := 2) (j := 8) (by decide) (ds_8 hn8))
            simp only [List.length_cons, List.length_nil]
            omega
          intro n' h5 F5 N5
          (try (show wpAny _ _ _ _ _ _; k_fold))
          k_steps
          obtain ⟨m', news', f1, f2, f3, f4⟩ := du_extB (rest := rest) (rowS := rowS) (dir := dir) (n := n) (new := new) (D := D) (by k_asm) (by k_asm) l9 hV (hrow i hi) hb hi hin hdk hI1 q2 hnew hE hD hlen hD2 hlen2 hE2 hf
          exact Stop.mk ⟨rfl, _, _, m', news', rfl, f1, f2, f3, f4⟩
    · have b0 : (((par i : Nat) : Int) == (inside : Int)) = false := beq_eq_false_iff_ne.mpr (by omega)
      (try (show wpAny _ _ _ _ _ _; k_fold))
      k_steps
      refine Stop.out ⟨rfl, _, _, _, _, rfl, fr_du1 (by k_asm), by k_asm, ?_, tp, some (.int (0 + (i : Int)) t'), D, vals, nn, new, ?_, by rw [hV], hnew, hE, by rw [kidsUp_no hb]; exact hD, ?_⟩
      · exact List.forall_mem_cons.mpr ⟨hI1, q2⟩
      · rw [kidsUp_no hb]
      · exact Nat.le_trans (Nat.add_le_add_left (Nat.pow_le_pow_right (by decide) ds_max) _) hlen
  case fin =>
    intro m news h tk hJ F9 N9
    obtain ⟨tp, ok, D, vals, nn, new, rfl, rfl, hnew, hE, hD, hlen⟩ := hJ
    (try (show wpAny _ _ _ _ _ _; k_fold))
    k_steps
    refine hret dl D vals nn new _ _ hD ?_ hE (List.forall_mem_cons.mpr ⟨l0, fun p hp => (hnew p hp).2.2⟩) (by k_asm) (by k_asm)
    rw [show n - max n inside = 0 from ds_n] at hlen
    exact hlen
theorem du_c {w : World} {nl pl ml : Addr} {nvs pvs mvs : List Value} {n1 n2 n3 n : Nat} {par : Nat → Nat} {rowS : Nat → Str} {dir : Nat → Bool} {mode : Nat → Int}
    (hn : Rel2 (fun i v => ∃ t, v = .str (nmL i) t) (List.range (n + 1)) nvs) (hp : Rel2 (fun k v => ∃ t, v = .int ((par k : Nat) : Int) t) (List.range n) pvs) (hmo : Rel2 (fun k v => ∃ t, v = .int (mode k) t) (List.range n) mvs) (hn8 : n ≤ 8) (hpar : ∀ k, k < n → par k ≤ k) (hm0 : ∀ k, k < n → 0 ≤ mode k ∧ mode k < 65536) (hrow : ∀ k, k < n → rowS k = lawRow (mode k)) (hdir : ∀ k, k < n → dir k = ((mode k).fdiv 4096 == 4 && ((mode k).fdiv 64).fmod 2 == 1)) (inside : Nat) : DuC w nl pl ml nvs pvs mvs n1 n2 n3 n par rowS dir inside := by
  have key : ∀ (f inside : Nat), n - inside ≤ f → DuC w nl pl ml nvs pvs mvs n1 n2 n3 n par rowS dir inside := by
    intro f
    induction f with
    | zero => exact fun inside hf => du_step hn hp hmo hn8 hpar hm0 hrow hdir fun k h1 h2 => absurd h2 (by omega)
    | succ f ih => exact fun inside hf => du_step hn hp hmo hn8 hpar hm0 hrow hdir fun k h1 h2 => ih (k + 1) (by omega)
  exact key _ inside (Nat.le_refl _)
end
-- P2
section
theorem band_nat (m c : Nat) : Builtin.bitAnd (m : Int) (c : Int) = ((m &&& c : Nat) : Int) := by
  rw [bitAnd_pp (by omega) (by omega)]
  rfl
theorem and_pow (m i : Nat) : m &&& 2 ^ i = (m / 2 ^ i % 2) * 2 ^ i := by
  rcases Nat.mod_two_eq_zero_or_one (m / 2 ^ i) with h | h
  · rw [h, Nat.zero_mul]
    refine Nat.eq_of_testBit_eq fun j => ?_
    rw [Nat.testBit_and, Nat.testBit_two_pow, Nat.zero_testBit]
    by_cases e : i = j
    · subst e
      rw [Nat.testBit_eq_decide_div_mod_eq, h]
      rfl
    · simp [e]
  · rw [h, Nat.one_mul]
    refine Nat.eq_of_testBit_eq fun j => ?_
    rw [Nat.testBit_and, Nat.testBit_two_pow]
    by_cases e : i = j
    · subst e
      rw [Nat.testBit_eq_decide_div_mod_eq, h]
      rfl
    · simp [e]
theorem and_two (m i j : Nat) : m &&& (2 ^ i ||| 2 ^ j) = (m / 2 ^ i % 2) * 2 ^ i ||| (m / 2 ^ j % 2) * 2 ^ j := by
  rw [Nat.and_or_distrib_left, and_pow, and_pow]
end
-- P2b
section
theorem pk8 (m a : Nat) : fmPick (m : Int) (a + 1) [(256, Str.ofString "r")] = Txt.item (Str.ofString "-r") ((m / 256 % 2 : Nat) : Int) := by
  show (if decide (Builtin.bitAnd (m : Int) ((256 : Nat) : Int) = ((256 : Nat) : Int)) = true then Str.ofString "r" else Str.ofString "-") = _
  rw [band_nat, show m &&& 256 = (m / 256 % 2) * 256 from and_pow m 8]
  rcases Nat.mod_two_eq_zero_or_one (m / 256) with h | h <;> rw [h] <;> decide +kernel
theorem pk7 (m a : Nat) : fmPick (m : Int) (a + 1) [(128, Str.ofString "w")] = Txt.item (Str.ofString "-w") ((m / 128 % 2 : Nat) : Int) := by
  show (if decide (Builtin.bitAnd (m : Int) ((128 : Nat) : Int) = ((128 : Nat) : Int)) = true then Str.ofString "w" else Str.ofString "-") = _
  rw [band_nat, show m &&& 128 = (m / 128 % 2) * 128 from and_pow m 7]
  rcases Nat.mod_two_eq_zero_or_one (m / 128) with h | h <;> rw [h] <;> decide +kernel
theorem pk5 (m a : Nat) : fmPick (m : Int) (a + 1) [(32, Str.ofString "r")] = Txt.item (Str.ofString "-r") ((m / 32 % 2 : Nat) : Int) := by
  show (if decide (Builtin.bitAnd (m : Int) ((32 : Nat) : Int) = ((32 : Nat) : Int)) = true then Str.ofString "r" else Str.ofString "-") = _
  rw [band_nat, show m &&& 32 = (m / 32 % 2) * 32 from and_pow m 5]
  rcases Nat.mod_two_eq_zero_or_one (m / 32) with h | h <;> rw [h] <;> decide +kernel
theorem pk4 (m a : Nat) : fmPick (m : Int) (a + 1) [(16, Str.ofString "w")] = Txt.item (Str.ofString "-w") ((m / 16 % 2 : Nat) : Int) := by
  show (if decide (Builtin.bitAnd (m : Int) ((16 : Nat) : Int) = ((16 : Nat) : Int)) = true then Str.ofString "w" else Str.ofString "-") = _
  rw [band_nat, show m &&& 16 = (m / 16 % 2) * 16 from and_pow m 4]
  rcases Nat.mod_two_eq_zero_or_one (m / 16) with h | h <;> rw [h] <;> decide +kernel
theorem pk2 (m a : Nat) : fmPick (m : Int) (a + 1) [(4, Str.ofString "r")] = Txt.item (Str.ofString "-r") ((m / 4 % 2 : Nat) : Int) := by
  show (if decide (Builtin.bitAnd (m : Int) ((4 : Nat) : Int) = ((4 : Nat) : Int)) = true then Str.ofString "r" else Str.ofString "-") = _
  rw [band_nat, show m &&& 4 = (m / 4 % 2) * 4 from and_pow m 2]
  rcases Nat.mod_two_eq_zero_or_one (m / 4) with h | h <;> rw [h] <;> decide +kernel
theorem pk1 (m a : Nat) : fmPick (m : Int) (a + 1) [(2, Str.ofString "w")] = Txt.item (Str.ofString "-w") ((m / 2 % 2 : Nat) : Int) := by
  show (if decide (Builtin.bitAnd (m : Int) ((2 : Nat) : Int) = ((2 : Nat) : Int)) = true then Str.ofString "w" else Str.ofString "-") = _
  rw [band_nat, show m &&& 2 = (m / 2 % 2) * 2 from and_pow m 1]
  rcases Nat.mod_two_eq_zero_or_one (m / 2) with h | h <;> rw [h] <;> decide +kernel
theorem pk6 (m a : Nat) : fmPick (m : Int) (a + 1) [(2112, Str.ofString "s"), (2048, Str.ofString "S"), (64, Str.ofString "x")] = Txt.item (Str.ofString "-xSs") ((m / 2048 % 2 * 2 + m / 64 % 2 : Nat) : Int) := by
  show (if decide (Builtin.bitAnd (m : Int) ((2112 : Nat) : Int) = ((2112 : Nat) : Int)) = true then Str.ofString "s" else if decide (Builtin.bitAnd (m : Int) ((2048 : Nat) : Int) = ((2048 : Nat) : Int)) = true then Str.ofString "S" else if decide (Builtin.bitAnd (m : Int) ((64 : Nat) : Int) = ((64 : Nat) : Int)) = true then Str.ofString "x" else Str.ofString "-") = _
  rw [band_nat, band_nat, band_nat, show m &&& 2112 = (m / 2048 % 2) * 2048 ||| (m / 64 % 2) * 64 from and_two m 11 6, show m &&& 2048 = (m / 2048 % 2) * 2048 from and_pow m 11, show m &&& 64 = (m / 64 % 2) * 64 from and_pow m 6]
  rcases Nat.mod_two_eq_zero_or_one (m / 2048) with h | h <;> rcases Nat.mod_two_eq_zero_or_one (m / 64) with h' | h' <;> rw [h, h'] <;> decide +kernel
theorem pk3 (m a : Nat) : fmPick (m : Int) (a + 1) [(1032, Str.ofString "s"), (1024, Str.ofString "S"), (8, Str.ofString "x")] = Txt.item (Str.ofString "-xSs") ((m / 1024 % 2 * 2 + m / 8 % 2 : Nat) : Int) := by
  show (if decide (Builtin.bitAnd (m : Int) ((1032 : Nat) : Int) = ((1032 : Nat) : Int)) = true then Str.ofString "s" else if decide (Builtin.bitAnd (m : Int) ((1024 : Nat) : Int) = ((1024 : Nat) : Int)) = true then Str.ofString "S" else if decide (Builtin.bitAnd (m : Int) ((8 : Nat) : Int) = ((8 : Nat) : Int)) = true then Str.ofString "x" else Str.ofString "-") = _
  rw [band_nat, band_nat, band_nat, show m &&& 1032 = (m / 1024 % 2) * 1024 ||| (m / 8 % 2) * 8 from and_two m 10 3, show m &&& 1024 = (m / 1024 % 2) * 1024 from and_pow m 10, show m &&& 8 = (m / 8 % 2) * 8 from and_pow m 3]
  rcases Nat.mod_two_eq_zero_or_one (m / 1024) with h | h <;> rcases Nat.mod_two_eq_zero_or_one (m / 8) with h' | h' <;> rw [h, h'] <;> decide +kernel
theorem pk0 (m a : Nat) : fmPick (m : Int) (a + 1) [(513, Str.ofString "t"), (512, Str.ofString "T"), (1, Str.ofString "x")] = Txt.item (Str.ofString "-xTt") ((m / 512 % 2 * 2 + m / 1 % 2 : Nat) : Int) := by
  show (if decide (Builtin.bitAnd (m : Int) ((513 : Nat) : Int) = ((513 : Nat) : Int)) = true then Str.ofString "t" else if decide (Builtin.bitAnd (m : Int) ((512 : Nat) : Int) = ((512 : Nat) : Int)) = true then Str.ofString "T" else if decide (Builtin.bitAnd (m : Int) ((1 : Nat) : Int) = ((1 : Nat) : Int)) = true then Str.ofString "x" else Str.ofString "-") = _
  rw [band_nat, band_nat, band_nat, show m &&& 513 = (m / 512 % 2) * 512 ||| (m / 1 % 2) * 1 from and_two m 9 0, show m &&& 512 = (m / 512 % 2) * 512 from and_pow m 9, show m &&& 1 = (m / 1 % 2) * 1 from and_pow m 0]
  rcases Nat.mod_two_eq_zero_or_one (m / 512) with h | h <;> rcases Nat.mod_two_eq_zero_or_one (m / 1) with h' | h' <;> rw [h, h'] <;> decide +kernel
end
-- P3
section
theorem and_top {m : Nat} (h : m < 65536) : m &&& 61440 = m / 4096 * 4096 := by
  refine Nat.eq_of_testBit_eq fun j => ?_
  rw [Nat.testBit_and, show (61440 : Nat) = (2 ^ 4 - 1) * 2 ^ 12 from rfl, show m / 4096 * 4096 = m / 2 ^ 12 * 2 ^ 12 from rfl, Nat.testBit_mul_two_pow, Nat.testBit_mul_two_pow, Nat.testBit_two_pow_sub_one, Nat.testBit_div_two_pow]
  by_cases h1 : 12 ≤ j
  · by_cases h2 : j - 12 < 4
    · simp [h1, h2, show j - 12 + 12 = j by omega]
    · have : m.testBit j = false := Nat.testBit_lt_two_pow (Nat.lt_of_lt_of_le h (Nat.pow_le_pow_right (n := 2) (by decide) (show 16 ≤ j by omega)))
      simp [h1, this, show j - 12 + 12 = j by omega]
  · simp [h1]
theorem pk9 {m : Nat} (h : m < 65536) : fmPick (m : Int) 0 [(40960, Str.ofString "l"), (49152, Str.ofString "s"), (32768, Str.ofString "-"), (24576, Str.ofString "b"), (16384, Str.ofString "d"), (8192, Str.ofString "c"), (4096, Str.ofString "p")] = Txt.item (Str.ofString "?pc?d?b?-?l?s???") ((m / 4096 : Nat) : Int) := by
  show pick (fun p => decide (Builtin.bitAnd (m : Int) ((61440 : Nat) : Int) = p.1)) (Str.ofString "?") _ = _
  rw [band_nat, and_top h]
  have hq : m / 4096 < 16 := by omega
  have key : ∀ q : Fin 16, pick (fun p => decide (((q.val * 4096 : Nat) : Int) = p.1)) (Str.ofString "?") [(40960, Str.ofString "l"), (49152, Str.ofString "s"), (32768, Str.ofString "-"), (24576, Str.ofString "b"), (16384, Str.ofString "d"), (8192, Str.ofString "c"), (4096, Str.ofString "p")] = Txt.item (Str.ofString "?pc?d?b?-?l?s???") ((q.val : Nat) : Int) := by decide +kernel
  exact key ⟨m / 4096, hq⟩
/-- a text of one sign that a row may bear -/
def sign1 (x : Str) : Prop := ∃ c, x.cps = #[c] ∧ 32 ≤ c ∧ c < 127 ∧ c ≠ 92 ∧ c ≠ 34
def sgB (x : Str) : Bool := x.cps.size == 1 && x.cps.all fun c => decide (32 ≤ c) && decide (c < 127) && decide (c ≠ 92) && decide (c ≠ 34)
theorem sg_item {x : Str} {i : Int} (h : sgB (Txt.item x i) = true) : sign1 (Txt.item x i) := by
  unfold sgB at h
  rw [Bool.and_eq_true] at h
  refine ⟨_, rfl, ?_⟩
  have h2 := h.2
  unfold Txt.item at h2
  simp only [Array.all_eq_true, Bool.and_eq_true, decide_eq_true_eq] at h2
  obtain ⟨⟨⟨a, b⟩, c⟩, d⟩ := h2 0 (Nat.zero_lt_one)
  exact ⟨a, b, c, d⟩
/-- the ten signs -/
def sg (m : Nat) : List Str := [Txt.item (Str.ofString "?pc?d?b?-?l?s???") ((m / 4096 : Nat) : Int), Txt.item (Str.ofString "-r") ((m / 256 % 2 : Nat) : Int), Txt.item (Str.ofString "-w") ((m / 128 % 2 : Nat) : Int), Txt.item (Str.ofString "-xSs") ((m / 2048 % 2 * 2 + m / 64 % 2 : Nat) : Int), Txt.item (Str.ofString "-r") ((m / 32 % 2 : Nat) : Int), Txt.item (Str.ofString "-w") ((m / 16 % 2 : Nat) : Int), Txt.item (Str.ofString "-xSs") ((m / 1024 % 2 * 2 + m / 8 % 2 : Nat) : Int), Txt.item (Str.ofString "-r") ((m / 4 % 2 : Nat) : Int), Txt.item (Str.ofString "-w") ((m / 2 % 2 : Nat) : Int), Txt.item (Str.ofString "-xTt") ((m / 512 % 2 * 2 + m / 1 % 2 : Nat) : Int)]
theorem sg_picks {m : Nat} (h : m < 65536) : picks (fmPick (m : Int)) 0 fmTab = sg m := by
  unfold fmTab sg
  simp only [picks]
  rw [pk9 h, pk8, pk7, pk6, pk5, pk4, pk3, pk2, pk1, pk0]
theorem sg_ok {m : Nat} (h : m < 65536) : ∀ x ∈ sg m, sign1 x := by
  have k2 : ∀ a : Fin 2, sgB (Txt.item (Str.ofString "-r") ((a.val : Nat) : Int)) = true := by decide +kernel
  have k3 : ∀ a : Fin 2, sgB (Txt.item (Str.ofString "-w") ((a.val : Nat) : Int)) = true := by decide +kernel
  have k4 : ∀ a : Fin 4, sgB (Txt.item (Str.ofString "-xSs") ((a.val : Nat) : Int)) = true := by decide +kernel
  have k5 : ∀ a : Fin 4, sgB (Txt.item (Str.ofString "-xTt") ((a.val : Nat) : Int)) = true := by decide +kernel
  have k6 : ∀ a : Fin 16, sgB (Txt.item (Str.ofString "?pc?d?b?-?l?s???") ((a.val : Nat) : Int)) = true := by decide +kernel
  intro x hx
  unfold sg at hx
  simp only [List.mem_cons, List.not_mem_nil, or_false] at hx
  rcases hx with e | e | e | e | e | e | e | e | e | e <;> rw [e] <;> refine sg_item ?_
  · exact k6 ⟨m / 4096, by omega⟩
  · exact k2 ⟨m / 256 % 2, by omega⟩
  · exact k3 ⟨m / 128 % 2, by omega⟩
  · exact k4 ⟨m / 2048 % 2 * 2 + m / 64 % 2, by omega⟩
  · exact k2 ⟨m / 32 % 2, by omega⟩
  · exact k3 ⟨m / 16 % 2, by omega⟩
  · exact k4 ⟨m / 1024 % 2 * 2 + m / 8 % 2, by omega⟩
  · exact k2 ⟨m / 4 % 2, by omega⟩
  · exact k3 ⟨m / 2 % 2, by omega⟩
  · exact k5 ⟨m / 512 % 2 * 2 + m / 1 % 2, by omega⟩
theorem row_cps {m : Nat} (h : m < 65536) : (rowOf (m : Int)).cps.toList = (sg m).flatMap fun x => x.cps.toList := by
  unfold rowOf
  rw [sg_picks h, join_cps]
theorem fdiv_nat (m c : Nat) : (m : Int).fdiv (c : Int) = ((m / c : Nat) : Int) := by
  rw [Int.fdiv_eq_ediv_of_nonneg _ (by omega)]; rfl
theorem fmod_nat (m c : Nat) : (m : Int).fmod (c : Int) = ((m % c : Nat) : Int) := by
  rw [Int.fmod_eq_emod_of_nonneg _ (by omega)]; rfl
theorem ap10 (a b c d e f g h i j : Str) : (((a ++ (b ++ c ++ d)) ++ (e ++ f ++ g)) ++ (h ++ i ++ j)).cps.toList = [a, b, c, d, e, f, g, h, i, j].flatMap fun x => x.cps.toList := by
  simp only [Str.cps_append, List.flatMap_cons, List.flatMap_nil, Array.toList_append, List.append_assoc, List.append_nil]
theorem str_ext {x y : Str} (h : x.cps.toList = y.cps.toList) : x = y := by
  obtain ⟨⟨x⟩⟩ := x
  obtain ⟨⟨y⟩⟩ := y
  cases h
  rfl
theorem tr_nat (m r a : Nat) (l row : Str) : trStep (m : Int) ⟨(r : Int), (a : Int), l⟩ row = row ++ (Txt.item (Str.ofString "-r") ((m / (r * 4) % 2 : Nat) : Int) ++ Txt.item (Str.ofString "-w") ((m / (r * 2) % 2 : Nat) : Int) ++ Txt.item l ((m / a % 2 * 2 + m / r % 2 : Nat) : Int)) := by
  unfold trStep
  (try dsimp only)
  rw [fdiv_nat, fdiv_nat, show ((m / r : Nat) : Int).fdiv 4 = ((m / r / 4 : Nat) : Int) from fdiv_nat _ 4, show ((m / r : Nat) : Int).fdiv 2 = ((m / r / 2 : Nat) : Int) from fdiv_nat _ 2, show ((m / r / 4 : Nat) : Int).fmod 2 = ((m / r / 4 % 2 : Nat) : Int) from fmod_nat _ 2, show ((m / r / 2 : Nat) : Int).fmod 2 = ((m / r / 2 % 2 : Nat) : Int) from fmod_nat _ 2, show ((m / r : Nat) : Int).fmod 2 = ((m / r % 2 : Nat) : Int) from fmod_nat _ 2, show ((m / a : Nat) : Int).fmod 2 = ((m / a % 2 : Nat) : Int) from fmod_nat _ 2, Nat.div_div_eq_div_mul, Nat.div_div_eq_div_mul]
  rfl
theorem law_row {m : Nat} (h : m < 65536) : rowOf (m : Int) = lawRow (m : Int) := by
  refine str_ext ?_
  rw [row_cps h]
  unfold lawRow lrTab
  simp only [List.foldl]
  rw [show (m : Int).fdiv 4096 = ((m / 4096 : Nat) : Int) from fdiv_nat m 4096, show ∀ row, trStep (m : Int) ⟨64, 2048, Str.ofString "-xSs"⟩ row = _ from fun row => tr_nat m 64 2048 _ row, show ∀ row, trStep (m : Int) ⟨8, 1024, Str.ofString "-xSs"⟩ row = _ from fun row => tr_nat m 8 1024 _ row, show ∀ row, trStep (m : Int) ⟨1, 512, Str.ofString "-xTt"⟩ row = _ from fun row => tr_nat m 1 512 _ row, ap10]
  rfl
theorem flat_ones : ∀ {l : List Str}, (∀ x ∈ l, sign1 x) → (l.flatMap fun x => x.cps.toList) = l.map (fun x => x.cps.toList.getD 0 0) ∧ ∀ c ∈ (l.flatMap fun x => x.cps.toList), 32 ≤ c ∧ c < 127 ∧ c ≠ 92 ∧ c ≠ 34
  | [], _ => ⟨rfl, fun _ h => nomatch h⟩
  | x :: l, h => by
    obtain ⟨c, e, hc⟩ := h x (.head _)
    obtain ⟨h1, h2⟩ := flat_ones fun y hy => h y (.tail _ hy)
    rw [List.flatMap_cons, List.map_cons, h1, e]
    refine ⟨rfl, ?_⟩
    rw [h1] at h2
    exact List.forall_mem_cons.mpr ⟨hc, h2⟩
theorem row_ok {m : Nat} (h : m < 65536) : rowOk (rowOf (m : Int)) := by
  obtain ⟨h1, h2⟩ := flat_ones (sg_ok h)
  rw [← row_cps h] at h1 h2
  refine ⟨?_, fun hc => (h2 92 hc).2.2.1 rfl, fun hc => (h2 34 hc).2.2.2 rfl, fun c hc => ⟨(h2 c hc).1, (h2 c hc).2.1⟩⟩
  show (rowOf (m : Int)).cps.size = 10
  rw [← Array.length_toList, h1]
  rfl
theorem row_ch {m : Nat} (h : m < 65536) : ∀ c ∈ (rowOf (m : Int)).cps.toList, rowCh c := by
  obtain ⟨h1, h2⟩ := flat_ones (sg_ok h)
  rw [← row_cps h] at h2
  have key : ∀ c : Fin 127, (decide (32 ≤ c.val) && decide (c.val ≠ 92) && decide (c.val ≠ 34)) = true → (((⟨#[c.val]⟩ : Str) == Str.ofString "\n") = false ∧ ((⟨#[c.val]⟩ : Str) == Str.ofString "\"") = false ∧ (Builtin.Str.occurrences (Str.ofString "\\") (⟨#[c.val]⟩) 0 (PySem.Str.ofString "\\").length 1).isEmpty = true) := by decide +kernel
  intro c hc
  obtain ⟨a, b, d, e⟩ := h2 c hc
  exact key ⟨c, b⟩ (by simp [a, d, e])
theorem row_dir {m : Nat} (h : m < 65536) : rowDir (rowOf (m : Int)) = ((m : Int).fdiv 4096 == 4 && ((m : Int).fdiv 64).fmod 2 == 1) := by
  obtain ⟨h1, _⟩ := flat_ones (sg_ok h)
  rw [← row_cps h] at h1
  unfold rowDir
  rw [h1]
  show ((Txt.item (Str.ofString "?pc?d?b?-?l?s???") ((m / 4096 : Nat) : Int)).cps.toList.getD 0 0 == 100 && ((Txt.item (Str.ofString "-xSs") ((m / 2048 % 2 * 2 + m / 64 % 2 : Nat) : Int)).cps.toList.getD 0 0 == 120 || (Txt.item (Str.ofString "-xSs") ((m / 2048 % 2 * 2 + m / 64 % 2 : Nat) : Int)).cps.toList.getD 0 0 == 115)) = _
  have k1 : ∀ a : Fin 16, ((Txt.item (Str.ofString "?pc?d?b?-?l?s???") ((a.val : Nat) : Int)).cps.toList.getD 0 0 == 100) = (((a.val : Nat) : Int) == 4) := by decide +kernel
  have k2 : ∀ a b : Fin 2, ((Txt.item (Str.ofString "-xSs") ((a.val * 2 + b.val : Nat) : Int)).cps.toList.getD 0 0 == 120 || (Txt.item (Str.ofString "-xSs") ((a.val * 2 + b.val : Nat) : Int)).cps.toList.getD 0 0 == 115) = (((b.val : Nat) : Int) == 1) := by decide +kernel
  rw [show (m : Int).fdiv 4096 = ((m / 4096 : Nat) : Int) from fdiv_nat m 4096, show (m : Int).fdiv 64 = ((m / 64 : Nat) : Int) from fdiv_nat m 64, show ((m / 64 : Nat) : Int).fmod 2 = ((m / 64 % 2 : Nat) : Int) from fmod_nat _ 2]
  exact congr (congrArg _ (k1 ⟨m / 4096, by omega⟩)) (k2 ⟨m / 2048 % 2, by omega⟩ ⟨m / 64 % 2, by omega⟩)
theorem row_all {mode : Int} (h0 : 0 ≤ mode) (h1 : mode < 65536) : rowOf mode = lawRow mode ∧ rowOk (rowOf mode) ∧ (∀ c ∈ (rowOf mode).cps.toList, rowCh c) ∧ rowDir (rowOf mode) = (mode.fdiv 4096 == 4 && (mode.fdiv 64).fmod 2 == 1) := by
  obtain ⟨m, rfl⟩ := Int.eq_ofNat_of_zero_le h0
  have h : m < 65536 := by omega
  exact ⟨law_row h, row_ok h, row_ch h, row_dir h⟩
end
-- T4a
section
/-- the numbers of a script -/
def nums (ns : List Int) : List Int := [0, 0, 2, 70] ++ ns.take 4
def num (ns : List Int) (k : Nat) : Int := (nums ns).getD k 0
def parOf (ns : List Int) (k : Nat) : Nat := ((num ns k).fmod ((k : Int) + 1)).toNat
def modeOf (ns : List Int) (k : Nat) : Int := lawMode (((num ns k).fdiv ((k : Int) + 1)).fmod 131072)
def rowOfN (ns : List Int) (k : Nat) : Str := rowOf (modeOf ns k)
def dirOf (ns : List Int) (k : Nat) : Bool := rowDir (rowOfN ns k)
theorem nums_len (ns : List Int) : 4 ≤ (nums ns).length ∧ (nums ns).length ≤ 8 := by
  unfold nums
  rw [List.length_append, List.length_take]
  simp only [List.length_cons, List.length_nil]
  omega
theorem par_int (ns : List Int) (k : Nat) : (num ns k).fmod ((k : Int) + 1) = ((parOf ns k : Nat) : Int) := by
  unfold parOf
  rw [Int.toNat_of_nonneg]
  exact Int.fmod_nonneg_of_pos _ (by omega)
theorem par_le (ns : List Int) (k : Nat) : parOf ns k ≤ k := by
  have h := Int.fmod_lt_of_pos (num ns k) (show (0 : Int) < (k : Int) + 1 by omega)
  rw [par_int] at h
  omega
theorem mode_lo (ns : List Int) (k : Nat) : 0 ≤ modeOf ns k ∧ modeOf ns k < 65536 := lawMode_lo _
theorem row_at (ns : List Int) (k : Nat) : rowOfN ns k = lawRow (modeOf ns k) ∧ rowOk (rowOfN ns k) ∧ (∀ c ∈ (rowOfN ns k).cps.toList, rowCh c) ∧ dirOf ns k = ((modeOf ns k).fdiv 4096 == 4 && ((modeOf ns k).fdiv 64).fmod 2 == 1) := row_all (mode_lo ns k).1 (mode_lo ns k).2
/-- what a stack of files hands out, and how much -/
theorem Runs.exB {kids : Nat → List Nat} {dir : Nat → Bool} {n : Nat} (hk : ∀ i, (kids i).Pairwise (· < ·) ∧ ∀ k ∈ kids i, i ≤ k ∧ k < n) : ∀ (f j : Nat), n - j ≤ f → ∀ (ks : List Nat), ks.Pairwise (· < ·) → (∀ k ∈ ks, j ≤ k ∧ k < n) → ∀ i pl st ev, Runs kids dir st ev → ∃ D, Runs kids dir (⟨i, pl, ks⟩ :: st) (D ++ ev) ∧ D.length + 1 ≤ 2 ^ (n - j) := by
  intro f
  induction f with
  | zero =>
    intro j hf ks _ hks i pl st ev h
    cases ks with
    | nil => exact ⟨[], .pop h, Nat.pow_pos (by decide)⟩
    | cons k ks => have := hks k (.head _); omega
  | succ f ih =>
    intro j hf ks hp hks i pl st ev h
    cases ks with
    | nil => exact ⟨[], .pop h, Nat.pow_pos (by decide)⟩
    | cons k ks =>
      have hk1 := hks k (.head _)
      obtain ⟨p1, p2⟩ := List.pairwise_cons.mp hp
      obtain ⟨D, hD, hl⟩ := ih (k + 1) (by omega) ks p2 (fun q hq => ⟨p1 q hq, (hks q (.tail _ hq)).2⟩) i (pl + 1) st ev h
      have hpow : 2 ^ (n - (k + 1)) + 2 ^ (n - (k + 1)) ≤ 2 ^ (n - j) := by
        have e : 2 ^ (n - (k + 1)) + 2 ^ (n - (k + 1)) = 2 ^ (n - k) := by
          rw [show n - k = (n - (k + 1)) + 1 by omega, Nat.pow_succ]; omega
        rw [e]
        exact Nat.pow_le_pow_right (by decide) (by omega)
      cases hd : dir k with
      | false =>
        refine ⟨⟨i, pl + 1, k⟩ :: D, .file hd hD, ?_⟩
        have : 1 ≤ 2 ^ (n - (k + 1)) := Nat.pow_pos (by decide)
        simp only [List.length_cons]
        omega
      | true =>
        obtain ⟨D2, hD2, hl2⟩ := ih (k + 1) (by omega) (kids (k + 1)) (hk (k + 1)).1 (hk (k + 1)).2 (k + 1) 0 _ _ hD
        have e : (D2 ++ D) ++ ev = D2 ++ (D ++ ev) := List.append_assoc ..
        rw [← e] at hD2
        refine ⟨⟨i, pl + 1, k⟩ :: (D2 ++ D), .dir hd hD2, ?_⟩
        simp only [List.length_cons, List.length_append]
        omega
theorem kids_up {par : Nat → Nat} {n i : Nat} : (kidsOf par n i).Pairwise (· < ·) := by
  unfold kidsOf
  exact List.Pairwise.filter _ List.pairwise_lt_range
theorem runs_at {par : Nat → Nat} {dir : Nat → Bool} {n : Nat} (hn : n ≤ 8) (hpar : ∀ k, k < n → par k ≤ k) : ∃ ev, Runs (kidsOf par n) dir [⟨0, 0, kidsOf par n 0⟩] ev ∧ ev.length < 900 := by
  have hk : ∀ i, (kidsOf par n i).Pairwise (· < ·) ∧ ∀ k ∈ kidsOf par n i, i ≤ k ∧ k < n := fun i => ⟨kids_up, fun k h => by
    have := kids_mem h
    have := hpar k this.1
    omega⟩
  obtain ⟨D, hD, hl⟩ := Runs.exB (dir := dir) hk n 0 (Nat.le_refl _) (kidsOf par n 0) (hk 0).1 (hk 0).2 0 0 [] [] .nil
  rw [List.append_nil] at hD
  refine ⟨D, hD, ?_⟩
  have : 2 ^ (n - 0) ≤ 2 ^ 8 := Nat.pow_le_pow_right (by decide) (by omega)
  omega
theorem due_is {par : Nat → Nat} {dir : Nat → Bool} {n : Nat} {ev D : List Ev} (h : Runs (kidsOf par n) dir [⟨0, 0, kidsOf par n 0⟩] ev) (hD : DuR (kidsOf par n) dir 0 (kidsOf par n 0) D) : D = ev := by
  have := hD [] [] [] (.pop .nil)
  rw [List.append_nil, List.append_nil] at this
  exact this.det h
theorem nm_succ (i : Nat) : nmL i.succ = ⟨#[97 + i]⟩ := by
  unfold nmL
  rw [if_neg (Nat.succ_ne_zero _), show 96 + i.succ = 97 + i by omega]
/-- the names -/
theorem names_rel {n : Nat} {t : Tok} {ys : List Value} (h : Rel2 (fun i v => ∃ t, v = .str ⟨#[97 + i]⟩ t) (List.range n) ys) : Rel2 (fun i v => ∃ t, v = .str (nmL i) t) (List.range (n + 1)) ([.str (Str.ofString "top") t] ++ ys) := by
  rw [List.range_succ_eq_map]
  refine .cons ⟨t, rfl⟩ ?_
  generalize List.range n = l at h
  induction h with
  | nil => exact .nil
  | cons hv r ih =>
    obtain ⟨t', rfl⟩ := hv
    exact .cons ⟨t', by rw [nm_succ]⟩ ih
theorem rel_at {Y : Nat → Value → Prop} {n i : Nat} {vs : List Value} {v : Value} (h : Rel2 Y (List.range n) vs) (e : vs[i]? = some v) : i < n ∧ Y i v := by
  obtain ⟨j, hj, hv⟩ := h.get e
  rw [List.getElem?_eq_some_iff] at hj
  obtain ⟨hlt, hj⟩ := hj
  rw [List.length_range] at hlt
  rw [List.getElem_range] at hj
  subst hj
  exact ⟨hlt, hv⟩
theorem rel_ints {f : Nat → Int} : ∀ {l : List Nat} {vs : List Value}, Rel2 (fun k v => ∃ t, v = .int (f k) t) l vs → IntsAre vs (l.map f)
  | _, _, .nil => .nil
  | _, _, .cons ⟨t, e⟩ r => by
    subst e
    exact .cons _ t (rel_ints r)
theorem count_kids {par : Nat → Nat} {n : Nat} : ((List.range n).map fun k => ((par k : Nat) : Int)).count 0 = (kidsOf par n 0).length := by
  unfold kidsOf
  rw [← List.countP_eq_length_filter, List.count, List.countP_map]
  refine List.countP_congr fun k _ => ?_
  simp [Function.comp]
/-- the events as data -/
def evD (rowS : Nat → Str) (e : Ev) : Dat := .tuple [.str (nmL e.i), .int ((e.pl : Nat) : Int), .str ⟨#[97 + e.k]⟩, .str (Str.ofString "="), .str (rowS e.k)]
theorem ev_dat {rowS : Nat → Str} {news : List (Addr × Obj)} {ev : List Ev} {vals : List Value} (h : EvR rowS news ev vals) : DatAll news vals (ev.map (evD rowS)) := by
  unfold EvR at h
  induction h with
  | nil => exact .nil
  | cons hv r ih =>
    obtain ⟨a, t1, t2, t3, t4, t5, rfl, hm⟩ := hv
    exact .cons (.tuple hm (.cons (.str _ _) (.cons (.int _ _) (.cons (.str _ _) (.cons (.str _ _) (.cons (.str _ _) .nil)))))) ih
theorem txt_str {x : Str} (h : txtOk x) : PyData.strOk x = true := by
  unfold PyData.strOk
  rw [Array.all_eq_true_iff_forall_mem]
  intro c hc
  have := (h c (Array.mem_toList_iff.mpr hc)).2
  simp only [decide_eq_true_eq]
  omega
theorem Runs.bound {kids : Nat → List Nat} {dir : Nat → Bool} {n : Nat} (hk : ∀ i, ∀ k ∈ kids i, k < n) {st : List Fk} {ev : List Ev} (h : Runs kids dir st ev) : (∀ f ∈ st, f.i ≤ n ∧ ∀ k ∈ f.ks, k < n) → ∀ e ∈ ev, e.i ≤ n ∧ e.k < n := by
  induction h with
  | nil => intro _ e he; cases he
  | pop _ ih => intro hs; exact ih fun f hf => hs f (.tail _ hf)
  | file _ _ ih =>
    intro hs
    have h0 := hs _ (.head _)
    refine List.forall_mem_cons.mpr ⟨⟨h0.1, h0.2 _ (.head _)⟩, ih ?_⟩
    exact List.forall_mem_cons.mpr ⟨⟨h0.1, fun k hq => h0.2 k (.tail _ hq)⟩, fun f hf => hs f (.tail _ hf)⟩
  | dir _ _ ih =>
    intro hs
    have h0 := hs _ (.head _)
    refine List.forall_mem_cons.mpr ⟨⟨h0.1, h0.2 _ (.head _)⟩, ih ?_⟩
    exact List.forall_mem_cons.mpr ⟨⟨h0.2 _ (.head _), hk _⟩, List.forall_mem_cons.mpr ⟨⟨h0.1, fun k hq => h0.2 k (.tail _ hq)⟩, fun f hf => hs f (.tail _ hf)⟩⟩
theorem one_ok {k : Nat} (h : k < 8) : PyData.strOk ⟨#[97 + k]⟩ = true := by
  refine txt_str fun c hc => ?_
  have : c = 97 + k := by simpa using hc
  omega
theorem ev_ok {par : Nat → Nat} {dir : Nat → Bool} {rowS : Nat → Str} {n : Nat} {ev : List Ev} (hn : n ≤ 8) (hrow : ∀ k, k < n → rowOk (rowS k)) (h : Runs (kidsOf par n) dir [⟨0, 0, kidsOf par n 0⟩] ev) : ∀ d ∈ ev.map (evD rowS), kqdOk 8 d = true := by
  intro d hd
  obtain ⟨e, he, rfl⟩ := List.mem_map.mp hd
  have hb := h.bound (fun i k hk => (kids_mem hk).1) (fun f hf => by rw [List.mem_singleton.mp hf]; exact ⟨Nat.zero_le _, fun k hk => (kids_mem hk).1⟩) e he
  have h1 := txt_str (nm_t1 (show e.i ≤ 8 by omega))
  have h2 := one_ok (show e.k < 8 by omega)
  have h3 := txt_str (hrow e.k hb.2).2.2.2
  have h4 : PyData.strOk (Str.ofString "=") = true := by decide +kernel
  simp only [evD, kqdOk, List.all_cons, List.all_nil, h1, h2, h3, h4, Bool.and_self]
/-- the last row of both lists -/
def endD (c : Int) : Dat := .tuple [.str (nmL 0), .int c]
theorem end_ok (c : Int) : kqdOk 8 (endD c) = true := by
  have h1 := txt_str (nm_t1 (show 0 ≤ 8 by omega))
  simp only [endD, kqdOk, List.all_cons, List.all_nil, h1, Bool.and_self]
theorem all_ok {rowS : Nat → Str} {ev : List Ev} {c : Int} (h : ∀ d ∈ ev.map (evD rowS), kqdOk 8 d = true) : ∀ d ∈ ev.map (evD rowS) ++ [endD c], kqdOk 8 d = true := by
  intro d hd
  rcases List.mem_append.mp hd with hd | hd
  · exact h d hd
  · rw [List.mem_singleton.mp hd]; exact end_ok c
theorem all_dat {rowS : Nat → Str} {news news' : List (Addr × Obj)} {ev : List Ev} {vals : List Value} {z : Addr} {t t' : Tok} {c : Int} (h : EvR rowS news ev vals) (hs : ∀ p ∈ news, p ∈ news') (hz : (z, tupO [.str (nmL 0) t, .int c t']) ∈ news') : DatAll news' (vals ++ [.ref z]) (ev.map (evD rowS) ++ [endD c]) :=
  DatAll.append ((ev_dat h).mono hs) (.one (.tuple hz (.cons (.str _ _) (.cons (.int _ _) .nil))))
end
-- T4
local macro_rules | `(tactic| k_steps) => `(tactic| repeat' (first | (k_unfold; (try dsimp only)) | walk1 | (dsimp only; walk1) | fail "no step"))
theorem par_ex (ns : List Int) (i : Nat) {t : Tok} : ∃ t', Value.int ((num ns i).fmod (0 + (i : Int) + 1)) t = .int ((parOf ns i : Nat) : Int) t' := ⟨t, by rw [Int.zero_add, par_int]⟩
theorem mode_ex (ns : List Int) (i : Nat) {t : Tok} : ∃ t', Value.int (lawMode (((num ns i).fdiv (0 + (i : Int) + 1)).fmod 131072)) t = .int (modeOf ns i) t' := ⟨t, by rw [Int.zero_add]; rfl⟩
open Classical in
theorem eqK {prog : Program} {w : World} {A : Around} {E : Value → Shared → Prop} {s : Shared} {h₀ : Heap} {L a b : Addr} {news : List (Addr × Obj)} {xs ys : List Value} {ds : List Dat} {ka kb : Nat} {Q : Value → Shared → Prop} (N : News h₀ L s.heap news) (ma : (a, listOf xs.toArray ka) ∈ news) (mb : (b, listOf ys.toArray kb) ∈ news) (Da : DatAll news xs ds) (Db : DatAll news ys ds) (ha : ∀ d ∈ ds, kqdOk 8 d = true) (hu : A.units + 64 < cLine) (h : Q (.bool true) s) : wpAny (model prog w) A (compareOp .Eq (.ref a) (.ref b)) Q E s :=
  kqd_eq N ma rfl rfl Da (fun _ h => h) mb rfl rfl Db (fun _ h => h) ha ha hu (by rw [decide_eq_true rfl]; exact h)
theorem end_mem {z : Addr} {t t' : Tok} {k : Nat} {news : List (Addr × Obj)} (h : (z, tupO [.str (Str.ofString "top") t, .int (1 + (k : Int)) t']) ∈ news) : (z, tupO [.str (nmL 0) t, .int ((k : Int) + 1) t']) ∈ news := by
  rw [Int.add_comm] at h
  exact h
theorem countM {h₀ : Heap} {L a : Addr} {news : List (Addr × Obj)} {s : Shared} {A : Around} {E : Value → Shared → Prop} {vs : List Value} {n : Nat} {prog : Program} {w : World} {pl : Sem Bool} {Q : Value × List Value → Shared → Prop} (N : News h₀ L s.heap news) (hm : (a, listOf vs.toArray n) ∈ news) (h : Q (.builtin "list.count", [.ref a]) s) : wpAny (model prog w) A (getMethod (.ref a) (Str.ofString "count") pl) Q E s :=
  getMethod_list_of PySem.F.slot_list_count PySem.F.type_list_count (News.isList N hm) ⟨_, N.get hm, rfl⟩ h
theorem countK {prog : Program} {w : World} {A : Around} {E : Value → Shared → Prop} {s : Shared} {h₀ : Heap} {L a : Addr} {news : List (Addr × Obj)} {vs : List Value} {zs : List Int} {n c : Nat} {t : Tok} {Q : Value → Shared → Prop} (N : News h₀ L s.heap news) (hm : (a, listOf vs.toArray n) ∈ news) (hi : IntsAre vs zs) (hc : zs.count 0 = c) (h : ∀ t' k, Q (.int (c : Int) t') { s with toks := k }) : wpAny (model prog w) A (call (.builtin "list.count") [.ref a, .int 0 t]) Q E s := by
  subst hc
  exact count_list_ints (News.isList N hm) hi (h _ _)
section
variable {w : World} {mean : ExcName → Option Value} {mg mb : Str → Option Value} {dp un : Nat} {gd : Option (List Code)} {cn : Str} {cs : Scope} {a : Addr} {ccd : Value} {cl : List (Str × Addr)} {outer : List Env} {A₀ : Around} {base h₀ : Heap} {L : Addr} {m : Str → Option Value} {s : Shared} {Q E : Value → Shared → Prop} {rest : List (Addr × Obj)}
theorem du_c0 {nl pl ml : Addr} {nvs pvs mvs : List Value} {n1 n2 n3 n : Nat} {par : Nat → Nat} {rowS : Nat → Str} {dir : Nat → Bool} {mode : Nat → Int} {t : Tok} (B : Below A₀ base outer h₀) (F : Fr h₀ L s.heap m) (X : (hd.heap_1 w.params).In h₀) (T : Top q (looseW q loose) mean mg mb h₀) (hk : cs.kind = .function) (hdp : dp + 40 < recursionLimit) (hun : un + 400 < cLine) (N : News h₀ L s.heap rest) (hm1 : (nl, listOf nvs.toArray n1) ∈ rest) (hm2 : (pl, listOf pvs.toArray n2) ∈ rest) (hm3 : (ml, listOf mvs.toArray n3) ∈ rest)
    (hn : Rel2 (fun i v => ∃ t, v = .str (nmL i) t) (List.range (n + 1)) nvs) (hp : Rel2 (fun k v => ∃ t, v = .int ((par k : Nat) : Int) t) (List.range n) pvs) (hmo : Rel2 (fun k v => ∃ t, v = .int (mode k) t) (List.range n) mvs) (hn8 : n ≤ 8) (hpar : ∀ k, k < n → par k ≤ k) (hm0 : ∀ k, k < n → 0 ≤ mode k ∧ mode k < 65536) (hrow : ∀ k, k < n → rowS k = lawRow (mode k)) (hdir : ∀ k, k < n → dir k = ((mode k).fdiv 4096 == 4 && ((mode k).fdiv 64).fmod 2 == 1))
    (hret : ∀ dl D vals nn new h' tk', DuR (kidsOf par n) dir 0 (kidsOf par n 0) D → D.length + 1 ≤ 2 ^ n → EvR rowS new D vals → (∀ p ∈ (dl, listOf (List.toArray vals) nn) :: new, ∀ r ∈ rest, @LT.lt Nat _ r.1 p.1) → Fr h₀ L h' m → News h₀ L h' ((dl, listOf (List.toArray vals) nn) :: (new ++ rest)) → Q (.ref dl) { s with heap := h', toks := tk' }) :
    wpAny (model PySem.Challenge.pw_om0186_01 w) (ktrTop dp un gd cn cs L a ccd cl outer) (call (.ref 966) [.int 0 t, .ref nl, .ref pl, .ref ml]) Q E s :=
  du_c (w := w) hn hp hmo hn8 hpar hm0 hrow hdir 0 (v := 0) rfl B F X T hk (by omega) (by omega) N hm1 hm2 hm3 hret
end
theorem chrK {prog : Program} {w : World} {A : Around} {E : Value → Shared → Prop} {s : Shared} {i : Nat} {t : Tok} {Q : Value → Shared → Prop} (hi : i < 1000000) (h : ∀ t' k, Q (.str ⟨#[97 + i]⟩ t') { s with toks := k }) : wpAny (model prog w) A (call (.builtin "chr") [.int (97 + (0 + (i : Int))) t]) Q E s := by
  refine chr_of_range (by omega) (by omega) ?_
  rw [show (97 + (0 + (i : Int))).toNat = 97 + i by omega]
  exact h _ _
theorem addN {prog : Program} {w : World} {A : Around} {E : Value → Shared → Prop} {s : Shared} {h₀ : Heap} {L a b : Addr} {m : Str → Option Value} {news : List (Addr × Obj)} {vs ws : List Value} {xs ys : List Int} {n k : Nat} {Q : Value → Shared → Prop} (F : Fr h₀ L s.heap m) (N : News h₀ L s.heap news) (h1 : (a, listOf vs.toArray n) ∈ news) (h2 : (b, listOf ws.toArray k) ∈ news) (i1 : IntsAre vs xs) (i2 : IntsAre ws ys) (hz : xs.length + ys.length ≤ 1000000)
    (h : ∀ nv D h', IntsAre nv (xs ++ ys) → Fr h₀ L h' m → News h₀ L h' ((D, listOf (List.toArray nv) 0) :: news) → (∀ p ∈ news, p.1 < D) → Q (.ref D) { s with heap := h' }) : wpAny (model prog w) A (binaryOp .Add (.ref a) (.ref b)) Q E s :=
  addK F N h1 h2 (by rw [i1.length, i2.length]; exact hz) fun D h' F' N' l => h _ D h' (i1.append i2) F' N' l
theorem addM {prog : Program} {w : World} {A : Around} {E : Value → Shared → Prop} {s : Shared} {h₀ : Heap} {L a b : Addr} {m : Str → Option Value} {news : List (Addr × Obj)} {ys : List Value} {t : Tok} {n k j : Nat} {Q : Value → Shared → Prop} (F : Fr h₀ L s.heap m) (N : News h₀ L s.heap news) (h1 : (a, listOf [.str (Str.ofString "top") t].toArray n) ∈ news) (h2 : (b, listOf ys.toArray k) ∈ news) (hR : Rel2 (fun i v => ∃ t, v = .str ⟨#[97 + i]⟩ t) (List.range j) ys) (hz : j < 100000)
    (h : ∀ nvs D h', Rel2 (fun i v => ∃ t, v = .str (nmL i) t) (List.range (j + 1)) nvs → Fr h₀ L h' m → News h₀ L h' ((D, listOf (List.toArray nvs) 0) :: news) → (∀ p ∈ news, p.1 < D) → Q (.ref D) { s with heap := h' }) : wpAny (model prog w) A (binaryOp .Add (.ref a) (.ref b)) Q E s :=
  addK F N h1 h2 (by rw [hR.length, List.length_range]; simp only [List.length_cons, List.length_nil]; omega) fun D h' F' N' l => h _ D h' (names_rel hR) F' N' l
theorem kw31 : True := by
  k_with_none
  k_with "getMethod ref" => (k_here; (with_reducible show wpAny _ _ (getMethod (Value.ref _) (PySem.Str.ofString "count") _) _ _ _); refine Stop.mk ?_)
  k_with "own mem" => (refine mem_of ?_; with_reducible assumption)
  k_with "own all" => assumption
  k_with "exec If" => refine wpAny_If ?_
  k_with "truthy str" => refine P.truthy_str (by omega) ?_
  k_with "ite" => first | refine ite_pos (by with_reducible assumption) ?_ | refine ite_isFalse (by with_reducible assumption) ?_ | refine ite_neg (by with_reducible assumption) ?_
  k_with "subscriptTail Constant BinOp str int" => (k_here; k_dflt (refine' itemK ?n9q ?a9q ?b9q ?z9q ?s9q ?t9q ?_; (case n9q => first | assumption | decide +kernel); (case a9q => assumption); (case b9q => assumption); (case z9q => decide); (case s9q => with_unfolding_all rfl); (case t9q => (intro _; with_unfolding_all rfl)); k_whole; intro t9k k9k hl9k))
  k_with "subscriptTail Name BinOp str int" => (k_here; k_dflt (refine' itemK ?n9q ?a9q ?b9q ?z9q ?s9q ?t9q ?_; (case n9q => first | assumption | decide +kernel); (case a9q => assumption); (case b9q => assumption); (case z9q => decide); (case s9q => with_unfolding_all rfl); (case t9q => (intro _; with_unfolding_all rfl)); k_whole; intro t9k k9k hl9k))
  k_with "binaryOp FloorDiv int int" => (refine floordiv_int (by first | assumption | decide) ?_ (Or.inl (PyProof.noPylong_small (by first | assumption | decide))))
  k_with "binaryOp Mod int int" => (refine mod_int' (by first | assumption | decide) ?_)
  k_with "binaryOp Mult int int" => (refine PyProof.Rows.mul_int ?_ (PySem.IntMulOk.of_right (by decide)))
  k_with "binaryOp Add int int" => (refine PyProof.Rows.add_int ?_)
  k_with "call builtin:len" => (k_here; (try dsimp only [List.nil_append, List.cons_append, List.append_nil]); (with_reducible show wpAny _ _ (call (Value.builtin "len") [Value.ref _]) _ _ _); k_dflt (refine' lenK ?N9q ?m9q ?e9q ?k9q ?_; (case N9q => k_asm); (case m9q => k_mem); (case e9q => with_reducible assumption); (case k9q => with_reducible assumption); k_whole; intro t9k k9k))
  k_with "subscriptTail Name Name ref int" => (k_here; k_dflt (refine' listK ?N9q ?m9q ?v9q ?a9q ?b9q ?s9q ?g9q ?_; (case N9q => k_asm); (case m9q => k_mem); (case v9q => with_reducible assumption); (case a9q => with_reducible assumption); (case b9q => with_reducible assumption); (case s9q => with_unfolding_all rfl); (case g9q => (intro _; with_unfolding_all rfl)); k_whole))
  k_with "subscriptTail Name Subscript ref int" => (k_here; k_dflt (refine' listK ?N9q ?m9q ?v9q ?a9q ?b9q ?s9q ?g9q ?_; (case N9q => k_asm); (case m9q => k_mem); (case v9q => with_reducible assumption); (case a9q => with_reducible assumption); (case b9q => with_reducible assumption); (case s9q => with_unfolding_all rfl); (case g9q => (intro _; with_unfolding_all rfl)); k_whole))
  k_with "subscriptTail Name BinOp ref int" => (k_here; k_dflt (refine' listK ?N9q ?m9q ?v9q ?a9q ?b9q ?s9q ?g9q ?_; (case N9q => k_asm); (case m9q => k_mem); (case v9q => with_reducible assumption); (case a9q => with_reducible assumption); (case b9q => with_reducible assumption); (case s9q => with_unfolding_all rfl); (case g9q => (intro _; with_unfolding_all rfl)); k_whole))
  k_with "eval ListComp" => (k_here; k_dflt (refine LCg.ListComp_U (F₀ := by k_asm) (by with_unfolding_all rfl) (by decide) (by rfl) (by decide) (by rfl) ?_))
  k_with "CompSrc" => refine Stop.mk ?_
  k_with "execs nil" => ((with_reducible refine wpAny_execs_nil ?_); try dsimp only)
  k_with "binaryOp Add ref ref" => refine Stop.mk ?_
  k_with "compareOp Eq ref ref" => refine Stop.mk ?_
  k_with "call builtin:list.count" => refine Stop.mk ?_
  k_with "call ref" => (k_here; (try dsimp only [List.nil_append, List.cons_append, List.append_nil]); (with_reducible show wpAny _ _ (call (Value.ref 940) [Value.int _ _]) _ _ _); refine Stop.mk ?_)
  k_with "call ref" => (k_here; (try dsimp only [List.nil_append, List.cons_append, List.append_nil]); (with_reducible show wpAny _ _ (call (Value.ref 778) [Value.int _ _]) _ _ _); refine Stop.mk ?_)
  k_with "call ref" => (k_here; (try dsimp only [List.nil_append, List.cons_append, List.append_nil]); (with_reducible show wpAny _ _ (call (Value.ref 947) [_, _, _]) _ _ _); refine Stop.mk ?_)
  k_with "call ref" => (k_here; (try dsimp only [List.nil_append, List.cons_append, List.append_nil]); (with_reducible show wpAny _ _ (call (Value.ref 959) [_]) _ _ _); refine Stop.mk ?_)
  k_with "call ref" => (k_here; (try dsimp only [List.nil_append, List.cons_append, List.append_nil]); (with_reducible show wpAny _ _ (call (Value.ref 966) [_, _, _, _]) _ _ _); refine Stop.mk ?_)
  k_with "call builtin:chr" => refine Stop.mk ?_
  k_with "execs cons" => ((with_reducible refine wpAny_execs_cons ?_); (try dsimp only); (try k_fold))
  k_with "own ne" => (refine neN ?_; (try dsimp only); first | with_reducible assumption | (refine Ne.symm ?_; with_reducible assumption) | (refine Nat.ne_of_lt ?_; first | with_reducible assumption | with_reducible exact And.left (by with_reducible assumption) | with_reducible exact And.left (And.right (by with_reducible assumption)) | with_reducible exact And.left (And.right (And.right (by with_reducible assumption))) | with_reducible exact And.left (And.right (And.right (And.right (by with_reducible assumption)))) | with_reducible exact And.left (And.right (And.right (And.right (And.right (by with_reducible assumption))))) | with_reducible exact And.left (And.right (And.right (And.right (And.right (And.right (by with_reducible assumption)))))) | with_reducible exact And.left (And.right (And.right (And.right (And.right (And.right (And.right (by with_reducible assumption))))))) | with_reducible exact And.left (And.right (And.right (And.right (And.right (And.right (And.right (And.right (by with_reducible assumption)))))))) | with_reducible exact And.left (And.right (And.right (And.right (And.right (And.right (And.right (And.right (And.right (by with_reducible assumption))))))))) | with_reducible exact And.right (by with_reducible assumption) | with_reducible exact And.right (And.right (by with_reducible assumption)) | with_reducible exact And.right (And.right (And.right (by with_reducible assumption))) | with_reducible exact And.right (And.right (And.right (And.right (by with_reducible assumption)))) | with_reducible exact And.right (And.right (And.right (And.right (And.right (by with_reducible assumption))))) | with_reducible exact And.right (And.right (And.right (And.right (And.right (And.right (by with_reducible assumption)))))) | with_reducible exact And.right (And.right (And.right (And.right (And.right (And.right (And.right (by with_reducible assumption))))))) | with_reducible exact And.right (And.right (And.right (And.right (And.right (And.right (And.right (And.right (by with_reducible assumption))))))))) | (refine Nat.ne_of_gt ?_; first | with_reducible assumption | with_reducible exact And.left (by with_reducible assumption) | with_reducible exact And.left (And.right (by with_reducible assumption)) | with_reducible exact And.left (And.right (And.right (by with_reducible assumption))) | with_reducible exact And.left (And.right (And.right (And.right (by with_reducible assumption)))) | with_reducible exact And.left (And.right (And.right (And.right (And.right (by with_reducible assumption))))) | with_reducible exact And.left (And.right (And.right (And.right (And.right (And.right (by with_reducible assumption)))))) | with_reducible exact And.left (And.right (And.right (And.right (And.right (And.right (And.right (by with_reducible assumption))))))) | with_reducible exact And.left (And.right (And.right (And.right (And.right (And.right (And.right (And.right (by with_reducible assumption)))))))) | with_reducible exact And.left (And.right (And.right (And.right (And.right (And.right (And.right (And.right (And.right (by with_reducible assumption))))))))) | with_reducible exact And.right (by with_reducible assumption) | with_reducible exact And.right (And.right (by with_reducible assumption)) | with_reducible exact And.right (And.right (And.right (by with_reducible assumption))) | with_reducible exact And.right (And.right (And.right (And.right (by with_reducible assumption)))) | with_reducible exact And.right (And.right (And.right (And.right (And.right (by with_reducible assumption))))) | with_reducible exact And.right (And.right (And.right (And.right (And.right (And.right (by with_reducible assumption)))))) | with_reducible exact And.right (And.right (And.right (And.right (And.right (And.right (And.right (by with_reducible assumption))))))) | with_reducible exact And.right (And.right (And.right (And.right (And.right (And.right (And.right (And.right (by with_reducible assumption))))))))))
  trivial
theorem names_ok : namesOk q (looseW q loose) (namesW q loose) = true := by
  rw [PySem.W.Fast.te17448422675489707002, PySem.W.Fast.te821141287760084731]
  kernel_rfl
theorem imps_ok : importsNone q = true := by
  rw [PySem.W.Fast.te2458874890965802552]
  kernel_rfl
local macro_rules | `(tactic| k_qdec) => `(tactic| first | exact names_ok | exact imps_ok)
theorem t : PySem.Challenge.rw_om0186_01.Holds := by
  refine hd ⟨hl, ?_⟩
  w_on
  k_go0
  all_goals try k_fold
  (try (show wpAny _ _ _ _ _ _; k_fold))
  k_steps
  refine Stop.out ?_
  rename List Int => ns
  rename IntsAre _ (List.take 4 _) => hI4
  obtain ⟨n, hn⟩ : ∃ n, (nums ns).length = n := ⟨_, rfl⟩
  have hb9 := nums_len ns
  rw [hn] at hb9
  have hn9 : n < 1000000 := by omega
  have hb : Stop (4 ≤ n ∧ n ≤ 8) := Stop.out hb9
  clear hb9
  refine addN (xs := [0, 0, 2, 70]) (by k_asm) (by k_asm) (by k_mem) (by k_mem) (.cons _ _ (.cons _ _ (.cons _ _ (.cons _ _ .nil)))) hI4 (by rw [List.length_take]; simp only [List.length_cons, List.length_nil]; omega) ?_
  intro nv D1 h1 hI F1 N1 l1
  replace hI : IntsAre nv (nums ns) := hI
  have hln : nv.length = n := by rw [hI.length, hn]
  k_lt l1
  (try (show wpAny _ _ _ _ _ _; k_fold))
  k_steps
  refine Stop.out ?_
  k_dflt (refine' LCg.CompSrc.range (n := n) rfl ?F1 ?N1 ?R1 ?s1 ?z1 ?y1 ?_; (case F1 => k_asm); (case N1 => k_asm); (case R1 => assumption); (case s1 => exact small_one (by omega) (by omega) (by omega) (by omega)); (case z1 => exact (rangeSize_nat _ _).trans (by omega)); (case y1 => (rw [sizeLine_eq]; omega)))
  intro g9
  refine cmpU (fun i v => ∃ t, v = .str ⟨#[97 + i]⟩ t) ?turn1 ?fin1
  case turn1 =>
    intro i v I oI C oC D m₂ ys h tk E' hi hv hC hx F9 N9 off ne
    obtain ⟨t, rfl⟩ := hv
    (try (show wpAny _ _ _ _ _ _; k_fold))
    k_steps
    refine Stop.out ?_
    refine chrK (by omega) fun t' k' => ?_
    (try (show wpAny _ _ _ _ _ _; k_fold))
    k_steps
    exact ⟨_, _, _, rfl, by k_asm, by k_asm, by assumption, trivial, rfl, _, rfl⟩
  intro ys hR D2 h2 tk2 F2 N2 off2
  (try (show wpAny _ _ _ _ _ _; k_fold))
  k_steps
  refine Stop.out ?_
  refine addM (by k_asm) (by k_asm) (by k_mem) (by k_mem) hR (by have := Stop.mk hb; omega) ?_
  intro nvs D3 h3 hnm F3 N3 l3
  k_lt l3
  (try (show wpAny _ _ _ _ _ _; k_fold))
  k_steps
  refine Stop.out ?_
  k_dflt (refine' LCg.CompSrc.range (n := n) rfl ?F2 ?N2 ?R2 ?s2 ?z2 ?y2 ?_; (case F2 => k_asm); (case N2 => k_asm); (case R2 => assumption); (case s2 => exact small_one (by omega) (by omega) (by omega) (by omega)); (case z2 => exact (rangeSize_nat _ _).trans (by omega)); (case y2 => (rw [sizeLine_eq]; omega)))
  intro g9
  refine cmpU (fun i v => ∃ t, v = .int ((parOf ns i : Nat) : Int) t) ?turn2 ?fin2
  case turn2 =>
    intro i v I oI C oC D m₂ ys h tk E' hi hv hC hx F9 N9 off ne
    obtain ⟨t, rfl⟩ := hv
    have e0 : (0 : Int) + (i : Int) = (i : Int) := by omega
    obtain ⟨t9, hv9⟩ : ∃ t9, nv[((0 : Int) + (i : Int)).toNat]? = some (.int (num ns i) t9) := by
      obtain ⟨v9, hv9⟩ : ∃ v9, nv[i]? = some v9 := ⟨_, List.getElem?_eq_getElem (by omega)⟩
      obtain ⟨t9, rfl⟩ := hI.int_at i v9 hv9
      exact ⟨t9, by rw [e0, Int.toNat_natCast]; exact hv9⟩
    have z0 : 0 ≤ (0 : Int) + (i : Int) := by omega
    have z1 : (0 : Int) + (i : Int) < 1000000 := by omega
    have z2 : (0 : Int) + (i : Int) + 1 ≠ 0 := by omega
    have z3 : ((0 : Int) + (i : Int) + 1).natAbs < 1073741824 := by omega
    (try (show wpAny _ _ _ _ _ _; k_fold))
    k_steps
    exact ⟨_, _, _, rfl, by k_asm, by k_asm, by assumption, trivial, rfl, par_ex ns i⟩
  intro pvs hp D4 h4 tk4 F4 N4 off4
  (try (show wpAny _ _ _ _ _ _; k_fold))
  k_steps
  refine Stop.out ?_
  k_dflt (refine' LCg.CompSrc.range (n := n) rfl ?F3 ?N3 ?R3 ?s3 ?z3 ?y3 ?_; (case F3 => k_asm); (case N3 => k_asm); (case R3 => assumption); (case s3 => exact small_one (by omega) (by omega) (by omega) (by omega)); (case z3 => exact (rangeSize_nat _ _).trans (by omega)); (case y3 => (rw [sizeLine_eq]; omega)))
  intro g9
  refine cmpU (fun i v => ∃ t, v = .int (modeOf ns i) t) ?turn3 ?fin3
  case turn3 =>
    intro i v I oI C oC D m₂ ys h tk E' hi hv hC hx F9 N9 off ne
    obtain ⟨t, rfl⟩ := hv
    have e0 : (0 : Int) + (i : Int) = (i : Int) := by omega
    obtain ⟨t9, hv9⟩ : ∃ t9, nv[((0 : Int) + (i : Int)).toNat]? = some (.int (num ns i) t9) := by
      obtain ⟨v9, hv9⟩ : ∃ v9, nv[i]? = some v9 := ⟨_, List.getElem?_eq_getElem (by omega)⟩
      obtain ⟨t9, rfl⟩ := hI.int_at i v9 hv9
      exact ⟨t9, by rw [e0, Int.toNat_natCast]; exact hv9⟩
    have z0 : 0 ≤ (0 : Int) + (i : Int) := by omega
    have z1 : (0 : Int) + (i : Int) < 1000000 := by omega
    have z2 : (0 : Int) + (i : Int) + 1 ≠ 0 := by omega
    have z3 : ((0 : Int) + (i : Int) + 1).natAbs < 1073741824 := by omega
    (try (show wpAny _ _ _ _ _ _; k_fold))
    k_steps
    refine Stop.out ?_
    refine lm_c (by k_asm) (by k_asm) (by k_asm) (by k_asm) rfl (by ktr_room) (by ktr_units) (by k_asm) ?_
    intro t2 h2 tk2 F8 N8
    (try (show wpAny _ _ _ _ _ _; k_fold))
    k_steps
    exact ⟨_, _, _, rfl, by k_asm, by k_asm, by assumption, trivial, rfl, mode_ex ns i⟩
  intro mvs hm D5 h5 tk5 F5 N5 off5
  (try (show wpAny _ _ _ _ _ _; k_fold))
  k_steps
  have hb9 : 4 ≤ n ∧ n ≤ 8 := Stop.mk hb
  have hml : mvs.length = n := by rw [hm.length, List.length_range]
  refine Stop.out ?_
  k_dflt (refine' LCg.CompSrc.ledger rfl ?F5 ?N5 ?m5 ?z5 ?_; (case F5 => k_asm); (case N5 => k_asm); (case m5 => k_mem); (case z5 => (rw [List.size_toArray, sizeLine_eq]; omega)))
  intro g9
  rw [show mvs.toArray.size = n by rw [List.size_toArray, hml]]
  refine cmpU (fun i v => ∃ t, v = .str (rowOfN ns i) t) ?turn4 ?fin4
  case turn4 =>
    intro i v I oI C oC D m₂ ys h tk E' hi hv hC hx F9 N9 off ne
    rw [List.getElem?_toArray] at hv
    obtain ⟨hi9, t, rfl⟩ := rel_at hm hv
    (try (show wpAny _ _ _ _ _ _; k_fold))
    k_steps
    refine Stop.out ?_
    refine fm_c (by k_asm) (by k_asm) (by k_asm) (by k_asm) rfl (by ktr_room) (by ktr_units) (by k_asm) (mode_lo ns i).1 (mode_lo ns i).2 ?_
    intro t2 h2 tk2 F8 N8
    (try (show wpAny _ _ _ _ _ _; k_fold))
    k_steps
    exact ⟨_, _, _, rfl, by k_asm, by k_asm, by assumption, .inr ⟨_, (by k_mem), rfl, _, rfl⟩, rfl, _, rfl⟩
  intro rvs hr D6 h6 tk6 F6 N6 off6
  (try (show wpAny _ _ _ _ _ _; k_fold))
  k_steps
  refine Stop.out ?_
  refine lt_c (n := n) (par := parOf ns) (rowS := rowOfN ns) (by k_asm) (by k_asm) (by k_asm) (by k_asm) rfl (by ktr_room) (by ktr_units) (by k_asm) (by k_mem) (by k_mem) (by k_mem) hnm hp hr hb9.2 (fun k _ => par_le ns k) (fun k _ => (row_at ns k).2.1) ?_
  intro tb td hl9 kh items nn rest1 h7 tk7 hs1 hT hit F7 N7
  have m1 : List.Mem (D3, listOf nvs.toArray 0) rest1 := hs1 _ (by k_mem)
  have m2 : List.Mem (D4, LCg.lst pvs) rest1 := hs1 _ (by k_mem)
  have m3 : List.Mem (D5, LCg.lst mvs) rest1 := hs1 _ (by k_mem)
  (try (show wpAny _ _ _ _ _ _; k_fold))
  k_steps
  refine Stop.out ?_
  obtain ⟨ev, hR, hev⟩ := runs_at (par := parOf ns) (dir := dirOf ns) hb9.2 (fun k _ => par_le ns k)
  (rename News _ _ _ _ => lN)
  refine td_c (n := n) (par := parOf ns) (rowS := rowOfN ns) (dir := dirOf ns) (by k_asm) (by k_asm) (by k_asm) (by k_asm) rfl (by ktr_room) (by ktr_units) lN (.head _) (.tail _ (.head _)) (.tail _ (.tail _ (.head _))) (hT.mono fun p v ⟨a, t, u, e, hm⟩ => ⟨a, t, u, e, .tail _ (.tail _ (.tail _ hm))⟩) hit hb9.2 (fun k _ => par_le ns k) (fun k _ => (row_at ns k).2.1) (fun k _ => (row_at ns k).2.2.1) (fun k _ => rfl) hR hev ?_
  intro ta za vals n8 t8 t8' rest2 h8 tk8 hs2 hE hz F8 N8
  replace m1 := hs2 _ (.tail _ (.tail _ (.tail _ m1)))
  replace m2 := hs2 _ (.tail _ (.tail _ (.tail _ m2)))
  replace m3 := hs2 _ (.tail _ (.tail _ (.tail _ m3)))
  clear lN
  (try (show wpAny _ _ _ _ _ _; k_fold))
  k_steps
  refine Stop.out ?_
  (rename News _ _ _ _ => lN)
  refine du_c0 (n := n) (par := parOf ns) (mode := modeOf ns) (dir := dirOf ns) (rowS := rowOfN ns) (by k_asm) (by k_asm) (by k_asm) (by k_asm) rfl (by ktr_room) (by ktr_units) lN (.tail _ m1) (.tail _ m2) (.tail _ m3) hnm hp hm hb9.2 (fun k _ => par_le ns k) (fun k _ => mode_lo ns k) (fun k _ => (row_at ns k).1) (fun k _ => (row_at ns k).2.2.2) ?_
  intro dl D vals2 n9 new h9 tk9 hDu hD2 hE2 hlt F9 N9
  obtain rfl := due_is hR hDu
  obtain ⟨rest3, e3⟩ : ∃ r, r = new ++ (ta, listOf (vals ++ [Value.ref za]).toArray n8) :: rest2 := ⟨_, rfl⟩
  rw [← e3] at N9
  have hE3 : Stop (EvR (rowOfN ns) new D vals2) := Stop.out hE2
  have m4 : List.Mem (ta, listOf (vals ++ [Value.ref za]).toArray n8) rest3 := by rw [e3]; exact List.mem_append_right _ (.head _)
  have m5 : List.Mem (D4, LCg.lst pvs) rest3 := by rw [e3]; exact List.mem_append_right _ (.tail _ m2)
  have hs3 : Stop (∀ p ∈ new, p ∈ rest3) := Stop.out (by intro p hp; rw [e3]; exact List.mem_append_left _ hp)
  have hs4 : Stop (∀ p ∈ rest2, p ∈ rest3) := Stop.out (by intro p hp; rw [e3]; exact List.mem_append_right _ (.tail _ hp))
  clear hlt hD2 hE2 hDu lN m1 m2 m3
  clear e3
  (try (show wpAny _ _ _ _ _ _; k_fold))
  k_steps
  refine Stop.out ?_
  (rename News _ _ _ _ => lN)
  refine countM lN (.tail _ m5) ?_
  (try (show wpAny _ _ _ _ _ _; k_fold))
  k_steps
  refine Stop.out ?_
  refine countK (by k_asm) (.tail _ m5) (rel_ints hp) count_kids ?_
  intro t10 k10
  (try (show wpAny _ _ _ _ _ _; k_fold))
  k_steps
  refine Stop.out ?_
  (rename News _ _ _ _ => lN)
  refine addK (by k_asm) lN (.tail _ (.tail _ (.head _))) (.head _) (by have h1 := Stop.mk hE3; unfold EvR at h1; have h2 := h1.length; simp only [List.length_cons, List.length_nil]; omega) ?_
  intro D11 h11 F11 N11 l11
  clear lN
  (try (show wpAny _ _ _ _ _ _; k_fold))
  k_steps
  refine Stop.out ?_
  (rename News _ _ _ _ => lN)
  refine eqK (ds := D.map (evD (rowOfN ns)) ++ [endD ((kidsOf (parOf ns) n 0).length + 1 : Int)]) lN (.tail _ (.tail _ (.tail _ (.tail _ m4)))) (.head _) (all_dat hE (fun p hp => .tail _ (.tail _ (.tail _ (.tail _ (Stop.mk hs4 p hp))))) (.tail _ (.tail _ (.tail _ (.tail _ (Stop.mk hs4 _ hz)))))) (all_dat (Stop.mk hE3) (fun p hp => .tail _ (.tail _ (.tail _ (.tail _ (Stop.mk hs3 p hp))))) (end_mem (.tail _ (.tail _ (.head _))))) (all_ok (ev_ok hb9.2 (fun k _ => (row_at ns k).2.1) hR)) (by ktr_units) ?_
  (try (show wpAny _ _ _ _ _ _; k_fold))
  k_steps
  all_goals kc_close
end Mine
set_option maxRecDepth 100000 in
theorem PySem.Challenge.cw_om0186_01_holds : PySem.Challenge.rw_om0186_01.Holds := by
  exact Mine.t
