import PyProof.Rows.All
import Wide.All
import OpenK.AllK
import Wide.FinOn
import PySem.Challenge.RW_je0001_01
open PySem PySem.W PyProof.Rows
set_option Elab.async false
set_option maxRecDepth 100000
set_option maxHeartbeats 8000000
set_option linter.unusedVariables false
namespace Mine
/-- the statements of the top that the walk reads: all but the `__name__` rows -/
noncomputable def bodyP : { b : List Stmt // (PySem.W.view PySem.Challenge.pw_je0001_01 [1, 2, 3, 4, 5, 7, 9, 11, 12, 14]).main.body = b } :=
  ⟨_, by
    unfold PySem.W.view PySem.Challenge.pw_je0001_01
    dsimp only [List.filterMap_cons, List.getElem?_cons_succ, List.getElem?_cons_zero, List.filterMap_nil]⟩
noncomputable def vw : Program := { PySem.Challenge.pw_je0001_01 with main := { PySem.Challenge.pw_je0001_01.main with body := bodyP.1 } }
/-- the top's run over a tree of objects -/
noncomputable def topT (tb : String → Option Builtin) (p : Program) (w : World) (n₀ : Nat) (ann : Option Value) : Nat → SharedT → Thread → Option SharedT
  | 0, _, _ => none
  | n + 1, s, t => match through t with
    | true => some s
    | false => match stepOk n₀ ann t with
      | false => none
      | true => match stepT (denote tb) p w s t with
        | some (s', t') => topT tb p w n₀ ann n s' t'
        | none => none
theorem topT_run {tb : String → Option Builtin} {p : Program} {w : World} {n₀ : Nat} {ann : Option Value} : ∀ (n : Nat) (s r : SharedT) (t : Thread), topT tb p w n₀ ann n s t = some r → topRun tb p w n₀ ann n s.abs t = some r.abs := by
  intro n
  induction n with
  | zero => intro s r t h; cases h
  | succ n ih =>
    intro s r t h
    unfold topT at h
    unfold topRun
    cases e1 : through t with
    | true => rw [e1] at h; cases h; rfl
    | false =>
      rw [e1] at h
      cases e2 : stepOk n₀ ann t with
      | false => rw [e2] at h; cases h
      | true =>
        rw [e2] at h
        cases e3 : stepT (denote tb) p w s t with
        | none => rw [e3] at h; cases h
        | some q =>
          obtain ⟨s2, t2⟩ := q
          rw [e3] at h
          have e4 := stepT_spec e3
          dsimp only
          rw [e4]
          exact ih s2 r t2 h
/-- the same run by the library's quick twins -/
noncomputable def topQ (p : Program) (w : World) (n₀ : Nat) (ann : Option Value) : Nat → SharedT → Thread → Option SharedT
  | 0, _, _ => none
  | n + 1, s, t => match through t with
    | true => some s
    | false => match Fast.tw6613529449190102663 n₀ ann t with
      | false => none
      | true => match Fast.tw10156331382660048174 (Fast.tw11892475500146522536 Fast.tw14364793385576792824) p w s t with
        | some (s', t') => topQ p w n₀ ann n s' t'
        | none => none
theorem topQ_eq {p : Program} {w : World} {n₀ : Nat} {ann : Option Value} : ∀ (n : Nat) (s : SharedT) (t : Thread), topT treeTable p w n₀ ann n s t = topQ p w n₀ ann n s t := by
  intro n
  induction n with
  | zero => intro s t; rfl
  | succ n ih =>
    intro s t
    unfold topT topQ
    rw [← Fast.te6613529449190102663, ← Fast.te10156331382660048174, ← Fast.te11892475500146522536, ← Fast.te14364793385576792824]
    cases through t with
    | true => rfl
    | false =>
      cases stepOk n₀ ann t with
      | false => rfl
      | true =>
        cases stepT (denote treeTable) p w s t with
        | none => rfl
        | some r => exact ih r.1 r.2
/-- the tree of the boot's objects -/
noncomputable def bootT (P : Params) : BT := ((boot_heap P).objs.toList.foldl (fun x o => (x.1.ins x.2 o, x.2 + 1)) (BT.nil, 0)).1
/-- the head's look, from the state behind the opening on -/
theorem left_run {p q : Program} {loose : List Str} {Xt : Shared → Bool} {α : Type} {Yf : Shared → α} {Ya : World → α} {N : Nat} {g0 : Bool} {H₀ : Params → Heap} {gs₀ : Array GenState} {d₀ : Drawn} {k₀ m₀ : Nat} {ann : Option Value} {T₀ : Params → BT} {life : Life}
    (open_ : ∀ w : World, (fencedOpening treeTable p w N).map (fun s => (s.heap, s.gens, s.drawn, s.toks)) = some (H₀ w.params, gs₀, d₀, k₀))
    (tree : ∀ P : Params, H₀ P = absHeap (T₀ P) m₀ life)
    (size : ∀ P : Params, ((H₀ P).isNs mainGlobals && gs₀.size == 0, (H₀ P).objs.size, (H₀ P).nsMap mainGlobals "__annotations__") = (true, m₀, ann))
    (run : ∀ w : World, (fun os => (topQ p w m₀ ann N ⟨T₀ w.params, m₀, life, gs₀, d₀, k₀, os⟩ (topStub p)).map (fun s =>
        ((staticsOk (Fast.tw5923862056798008813 p.main.body) (H₀ w.params) s.abs.heap && namesBound p s.abs.heap && gensDone s.abs && laidKept (H₀ w.params) s.abs.heap), Fast.tw4187177175401517315 q loose (Fast.tw5923862056798008813 p.main.body) Xt g0 s.abs, Yf s.abs))) = fun _ => some (true, openGood q loose, Ya w)) :
    LeftO p q loose Xt Yf Ya N g0 := by
  intro w
  have h := open_ w
  cases e : fencedOpening treeTable p w N with
  | none => rw [e] at h; cases h
  | some s =>
    obtain ⟨a, b, c, d, os⟩ := s
    rw [e] at h
    injection h with h
    injection h with h1 h
    injection h with h2 h
    injection h with h3 h4
    dsimp only at h1 h2 h3 h4
    subst h1 h2 h3 h4
    unfold openEnds
    rw [e]
    have z := size w.params
    injection z with z1 z
    injection z with z2 z3
    obtain ⟨r, hr, hv⟩ := Option.map_eq_some_iff.mp (congrFun (run w) os)
    rw [← Fast.te4187177175401517315, ← Fast.te5923862056798008813] at hv
    injection hv with v1 v
    rw [← topQ_eq] at hr
    have t := topT_run _ _ _ _ hr
    have t' : topRun treeTable p w m₀ ann N ⟨H₀ w.params, b, c, d, os⟩ (topStub p) = some r.abs := by
      rw [tree w.params]
      exact t
    show (topFrom treeTable p w N ⟨H₀ w.params, b, c, d, os⟩).map _ = _
    unfold topFrom
    dsimp only
    rw [z1, z2, z3, t']
    show (match staticsOk (importedModules p.main.body) (H₀ w.params) r.abs.heap && namesBound p r.abs.heap && gensDone r.abs && laidKept (H₀ w.params) r.abs.heap with | true => some r.abs | false => none).map _ = _
    rw [v1]
    exact congrArg some v
theorem boot_tree : ∀ P : Params, boot_heap P = absHeap (bootT P) 11 (boot_heap P).life := fun P => by kernel_rfl
theorem boot_size : ∀ P : Params, ((boot_heap P).isNs mainGlobals && (Array.mk [] : Array GenState).size == 0, (boot_heap P).objs.size, (boot_heap P).nsMap mainGlobals "__annotations__") = (true, 11, some (.ref 6)) := fun P => by kernel_rfl
theorem wSaid : PySem.Challenge.rw_je0001_01.wellSaid = true := by
  rw [Fast.te9446332074065402090]
  kernel_rfl
section
local macro_rules | `(tactic| o_law) => `(tactic| refine holds_law wSaid (fun said => ?_))
local macro_rules | `(tactic| o_head $H) => `(tactic| (refine holds_open (q := Mine.vw) (loose := [Str.ofString "QuicCongestionControl", Str.ofString "QuicPacketType", Str.ofString "Epoch"]) (Xt := fun s => xlAt Mine.vw [] s && recOk (RowW.records PySem.Challenge.rw_je0001_01.row.toRowW) s) (XP := XL Mine.vw []) (Yf := Hook.obs $H) (Ya := Hook.val $H) (YP := Hook.says $H) (N := 3774) ?hl (Hook.of $H) (Hook.keeps $H) (fun s e => xl_of s (Bool.and_eq_true_iff.mp e).1) XL.keeps (by rfl) (by rfl) (by rfl) (fun s e => recFacts_of (Bool.and_eq_true_iff.mp e).2) (by rfl) (by first | assumption | decide +kernel) (by decide +kernel) ⟨rfl, rfl, rfl, rfl, rfl, by decide +kernel⟩ ?hw ?hc; (case hl => exact left_run (boot_open rfl (by decide) (fun _ => rfl)) boot_tree boot_size (fun w => by kernel_rfl))))
open_top hd for PySem.Challenge.rw_je0001_01
end
open PySem.Calls
theorem filled : PySem.Challenge.rw_je0001_01 = PySem.Challenge.rw_je0001_01 ∧ hd.heap_1 = hd.heap_1 := by
  k_fill
  exact ⟨rfl, rfl⟩
/-! ## dict entries as facts -/
theorem isStr_key {n n' : Str} {t : Tok} (h : n ≠ n') : (Value.str n' t).isStr n = false := by
  show (n' == n) = false
  exact beq_eq_false_iff_ne.mpr (Ne.symm h)
theorem isStr_key_same {n : Str} {t : Tok} : (Value.str n t).isStr n = true := by
  show (n == n) = true
  exact beq_self_eq_true n
theorem isStr_ne {v : Value} {n n' : Str} (h : n ≠ n') (e : v.isStr n' = true) : v.isStr n = false := by
  cases v <;> first | rfl | cases e | skip
  rename_i s t
  have : s = n' := beq_iff_eq.mp e
  subst this
  exact isStr_key h
theorem find_putL_ne {n n' : Str} {hs : Int} {t : Tok} {v : Value} (h : n ≠ n') : ∀ es : List DictEntry, (putL n' hs (.str n' t) v es).find? (·.key.isStr n) = es.find? (·.key.isStr n)
  | [] => by
    show ([⟨hs, .str n' t, v⟩] : List DictEntry).find? (·.key.isStr n) = _
    rw [List.find?_cons, isStr_key h]
  | e :: r => by
    have ih := find_putL_ne h (hs := hs) (t := t) (v := v) r
    unfold putL
    cases hk : e.key.isStr n' with
    | true =>
      have h2 := isStr_ne h hk
      simp only [if_true, List.find?_cons, h2]
    | false =>
      simp only [Bool.false_eq_true, if_false, List.find?_cons, ih]
theorem ref_putL {n' : Str} {hs : Int} {t : Tok} {v : Value} : ∀ es : List DictEntry, (putL n' hs (.str n' t) v es).any (·.refKey) = es.any (·.refKey)
  | [] => rfl
  | e :: r => by
    have ih := ref_putL (n' := n') (hs := hs) (t := t) (v := v) r
    unfold putL
    split
    · rfl
    · simp only [List.any_cons, ih]
theorem getL_put_ne {n n' : Str} {hs : Int} {t : Tok} {v : Value} {es : List DictEntry} (h : n ≠ n') : getL n (putL n' hs (.str n' t) v es) = getL n es := by
  unfold getL
  rw [find_putL_ne h, ref_putL]
theorem getL_put_same {n : Str} {hs : Int} {t : Tok} {v : Value} : ∀ {es : List DictEntry}, getL n (putL n hs (.str n t) v es) = some (some v)
  | [] => by
    unfold getL
    show (match ([⟨hs, .str n t, v⟩] : List DictEntry).find? (·.key.isStr n) with | some e => some (some e.val) | none => _) = _
    rw [List.find?_cons, isStr_key_same]
  | e :: r => by
    have ih := getL_put_same (n := n) (hs := hs) (t := t) (v := v) (es := r)
    unfold getL at ih ⊢
    unfold putL
    cases hk : e.key.isStr n with
    | true => simp only [if_true]; rw [List.find?_cons, hk]
    | false =>
      simp only [Bool.false_eq_true, if_false]
      rw [List.find?_cons, hk]
      simp only
      cases h3 : (putL n hs (.str n t) v r).find? (·.key.isStr n) with
      | some a => rw [h3] at ih; exact ih
      | none => rw [h3] at ih; simp only at ih; split at ih <;> simp at ih
theorem length_put {n : Str} {hs : Int} {k v : Value} : ∀ {es : List DictEntry}, (putL n hs k v es).length = if es.any (·.key.isStr n) then es.length else es.length + 1
  | [] => rfl
  | e :: r => by
    have ih := length_put (n := n) (hs := hs) (k := k) (v := v) (es := r)
    unfold putL
    cases hk : e.key.isStr n with
    | true => simp [hk]
    | false => simp only [Bool.false_eq_true, if_false, List.length_cons, ih, List.any_cons, hk, Bool.false_or]; split <;> rfl
theorem any_of_get {n : Str} {v : Value} {es : List DictEntry} (h : getL n es = some (some v)) : es.any (·.key.isStr n) = true := by
  unfold getL at h
  cases h3 : es.find? (·.key.isStr n) with
  | some a => exact List.any_eq_true.mpr ⟨a, List.mem_of_find?_eq_some h3, by have := List.find?_some h3; exact this⟩
  | none => rw [h3] at h; simp only at h; split at h <;> simp at h
theorem not_any_of_get {n : Str} {es : List DictEntry} (h : getL n es = some none) : es.any (·.key.isStr n) = false := by
  unfold getL at h
  cases h3 : es.find? (·.key.isStr n) with
  | some a => rw [h3] at h; simp at h
  | none =>
    rw [List.find?_eq_none] at h3
    rw [List.any_eq_false]
    exact h3
theorem length_put_old {n : Str} {hs : Int} {k v u : Value} {es : List DictEntry} (h : getL n es = some (some u)) : (putL n hs k v es).length = es.length := by
  rw [length_put, any_of_get h]; rfl
theorem length_put_new {n : Str} {hs : Int} {k v : Value} {es : List DictEntry} (h : getL n es = some none) : (putL n hs k v es).length = es.length + 1 := by
  rw [length_put, not_any_of_get h]; rfl
theorem length_put_le {n : Str} {hs : Int} {k v : Value} {es : List DictEntry} : (putL n hs k v es).length ≤ es.length + 1 := by
  rw [length_put]; split <;> omega

/-! ## a ledger's one entry, and the rest -/
theorem news_sub {h₀ h : Heap} {L : Addr} {l l' : List (Addr × Obj)} (N : News h₀ L h l') (hs : ∀ p ∈ l, p ∈ l') : News h₀ L h l := fun p hp => N p (hs p hp)
theorem updF_use {d : Addr} {o : Obj} {l : List (Addr × Obj)} {g : Obj → List (Addr × Obj)} (U : UpdF d o l g) :
    ∃ rest, (∀ p ∈ rest, p.1 ≠ d) ∧ (∀ p, p ∈ (d, o) :: rest ↔ p ∈ l) ∧ (∀ o' p, p ∈ g o' ↔ p ∈ (d, o') :: rest) := by
  obtain ⟨pre, post, rfl, h2, h3, h4⟩ := U.split
  refine ⟨pre ++ post, fun p hp => (List.mem_append.mp hp).elim (h3 p) (h4 p), fun p => ?_, fun o' p => ?_⟩
  · simp only [List.mem_cons, List.mem_append]
    constructor <;> (intro h; rcases h with h | h | h <;> simp [h])
  · rw [h2]
    simp only [List.mem_cons, List.mem_append]
    constructor <;> (intro h; rcases h with h | h | h <;> simp [h])

theorem lt_put {n : Str} {hs : Int} {k v : Value} {es : List DictEntry} {j b : Nat} (h : es.length + (j + 1) < b) : (putL n hs k v es).length + j < b := by
  have := length_put_le (n := n) (hs := hs) (k := k) (v := v) (es := es)
  omega
theorem lt_put0 {es : List DictEntry} {b : Nat} (h : es.length + 0 < b) : es.length < b := h
section
variable {prog : Program} {w : World} {A : Around} {E : Value → Shared → Prop} {s : Shared} {K : Frag} {x dx C L : Addr} {h₀ : Heap} {m : Str → Option Value} {ox : Obj} {es : List DictEntry} {n : Nat} {name : Str} {v : Value} {news : List (Addr × Obj)} {g : Obj → List (Addr × Obj)}
theorem set_dictA {Q : Unit → Shared → Prop} (F : Fr h₀ L s.heap m) (X₀ : K.In h₀) (N : News h₀ L s.heap news) (I : InstAt s.heap x ox C (some (dictOf es n))) (hd : ox.dict = some dx)
    (hs : findIn K (.ref C) "__setattr__" = some (some (.builtin "object.__setattr__"))) (hp : plainOver K C = true) (ht : takerIn K C name = some none) (hh : hasDictIn K C = true) (hl : (getL name es).isSome = true)
    (U : UpdF dx (dictOf es n) news g) (hz : es.length < 900)
    (h : ∀ h' hsh t n', Fr h₀ L h' m → News h₀ L h' (g (dictOf (putL name hsh (.str name t) v es) n')) → Q () { s with heap := h', toks := s.toks + 2 }) :
    wpAny (model prog w) A (setAttr (.ref x) name v) Q E s := by
  obtain ⟨pre, post, rfl, h2, a, b⟩ := U.split
  refine set_dict (es' := putL name (PyData.keyHash w.params name) (.str name (s.toks + 1)) v es) (n' := putN name es n) F X₀ N I hd hs hp ht hh hl rfl (news' := pre ++ (dx, dictOf (putL name (PyData.keyHash w.params name) (.str name (s.toks + 1)) v es) (putN name es n)) :: post) ?_ ?_ (fun h' F' N' => h h' _ _ _ F' (by rw [h2]; exact N'))
  · clear hz U h h2 N
    induction pre with
    | nil => exact .head b
    | cons q r ih => exact .tail (a q (.head _)) (ih (fun p hp => a p (.tail _ hp)))
  · have := length_put_le (n := name) (hs := PyData.keyHash w.params name) (k := .str name (s.toks + 1)) (v := v) (es := es)
    omega
end
theorem getL_some {n : Str} {es : List DictEntry} {u : Option Value} (h : getL n es = some u) : (getL n es).isSome = true := by rw [h]; rfl
/-! ## the law's own text -/
def lawParts : List Stmt × Scope := match PySem.Challenge.pw_je0001_01.main.body.getLast? with
  | some (.FunctionDef (body := b) (scope := sc) ..) => (b, sc)
  | _ => ([], default)
def lawBody : List Stmt := lawParts.1
def lawScope : Scope := lawParts.2
abbrev lawEnv (L fa : Addr) (cd : Value) : Env := envOf (Str.ofString "law") lawScope L fa cd
abbrev lawA (L fa : Addr) (cd : Value) : Around := callerA.deeper (lawEnv L fa cd)
structure Ctx (w : World) (mg mb : Str → Option Value) (mean : ExcName → Option Value) (base h₀ : Heap) : Prop where
  B : Below callerA base [] h₀
  X : (hd.heap_1 w.params).In h₀
  T : Top vw (looseW vw [Str.ofString "QuicCongestionControl", Str.ofString "QuicPacketType", Str.ofString "Epoch"]) mean mg mb h₀
def renoMeths : List Str := [Str.ofString "on_packet_sent", Str.ofString "on_packet_acked", Str.ofString "on_packets_lost", Str.ofString "on_packets_expired", Str.ofString "on_persistent_congestion", Str.ofString "on_rtt_measurement"]
def monMeths : List Str := [Str.ofString "add_rtt", Str.ofString "is_rtt_increasing"]
theorem meths_put {l : List Str} {n : Str} {hs : Int} {t : Tok} {v : Value} {es : List DictEntry} (h : ∀ x ∈ l, getL x es = some none) (hn : n ∉ l) : ∀ x ∈ l, getL x (putL n hs (.str n t) v es) = some none :=
  fun x hx => (getL_put_ne (fun e : x = n => hn (e ▸ hx))).trans (h x hx)
/-- reno's dict, by facts -/
structure RenoD (es : List DictEntry) (bfl cw mds crs st : Int) (ss : Option Int) (mon : Addr) : Prop where
  gcw : ∃ t, getL (Str.ofString "congestion_window") es = some (some (.int cw t))
  gmds : ∃ t, getL (Str.ofString "_max_datagram_size") es = some (some (.int mds t))
  gcrs : ∃ t, getL (Str.ofString "_congestion_recovery_start_time") es = some (some (.int crs t))
  gst : ∃ t, getL (Str.ofString "_congestion_stash") es = some (some (.int st t))
  gmon : getL (Str.ofString "_rtt_monitor") es = some (some (.ref mon))
  meths : ∀ x ∈ renoMeths, getL x es = some none
  opt : ∃ a b, es.length ≤ 5 + a + b ∧ ((a = 1 ∧ ∃ t, getL (Str.ofString "bytes_in_flight") es = some (some (.int bfl t))) ∨ (a = 0 ∧ getL (Str.ofString "bytes_in_flight") es = some none ∧ bfl = 0)) ∧
    ((b = 1 ∧ ∃ v t, ss = some v ∧ getL (Str.ofString "ssthresh") es = some (some (.int v t))) ∨ (b = 0 ∧ ss = none ∧ getL (Str.ofString "ssthresh") es = some none))
/-- a packet's dict, by facts -/
structure PkD (es : List DictEntry) (at_ oct : Int) : Prop where
  gat : ∃ t, getL (Str.ofString "sent_time") es = some (some (.int at_ t))
  goct : ∃ t, getL (Str.ofString "sent_bytes") es = some (some (.int oct t))
/-- the ledger bears a packet -/
def PkIn (news : List (Addr × Obj)) (pk : Addr) (at_ oct : Int) : Prop := ∃ d es n, (pk, instObj 177 d) ∈ news ∧ (d, dictOf es n) ∈ news ∧ PkD es at_ oct
theorem PkIn.mono {news news' : List (Addr × Obj)} {pk : Addr} {a o : Int} (h : PkIn news pk a o) (hs : ∀ p ∈ news, p ∈ news') : PkIn news' pk a o := by
  obtain ⟨d, es, n, h1, h2, h3⟩ := h
  exact ⟨d, es, n, hs _ h1, hs _ h2, h3⟩

theorem opt_put {n : Str} {hs : Int} {t : Tok} {v u : Value} {es : List DictEntry} {bfl : Int} {ss : Option Int} (hg : getL n es = some (some u)) (h1 : (Str.ofString "bytes_in_flight") ≠ n) (h2 : (Str.ofString "ssthresh") ≠ n)
    (opt : ∃ a b, es.length ≤ 5 + a + b ∧ ((a = 1 ∧ ∃ t, getL (Str.ofString "bytes_in_flight") es = some (some (.int bfl t))) ∨ (a = 0 ∧ getL (Str.ofString "bytes_in_flight") es = some none ∧ bfl = 0)) ∧
    ((b = 1 ∧ ∃ v t, ss = some v ∧ getL (Str.ofString "ssthresh") es = some (some (.int v t))) ∨ (b = 0 ∧ ss = none ∧ getL (Str.ofString "ssthresh") es = some none))) :
    ∃ a b, (putL n hs (.str n t) v es).length ≤ 5 + a + b ∧ ((a = 1 ∧ ∃ t', getL (Str.ofString "bytes_in_flight") (putL n hs (.str n t) v es) = some (some (.int bfl t'))) ∨ (a = 0 ∧ getL (Str.ofString "bytes_in_flight") (putL n hs (.str n t) v es) = some none ∧ bfl = 0)) ∧
    ((b = 1 ∧ ∃ v' t', ss = some v' ∧ getL (Str.ofString "ssthresh") (putL n hs (.str n t) v es) = some (some (.int v' t'))) ∨ (b = 0 ∧ ss = none ∧ getL (Str.ofString "ssthresh") (putL n hs (.str n t) v es) = some none)) := by
  rw [length_put_old hg, getL_put_ne h1, getL_put_ne h2]
  exact opt
section
variable {es : List DictEntry} {bfl cw mds crs st : Int} {ss : Option Int} {mon : Addr} {hs v : Int} {t u : Tok}
theorem RenoD.put_cw (D : RenoD es bfl cw mds crs st ss mon) : RenoD (putL (Str.ofString "congestion_window") hs (.str (Str.ofString "congestion_window") t) (.int v u) es) bfl v mds crs st ss mon where
  gcw := ⟨u, getL_put_same⟩
  gmds := by rw [getL_put_ne (by decide +kernel)]; exact D.gmds
  gcrs := by rw [getL_put_ne (by decide +kernel)]; exact D.gcrs
  gst := by rw [getL_put_ne (by decide +kernel)]; exact D.gst
  gmon := by rw [getL_put_ne (by decide +kernel)]; exact D.gmon
  meths := meths_put D.meths (by decide +kernel)
  opt := by obtain ⟨t0, h0⟩ := D.gcw; exact opt_put h0 (by decide +kernel) (by decide +kernel) D.opt
theorem RenoD.put_crs (D : RenoD es bfl cw mds crs st ss mon) : RenoD (putL (Str.ofString "_congestion_recovery_start_time") hs (.str (Str.ofString "_congestion_recovery_start_time") t) (.int v u) es) bfl cw mds v st ss mon where
  gcw := by rw [getL_put_ne (by decide +kernel)]; exact D.gcw
  gmds := by rw [getL_put_ne (by decide +kernel)]; exact D.gmds
  gcrs := ⟨u, getL_put_same⟩
  gst := by rw [getL_put_ne (by decide +kernel)]; exact D.gst
  gmon := by rw [getL_put_ne (by decide +kernel)]; exact D.gmon
  meths := meths_put D.meths (by decide +kernel)
  opt := by obtain ⟨t0, h0⟩ := D.gcrs; exact opt_put h0 (by decide +kernel) (by decide +kernel) D.opt
theorem RenoD.put_st (D : RenoD es bfl cw mds crs st ss mon) : RenoD (putL (Str.ofString "_congestion_stash") hs (.str (Str.ofString "_congestion_stash") t) (.int v u) es) bfl cw mds crs v ss mon where
  gcw := by rw [getL_put_ne (by decide +kernel)]; exact D.gcw
  gmds := by rw [getL_put_ne (by decide +kernel)]; exact D.gmds
  gcrs := by rw [getL_put_ne (by decide +kernel)]; exact D.gcrs
  gst := ⟨u, getL_put_same⟩
  gmon := by rw [getL_put_ne (by decide +kernel)]; exact D.gmon
  meths := meths_put D.meths (by decide +kernel)
  opt := by obtain ⟨t0, h0⟩ := D.gst; exact opt_put h0 (by decide +kernel) (by decide +kernel) D.opt
theorem RenoD.put_bfl (D : RenoD es bfl cw mds crs st ss mon) : RenoD (putL (Str.ofString "bytes_in_flight") hs (.str (Str.ofString "bytes_in_flight") t) (.int v u) es) v cw mds crs st ss mon where
  gcw := by rw [getL_put_ne (by decide +kernel)]; exact D.gcw
  gmds := by rw [getL_put_ne (by decide +kernel)]; exact D.gmds
  gcrs := by rw [getL_put_ne (by decide +kernel)]; exact D.gcrs
  gst := by rw [getL_put_ne (by decide +kernel)]; exact D.gst
  gmon := by rw [getL_put_ne (by decide +kernel)]; exact D.gmon
  meths := meths_put D.meths (by decide +kernel)
  opt := by
    obtain ⟨a, b, hl, hb, hss⟩ := D.opt
    rw [getL_put_ne (n := (Str.ofString "ssthresh")) (by decide +kernel)]
    refine ⟨1, b, ?_, .inl ⟨rfl, u, getL_put_same⟩, hss⟩
    rcases hb with ⟨ha, t0, h0⟩ | ⟨ha, h0, _⟩
    · rw [length_put_old h0]; omega
    · rw [length_put_new h0]; omega
theorem RenoD.put_ss (D : RenoD es bfl cw mds crs st ss mon) : RenoD (putL (Str.ofString "ssthresh") hs (.str (Str.ofString "ssthresh") t) (.int v u) es) bfl cw mds crs st (some v) mon where
  gcw := by rw [getL_put_ne (by decide +kernel)]; exact D.gcw
  gmds := by rw [getL_put_ne (by decide +kernel)]; exact D.gmds
  gcrs := by rw [getL_put_ne (by decide +kernel)]; exact D.gcrs
  gst := by rw [getL_put_ne (by decide +kernel)]; exact D.gst
  gmon := by rw [getL_put_ne (by decide +kernel)]; exact D.gmon
  meths := meths_put D.meths (by decide +kernel)
  opt := by
    obtain ⟨a, b, hl, hb, hss⟩ := D.opt
    rw [getL_put_ne (n := (Str.ofString "bytes_in_flight")) (by decide +kernel)]
    refine ⟨a, 1, ?_, hb, .inl ⟨rfl, v, u, rfl, getL_put_same⟩⟩
    rcases hss with ⟨ha, v0, t0, _, h0⟩ | ⟨ha, _, h0⟩
    · rw [length_put_old h0]; omega
    · rw [length_put_new h0]; omega
theorem RenoD.len (D : RenoD es bfl cw mds crs st ss mon) : es.length ≤ 7 := by
  obtain ⟨a, b, hl, hb, hss⟩ := D.opt
  rcases hb with hb | hb <;> rcases hss with hss | hss <;> omega
end

/-- the monitor's dict, by facts -/
structure MonD (es : List DictEntry) (inc idx stime : Int) (ready : Bool) (fm : Option Int) (smp : Addr) (mx mn : Value) : Prop where
  ginc : ∃ t, getL (Str.ofString "_increases") es = some (some (.int inc t))
  grdy : getL (Str.ofString "_ready") es = some (some (.bool ready))
  gsize : ∃ t, getL (Str.ofString "_size") es = some (some (.int 5 t))
  gfm : (∃ v t, fm = some v ∧ getL (Str.ofString "_filtered_min") es = some (some (.int v t))) ∨ (fm = none ∧ getL (Str.ofString "_filtered_min") es = some (some .none))
  gidx : ∃ t, getL (Str.ofString "_sample_idx") es = some (some (.int idx t))
  gmx : getL (Str.ofString "_sample_max") es = some (some mx)
  gmn : getL (Str.ofString "_sample_min") es = some (some mn)
  gtime : ∃ t, getL (Str.ofString "_sample_time") es = some (some (.int stime t))
  gsm : getL (Str.ofString "_samples") es = some (some (.ref smp))
  meths : ∀ x ∈ monMeths, getL x es = some none
  len : es.length ≤ 10
theorem len_put {n : Str} {hs : Int} {k v u : Value} {es : List DictEntry} {b : Nat} (h : getL n es = some (some u)) (hb : es.length ≤ b) : (putL n hs k v es).length ≤ b := by rw [length_put_old h]; exact hb
section
variable {es : List DictEntry} {inc idx stime : Int} {ready : Bool} {fm : Option Int} {smp : Addr} {mx mn : Value} {hs v : Int} {t u : Tok} {b : Bool} {x : Value}
theorem MonD.put_inc (D : MonD es inc idx stime ready fm smp mx mn) : MonD (putL (Str.ofString "_increases") hs (.str (Str.ofString "_increases") t) (.int v u) es) v idx stime ready fm smp mx mn where
  ginc := ⟨u, getL_put_same⟩
  grdy := by rw [getL_put_ne (by decide +kernel)]; exact D.grdy
  gsize := by rw [getL_put_ne (by decide +kernel)]; exact D.gsize
  gfm := by rw [getL_put_ne (by decide +kernel)]; exact D.gfm
  gidx := by rw [getL_put_ne (by decide +kernel)]; exact D.gidx
  gmx := by rw [getL_put_ne (by decide +kernel)]; exact D.gmx
  gmn := by rw [getL_put_ne (by decide +kernel)]; exact D.gmn
  gtime := by rw [getL_put_ne (by decide +kernel)]; exact D.gtime
  gsm := by rw [getL_put_ne (by decide +kernel)]; exact D.gsm
  meths := meths_put D.meths (by decide +kernel)
  len := by obtain ⟨t0, h0⟩ := D.ginc; exact len_put h0 D.len
theorem MonD.put_idx (D : MonD es inc idx stime ready fm smp mx mn) : MonD (putL (Str.ofString "_sample_idx") hs (.str (Str.ofString "_sample_idx") t) (.int v u) es) inc v stime ready fm smp mx mn where
  ginc := by rw [getL_put_ne (by decide +kernel)]; exact D.ginc
  grdy := by rw [getL_put_ne (by decide +kernel)]; exact D.grdy
  gsize := by rw [getL_put_ne (by decide +kernel)]; exact D.gsize
  gfm := by rw [getL_put_ne (by decide +kernel)]; exact D.gfm
  gidx := ⟨u, getL_put_same⟩
  gmx := by rw [getL_put_ne (by decide +kernel)]; exact D.gmx
  gmn := by rw [getL_put_ne (by decide +kernel)]; exact D.gmn
  gtime := by rw [getL_put_ne (by decide +kernel)]; exact D.gtime
  gsm := by rw [getL_put_ne (by decide +kernel)]; exact D.gsm
  meths := meths_put D.meths (by decide +kernel)
  len := by obtain ⟨t0, h0⟩ := D.gidx; exact len_put h0 D.len
theorem MonD.put_time (D : MonD es inc idx stime ready fm smp mx mn) : MonD (putL (Str.ofString "_sample_time") hs (.str (Str.ofString "_sample_time") t) (.int v u) es) inc idx v ready fm smp mx mn where
  ginc := by rw [getL_put_ne (by decide +kernel)]; exact D.ginc
  grdy := by rw [getL_put_ne (by decide +kernel)]; exact D.grdy
  gsize := by rw [getL_put_ne (by decide +kernel)]; exact D.gsize
  gfm := by rw [getL_put_ne (by decide +kernel)]; exact D.gfm
  gidx := by rw [getL_put_ne (by decide +kernel)]; exact D.gidx
  gmx := by rw [getL_put_ne (by decide +kernel)]; exact D.gmx
  gmn := by rw [getL_put_ne (by decide +kernel)]; exact D.gmn
  gtime := ⟨u, getL_put_same⟩
  gsm := by rw [getL_put_ne (by decide +kernel)]; exact D.gsm
  meths := meths_put D.meths (by decide +kernel)
  len := by obtain ⟨t0, h0⟩ := D.gtime; exact len_put h0 D.len
theorem MonD.put_rdy (D : MonD es inc idx stime ready fm smp mx mn) : MonD (putL (Str.ofString "_ready") hs (.str (Str.ofString "_ready") t) (.bool b) es) inc idx stime b fm smp mx mn where
  ginc := by rw [getL_put_ne (by decide +kernel)]; exact D.ginc
  grdy := getL_put_same
  gsize := by rw [getL_put_ne (by decide +kernel)]; exact D.gsize
  gfm := by rw [getL_put_ne (by decide +kernel)]; exact D.gfm
  gidx := by rw [getL_put_ne (by decide +kernel)]; exact D.gidx
  gmx := by rw [getL_put_ne (by decide +kernel)]; exact D.gmx
  gmn := by rw [getL_put_ne (by decide +kernel)]; exact D.gmn
  gtime := by rw [getL_put_ne (by decide +kernel)]; exact D.gtime
  gsm := by rw [getL_put_ne (by decide +kernel)]; exact D.gsm
  meths := meths_put D.meths (by decide +kernel)
  len := len_put D.grdy D.len
theorem MonD.put_fm (D : MonD es inc idx stime ready fm smp mx mn) : MonD (putL (Str.ofString "_filtered_min") hs (.str (Str.ofString "_filtered_min") t) (.int v u) es) inc idx stime ready (some v) smp mx mn where
  ginc := by rw [getL_put_ne (by decide +kernel)]; exact D.ginc
  grdy := by rw [getL_put_ne (by decide +kernel)]; exact D.grdy
  gsize := by rw [getL_put_ne (by decide +kernel)]; exact D.gsize
  gfm := .inl ⟨v, u, rfl, getL_put_same⟩
  gidx := by rw [getL_put_ne (by decide +kernel)]; exact D.gidx
  gmx := by rw [getL_put_ne (by decide +kernel)]; exact D.gmx
  gmn := by rw [getL_put_ne (by decide +kernel)]; exact D.gmn
  gtime := by rw [getL_put_ne (by decide +kernel)]; exact D.gtime
  gsm := by rw [getL_put_ne (by decide +kernel)]; exact D.gsm
  meths := meths_put D.meths (by decide +kernel)
  len := by rcases D.gfm with ⟨_, _, _, h0⟩ | ⟨_, h0⟩ <;> exact len_put h0 D.len
theorem MonD.put_mx (D : MonD es inc idx stime ready fm smp mx mn) : MonD (putL (Str.ofString "_sample_max") hs (.str (Str.ofString "_sample_max") t) x es) inc idx stime ready fm smp x mn where
  ginc := by rw [getL_put_ne (by decide +kernel)]; exact D.ginc
  grdy := by rw [getL_put_ne (by decide +kernel)]; exact D.grdy
  gsize := by rw [getL_put_ne (by decide +kernel)]; exact D.gsize
  gfm := by rw [getL_put_ne (by decide +kernel)]; exact D.gfm
  gidx := by rw [getL_put_ne (by decide +kernel)]; exact D.gidx
  gmx := getL_put_same
  gmn := by rw [getL_put_ne (by decide +kernel)]; exact D.gmn
  gtime := by rw [getL_put_ne (by decide +kernel)]; exact D.gtime
  gsm := by rw [getL_put_ne (by decide +kernel)]; exact D.gsm
  meths := meths_put D.meths (by decide +kernel)
  len := len_put D.gmx D.len
theorem MonD.put_mn (D : MonD es inc idx stime ready fm smp mx mn) : MonD (putL (Str.ofString "_sample_min") hs (.str (Str.ofString "_sample_min") t) x es) inc idx stime ready fm smp mx x where
  ginc := by rw [getL_put_ne (by decide +kernel)]; exact D.ginc
  grdy := by rw [getL_put_ne (by decide +kernel)]; exact D.grdy
  gsize := by rw [getL_put_ne (by decide +kernel)]; exact D.gsize
  gfm := by rw [getL_put_ne (by decide +kernel)]; exact D.gfm
  gidx := by rw [getL_put_ne (by decide +kernel)]; exact D.gidx
  gmx := by rw [getL_put_ne (by decide +kernel)]; exact D.gmx
  gmn := getL_put_same
  gtime := by rw [getL_put_ne (by decide +kernel)]; exact D.gtime
  gsm := by rw [getL_put_ne (by decide +kernel)]; exact D.gsm
  meths := meths_put D.meths (by decide +kernel)
  len := len_put D.gmn D.len
end
section
variable {prog : Program} {w : World} {A : Around} {E : Value → Shared → Prop} {s : Shared} {env : Env} {h₀ : Heap} {x : Str} {body : List Stmt} {Q : Flow → Shared → Prop}
/-- a loop over a list of the ledger's, where the turns change one dict of the ledger -/
theorem loopD {l dR : Addr} {vs : List Value} {nn n : Nat} {es : List DictEntry} {m₀ : Str → Option Value} {rest : List (Addr × Obj)} (P : Nat → List DictEntry → (Str → Option Value) → Prop)
    (hh : A.handled = none) (hl : (l, listOf vs.toArray nn) ∈ rest) (F : Fr h₀ env.locals s.heap m₀) (N : News h₀ env.locals s.heap ((dR, dictOf es n) :: rest)) (hp : P 0 es m₀) (hr : ∀ p ∈ rest, p.1 ≠ dR)
    (turn : ∀ i v m₁ es₁ n₁ rest₁ h tk (Qt : Flow → Shared → Prop), vs[i]? = some v → (∀ p ∈ rest, p ∈ rest₁) → (∀ p ∈ rest₁, p.1 ≠ dR) → P i es₁ m₁ → Fr h₀ env.locals h (fun y => if y = x then some v else m₁ y) → News h₀ env.locals h ((dR, dictOf es₁ n₁) :: rest₁) →
      (∀ es' n' h' tk' m', P (i + 1) es' m' → Fr h₀ env.locals h' m' → News h₀ env.locals h' ((dR, dictOf es' n') :: rest₁) → Qt .next { s with heap := h', toks := tk' }) →
      wpAny (model prog w) A (execs body env) Qt E { s with heap := h, toks := tk })
    (done : ∀ m₁ es₁ n₁ h tk, P vs.length es₁ m₁ → Fr h₀ env.locals h m₁ → News h₀ env.locals h ((dR, dictOf es₁ n₁) :: rest) → Q .next { s with heap := h, toks := tk }) :
    wpAny (model prog w) A (pyIter (.ref l)) (fun it s₂ => LoopAtV prog w A h₀ env x body Q E it s₂) E s := by
  refine kdl_iter (news := (dR, dictOf es n) :: rest) (fun i m nx => ∃ es₁ n₁, nx = (dR, dictOf es₁ n₁) :: rest ∧ P i es₁ m) hh (.tail _ hl) F N ⟨es, n, rfl, hp⟩ ?_ ?_
  · rintro i v m₁ nx h tk own hv hoff hl₁ ⟨es₁, n₁, rfl, hp₁⟩ F₁ N₁
    have hod : ∀ p ∈ own, p.1 ≠ dR := fun p hp => hoff p hp dR (by simp)
    refine turn i v m₁ es₁ n₁ (rest ++ own) h tk _ hv (fun p hp => List.mem_append.mpr (.inl hp)) (fun p hp => (List.mem_append.mp hp).elim (hr p) (hod p)) hp₁ F₁ N₁ ?_
    intro es' n' h' tk' m' hp' F' N'
    refine ⟨h', tk', m', (dR, dictOf es' n') :: (rest ++ own), (dR, dictOf es' n') :: rest, rfl, F', N', ?_, ?_, ?_, .tail _ hl, es', n', rfl, hp'⟩
    · intro p hp
      rcases List.mem_cons.mp hp with rfl | hp
      · exact .head _
      · exact .tail _ (List.mem_append.mpr (.inl hp))
    · exact fun p hp => .tail _ (List.mem_append.mpr (.inr hp))
    · intro p hp b hb
      rw [List.map_cons] at hb
      rcases List.mem_cons.mp hb with rfl | hb
      · exact hod p hp
      · exact hoff p hp b (by rw [List.map_cons]; exact .tail _ hb)
  · rintro m₁ nx h tk ⟨es₁, n₁, rfl, hp₁⟩ F₁ N₁
    exact done m₁ es₁ n₁ h tk hp₁ F₁ N₁
end
/-- the ledger bears these packets -/
inductive PksIn (news : List (Addr × Obj)) : List Value → List (Int × Int) → Prop
  | nil : PksIn news [] []
  | cons {pk : Addr} {a o : Int} {vs : List Value} {rs : List (Int × Int)} : PkIn news pk a o → PksIn news vs rs → PksIn news (.ref pk :: vs) ((a, o) :: rs)
theorem PksIn.length {news : List (Addr × Obj)} {vs : List Value} {rs : List (Int × Int)} (h : PksIn news vs rs) : vs.length = rs.length := by
  induction h with
  | nil => rfl
  | cons _ _ ih => simp [ih]
theorem PksIn.get {news : List (Addr × Obj)} {vs : List Value} {rs : List (Int × Int)} (h : PksIn news vs rs) : ∀ {i : Nat} {v : Value}, vs[i]? = some v → ∃ pk a o, v = .ref pk ∧ PkIn news pk a o ∧ rs[i]? = some (a, o) := by
  induction h with
  | nil => intro i v h; simp at h
  | cons hp _ ih =>
    intro i v h
    cases i with
    | zero => simp at h; exact ⟨_, _, _, h.symm, hp, by simp⟩
    | succ i => simp at h; obtain ⟨pk, a, o, h1, h2, h3⟩ := ih h; exact ⟨pk, a, o, h1, h2, by simpa using h3⟩
def sumO (rs : List (Int × Int)) : Int := (rs.map (·.2)).sum
theorem sumO_take {rs : List (Int × Int)} {i : Nat} {a o : Int} (h : rs[i]? = some (a, o)) : sumO (rs.take (i + 1)) = sumO (rs.take i) + o := by
  unfold sumO
  rw [List.take_add_one, h]
  simp
def lastT (rs : List (Int × Int)) : Int := match rs.getLast? with | some r => r.1 | none => 0
theorem lastT_take {rs : List (Int × Int)} {i : Nat} {a o : Int} (h : rs[i]? = some (a, o)) : lastT (rs.take (i + 1)) = a := by
  unfold lastT
  rw [List.take_add_one, h]
  simp
/-- a place where the walk is to stand still -/
def Stop (P : Prop) : Prop := P
theorem Stop.mk {P : Prop} (h : Stop P) : P := h
theorem news_swap {h₀ h : Heap} {L : Addr} {a b : Addr × Obj} {l : List (Addr × Obj)} (N : News h₀ L h (a :: b :: l)) : News h₀ L h (b :: a :: l) := by
  intro p hp
  rcases List.mem_cons.mp hp with rfl | hp
  · exact N _ (.tail _ (.head _))
  · rcases List.mem_cons.mp hp with rfl | hp
    · exact N _ (.head _)
    · exact N _ (.tail _ (.tail _ hp))
theorem news_drop1 {h₀ h : Heap} {L : Addr} {a : Addr × Obj} {l : List (Addr × Obj)} (N : News h₀ L h (a :: l)) : News h₀ L h l := fun p hp => N p (.tail _ hp)
theorem off_cons {d : Addr} {a : Addr × Obj} {l : List (Addr × Obj)} (h1 : @Ne Nat a.1 d) (h2 : ∀ p ∈ l, p.1 ≠ d) : ∀ p ∈ a :: l, p.1 ≠ d := by
  intro p hp
  rcases List.mem_cons.mp hp with rfl | hp
  · exact h1
  · exact h2 p hp
section
theorem back1 : True := by
  w_top off
  trivial
local macro_rules | `(tactic| k_all) => `(tactic| assumption)
local macro_rules | `(tactic| k_get) => `(tactic| ((with_reducible refine (getL_put_ne (by decide +kernel)).trans ?_); k_get))
local macro_rules | `(tactic| k_get) => `(tactic| with_reducible exact getL_put_same)
local macro_rules | `(tactic| k_get) => `(tactic| with_reducible assumption)
local macro_rules | `(tactic| walk_at "setAttr ref") => `(tactic| (k_here; k_dflt (refine' set_dictA ?k1 ?k2 ?k3 ?k4 ?k5 ?k6 ?k7 ?k8 ?k9 ?k10 ?k11 ?k12 ?_; (case k1 => k_asm); (case k2 => k_asm); (case k3 => k_asm); (case k4 => k_inst); (case k5 => exact rfl); (case k6 => k_is); (case k7 => k_is); (case k8 => k_is); (case k9 => k_is); (case k10 => (refine' getL_some ?g; (case g => ((repeat (with_reducible refine (getL_put_ne (by decide +kernel)).trans ?_)); with_reducible first | assumption | exact getL_put_same)))); (case k11 => k_updF); (case k12 => (refine lt_put0 ?_; repeat (first | omega | refine lt_put ?_))); k_whole; intro h' hsh' t' n' F' N'; (try dsimp only at N'); (try k_sweep))))
local macro_rules | `(tactic| k_mem) => `(tactic| ((show (_ : Addr × Obj) ∈ (_ : List (Addr × Obj))); ktr_member))
local macro_rules | `(tactic| walk_at "eval Name") => `(tactic| (k_here; k_dflt (refine' ld ?k1 ?k2 ?_; (case k1 => k_asm); (case k2 => first | with_reducible assumption | ((with_reducible show (ite _ _ _) = _); (repeat (with_reducible refine (if_neg (by decide +kernel)).trans ?_)); with_reducible first | assumption | exact if_pos rfl)); k_whole)))
local macro_rules | `(tactic| walk_at "loadName") => `(tactic| (k_here; k_dflt (refine' ldn ?k1 ?k2 ?_; (case k1 => k_asm); (case k2 => first | with_reducible assumption | ((with_reducible show (ite _ _ _) = _); (repeat (with_reducible refine (if_neg (by decide +kernel)).trans ?_)); with_reducible first | assumption | exact if_pos rfl)); k_whole)))
theorem inst_off {reno d d' C : Addr} {es : List DictEntry} {n : Nat} {rest : List (Addr × Obj)} (h : (reno, instObj C d) ∈ (d', dictOf es n) :: rest) : (reno, instObj C d) ∈ rest := by
  rcases List.mem_cons.mp h with h | h
  · have := (Prod.mk.inj h).2
    have h3 : (instObj C d).cls = (dictOf es n).cls := by rw [this]
    cases h3
  · exact h
section
variable {w : World} {mg mb : Str → Option Value} {mean : ExcName → Option Value} {base h₀ : Heap} {L fa : Addr} {cd : Value} {s : Shared} {E : Value → Shared → Prop} {m : Str → Option Value} {news tl : List (Addr × Obj)} {g : Obj → List (Addr × Obj)}
  {reno dR mon : Addr} {es : List DictEntry} {n : Nat} {bfl cw mds crs st : Int} {ss : Option Int}
theorem c_sent {pk : Addr} {at_ oct : Int} {Q : Value → Shared → Prop} (F : Fr h₀ L s.heap m) (N : News h₀ L s.heap news) (C : Ctx w mg mb mean base h₀)
    (hr : (reno, instObj 129 dR) ∈ news) (U : UpdF dR (dictOf es n) news g) (D : RenoD es bfl cw mds crs st ss mon) (P : PkIn tl pk at_ oct) (hs : ∀ p ∈ tl, p ∈ news) (ht : ∀ p ∈ tl, p.1 ≠ dR)
    (k : ∀ es' n' h' tk, RenoD es' (bfl + oct) cw mds crs st ss mon → Fr h₀ L h' m → News h₀ L h' (g (dictOf es' n')) → Q .none { s with heap := h', toks := tk }) :
    wpAny (model PySem.Challenge.rw_je0001_01.row.prog w) (lawA L fa cd) (call (.ref 98) [.ref reno] [(Str.ofString "packet", .ref pk)]) Q E s := by

  obtain ⟨B, X, T⟩ := C
  obtain ⟨rest, ho, h1, h2⟩ := updF_use U
  replace N := news_sub N (fun p hp => (h1 p).mp hp)
  have hr' := inst_off ((h1 _).mpr hr)
  obtain ⟨dp, ep, np, q1, q2, ⟨⟨ta, ga⟩, ⟨to, go⟩⟩⟩ := P
  have q1' := inst_off ((h1 _).mpr (hs _ q1))
  have q2' : (dp, dictOf ep np) ∈ rest := (List.mem_cons.mp ((h1 _).mpr (hs _ q2))).resolve_left fun e => ht _ q2 (Prod.mk.inj e).1
  obtain ⟨⟨t1, g1⟩, ⟨t2, g2⟩, ⟨t3, g3⟩, ⟨t4, g4⟩, g5, _, a, b, hl, hb, hss⟩ := id D
  have hl' := D.len
  clear h1 hr q1 q2 hs ht U hl
  refine wpAny_call ?_
  k_dflt k_enter
  rcases hb with ⟨ha, tb, gb⟩ | ⟨ha, gb, hz⟩
  · k_steps
    exact k _ _ _ _ D.put_bfl (by k_asm) (news_sub (by k_asm) fun p hp => (h2 _ p).mp hp)
  · subst hz
    k_steps
    exact k _ _ _ _ D.put_bfl (by k_asm) (news_sub (by k_asm) fun p hp => (h2 _ p).mp hp)
end

end
section
local macro_rules | `(tactic| walk_at "no such key") => `(tactic| fail)
theorem back2 : True := by
  w_top off
  trivial
local macro_rules | `(tactic| k_all) => `(tactic| assumption)
local macro_rules | `(tactic| k_get) => `(tactic| ((with_reducible refine (getL_put_ne (by decide +kernel)).trans ?_); k_get))
local macro_rules | `(tactic| k_get) => `(tactic| with_reducible exact getL_put_same)
local macro_rules | `(tactic| k_get) => `(tactic| with_reducible assumption)
local macro_rules | `(tactic| walk_at "setAttr ref") => `(tactic| (k_here; k_dflt (refine' set_dictA ?k1 ?k2 ?k3 ?k4 ?k5 ?k6 ?k7 ?k8 ?k9 ?k10 ?k11 ?k12 ?_; (case k1 => k_asm); (case k2 => k_asm); (case k3 => k_asm); (case k4 => k_inst); (case k5 => exact rfl); (case k6 => k_is); (case k7 => k_is); (case k8 => k_is); (case k9 => k_is); (case k10 => (refine' getL_some ?g; (case g => ((repeat (with_reducible refine (getL_put_ne (by decide +kernel)).trans ?_)); with_reducible first | assumption | exact getL_put_same)))); (case k11 => k_updF); (case k12 => (refine lt_put0 ?_; repeat (first | omega | refine lt_put ?_))); k_whole; intro h' hsh' t' n' F' N'; (try dsimp only at N'); (try k_sweep))))
local macro_rules | `(tactic| k_mem) => `(tactic| ((show (_ : Addr × Obj) ∈ (_ : List (Addr × Obj))); ktr_member))
local macro_rules | `(tactic| walk_at "eval Name") => `(tactic| (k_here; k_dflt (refine' ld ?k1 ?k2 ?_; (case k1 => k_asm); (case k2 => first | with_reducible assumption | ((with_reducible show (ite _ _ _) = _); (repeat (with_reducible refine (if_neg (by decide +kernel)).trans ?_)); with_reducible first | assumption | exact if_pos rfl)); k_whole)))
local macro_rules | `(tactic| walk_at "loadName") => `(tactic| (k_here; k_dflt (refine' ldn ?k1 ?k2 ?_; (case k1 => k_asm); (case k2 => first | with_reducible assumption | ((with_reducible show (ite _ _ _) = _); (repeat (with_reducible refine (if_neg (by decide +kernel)).trans ?_)); with_reducible first | assumption | exact if_pos rfl)); k_whole)))
section
variable {w : World} {mg mb : Str → Option Value} {mean : ExcName → Option Value} {base h₀ : Heap} {L fa : Addr} {cd : Value} {s : Shared} {E : Value → Shared → Prop} {m : Str → Option Value} {news tl : List (Addr × Obj)} {g : Obj → List (Addr × Obj)}
  {reno dR mon : Addr} {es : List DictEntry} {n : Nat} {bfl cw mds crs st : Int} {ss : Option Int}
theorem c_persist {Q : Value → Shared → Prop} (F : Fr h₀ L s.heap m) (N : News h₀ L s.heap news) (C : Ctx w mg mb mean base h₀)
    (hr : (reno, instObj 129 dR) ∈ news) (U : UpdF dR (dictOf es n) news g) (D : RenoD es bfl cw mds crs st ss mon) (b1 : 0 ≤ mds) (b2 : mds ≤ 2000)
    (k : ∀ es' n' h' tk, RenoD es' bfl (2 * mds) mds 0 st ss mon → Fr h₀ L h' m → News h₀ L h' (g (dictOf es' n')) → Q .none { s with heap := h', toks := tk }) :
    wpAny (model PySem.Challenge.rw_je0001_01.row.prog w) (lawA L fa cd) (call (.ref 119) [.ref reno] []) Q E s := by
  obtain ⟨B, X, T⟩ := C
  obtain ⟨rest, ho, h1, h2⟩ := updF_use U
  replace N := news_sub N (fun p hp => (h1 p).mp hp)
  have hr' := inst_off ((h1 _).mpr hr)
  obtain ⟨⟨t1, g1⟩, ⟨t2, g2⟩, ⟨t3, g3⟩, ⟨t4, g4⟩, g5, _, a, b, hl, hb, hss⟩ := id D
  have hl' := D.len
  clear h1 hr U hl
  refine wpAny_call ?_
  k_dflt k_enter
  k_steps
  exact k _ _ _ _ D.put_cw.put_crs (by k_asm) (news_sub (by k_asm) fun p hp => (h2 _ p).mp hp)
def AckR (at_ oct crs cw st mds : Int) (ss : Option Int) (cw' st' : Int) : Prop :=
  (at_ ≤ crs ∧ cw' = cw ∧ st' = st) ∨ (crs < at_ ∧ (ss = none ∨ ∃ v, ss = some v ∧ cw < v) ∧ cw' = cw + oct ∧ st' = st) ∨
  (crs < at_ ∧ (∃ v, ss = some v ∧ v ≤ cw) ∧ cw' = cw + (st + oct).fdiv cw * mds ∧ st' = st + oct - (st + oct).fdiv cw * cw)
theorem c_acked {pk : Addr} {at_ oct now : Int} {tn : Tok} {Q : Value → Shared → Prop} (F : Fr h₀ L s.heap m) (N : News h₀ L s.heap news) (C : Ctx w mg mb mean base h₀)
    (hr : (reno, instObj 129 dR) ∈ news) (U : UpdF dR (dictOf es n) news g) (D : RenoD es bfl cw mds crs st ss mon) (P : PkIn tl pk at_ oct) (hs : ∀ p ∈ tl, p ∈ news) (ht : ∀ p ∈ tl, p.1 ≠ dR)
    (b1 : 0 ≤ mds) (b2 : mds ≤ 2000) (b3 : 2400 ≤ cw) (b4 : cw ≤ 1000000) (b5 : 0 ≤ st) (b6 : st ≤ 1000000) (b7 : 0 ≤ oct) (b8 : oct ≤ 10000)
    (k : ∀ es' n' h' tk cw' st', AckR at_ oct crs cw st mds ss cw' st' → RenoD es' (bfl - oct) cw' mds crs st' ss mon → Fr h₀ L h' m → News h₀ L h' (g (dictOf es' n')) → Q .none { s with heap := h', toks := tk }) :
    wpAny (model PySem.Challenge.rw_je0001_01.row.prog w) (lawA L fa cd) (call (.ref 91) [.ref reno] [(Str.ofString "now", .int now tn), (Str.ofString "packet", .ref pk)]) Q E s := by
  obtain ⟨B, X, T⟩ := C
  obtain ⟨rest, ho, h1, h2⟩ := updF_use U
  replace N := news_sub N (fun p hp => (h1 p).mp hp)
  have hr' := inst_off ((h1 _).mpr hr)
  obtain ⟨dp, ep, np, q1, q2, ⟨⟨ta, ga⟩, ⟨to, go⟩⟩⟩ := P
  have q1' := inst_off ((h1 _).mpr (hs _ q1))
  have q2' : (dp, dictOf ep np) ∈ rest := (List.mem_cons.mp ((h1 _).mpr (hs _ q2))).resolve_left fun e => ht _ q2 (Prod.mk.inj e).1
  obtain ⟨⟨t1, g1⟩, ⟨t2, g2⟩, ⟨t3, g3⟩, ⟨t4, g4⟩, g5, _, a, b, hl, hb, hss⟩ := id D
  have hl' := D.len
  clear h1 hr q1 q2 hs ht U hl
  refine wpAny_call ?_
  k_dflt k_enter
  rcases hb with ⟨ha, tb, gb⟩ | ⟨ha, gb, hz⟩ <;> rcases hss with ⟨hb, v, tv, hv, gv⟩ | ⟨hb, hv, gv⟩ <;> (try subst hz) <;> k_steps
  all_goals ((rename Fr _ _ _ _ => kF9); (rename News _ _ _ _ => kN9); first
    | exact k _ _ _ _ _ _ (.inl ⟨by assumption, rfl, rfl⟩) D.put_bfl kF9 (news_sub kN9 fun p hp => (h2 _ p).mp hp)
    | exact k _ _ _ _ _ _ (.inr (.inl ⟨by omega, .inr ⟨_, hv, by omega⟩, rfl, rfl⟩)) D.put_bfl.put_cw kF9 (news_sub kN9 fun p hp => (h2 _ p).mp hp)
    | exact k _ _ _ _ _ _ (.inr (.inl ⟨by omega, .inl hv, rfl, rfl⟩)) D.put_bfl.put_cw kF9 (news_sub kN9 fun p hp => (h2 _ p).mp hp)
    | exact k _ _ _ _ _ _ (.inr (.inr ⟨by omega, ⟨_, hv, by omega⟩, rfl, rfl⟩)) D.put_bfl.put_st.put_st.put_cw kF9 (news_sub kN9 fun p hp => (h2 _ p).mp hp)
    | (rename Int.fdiv _ _ = 0 => hq; exact k _ _ _ _ _ _ (.inr (.inr ⟨by omega, ⟨_, hv, by omega⟩, by simp only [hq, Int.zero_mul, Int.add_zero], by simp only [hq, Int.zero_mul, Int.sub_zero]⟩)) D.put_bfl.put_st kF9 (news_sub kN9 fun p hp => (h2 _ p).mp hp)))
end

end
section
local macro_rules | `(tactic| walk_at "no such key") => `(tactic| fail)
theorem back3 : True := by
  w_top off
  trivial
local macro_rules | `(tactic| k_all) => `(tactic| assumption)
local macro_rules | `(tactic| k_get) => `(tactic| ((with_reducible refine (getL_put_ne (by decide +kernel)).trans ?_); k_get))
local macro_rules | `(tactic| k_get) => `(tactic| with_reducible exact getL_put_same)
local macro_rules | `(tactic| k_get) => `(tactic| with_reducible assumption)
local macro_rules | `(tactic| walk_at "setAttr ref") => `(tactic| (k_here; k_dflt (refine' set_dictA ?k1 ?k2 ?k3 ?k4 ?k5 ?k6 ?k7 ?k8 ?k9 ?k10 ?k11 ?k12 ?_; (case k1 => k_asm); (case k2 => k_asm); (case k3 => k_asm); (case k4 => k_inst); (case k5 => exact rfl); (case k6 => k_is); (case k7 => k_is); (case k8 => k_is); (case k9 => k_is); (case k10 => (refine' getL_some ?g; (case g => ((repeat (with_reducible refine (getL_put_ne (by decide +kernel)).trans ?_)); with_reducible first | assumption | exact getL_put_same)))); (case k11 => k_updF); (case k12 => (refine lt_put0 ?_; repeat (first | omega | refine lt_put ?_))); k_whole; intro h' hsh' t' n' F' N'; (try dsimp only at N'); (try k_sweep))))
local macro_rules | `(tactic| k_mem) => `(tactic| ((show (_ : Addr × Obj) ∈ (_ : List (Addr × Obj))); ktr_member))
local macro_rules | `(tactic| walk_at "eval Name") => `(tactic| (k_here; k_dflt (refine' ld ?k1 ?k2 ?_; (case k1 => k_asm); (case k2 => first | with_reducible assumption | ((with_reducible show (ite _ _ _) = _); (repeat (with_reducible refine (if_neg (by decide +kernel)).trans ?_)); with_reducible first | assumption | exact if_pos rfl)); k_whole)))
local macro_rules | `(tactic| walk_at "loadName") => `(tactic| (k_here; k_dflt (refine' ldn ?k1 ?k2 ?_; (case k1 => k_asm); (case k2 => first | with_reducible assumption | ((with_reducible show (ite _ _ _) = _); (repeat (with_reducible refine (if_neg (by decide +kernel)).trans ?_)); with_reducible first | assumption | exact if_pos rfl)); k_whole)))
local macro_rules | `(tactic| walk_at "exec For Name Name cons nil") => `(tactic| refine Stop.mk ?_)
section
variable {w : World} {mg mb : Str → Option Value} {mean : ExcName → Option Value} {base h₀ : Heap} {L fa : Addr} {cd : Value} {s : Shared} {E : Value → Shared → Prop} {m : Str → Option Value} {news tl : List (Addr × Obj)} {g : Obj → List (Addr × Obj)}
  {reno dR mon l : Addr} {es : List DictEntry} {n nn : Nat} {bfl cw mds crs st : Int} {ss : Option Int} {vs : List Value} {rs : List (Int × Int)}
theorem c_expired {Q : Value → Shared → Prop} (F : Fr h₀ L s.heap m) (N : News h₀ L s.heap news) (C : Ctx w mg mb mean base h₀)
    (hr : (reno, instObj 129 dR) ∈ news) (U : UpdF dR (dictOf es n) news g) (D : RenoD es bfl cw mds crs st ss mon) (hl : (l, listOf vs.toArray nn) ∈ news) (hld : @Ne Nat l dR) (P : PksIn tl vs rs) (hs : ∀ p ∈ tl, p ∈ news) (ht : ∀ p ∈ tl, p.1 ≠ dR)
    (k : ∀ es' n' h' tk, RenoD es' (bfl - sumO rs) cw mds crs st ss mon → Fr h₀ L h' m → News h₀ L h' (g (dictOf es' n')) → Q .none { s with heap := h', toks := tk }) :
    wpAny (model PySem.Challenge.rw_je0001_01.row.prog w) (lawA L fa cd) (call (.ref 105) [.ref reno] [(Str.ofString "packets", .ref l)]) Q E s := by
  obtain ⟨B, X, T⟩ := C
  obtain ⟨rest, ho, h1, h2⟩ := updF_use U
  replace N := news_sub N (fun p hp => (h1 p).mp hp)
  have hr' := inst_off ((h1 _).mpr hr)
  have hs' : ∀ p ∈ tl, p ∈ rest := fun p hp => (List.mem_cons.mp ((h1 _).mpr (hs _ hp))).resolve_left fun e => ht _ hp (by rw [e])
  have hl' : (l, listOf vs.toArray nn) ∈ rest := (List.mem_cons.mp ((h1 _).mpr hl)).resolve_left fun e => hld (Prod.mk.inj e).1
  clear h1 hr hs ht U hl hld
  refine wpAny_call ?_
  k_dflt k_enter
  k_steps
  show wpAny _ _ _ _ _ _
  (rename Fr _ _ _ _ => lF)
  (rename News _ _ _ _ => lN)
  refine For_invVF lF rfl rfl ?_
  walk1
  refine loopD (fun i es' m' => RenoD es' (bfl - sumO (rs.take i)) cw mds crs st ss mon ∧ m' (Str.ofString "self") = some (.ref reno)) rfl hl' lF lN ⟨by simpa [sumO] using D, by exact rfl⟩ ho ?_ ?_
  · clear lF lN N F ho
    intro i v m₁ es₁ n₁ rest₁ h tk Qt hv hsub hoff ⟨D₁, hself⟩ F₁ N₁ kk
    dsimp only [envOf] at F₁ N₁ kk
    obtain ⟨pk, a₀, o₀, rfl, ⟨dp, ep, np, q1, q2, ⟨ta, ga⟩, ⟨to, go⟩⟩, hri⟩ := P.get hv
    replace q1 := hsub _ (hs' _ q1)
    replace q2 := hsub _ (hs' _ q2)
    replace hr' := hsub _ hr'
    rw [sumO_take hri, show bfl - (sumO (rs.take i) + o₀) = bfl - sumO (rs.take i) - o₀ by omega] at kk
    obtain ⟨a, b, hl, hb, hss⟩ := id D₁.opt
    have hl' := D₁.len
    rcases hb with ⟨ha, tb, gb⟩ | ⟨ha, gb, hz⟩
    · k_steps
      (rename Fr _ _ _ _ => kF9)
      (rename News _ _ _ _ => kN9)
      exact kk _ _ _ _ _ ⟨D₁.put_bfl, (by exact hself)⟩ kF9 kN9
    · rw [hz] at kk
      k_steps
      (rename Fr _ _ _ _ => kF9)
      (rename News _ _ _ _ => kN9)
      exact kk _ _ _ _ _ ⟨D₁.put_bfl, (by exact hself)⟩ kF9 kN9
  · clear lF lN N F
    intro m₁ es₁ n₁ h tk ⟨D₁, hself⟩ F₁ N₁
    rw [P.length, List.take_length] at D₁
    k_steps
    exact k _ _ _ _ D₁ (by k_asm) (news_sub (by k_asm) fun p hp => (h2 _ p).mp hp)
end

end
section
local macro_rules | `(tactic| walk_at "no such key") => `(tactic| fail)
local macro_rules | `(tactic| walk_at "no such key") => `(tactic| fail)
theorem back4 : True := by
  w_top off
  trivial
local macro_rules | `(tactic| k_all) => `(tactic| assumption)
local macro_rules | `(tactic| k_get) => `(tactic| ((with_reducible refine (getL_put_ne (by decide +kernel)).trans ?_); k_get))
local macro_rules | `(tactic| k_get) => `(tactic| with_reducible exact getL_put_same)
local macro_rules | `(tactic| k_get) => `(tactic| with_reducible assumption)
local macro_rules | `(tactic| walk_at "setAttr ref") => `(tactic| (k_here; k_dflt (refine' set_dictA ?k1 ?k2 ?k3 ?k4 ?k5 ?k6 ?k7 ?k8 ?k9 ?k10 ?k11 ?k12 ?_; (case k1 => k_asm); (case k2 => k_asm); (case k3 => k_asm); (case k4 => k_inst); (case k5 => exact rfl); (case k6 => k_is); (case k7 => k_is); (case k8 => k_is); (case k9 => k_is); (case k10 => (refine' getL_some ?g; (case g => ((repeat (with_reducible refine (getL_put_ne (by decide +kernel)).trans ?_)); with_reducible first | assumption | exact getL_put_same)))); (case k11 => k_updF); (case k12 => (refine lt_put0 ?_; repeat (first | omega | refine lt_put ?_))); k_whole; intro h' hsh' t' n' F' N'; (try dsimp only at N'); (try k_sweep))))
local macro_rules | `(tactic| k_mem) => `(tactic| ((show (_ : Addr × Obj) ∈ (_ : List (Addr × Obj))); ktr_member))
local macro_rules | `(tactic| walk_at "eval Name") => `(tactic| (k_here; k_dflt (refine' ld ?k1 ?k2 ?_; (case k1 => k_asm); (case k2 => first | with_reducible assumption | ((with_reducible show (ite _ _ _) = _); (repeat (with_reducible refine (if_neg (by decide +kernel)).trans ?_)); with_reducible first | assumption | exact if_pos rfl)); k_whole)))
local macro_rules | `(tactic| walk_at "loadName") => `(tactic| (k_here; k_dflt (refine' ldn ?k1 ?k2 ?_; (case k1 => k_asm); (case k2 => first | with_reducible assumption | ((with_reducible show (ite _ _ _) = _); (repeat (with_reducible refine (if_neg (by decide +kernel)).trans ?_)); with_reducible first | assumption | exact if_pos rfl)); k_whole)))
local macro_rules | `(tactic| walk_at "exec For Name Name cons nil") => `(tactic| refine Stop.mk ?_)
def LostR (t crs now cw mds : Int) (ss : Option Int) (crs' cw' : Int) (ss' : Option Int) : Prop :=
  (crs < t ∧ crs' = now ∧ cw' = (if 2 * mds > cw.fdiv 2 then 2 * mds else cw.fdiv 2) ∧ ss' = some cw') ∨ (t ≤ crs ∧ crs' = crs ∧ cw' = cw ∧ ss' = ss)
section
variable {w : World} {mg mb : Str → Option Value} {mean : ExcName → Option Value} {base h₀ : Heap} {L fa : Addr} {cd : Value} {s : Shared} {E : Value → Shared → Prop} {m : Str → Option Value} {news tl : List (Addr × Obj)} {g : Obj → List (Addr × Obj)}
  {reno dR mon l : Addr} {es : List DictEntry} {n nn : Nat} {bfl cw mds crs st : Int} {ss : Option Int} {vs : List Value} {rs : List (Int × Int)}
theorem c_lost {now : Int} {tn : Tok} {Q : Value → Shared → Prop} (F : Fr h₀ L s.heap m) (N : News h₀ L s.heap news) (C : Ctx w mg mb mean base h₀)
    (hr : (reno, instObj 129 dR) ∈ news) (U : UpdF dR (dictOf es n) news g) (D : RenoD es bfl cw mds crs st ss mon) (hl : (l, listOf vs.toArray nn) ∈ news) (hld : @Ne Nat l dR) (P : PksIn tl vs rs) (hs : ∀ p ∈ tl, p ∈ news) (ht : ∀ p ∈ tl, p.1 ≠ dR)
    (b1 : 0 ≤ mds) (b2 : mds ≤ 2000) (b3 : 2400 ≤ cw) (b4 : cw ≤ 1000000)
    (k : ∀ es' n' h' tk crs' cw' ss', LostR (lastT rs) crs now cw mds ss crs' cw' ss' → RenoD es' (bfl - sumO rs) cw' mds crs' st ss' mon → Fr h₀ L h' m → News h₀ L h' (g (dictOf es' n')) → Q .none { s with heap := h', toks := tk }) :
    wpAny (model PySem.Challenge.rw_je0001_01.row.prog w) (lawA L fa cd) (call (.ref 112) [.ref reno] [(Str.ofString "now", .int now tn), (Str.ofString "packets", .ref l)]) Q E s := by
  obtain ⟨B, X, T⟩ := C
  obtain ⟨rest, ho, h1, h2⟩ := updF_use U
  replace N := news_sub N (fun p hp => (h1 p).mp hp)
  have hr' := inst_off ((h1 _).mpr hr)
  have hs' : ∀ p ∈ tl, p ∈ rest := fun p hp => (List.mem_cons.mp ((h1 _).mpr (hs _ hp))).resolve_left fun e => ht _ hp (by rw [e])
  have hl' : (l, listOf vs.toArray nn) ∈ rest := (List.mem_cons.mp ((h1 _).mpr hl)).resolve_left fun e => hld (Prod.mk.inj e).1
  clear h1 hr hs ht U hl hld
  refine wpAny_call ?_
  k_dflt k_enter
  k_steps
  show wpAny _ _ _ _ _ _
  (rename Fr _ _ _ _ => lF)
  (rename News _ _ _ _ => lN)
  refine For_invVF lF rfl rfl ?_
  walk1
  refine loopD (fun i es' m' => RenoD es' (bfl - sumO (rs.take i)) cw mds crs st ss mon ∧ m' (Str.ofString "self") = some (.ref reno) ∧ m' (Str.ofString "now") = some (.int now tn) ∧ ∃ t, m' (Str.ofString "lost_largest_time") = some (.int (lastT (rs.take i)) t)) rfl hl' lF lN ⟨by simpa [sumO] using D, by exact rfl, by exact rfl, ⟨_, by exact rfl⟩⟩ ho ?_ ?_
  · clear lF lN N F ho
    intro i v m₁ es₁ n₁ rest₁ h tk Qt hv hsub hoff ⟨D₁, hself, hnow, tt, hlast⟩ F₁ N₁ kk
    dsimp only [envOf] at F₁ N₁ kk
    obtain ⟨pk, a₀, o₀, rfl, ⟨dp, ep, np, q1, q2, ⟨ta, ga⟩, ⟨to, go⟩⟩, hri⟩ := P.get hv
    replace q1 := hsub _ (hs' _ q1)
    replace q2 := hsub _ (hs' _ q2)
    replace hr' := hsub _ hr'
    rw [sumO_take hri, lastT_take hri, show bfl - (sumO (rs.take i) + o₀) = bfl - sumO (rs.take i) - o₀ by omega] at kk
    obtain ⟨a, b, hl, hb, hss⟩ := id D₁.opt
    have hl' := D₁.len
    rcases hb with ⟨ha, tb, gb⟩ | ⟨ha, gb, hz⟩
    · k_steps
      (rename Fr _ _ _ _ => kF9)
      (rename News _ _ _ _ => kN9)
      exact kk _ _ _ _ _ ⟨D₁.put_bfl, (by exact hself), (by exact hnow), ⟨_, (by exact rfl)⟩⟩ kF9 kN9
    · rw [hz] at kk
      k_steps
      (rename Fr _ _ _ _ => kF9)
      (rename News _ _ _ _ => kN9)
      exact kk _ _ _ _ _ ⟨D₁.put_bfl, (by exact hself), (by exact hnow), ⟨_, (by exact rfl)⟩⟩ kF9 kN9
  · clear lF lN N F
    intro m₁ es₁ n₁ h tk ⟨D₁, hself, hnow, tt, hlast⟩ F₁ N₁
    rw [P.length, List.take_length] at D₁ hlast
    dsimp only [envOf] at F₁ N₁
    obtain ⟨⟨t1, g1⟩, ⟨t2, g2⟩, ⟨t3, g3⟩, ⟨t4, g4⟩, g5, _, a, b, hl, hb, hss⟩ := id D₁
    have hl' := D₁.len
    rcases hss with ⟨hb, v, tv, hv, gv⟩ | ⟨hb, hv, gv⟩ <;> k_steps
    all_goals ((rename Fr _ _ _ _ => kF9); (rename News _ _ _ _ => kN9); first
      | exact k _ _ _ _ _ _ _ (.inr ⟨by omega, rfl, rfl, rfl⟩) D₁ kF9 (news_sub kN9 fun p hp => (h2 _ p).mp hp)
      | exact k _ _ _ _ _ _ _ (.inl ⟨by assumption, rfl, rfl, rfl⟩) D₁.put_crs.put_cw.put_ss kF9 (news_sub kN9 fun p hp => (h2 _ p).mp hp))
end

end
section
local macro_rules | `(tactic| walk_at "no such key") => `(tactic| fail)
local macro_rules | `(tactic| walk_at "no such key") => `(tactic| fail)
theorem back5 : True := by
  w_top off
  trivial
local macro_rules | `(tactic| k_all) => `(tactic| assumption)
local macro_rules | `(tactic| k_get) => `(tactic| ((with_reducible refine (getL_put_ne (by decide +kernel)).trans ?_); k_get))
local macro_rules | `(tactic| k_get) => `(tactic| with_reducible exact getL_put_same)
local macro_rules | `(tactic| k_get) => `(tactic| with_reducible assumption)
local macro_rules | `(tactic| walk_at "setAttr ref") => `(tactic| (k_here; k_dflt (refine' set_dictA ?k1 ?k2 ?k3 ?k4 ?k5 ?k6 ?k7 ?k8 ?k9 ?k10 ?k11 ?k12 ?_; (case k1 => k_asm); (case k2 => k_asm); (case k3 => k_asm); (case k4 => k_inst); (case k5 => exact rfl); (case k6 => k_is); (case k7 => k_is); (case k8 => k_is); (case k9 => k_is); (case k10 => (refine' getL_some ?g; (case g => ((repeat (with_reducible refine (getL_put_ne (by decide +kernel)).trans ?_)); with_reducible first | assumption | exact getL_put_same)))); (case k11 => k_updF); (case k12 => (refine lt_put0 ?_; repeat (first | omega | refine lt_put ?_))); k_whole; intro h' hsh' t' n' F' N'; (try dsimp only at N'); (try k_sweep))))
local macro_rules | `(tactic| k_mem) => `(tactic| ((show (_ : Addr × Obj) ∈ (_ : List (Addr × Obj))); ktr_member))
local macro_rules | `(tactic| walk_at "eval Name") => `(tactic| (k_here; k_dflt (refine' ld ?k1 ?k2 ?_; (case k1 => k_asm); (case k2 => first | with_reducible assumption | ((with_reducible show (ite _ _ _) = _); (repeat (with_reducible refine (if_neg (by decide +kernel)).trans ?_)); with_reducible first | assumption | exact if_pos rfl)); k_whole)))
local macro_rules | `(tactic| walk_at "loadName") => `(tactic| (k_here; k_dflt (refine' ldn ?k1 ?k2 ?_; (case k1 => k_asm); (case k2 => first | with_reducible assumption | ((with_reducible show (ite _ _ _) = _); (repeat (with_reducible refine (if_neg (by decide +kernel)).trans ?_)); with_reducible first | assumption | exact if_pos rfl)); k_whole)))
local macro_rules | `(tactic| walk_at "exec For Name Subscript cons nil") => `(tactic| refine Stop.mk ?_)
local macro_rules | `(tactic| walk_at "pyIter ref") => `(tactic| refine Stop.mk ?_)
def stepMM (p : Int × Int) (x : Int) : Int × Int := if x < p.1 then (x, p.2) else if p.2 < x then (p.1, x) else p
def mmOf (sl : List Int) : Int × Int := (sl.drop 1).foldl stepMM (sl.getD 0 0, sl.getD 0 0)
theorem fold_take {l : List Int} {p : Int × Int} {i : Nat} {x : Int} (h : l[i]? = some x) : (l.take (i + 1)).foldl stepMM p = stepMM ((l.take i).foldl stepMM p) x := by
  rw [List.take_add_one, h]; simp
theorem intsAre_get {vs : List Value} {ns : List Int} (h : IntsAre vs ns) {i : Nat} {v : Value} (hv : vs[i]? = some v) : ∃ x t, v = .int x t ∧ ns[i]? = some x := by
  have hi : i < ns.length := by rw [← h.length]; exact (List.getElem?_eq_some_iff.mp hv).1
  obtain ⟨t, hx⟩ := h.get i (ns[i]'hi) (List.getElem?_eq_getElem hi)
  rw [hx] at hv
  exact ⟨_, t, (Option.some.inj hv).symm, List.getElem?_eq_getElem hi⟩
section
variable {w : World} {mg mb : Str → Option Value} {mean : ExcName → Option Value} {s : Shared} {m : Str → Option Value} {rest : List (Addr × Obj)}
  {dM mon smp : Addr} {em : List DictEntry} {n ns : Nat} {inc idx stime rtt : Int} {ready : Bool} {fm : Option Int} {mx mn : Value} {sv : List Value} {sl : List Int} {tr : Tok}
theorem c_add {dp un : Nat} {gd : Option (List Code)} {cn : Str} {cs : Scope} {a : Addr} {ccd : Value} {cl : List (Str × Addr)} {outer : List Env} {A₀ : Around} {base h₀ : Heap} {L : Addr} {Q E : Value → Shared → Prop}
    (B : Below A₀ base outer h₀) (F : Fr h₀ L s.heap m) (X : (hd.heap_1 w.params).In h₀) (N : News h₀ L s.heap ((dM, dictOf em n) :: (smp, listOf sv.toArray ns) :: rest))
    (T : Top vw (looseW vw [Str.ofString "QuicCongestionControl", Str.ofString "QuicPacketType", Str.ofString "Epoch"]) mean mg mb h₀) (hk : cs.kind = .function) (hdp : dp + 9 < recursionLimit) (hun : un + 80 < cLine)
    (hm : (mon, instObj 64 dM) ∈ rest) (D : MonD em inc idx stime ready fm smp mx mn) (hI : IntsAre sv sl) (hlen : sl.length = 5) (hx0 : 0 ≤ idx) (hx1 : idx < 5)
    (o1 : ∀ p ∈ rest, p.1 ≠ dM) (o2 : ∀ p ∈ rest, p.1 ≠ smp) (o3 : @Ne Nat dM smp)
    (k : ∀ em' n' (sv' : List Value) ns' h' tk (ready' : Bool) (mx' mn' : Value), (ready' = (ready || decide (5 ≤ idx + 1))) → (ready' = true → ∃ t1 t2, mx' = .int (mmOf (sl.set idx.toNat rtt)).2 t1 ∧ mn' = .int (mmOf (sl.set idx.toNat rtt)).1 t2) →
      MonD em' inc (if 5 ≤ idx + 1 then 0 else idx + 1) stime ready' fm smp mx' mn' → IntsAre sv' (sl.set idx.toNat rtt) → Fr h₀ L h' m → News h₀ L h' ((dM, dictOf em' n') :: (smp, listOf sv'.toArray ns') :: rest) → Q .none { s with heap := h', toks := tk }) :
    wpAny (model PySem.Challenge.rw_je0001_01.row.prog w) (ktrTop dp un gd cn cs L a ccd cl outer) (call (.ref 54) [.ref mon] [(Str.ofString "rtt", .int rtt tr)]) Q E s := by
  obtain ⟨⟨t1, g1⟩, g2, ⟨t3, g3⟩, _, ⟨t5, g5⟩, g6, g7, ⟨t8, g8⟩, g9, _, hl'⟩ := id D
  refine wpAny_call ?_
  k_dflt cell_enter
  k_steps
  all_goals (first
    | (show wpAny _ _ _ _ _ _
       (try ((rename (ready = true) => hrd); subst hrd))
       (rename Fr _ _ _ _ => lF)
       refine For_invVF lF rfl rfl ?_
       k_steps
       show wpAny _ _ _ _ _ _
       (rename Fr _ _ _ _ => lF)
       (rename News _ _ _ _ => lN)
       (rename IntsAre _ (List.drop _ _) => hI2)
       (rename ((@LT.lt Nat _ _ _) ∧ _) => l9)
       refine loopD (dR := dM) (fun i es' m' => ∃ t1 t2, MonD es' inc (if 5 ≤ idx + 1 then 0 else idx + 1) stime true fm smp
         (.int ((((sl.set idx.toNat rtt).drop 1).take i).foldl stepMM ((sl.set idx.toNat rtt).getD 0 0, (sl.set idx.toNat rtt).getD 0 0)).2 t1)
         (.int ((((sl.set idx.toNat rtt).drop 1).take i).foldl stepMM ((sl.set idx.toNat rtt).getD 0 0, (sl.set idx.toNat rtt).getD 0 0)).1 t2) ∧ m' (Str.ofString "self") = some (.ref mon)) rfl (.head _) lF (news_swap lN) ?_ (off_cons (by omega) (off_cons (by omega) o1)) ?_ ?_
       · first
           | exact ⟨_, _, (by rw [if_pos (by omega)]; exact D.put_idx.put_idx.put_rdy.put_mx.put_mn), (by exact rfl)⟩
           | exact ⟨_, _, (by rw [if_neg (by omega)]; exact D.put_idx.put_mx.put_mn), (by exact rfl)⟩
       · clear lF lN N F k
         intro i v m₁ es₁ n₁ rest₁ h tk Qt hv hsub hoff ⟨u1, u2, D₁, hself⟩ F₁ N₁ kk
         dsimp only [envOf] at F₁ N₁ kk
         obtain ⟨x, tx, rfl, hx⟩ := intsAre_get hI2 hv
         rw [fold_take hx] at kk
         have hm' := hsub _ (.tail _ (.tail _ hm))
         generalize List.foldl stepMM _ _ = pp at D₁ kk
         obtain ⟨p1, p2⟩ := pp
         dsimp only at D₁ kk
         obtain ⟨⟨t1, g1⟩, g2, ⟨t3, g3⟩, _, ⟨t5, g5⟩, g6, g7, ⟨t8, g8⟩, g9, _, hl'⟩ := id D₁
         by_cases c1 : x < p1
         · rw [show stepMM (p1, p2) x = (x, p2) by simp [stepMM, c1]] at kk
           k_steps
           (rename Fr _ _ _ _ => kF9)
           (rename News _ _ _ _ => kN9)
           exact kk _ _ _ _ _ ⟨_, _, D₁.put_mn, (by exact hself)⟩ kF9 kN9
         · by_cases c2 : p2 < x
           · rw [show stepMM (p1, p2) x = (p1, x) by simp [stepMM, c1, c2]] at kk
             k_steps
             (rename Fr _ _ _ _ => kF9)
             (rename News _ _ _ _ => kN9)
             exact kk _ _ _ _ _ ⟨_, _, D₁.put_mx, (by exact hself)⟩ kF9 kN9
           · rw [show stepMM (p1, p2) x = (p1, p2) by simp [stepMM, c1, c2]] at kk
             k_steps
             exact kk _ _ _ _ _ ⟨_, _, D₁, (by exact hself)⟩ F₁ N₁
       · clear lF lN N F
         intro m₁ es₁ n₁ h tk ⟨u1, u2, D₁, hself⟩ F₁ N₁
         rw [hI2.length, List.take_length] at D₁
         dsimp only [envOf] at F₁ N₁
         (rename IntsAre _ (List.set _ _ _) => hI3)
         k_steps
         (rename Fr _ _ _ _ => kF9)
         (rename News _ _ _ _ => kN9)
         exact k _ _ _ _ _ _ _ _ _ (by first | (simp; done) | (simp; omega)) (fun _ => ⟨_, _, rfl, rfl⟩) D₁ hI3 kF9 (news_drop1 (news_swap kN9)))
    | skip)
  (rename IntsAre _ (List.set _ _ _) => hI3)
  (rename (ready = false) => hrd)
  subst hrd
  (rename Fr _ _ _ _ => kF9)
  (rename News _ _ _ _ => kN9)
  exact k _ _ _ _ _ _ false _ _ (by simp; omega) (fun e => nomatch e) (by rw [if_neg (by omega)]; exact D.put_idx) hI3 kF9 kN9
end

end
section
local macro_rules | `(tactic| walk_at "no such key") => `(tactic| fail)
local macro_rules | `(tactic| walk_at "no such key") => `(tactic| fail)
local macro_rules | `(tactic| walk_at "no such key") => `(tactic| fail)
local macro_rules | `(tactic| walk_at "no such key") => `(tactic| fail)
theorem back6 : True := by
  w_top off
  trivial
local macro_rules | `(tactic| k_all) => `(tactic| assumption)
local macro_rules | `(tactic| k_get) => `(tactic| ((with_reducible refine (getL_put_ne (by decide +kernel)).trans ?_); k_get))
local macro_rules | `(tactic| k_get) => `(tactic| with_reducible exact getL_put_same)
local macro_rules | `(tactic| k_get) => `(tactic| with_reducible assumption)
local macro_rules | `(tactic| walk_at "setAttr ref") => `(tactic| (k_here; k_dflt (refine' set_dictA ?k1 ?k2 ?k3 ?k4 ?k5 ?k6 ?k7 ?k8 ?k9 ?k10 ?k11 ?k12 ?_; (case k1 => k_asm); (case k2 => k_asm); (case k3 => k_asm); (case k4 => k_inst); (case k5 => exact rfl); (case k6 => k_is); (case k7 => k_is); (case k8 => k_is); (case k9 => k_is); (case k10 => (refine' getL_some ?g; (case g => ((repeat (with_reducible refine (getL_put_ne (by decide +kernel)).trans ?_)); with_reducible first | assumption | exact getL_put_same)))); (case k11 => k_updF); (case k12 => (refine lt_put0 ?_; repeat (first | omega | refine lt_put ?_))); k_whole; intro h' hsh' t' n' F' N'; (try dsimp only at N'); (try k_sweep))))
local macro_rules | `(tactic| k_mem) => `(tactic| ((show (_ : Addr × Obj) ∈ (_ : List (Addr × Obj))); ktr_member))
local macro_rules | `(tactic| walk_at "eval Name") => `(tactic| (k_here; k_dflt (refine' ld ?k1 ?k2 ?_; (case k1 => k_asm); (case k2 => first | with_reducible assumption | ((with_reducible show (ite _ _ _) = _); (repeat (with_reducible refine (if_neg (by decide +kernel)).trans ?_)); with_reducible first | assumption | exact if_pos rfl)); k_whole)))
local macro_rules | `(tactic| walk_at "loadName") => `(tactic| (k_here; k_dflt (refine' ldn ?k1 ?k2 ?_; (case k1 => k_asm); (case k2 => first | with_reducible assumption | ((with_reducible show (ite _ _ _) = _); (repeat (with_reducible refine (if_neg (by decide +kernel)).trans ?_)); with_reducible first | assumption | exact if_pos rfl)); k_whole)))
local macro_rules | `(tactic| walk_at "call ref") => `(tactic| (k_here; (with_reducible show wpAny _ _ (call (Value.ref 54) _ _) _ _ _); k_dflt (refine' c_add ?k1 ?k2 ?k3 ?k4 ?k5 ?k6 ?k7 ?k8 ?k9 ?k10 ?k11 ?k12 ?k13 ?k14 ?k15 ?k16 ?k17 ?_; (case k1 => k_asm); (case k2 => k_asm); (case k3 => k_asm); (case k4 => k_asm); (case k5 => k_asm); (case k6 => exact rfl); (case k7 => first | decide | k_room); (case k8 => k_units); (case k9 => k_mem); (case k10 => assumption); (case k11 => assumption); (case k12 => assumption); (case k13 => assumption); (case k14 => assumption); (case k15 => exact off_cons (by omega) (by assumption)); (case k16 => exact off_cons (by omega) (by assumption)); (case k17 => assumption); k_whole; intro em9 n9 sv9 ns9 h9 tk9 rd9 mx9 mn9 e9 b9 D9 I9 F9 N9; refine Stop.mk ?_)))
structure Mon where
  inc : Int
  idx : Int
  stime : Int
  ready : Bool
  fm : Option Int
  sl : List Int
def Mon.floor (M : Mon) (mm : Int × Int) : Int := match M.fm with
  | none => mm.2
  | some f => if mm.2 < f then mm.2 else f
def Mon.turn (M : Mon) (now rtt : Int) : Mon × Bool :=
  if M.stime + 1000 < now then
    let sl' := M.sl.set M.idx.toNat rtt
    let idx' := if 5 ≤ M.idx + 1 then 0 else M.idx + 1
    let rd' := M.ready || decide (5 ≤ M.idx + 1)
    if rd' = true then
      let mm := mmOf sl'
      let f := M.floor mm
      if f ≤ (mm.1 - f) * 4 then ({ inc := M.inc + 1, idx := idx', stime := now, ready := rd', fm := some f, sl := sl' }, decide (5 ≤ M.inc + 1))
      else if 0 < mm.1 - f then ({ inc := 0, idx := idx', stime := now, ready := rd', fm := some f, sl := sl' }, false)
      else ({ inc := M.inc, idx := idx', stime := now, ready := rd', fm := some f, sl := sl' }, false)
    else ({ inc := M.inc, idx := idx', stime := now, ready := rd', fm := M.fm, sl := sl' }, false)
  else (M, false)
theorem fold_bd : ∀ (l : List Int) (p : Int × Int), (∀ x ∈ l, 0 ≤ x ∧ x ≤ 20000) → (0 ≤ p.1 ∧ p.1 ≤ 20000 ∧ 0 ≤ p.2 ∧ p.2 ≤ 20000) → 0 ≤ (l.foldl stepMM p).1 ∧ (l.foldl stepMM p).1 ≤ 20000 ∧ 0 ≤ (l.foldl stepMM p).2 ∧ (l.foldl stepMM p).2 ≤ 20000
  | [], p, _, hp => hp
  | x :: r, p, h, hp => by
    have hx := h x (.head _)
    refine fold_bd r _ (fun y hy => h y (.tail _ hy)) ?_
    unfold stepMM
    split
    · exact ⟨hx.1, hx.2, hp.2.2.1, hp.2.2.2⟩
    · split
      · exact ⟨hp.1, hp.2.1, hx.1, hx.2⟩
      · exact hp
theorem mm_bd {l : List Int} (h : ∀ x ∈ l, 0 ≤ x ∧ x ≤ 20000) : 0 ≤ (mmOf l).1 ∧ (mmOf l).1 ≤ 20000 ∧ 0 ≤ (mmOf l).2 ∧ (mmOf l).2 ≤ 20000 := by
  have h0 : 0 ≤ l.getD 0 0 ∧ l.getD 0 0 ≤ 20000 := by
    cases l with
    | nil => exact ⟨by decide, by decide⟩
    | cons a r => exact h a (.head _)
  exact fold_bd _ _ (fun x hx => h x (List.mem_of_mem_drop hx)) ⟨h0.1, h0.2, h0.1, h0.2⟩
theorem set_bd {l : List Int} {i : Nat} {r : Int} (h : ∀ x ∈ l, 0 ≤ x ∧ x ≤ 20000) (hr : 0 ≤ r ∧ r ≤ 20000) : ∀ x ∈ l.set i r, 0 ≤ x ∧ x ≤ 20000 := by
  intro x hx
  rcases List.mem_or_eq_of_mem_set hx with hx | rfl
  · exact h x hx
  · exact hr
section
variable {inc idx stime now rtt f : Int} {ready : Bool} {fm : Option Int} {sl : List Int} {mm : Int × Int}
theorem turn_no (h1 : ¬ stime + 1000 < now) : Mon.turn ⟨inc, idx, stime, ready, fm, sl⟩ now rtt = (⟨inc, idx, stime, ready, fm, sl⟩, false) := by
  unfold Mon.turn; rw [if_neg h1]
theorem turn_un (h1 : stime + 1000 < now) (h2 : false = (ready || decide (5 ≤ idx + 1))) : Mon.turn ⟨inc, idx, stime, ready, fm, sl⟩ now rtt = (⟨inc, (if 5 ≤ idx + 1 then 0 else idx + 1), now, false, fm, sl.set idx.toNat rtt⟩, false) := by
  unfold Mon.turn; rw [if_pos h1]; dsimp only; rw [← h2]; rfl
theorem turn_A (h1 : stime + 1000 < now) (h2 : true = (ready || decide (5 ≤ idx + 1))) (hm : mmOf (sl.set idx.toNat rtt) = mm) (hf : Mon.floor ⟨inc, idx, stime, ready, fm, sl⟩ mm = f) (h3 : f ≤ (mm.1 - f) * 4) :
    Mon.turn ⟨inc, idx, stime, ready, fm, sl⟩ now rtt = (⟨inc + 1, (if 5 ≤ idx + 1 then 0 else idx + 1), now, true, some f, sl.set idx.toNat rtt⟩, decide (5 ≤ inc + 1)) := by
  unfold Mon.turn; rw [if_pos h1]; dsimp only; rw [← h2, hm, hf]; rw [if_pos rfl, if_pos h3]
theorem turn_A1 (h1 : stime + 1000 < now) (h2 : true = (ready || decide (5 ≤ idx + 1))) (hm : mmOf (sl.set idx.toNat rtt) = mm) (hf : Mon.floor ⟨inc, idx, stime, ready, fm, sl⟩ mm = f) (h3 : f ≤ (mm.1 - f) * 4) (h5 : 5 ≤ inc + 1) :
    Mon.turn ⟨inc, idx, stime, ready, fm, sl⟩ now rtt = (⟨inc + 1, (if 5 ≤ idx + 1 then 0 else idx + 1), now, true, some f, sl.set idx.toNat rtt⟩, true) := by
  rw [turn_A h1 h2 hm hf h3, decide_eq_true h5]
theorem turn_A0 (h1 : stime + 1000 < now) (h2 : true = (ready || decide (5 ≤ idx + 1))) (hm : mmOf (sl.set idx.toNat rtt) = mm) (hf : Mon.floor ⟨inc, idx, stime, ready, fm, sl⟩ mm = f) (h3 : f ≤ (mm.1 - f) * 4) (h5 : ¬ 5 ≤ inc + 1) :
    Mon.turn ⟨inc, idx, stime, ready, fm, sl⟩ now rtt = (⟨inc + 1, (if 5 ≤ idx + 1 then 0 else idx + 1), now, true, some f, sl.set idx.toNat rtt⟩, false) := by
  rw [turn_A h1 h2 hm hf h3, decide_eq_false h5]
theorem turn_B (h1 : stime + 1000 < now) (h2 : true = (ready || decide (5 ≤ idx + 1))) (hm : mmOf (sl.set idx.toNat rtt) = mm) (hf : Mon.floor ⟨inc, idx, stime, ready, fm, sl⟩ mm = f) (h3 : ¬ f ≤ (mm.1 - f) * 4) (h4 : 0 < mm.1 - f) :
    Mon.turn ⟨inc, idx, stime, ready, fm, sl⟩ now rtt = (⟨0, (if 5 ≤ idx + 1 then 0 else idx + 1), now, true, some f, sl.set idx.toNat rtt⟩, false) := by
  unfold Mon.turn; rw [if_pos h1]; dsimp only; rw [← h2, hm, hf]; rw [if_pos rfl, if_neg h3, if_pos h4]
theorem turn_C (h1 : stime + 1000 < now) (h2 : true = (ready || decide (5 ≤ idx + 1))) (hm : mmOf (sl.set idx.toNat rtt) = mm) (hf : Mon.floor ⟨inc, idx, stime, ready, fm, sl⟩ mm = f) (h3 : ¬ f ≤ (mm.1 - f) * 4) (h4 : ¬ 0 < mm.1 - f) :
    Mon.turn ⟨inc, idx, stime, ready, fm, sl⟩ now rtt = (⟨inc, (if 5 ≤ idx + 1 then 0 else idx + 1), now, true, some f, sl.set idx.toNat rtt⟩, false) := by
  unfold Mon.turn; rw [if_pos h1]; dsimp only; rw [← h2, hm, hf]; rw [if_pos rfl, if_neg h3, if_neg h4]
end
section
variable {w : World} {mg mb : Str → Option Value} {mean : ExcName → Option Value} {base h₀ : Heap} {L fa : Addr} {cd : Value} {s : Shared} {E : Value → Shared → Prop} {m : Str → Option Value} {rest : List (Addr × Obj)}
  {reno dR mon dM smp : Addr} {es em : List DictEntry} {n nM ns : Nat} {bfl cw mds crs st : Int} {ss : Option Int} {M : Mon} {mx mn : Value} {sv : List Value}
theorem c_rtt {now rtt : Int} {tn tr : Tok} {Q : Value → Shared → Prop} (F : Fr h₀ L s.heap m) (N : News h₀ L s.heap ((dM, dictOf em nM) :: (smp, listOf sv.toArray ns) :: (dR, dictOf es n) :: rest)) (C : Ctx w mg mb mean base h₀)
    (hr : (reno, instObj 129 dR) ∈ rest) (hm : (mon, instObj 64 dM) ∈ rest) (D : RenoD es bfl cw mds crs st ss mon) (DM : MonD em M.inc M.idx M.stime M.ready M.fm smp mx mn) (hI : IntsAre sv M.sl) (hlen : M.sl.length = 5) (hx0 : 0 ≤ M.idx) (hx1 : M.idx < 5)
    (hsl : ∀ x ∈ M.sl, 0 ≤ x ∧ x ≤ 20000) (hfm : ∀ f, M.fm = some f → 0 ≤ f ∧ f ≤ 20000) (hrtt : 0 ≤ rtt ∧ rtt ≤ 20000)
    (o1 : ∀ p ∈ rest, p.1 ≠ dM) (o2 : ∀ p ∈ rest, p.1 ≠ smp) (o3 : ∀ p ∈ rest, p.1 ≠ dR) (o4 : @Ne Nat dM smp) (o5 : @Ne Nat dM dR) (o6 : @Ne Nat smp dR)
    (k : ∀ em' nM' (sv' : List Value) ns' es' n' h' tk (ss' : Option Int) (M' : Mon) (b : Bool) (mx' mn' : Value), ((ss = none ∧ M.turn now rtt = (M', b) ∧ ss' = (if b = true then some cw else none)) ∨ (ss ≠ none ∧ ss' = ss ∧ M' = M)) →
      RenoD es' bfl cw mds crs st ss' mon → MonD em' M'.inc M'.idx M'.stime M'.ready M'.fm smp mx' mn' → IntsAre sv' M'.sl → Fr h₀ L h' m → News h₀ L h' ((dM, dictOf em' nM') :: (smp, listOf sv'.toArray ns') :: (dR, dictOf es' n') :: rest) → Q .none { s with heap := h', toks := tk }) :
    wpAny (model PySem.Challenge.rw_je0001_01.row.prog w) (lawA L fa cd) (call (.ref 126) [.ref reno] [(Str.ofString "now", .int now tn), (Str.ofString "rtt", .int rtt tr)]) Q E s := by
  obtain ⟨B, X, T⟩ := C
  obtain ⟨inc, idx, stime, ready, fm, sl⟩ := M
  dsimp only at *
  obtain ⟨⟨t1, g1⟩, ⟨t2, g2⟩, ⟨t3, g3⟩, ⟨t4, g4⟩, g5, _, a, b, hl, hb, hss⟩ := id D
  have hl' := D.len
  obtain ⟨⟨u1, f1⟩, f2, ⟨u3, f3⟩, hf, ⟨u5, f5⟩, f6, f7, ⟨u8, f8⟩, f9, fme, hlm⟩ := id DM
  have fm1 := fme (Str.ofString "add_rtt") (by decide +kernel)
  have fm2 := fme (Str.ofString "is_rtt_increasing") (by decide +kernel)
  refine wpAny_call ?_
  k_dflt k_enter
  rcases hss with ⟨hb1, v, tv, hv, gv⟩ | ⟨hb1, hv, gv⟩
  · k_steps
    (rename Fr _ _ _ _ => kF9)
    (rename News _ _ _ _ => kN9)
    exact k _ _ _ _ _ _ _ _ _ _ true _ _ (.inr ⟨by rw [hv]; simp, rfl, rfl⟩) D DM hI kF9 kN9
  · k_steps
    rotate_left
    · (rename Fr _ _ _ _ => kF9)
      (rename News _ _ _ _ => kN9)
      exact k _ _ _ _ _ _ _ _ none _ false _ _ (.inl ⟨hv, turn_no (by omega), rfl⟩) (hv ▸ D) DM hI kF9 kN9
    · show wpAny _ _ _ _ _ _
      (rename (_ = (_ || _)) => e9)
      (rename (_ → ∃ _ _, _) => b9)
      (rename MonD _ _ _ _ _ _ _ _ _ => D9)
      (rename IntsAre _ (List.set _ _ _) => I9)
      have hbd := mm_bd (set_bd (i := idx.toNat) hsl hrtt)
      clear DM hI hsl
      rename Bool => rd9
      cases rd9 with
      | false =>
        obtain ⟨⟨u1, f1⟩, f2, ⟨u3, f3⟩, hf, ⟨u5, f5⟩, f6, f7, ⟨u8, f8⟩, f9, fme, hlm⟩ := id D9
        k_steps
        (rename Fr _ _ _ _ => kF9)
        (rename News _ _ _ _ => kN9)
        exact k _ _ _ _ _ _ _ _ none _ false _ _ (.inl ⟨hv, turn_un (by assumption) e9, rfl⟩) (hv ▸ D) D9.put_time I9 kF9 kN9
      | true =>
        obtain ⟨t1, t2, rfl, rfl⟩ := b9 rfl
        generalize hmm : mmOf (sl.set idx.toNat rtt) = mm at *
        obtain ⟨mlo, mhi⟩ := mm
        dsimp only at *
        obtain ⟨⟨u1, f1⟩, f2, ⟨u3, f3⟩, hf, ⟨u5, f5⟩, f6, f7, ⟨u8, f8⟩, f9, fme, hlm⟩ := id D9
        rcases hf with ⟨f, tf, hf, gf⟩ | ⟨hf, gf⟩
        · have hfb := hfm f hf
          by_cases c0 : mhi < f
          · have hfl : Mon.floor ⟨inc, idx, stime, ready, fm, sl⟩ (mlo, mhi) = mhi := by simp [Mon.floor, hf, c0]
            k_steps
            all_goals ((rename Fr _ _ _ _ => kF9); (rename News _ _ _ _ => kN9); first
              | exact k _ _ _ _ _ _ _ _ _ _ true _ _ (.inl ⟨hv, turn_A1 (by assumption) e9 hmm hfl (by assumption) (by assumption), rfl⟩) D.put_ss D9.put_time.put_fm.put_inc I9 kF9 kN9
              | exact k _ _ _ _ _ _ _ _ none _ false _ _ (.inl ⟨hv, turn_A0 (by assumption) e9 hmm hfl (by assumption) (by assumption), rfl⟩) (hv ▸ D) D9.put_time.put_fm.put_inc I9 kF9 kN9
              | exact k _ _ _ _ _ _ _ _ none _ false _ _ (.inl ⟨hv, turn_B (by assumption) e9 hmm hfl (by assumption) (by assumption), rfl⟩) (hv ▸ D) D9.put_time.put_fm.put_inc I9 kF9 kN9
              | exact k _ _ _ _ _ _ _ _ none _ false _ _ (.inl ⟨hv, turn_C (by assumption) e9 hmm hfl (by assumption) (by assumption), rfl⟩) (hv ▸ D) D9.put_time.put_fm I9 kF9 kN9)
          · have hfl : Mon.floor ⟨inc, idx, stime, ready, fm, sl⟩ (mlo, mhi) = f := by simp [Mon.floor, hf, c0]
            rw [hf] at D9
            k_steps
            all_goals ((rename Fr _ _ _ _ => kF9); (rename News _ _ _ _ => kN9); first
              | exact k _ _ _ _ _ _ _ _ _ _ true _ _ (.inl ⟨hv, turn_A1 (by assumption) e9 hmm hfl (by assumption) (by assumption), rfl⟩) D.put_ss D9.put_time.put_inc I9 kF9 kN9
              | exact k _ _ _ _ _ _ _ _ none _ false _ _ (.inl ⟨hv, turn_A0 (by assumption) e9 hmm hfl (by assumption) (by assumption), rfl⟩) (hv ▸ D) D9.put_time.put_inc I9 kF9 kN9
              | exact k _ _ _ _ _ _ _ _ none _ false _ _ (.inl ⟨hv, turn_B (by assumption) e9 hmm hfl (by assumption) (by assumption), rfl⟩) (hv ▸ D) D9.put_time.put_inc I9 kF9 kN9
              | exact k _ _ _ _ _ _ _ _ none _ false _ _ (.inl ⟨hv, turn_C (by assumption) e9 hmm hfl (by assumption) (by assumption), rfl⟩) (hv ▸ D) D9.put_time I9 kF9 kN9)
        · have hfl : Mon.floor ⟨inc, idx, stime, ready, fm, sl⟩ (mlo, mhi) = mhi := by simp [Mon.floor, hf]
          k_steps
          all_goals ((rename Fr _ _ _ _ => kF9); (rename News _ _ _ _ => kN9); first
            | exact k _ _ _ _ _ _ _ _ _ _ true _ _ (.inl ⟨hv, turn_A1 (by assumption) e9 hmm hfl (by assumption) (by assumption), rfl⟩) D.put_ss D9.put_time.put_fm.put_inc I9 kF9 kN9
            | exact k _ _ _ _ _ _ _ _ none _ false _ _ (.inl ⟨hv, turn_A0 (by assumption) e9 hmm hfl (by assumption) (by assumption), rfl⟩) (hv ▸ D) D9.put_time.put_fm.put_inc I9 kF9 kN9
            | exact k _ _ _ _ _ _ _ _ none _ false _ _ (.inl ⟨hv, turn_B (by assumption) e9 hmm hfl (by assumption) (by assumption), rfl⟩) (hv ▸ D) D9.put_time.put_fm.put_inc I9 kF9 kN9
            | exact k _ _ _ _ _ _ _ _ none _ false _ _ (.inl ⟨hv, turn_C (by assumption) e9 hmm hfl (by assumption) (by assumption), rfl⟩) (hv ▸ D) D9.put_time.put_fm I9 kF9 kN9)
end

end
/-! ## the law's parts -/
def forBody : List Stmt → List Stmt
  | [] => []
  | .For _ _ b _ _ :: _ => b
  | _ :: r => forBody r
def ifParts : Stmt → List Stmt × List Stmt
  | .If _ a b _ => (a, b)
  | _ => ([], [])
def turnBody : List Stmt := forBody lawBody
def bigIf : Stmt := (turnBody.drop 3).headD (.Pass default)
def brSend : List Stmt := (ifParts bigIf).1
def if2 : Stmt := (ifParts bigIf).2.headD (.Pass default)
def brAck : List Stmt := (ifParts if2).1
def if3 : Stmt := (ifParts if2).2.headD (.Pass default)
def brLost : List Stmt := (ifParts if3).1
def if4 : Stmt := (ifParts if3).2.headD (.Pass default)
def brExp : List Stmt := (ifParts if4).1
def if5 : Stmt := (ifParts if4).2.headD (.Pass default)
def brPers : List Stmt := (ifParts if5).1
def brRtt : List Stmt := (ifParts if5).2
def brCheck : List Stmt := turnBody.drop 4
def brStep : List Stmt := forBody brRtt
/-! ## the state -/
structure LS where
  size : Int
  now : Int
  window : Int
  carried : Int
  since : Int
  counted : Int
  rises : Int
  thr : Option Int
  flr : Option Int
  trips : List Int
  rows : List (Int × Int)
  M : Mon
structure LD where
  reno : Addr
  mon : Addr
  dR : Addr
  dM : Addr
  smp : Addr
  outA : Addr
  trA : Addr
  em : List DictEntry
  es : List DictEntry
  nM : Nat
  n : Nat
  ns : Nat
  no : Nat
  nt : Nat
  sv : List Value
  ov : List Value
  tv : List Value
  mx : Value
  mn : Value
  rest : List (Addr × Obj)
abbrev tupOf (vs : List Value) (n : Nat) : Obj := { cls := .type "tuple", data := .seq vs.toArray n }
inductive RowsIn (news : List (Addr × Obj)) : List Value → List (Int × Int) → Prop
  | nil : RowsIn news [] []
  | cons {a pk : Addr} {at_ oct : Int} {t1 t2 n : Nat} {vs : List Value} {rs : List (Int × Int)} : (a, tupOf [.ref pk, .int at_ t1, .int oct t2] n) ∈ news → PkIn news pk at_ oct → RowsIn news vs rs → RowsIn news (.ref a :: vs) ((at_, oct) :: rs)
def LD.led (d : LD) : List (Addr × Obj) := (d.dM, dictOf d.em d.nM) :: (d.smp, listOf d.sv.toArray d.ns) :: (d.dR, dictOf d.es d.n) :: (d.outA, listOf d.ov.toArray d.no) :: d.rest
def OptAt (m : Str → Option Value) (x : Str) (o : Option Int) : Prop := (∃ v t, o = some v ∧ m x = some (.int v t)) ∨ (o = none ∧ m x = some .none)
structure LFr (d : LD) (σ : LS) (m : Str → Option Value) : Prop where
  msize : ∃ t, m (Str.ofString "size") = some (.int σ.size t)
  mreno : m (Str.ofString "reno") = some (.ref d.reno)
  mout : m (Str.ofString "out") = some (.ref d.outA)
  mwin : ∃ t, m (Str.ofString "window") = some (.int σ.window t)
  mthr : OptAt m (Str.ofString "threshold") σ.thr
  mcar : ∃ t, m (Str.ofString "carried") = some (.int σ.carried t)
  msin : ∃ t, m (Str.ofString "since") = some (.int σ.since t)
  mtrp : m (Str.ofString "trips") = some (.ref d.trA)
  mcnt : ∃ t, m (Str.ofString "counted") = some (.int σ.counted t)
  mflr : OptAt m (Str.ofString "floor") σ.flr
  mris : ∃ t, m (Str.ofString "rises") = some (.int σ.rises t)
  mnow : ∃ t, m (Str.ofString "now") = some (.int σ.now t)
structure LLed (d : LD) (σ : LS) : Prop where
  hreno : (d.reno, instObj 129 d.dR) ∈ d.rest
  hmon : (d.mon, instObj 64 d.dM) ∈ d.rest
  htr : (d.trA, listOf d.tv.toArray d.nt) ∈ d.rest
  itr : IntsAre d.tv σ.trips
  rows : RowsIn d.rest d.ov σ.rows
  D : RenoD d.es (sumO σ.rows) σ.window σ.size σ.since σ.carried σ.thr d.mon
  DM : MonD d.em σ.M.inc σ.M.idx σ.M.stime σ.M.ready σ.M.fm d.smp d.mx d.mn
  ism : IntsAre d.sv σ.M.sl
  off1 : ∀ p ∈ d.rest, p.1 ≠ d.dM
  off2 : ∀ p ∈ d.rest, p.1 ≠ d.smp
  off3 : ∀ p ∈ d.rest, p.1 ≠ d.dR
  off4 : ∀ p ∈ d.rest, p.1 ≠ d.outA
  ne1 : @Ne Nat d.dM d.smp
  ne2 : @Ne Nat d.dM d.dR
  ne3 : @Ne Nat d.dM d.outA
  ne4 : @Ne Nat d.smp d.dR
  ne5 : @Ne Nat d.smp d.outA
  ne6 : @Ne Nat d.dR d.outA
/-- the samples, as the trips stand in them -/
def TripsOf (M : Mon) (trips : List Int) : Prop := (M.ready = false ∧ trips = M.sl.take M.idx.toNat) ∨ (M.ready = true ∧ trips = M.sl.drop M.idx.toNat ++ M.sl.take M.idx.toNat)
structure LPure (σ : LS) (i : Nat) : Prop where
  size : σ.size = 1200 ∨ σ.size = 1280 ∨ σ.size = 1452
  wlo : 2 * σ.size ≤ σ.window
  pot : 2 * σ.window + σ.carried ≤ 40000 + 20000 * (i : Int)
  clo : 0 ≤ σ.carried
  slo : 0 ≤ σ.since
  shi : σ.since ≤ σ.now
  nlo : 1 ≤ σ.now
  rlen : σ.rows.length ≤ i
  rbd : ∀ r ∈ σ.rows, 1 ≤ r.1 ∧ 0 ≤ r.2 ∧ r.2 ≤ 10000
  minc : σ.M.inc = σ.rises
  mfm : σ.M.fm = σ.flr
  mtime : σ.M.stime = σ.counted
  mlen : σ.M.sl.length = 5
  midx0 : 0 ≤ σ.M.idx
  midx1 : σ.M.idx < 5
  mbd : ∀ x ∈ σ.M.sl, 0 ≤ x ∧ x ≤ 20000
  mfb : ∀ f, σ.M.fm = some f → 0 ≤ f ∧ f ≤ 20000
  trp : TripsOf σ.M σ.trips
  ihi : i ≤ 22
  rthr : σ.thr = none → σ.rises ≤ 4
theorem OptAt.keep {m m' : Str → Option Value} {x : Str} {o : Option Int} (h : OptAt m x o) (e : m' x = m x) : OptAt m' x o := by
  unfold OptAt; rw [e]; exact h
structure Keeps (d d' : LD) : Prop where
  rest : ∀ p ∈ d.rest, p ∈ d'.rest
theorem pick_upto {l : List Value} {y : Int} (h : 0 ≤ y) : kms_pick l none (some y) = l.take y.toNat := by
  unfold kms_pick kms_lo kms_hi
  dsimp only
  rw [if_neg (by omega), List.drop_zero, Nat.sub_zero]
  exact kmk_take_min l y.toNat
theorem pick_from {l : List Value} {x : Int} (h : 0 ≤ x) : kms_pick l (some x) none = l.drop x.toNat := by
  unfold kms_pick kms_lo kms_hi
  dsimp only
  rw [if_neg (by omega), kmk_drop_min]
  apply List.take_of_length_le
  rw [List.length_drop]
  omega
theorem pick_run {l : List Value} {x y : Int} (h : 0 ≤ x) (h2 : 0 ≤ y) : kms_pick l (some x) (some y) = (l.drop x.toNat).take (y.toNat - x.toNat) := by
  unfold kms_pick kms_lo kms_hi
  dsimp only
  rw [if_neg (by omega), if_neg (by omega), kmk_drop_min]
  by_cases hx : x.toNat ≤ l.length
  · rw [Nat.min_eq_left hx]
    by_cases hy : y.toNat ≤ l.length
    · rw [Nat.min_eq_left hy]
    · rw [Nat.min_eq_right (by omega), List.take_of_length_le (by rw [List.length_drop]; omega), List.take_of_length_le (by rw [List.length_drop]; omega)]
  · rw [List.drop_of_length_le (by omega)]; simp
section
variable {prog : Program} {w : World} {A : Around} {E : Value → Shared → Prop} {s : Shared} {h₀ : Heap} {L l : Addr} {m : Str → Option Value} {news : List (Addr × Obj)} {value slice : PySem.Expr} {lst zs : List Value} {nn : Nat} {vl vu : Value} {lo hi : Option Int} {Q : Value → Shared → Prop}
theorem slice_own (F : Fr h₀ L s.heap m) (N : News h₀ L s.heap news) (hm : (l, listOf lst.toArray nn) ∈ news) (pl : IsPart vl lo) (pu : IsPart vu hi) (hlen : lst.length ≤ 100) (e : kms_pick lst lo hi = zs)
    (h : ∀ D h', Fr h₀ L h' m → News h₀ L h' ((D, listOf zs.toArray 0) :: news) → (∀ p ∈ news, p.1 < D) → Q (.ref D) { s with heap := h' })
    (hs : subscripted slice false (.ref l) (.ref s.heap.objs.size) = operate [.ref s.heap.objs.size, .ref l] (getItem (.ref l) (.ref s.heap.objs.size))) (ht : ∀ r, letTemporaryGo value (.ref l) r = pure ()) :
    wpAny (model prog w) A (subscriptTail value slice (.ref l) (.ref s.heap.objs.size)) Q E { s with heap := s.heap.push { cls := .type "slice", data := .fields #[vl, vu, .none] } } :=
  kms_slice_lit (its := lst.toArray) F N (News.isList N hm) pl pu (by simpa using e) h hs ht (by rw [List.size_toArray, sizeLine_eq]; omega)
end
section
variable {news news' : List (Addr × Obj)} {vs ws : List Value} {rs qs : List (Int × Int)}
theorem RowsIn.mono (h : RowsIn news vs rs) (hs : ∀ p ∈ news, p ∈ news') : RowsIn news' vs rs := by
  induction h with
  | nil => exact .nil
  | cons h1 h2 _ ih => exact .cons (hs _ h1) (h2.mono hs) ih
theorem RowsIn.length (h : RowsIn news vs rs) : vs.length = rs.length := by
  induction h with
  | nil => rfl
  | cons _ _ _ ih => simp [ih]
theorem RowsIn.append (h : RowsIn news vs rs) (k : RowsIn news ws qs) : RowsIn news (vs ++ ws) (rs ++ qs) := by
  induction h with
  | nil => exact k
  | cons h1 h2 _ ih => exact .cons h1 h2 ih
theorem RowsIn.take (h : RowsIn news vs rs) : ∀ n, RowsIn news (vs.take n) (rs.take n) := by
  induction h with
  | nil => intro n; simp; exact .nil
  | cons h1 h2 _ ih =>
    intro n
    cases n with
    | zero => exact .nil
    | succ n => exact .cons h1 h2 (ih n)
theorem RowsIn.drop (h : RowsIn news vs rs) : ∀ n, RowsIn news (vs.drop n) (rs.drop n) := by
  induction h with
  | nil => intro n; simp; exact .nil
  | cons h1 h2 h3 ih =>
    intro n
    cases n with
    | zero => exact .cons h1 h2 h3
    | succ n => exact ih n
end
theorem sumO_append {a b : List (Int × Int)} : sumO (a ++ b) = sumO a + sumO b := by unfold sumO; simp
theorem sumO_cons {r : Int × Int} {b : List (Int × Int)} : sumO (r :: b) = r.2 + sumO b := by unfold sumO; simp
/-! ## a comprehension «row[j] for row in rows» -/
inductive ItemsIn (j : Nat) (news : List (Addr × Obj)) : List Value → List Value → Prop
  | nil : ItemsIn j news [] []
  | cons {a n : Nat} {items vs zs : List Value} {y : Value} : (a, tupOf items n) ∈ news → items[j]? = some y → ItemsIn j news vs zs → ItemsIn j news (.ref a :: vs) (y :: zs)
theorem ItemsIn.length {j : Nat} {news : List (Addr × Obj)} {vs zs : List Value} (h : ItemsIn j news vs zs) : vs.length = zs.length := by
  induction h with
  | nil => rfl
  | cons _ _ _ ih => simp [ih]
theorem ItemsIn.get {j : Nat} {news : List (Addr × Obj)} {vs zs : List Value} (h : ItemsIn j news vs zs) : ∀ {i : Nat} {v y : Value}, vs[i]? = some v → zs[i]? = some y → ∃ a items n, v = .ref a ∧ (a, tupOf items n) ∈ news ∧ items[j]? = some y := by
  induction h with
  | nil => intro i v y h; simp at h
  | cons h1 h2 _ ih =>
    intro i v y h h'
    cases i with
    | zero => simp at h h'; subst h; subst h'; exact ⟨_, _, _, rfl, h1, h2⟩
    | succ i => simp at h h'; exact ih h h'
section
variable {prog : Program} {w : World} {A : Around} {E : Value → Shared → Prop} {s : Shared} {h₀ : Heap} {L : Addr} {m : Str → Option Value} {env : Env} {x : Str} {scope : Scope} {cl : List (Str × Addr)}
theorem comp_list {elt : Expr} {S : List (Addr × Obj) → Prop} {Fin : List Value → List (Addr × Obj) → Prop} {vs zs : List Value} {news : List (Addr × Obj)} (hS : S news) (hlen : vs.length = zs.length)
    (step : ∀ (i : Nat) (v y : Value) (I : Addr) (oI : Obj) (C : Addr) (oC : Obj) (D : Addr) (m₂ : Str → Option Value) (h : Heap) (tk : Nat) (ys : List Value) (E' : Value → Shared → Prop) (Qe : Value → Shared → Prop), vs[i]? = some v → zs[i]? = some y → LCg.NsObj oC m₂ → m₂ x = some v → News h₀ L h ((I, oI) :: (C, oC) :: (D, LCg.lst ys) :: news) →
      (∀ tk', Qe y { s with heap := h, toks := tk' }) → wpAny (model prog w) A (eval elt (compEnvC scope cl C env)) Qe E' { s with heap := h, toks := tk })
    (fin : Fin zs news) : LCg.CompRest prog w A h₀ L m env elt x scope cl s S (fun i v => vs.toArray[i]? = some v) Fin vs.toArray.size 0 [] news := by
  have all : ∀ k i, k + i = vs.length → LCg.CompRest prog w A h₀ L m env elt x scope cl s S (fun i v => vs.toArray[i]? = some v) Fin k i (zs.take i) news := by
    intro k
    induction k with
    | zero =>
      intro i hi
      refine LCg.CompRest.zero ?_
      rw [List.take_of_length_le (by omega)]
      exact fin
    | succ k ih =>
      intro i hi v I oI C oC D m₂ h tk E' hv hC hx F N off ne
      have hi' : i < zs.length := by omega
      have hv' : vs[i]? = some v := by simpa using hv
      refine step i v zs[i] I oI C oC D m₂ h tk _ E' _ hv' (List.getElem?_eq_getElem hi') hC hx N (fun tk' => ?_)
      refine LCg.CompEnd.intro F N news (fun p hp => hp) off hS ?_
      have e : zs.take i ++ [zs[i]] = zs.take (i + 1) := by rw [List.take_add_one, List.getElem?_eq_getElem hi']; rfl
      rw [e]
      exact ih (i + 1) (by omega)
  have h0 := all vs.toArray.size 0 (by simp)
  simpa using h0
theorem comp_row {p1 p2 p3 : Pos} {j : Nat} {Fin : List Value → List (Addr × Obj) → Prop} {ax : Addr} {vs zs : List Value} {news rest : List (Addr × Obj)} {nn : Nat} (hI : ItemsIn j rest vs zs) (hj : (j : Int) < 100) (hsub : ∀ p ∈ rest, p ∈ news) (hm : (ax, listOf vs.toArray nn) ∈ news)
    (hfn : ∀ C, (compEnvC scope cl C env).scope.kind = .function) (hlo : ∀ C, (compEnvC scope cl C env).kindOf x = some .local) (hx : (x == ("__debug__" : Str)) = false)
    (fin : Fin zs news) :
    LCg.CompRest prog w A h₀ L m env (.Subscript (.Name x p1) (.Constant (.int (j : Int)) 0 p2) p3) x scope cl s (LCg.SrcAt h₀ ax vs.toArray) (fun i v => vs.toArray[i]? = some v) Fin vs.toArray.size 0 [] news := by
  refine comp_list (.inr ⟨_, hm, rfl, _, rfl⟩) hI.length ?_ fin
  intro i v y I oI C oC D m₂ h tk ys E' Qe hv hy hC hx' N hQ
  obtain ⟨a, items, n, rfl, hmem, hit⟩ := hI.get hv hy
  refine Subscript_ ?_
  refine LCgL.ld_own N (.tail _ (.head _)) hC hx' ?_ (hfn C) (hlo C) hx
  refine wpAny_Constant_int ?_
  have hjl : j < items.length := (List.getElem?_eq_some_iff.mp hit).1
  refine item_tupleT (News.isTup N (.tail _ (.tail _ (.tail _ (hsub _ hmem))))) (by omega) (by omega) (j := j) (by unfold seqIndex?; have hj0 : ¬ ((j : Int) < 0) := by omega
                                                                                                                   simp [hj0, hjl]) hit ?_
  exact hQ _
end
section
variable {prog : Program} {w : World} {A : Around} {E : Value → Shared → Prop} {s : Shared} {h₀ : Heap} {L : Addr} {m : Str → Option Value} {env : Env} {x : Str} {scope : Scope} {cl : List (Str × Addr)}
theorem comp_row0 {p1 p2 p3 : Pos} {Fin : List Value → List (Addr × Obj) → Prop} {ax : Addr} {vs zs : List Value} {news rest : List (Addr × Obj)} {nn : Nat} (hI : ItemsIn 0 rest vs zs) (hsub : ∀ p ∈ rest, p ∈ news) (hm : (ax, listOf vs.toArray nn) ∈ news)
    (hfn : ∀ C, (compEnvC scope cl C env).scope.kind = .function) (hlo : ∀ C, (compEnvC scope cl C env).kindOf x = some .local) (hx : (x == ("__debug__" : Str)) = false)
    (fin : Fin zs news) :
    LCg.CompRest prog w A h₀ L m env (.Subscript (.Name x p1) (.Constant (.int 0) 0 p2) p3) x scope cl s (LCg.SrcAt h₀ ax vs.toArray) (fun i v => vs.toArray[i]? = some v) Fin vs.toArray.size 0 [] news :=
  comp_row (j := 0) hI (by decide) hsub hm hfn hlo hx fin
theorem comp_row2 {p1 p2 p3 : Pos} {Fin : List Value → List (Addr × Obj) → Prop} {ax : Addr} {vs zs : List Value} {news rest : List (Addr × Obj)} {nn : Nat} (hI : ItemsIn 2 rest vs zs) (hsub : ∀ p ∈ rest, p ∈ news) (hm : (ax, listOf vs.toArray nn) ∈ news)
    (hfn : ∀ C, (compEnvC scope cl C env).scope.kind = .function) (hlo : ∀ C, (compEnvC scope cl C env).kindOf x = some .local) (hx : (x == ("__debug__" : Str)) = false)
    (fin : Fin zs news) :
    LCg.CompRest prog w A h₀ L m env (.Subscript (.Name x p1) (.Constant (.int 2) 0 p2) p3) x scope cl s (LCg.SrcAt h₀ ax vs.toArray) (fun i v => vs.toArray[i]? = some v) Fin vs.toArray.size 0 [] news :=
  comp_row (j := 2) hI (by decide) hsub hm hfn hlo hx fin
end
theorem RowsIn.packets {news : List (Addr × Obj)} {vs : List Value} {rs : List (Int × Int)} (h : RowsIn news vs rs) : ∃ zs, ItemsIn 0 news vs zs ∧ PksIn news zs rs := by
  induction h with
  | nil => exact ⟨[], .nil, .nil⟩
  | cons h1 h2 _ ih =>
    obtain ⟨zs, k1, k2⟩ := ih
    exact ⟨_, .cons h1 rfl k1, .cons h2 k2⟩
theorem RowsIn.octets {news : List (Addr × Obj)} {vs : List Value} {rs : List (Int × Int)} (h : RowsIn news vs rs) : ∃ zs, ItemsIn 2 news vs zs ∧ IntsAre zs (rs.map (·.2)) := by
  induction h with
  | nil => exact ⟨[], .nil, .nil⟩
  | cons h1 h2 _ ih =>
    obtain ⟨zs, k1, k2⟩ := ih
    exact ⟨_, .cons h1 rfl k1, .cons _ _ k2⟩
theorem len_own {prog : Program} {w : World} {A : Around} {E : Value → Shared → Prop} {s : Shared} {h₀ : Heap} {L l : Addr} {news : List (Addr × Obj)} {us : List Value} {n : Nat} {Q : Value → Shared → Prop} (N : News h₀ L s.heap news) (hm : (l, listOf us.toArray n) ∈ news) (hlen : us.length ≤ 100)
    (h : Q (.int (us.length : Int) (s.toks + 1)) { s with toks := s.toks + 1 + 1 }) : wpAny (model prog w) A (call (.builtin "len") [.ref l]) Q E s := by
  have e : us.toArray.size = us.length := List.size_toArray
  exact len_list (News.isList N hm) (by rw [e]; omega) (by rw [e]; exact h)
theorem allLt_off {d : Addr} : ∀ {l : List (Addr × Obj)}, AllLt d l → ∀ p ∈ l, p.1 ≠ d
  | [], _, p, hp => nomatch hp
  | q :: r, h, p, hp => by
    rcases List.mem_cons.mp hp with rfl | hp
    · exact Nat.ne_of_lt h.1
    · exact allLt_off h.2 p hp
theorem off1_off {d : Addr} : ∀ {l : List (Addr × Obj)}, LCg.Off1 d l → ∀ p ∈ l, p.1 ≠ d
  | [], _, p, hp => nomatch hp
  | q :: r, h, p, hp => by
    rcases List.mem_cons.mp hp with rfl | hp
    · exact h.1
    · exact off1_off h.2 p hp
theorem drop_take_len {α : Type} {l : List α} {c : Nat} : l.drop (l.take c).length = l.drop c := by
  rw [List.length_take]; exact kmk_drop_min l c
theorem sumO_drop {rows : List (Int × Int)} {ov : List Value} {c : Nat} (h : ov.length = rows.length) : sumO rows - sumO (rows.take c) = sumO (rows.drop (ov.take c).length) := by
  have e : rows.drop (ov.take c).length = rows.drop c := by
    rw [List.length_take, h]; exact kmk_drop_min rows c
  rw [e]
  have e2 : sumO rows = sumO (rows.take c) + sumO (rows.drop c) := by
    rw [← sumO_append, List.take_append_drop]
  omega
section
variable {prog : Program} {w : World} {A : Around} {E : Value → Shared → Prop} {s : Shared} {h₀ : Heap} {L a b : Addr} {m : Str → Option Value} {news : List (Addr × Obj)} {vs ws : List Value} {n1 n2 : Nat} {Q : Value → Shared → Prop}
theorem add_own (F : Fr h₀ L s.heap m) (N : News h₀ L s.heap news) (ha : (a, listOf vs.toArray n1) ∈ news) (hb : (b, listOf ws.toArray n2) ∈ news) (hz1 : vs.length ≤ 100) (hz2 : ws.length ≤ 100)
    (h : ∀ D h', Fr h₀ L h' m → News h₀ L h' ((D, listOf (vs ++ ws).toArray 0) :: news) → (∀ p ∈ news, p.1 < D) → Q (.ref D) { s with heap := h' }) :
    wpAny (model prog w) A (binaryOp .Add (.ref a) (.ref b)) Q E s :=
  kmk_add_lit F N (News.isList N ha) (News.isList N hb) (by simp) h (by simp only [sizeLine_eq]; omega)
theorem last_own {value slice : PySem.Expr} {k : Int} {u : Tok} {x : Value} (N : News h₀ L s.heap news) (hm : (a, listOf vs.toArray n1) ∈ news) (hk : k = -1) (hl : 0 < vs.length) (hz : vs.length ≤ 100) (hx : vs[vs.length - 1]? = some x) (h : Q x s)
    (hs : subscripted slice false (.ref a) (.int k u) = operate [.ref a, .int k u] (getItem (.ref a) (.int k u))) :
    wpAny (model prog w) A (subscriptTail value slice (.ref a) (.int k u)) Q E s := by
  have hL : s.heap.IsList a vs.toArray := News.isList N hm
  have e : (k + (vs.toArray.size : Int)).toNat = vs.length - 1 := by rw [List.size_toArray]; omega
  exact tail_any hL.typeIs slot_list_getitem.lookup (wpAny_getItem_list_neg hL (by omega) (by rw [List.size_toArray]; omega) (by omega) (by rw [e]; simpa using hx) h) hs
end
theorem RowsIn.last {news : List (Addr × Obj)} {vs : List Value} {rs : List (Int × Int)} (h : RowsIn news vs rs) (hn : rs ≠ []) : ∃ a pk at_ oct t1 t2 n, vs[vs.length - 1]? = some (.ref a) ∧ (a, tupOf [.ref pk, .int at_ t1, .int oct t2] n) ∈ news ∧ lastT rs = at_ ∧ 0 < vs.length := by
  induction h with
  | nil => exact absurd rfl hn
  | @cons a pk at_ oct t1 t2 n vs rs h1 h2 h3 ih =>
    cases h3 with
    | nil => exact ⟨a, pk, at_, oct, t1, t2, n, rfl, h1, rfl, by simp⟩
    | @cons a' pk' at' oct' t1' t2' n' vs' rs' h1' h2' h3' =>
      obtain ⟨a0, pk0, at0, oct0, u1, u2, n0, e1, e2, e3, e4⟩ := ih (by simp)
      refine ⟨a0, pk0, at0, oct0, u1, u2, n0, ?_, e2, ?_, by simp⟩
      · simp only [List.length_cons] at e1 ⊢
        rw [show vs'.length + 1 + 1 - 1 = (vs'.length + 1 - 1) + 1 by omega, List.getElem?_cons_succ]
        exact e1
      · rw [← e3]
        unfold lastT
        rw [List.getLast?_cons_cons]
theorem split_rows {rest : List (Addr × Obj)} {ov : List Value} {rows : List (Int × Int)} (h : RowsIn rest ov rows) {f c : Int} (hf : 0 ≤ f) (hc : 0 ≤ c) :
    ∃ gv pv qv gr pr qr, kms_pick ov (some f) (some c) = gv ∧ kms_pick ov none (some f) = pv ∧ kms_pick ov (some (f + (gv.length : Int))) none = qv ∧ RowsIn rest gv gr ∧ RowsIn rest pv pr ∧ RowsIn rest qv qr ∧
      sumO rows = sumO pr + sumO gr + sumO qr ∧ (∀ r ∈ pr ++ qr, r ∈ rows) ∧ pr.length + qr.length ≤ rows.length ∧ gr.length ≤ rows.length ∧ pr.length ≤ rows.length := by
  refine ⟨_, _, _, (rows.drop f.toNat).take (c.toNat - f.toNat), rows.take f.toNat, (rows.drop f.toNat).drop (c.toNat - f.toNat), pick_run hf hc, pick_upto hf, rfl, (h.drop _).take _, h.take _, ?_, ?_, ?_, ?_, ?_, ?_⟩
  · rw [pick_from (by omega)]
    have e : (f + (((ov.drop f.toNat).take (c.toNat - f.toNat)).length : Int)).toNat = f.toNat + ((ov.drop f.toNat).take (c.toNat - f.toNat)).length := by omega
    rw [e, ← List.drop_drop, drop_take_len]
    exact (h.drop _).drop _
  · rw [← sumO_append, ← sumO_append, List.append_assoc, List.take_append_drop, List.take_append_drop]
  · intro r hr
    rcases List.mem_append.mp hr with hr | hr
    · exact List.mem_of_mem_take hr
    · exact List.mem_of_mem_drop (List.mem_of_mem_drop hr)
  · simp only [List.length_take, List.length_drop]; omega
  · simp only [List.length_take, List.length_drop]; omega
  · simp only [List.length_take]; omega
theorem pick_own {prog : Program} {w : World} {A : Around} {E : Value → Shared → Prop} {s : Shared} {h₀ : Heap} {L a : Addr} {news : List (Addr × Obj)} {vs : List Value} {n : Nat} {value slice : PySem.Expr} {k : Int} {u : Tok} {Q : Value → Shared → Prop} (N : News h₀ L s.heap news) (hm : (a, tupOf vs n) ∈ news) (h0 : 0 ≤ k) (h1 : k < (vs.length : Int)) (hl : vs.length < 100)
    (hall : ∀ x ∈ vs, ∃ o t, x = .int o t ∧ 0 ≤ o ∧ o ≤ 10000) (h : ∀ o t, 0 ≤ o → o ≤ 10000 → Q (.int o t) s)
    (hs : subscripted slice false (.ref a) (.int k u) = operate [.ref a, .int k u] (getItem (.ref a) (.int k u))) :
    wpAny (model prog w) A (subscriptTail value slice (.ref a) (.int k u)) Q E s := by
  have hk : k.toNat < vs.length := by omega
  obtain ⟨o, t, e, b1, b2⟩ := hall _ (List.getElem_mem hk)
  refine item_tupleT (News.isTup N hm) (by omega) (by omega) (j := k.toNat) ?_ (List.getElem?_eq_getElem hk) (by rw [e]; exact h o t b1 b2) hs
  unfold seqIndex?
  have hk0 : ¬ (k < 0) := by omega
  simp [hk0]
  omega
theorem cut_at {y : Value} {q : List Value} : ∀ p : List Value, kl_cut (p ++ y :: q) p.length = some (p, y, q)
  | [] => rfl
  | x :: p => by
    show (match kl_cut (p ++ y :: q) p.length with | some (p', y', q') => some (x :: p', y', q') | none => none) = _
    rw [cut_at p]
theorem pop_own {prog : Program} {w : World} {A : Around} {E : Value → Shared → Prop} {s : Shared} {h₀ : Heap} {L D : Addr} {m : Str → Option Value} {news news' : List (Addr × Obj)} {vs p q : List Value} {n : Nat} {y : Value} {k : Int} {u : Tok} {Q : Value → Shared → Prop} (F : Fr h₀ L s.heap m) (N : News h₀ L s.heap news)
    (hv : vs = p ++ y :: q) (hk : k = (p.length : Int)) (hl : vs.length ≤ 100) (U : Upd D (listOf vs.toArray n) (listOf (p ++ q).toArray (n + 1)) news news')
    (h : ∀ h', Fr h₀ L h' m → News h₀ L h' news' → Q y { s with heap := h' }) : wpAny (model prog w) A (call (.builtin "list.pop") [.ref D, .int k u]) Q E s := by
  subst hv
  have hpl : p.length < 100 := by simp at hl; omega
  refine kl_popAt (k := p.length) F N ?_ ?_ (by simpa using cut_at p) U (by simp only [sizeLine_eq]; simp at hl ⊢; omega) h
  · unfold Builtin.List.listFitsIndex
    simp
    omega
  · rw [hk]
    unfold seqIndex?
    have h0 : ¬ ((p.length : Int) < 0) := by omega
    simp [h0]
    omega
theorem rows_at {rest : List (Addr × Obj)} {ov : List Value} {rows : List (Int × Int)} (h : RowsIn rest ov rows) : ∀ {k : Int}, 0 ≤ k → k < (ov.length : Int) →
    ∃ p q pr qr a pk at_ oct t1 t2 n, ov = p ++ Value.ref a :: q ∧ k = (p.length : Int) ∧ rows = pr ++ (at_, oct) :: qr ∧ RowsIn rest p pr ∧ RowsIn rest q qr ∧ (a, tupOf [.ref pk, .int at_ t1, .int oct t2] n) ∈ rest ∧ PkIn rest pk at_ oct := by
  induction h with
  | nil => intro k h0 h1; simp at h1; omega
  | @cons a pk at_ oct t1 t2 n vs rs h1 h2 h3 ih =>
    intro k k0 k1
    by_cases hk : k = 0
    · exact ⟨[], vs, [], rs, a, pk, at_, oct, t1, t2, n, rfl, by simpa using hk, rfl, .nil, h3, h1, h2⟩
    · obtain ⟨p, q, pr, qr, a', pk', at', oct', u1, u2, n', e1, e2, e3, e4, e5, e6, e7⟩ := ih (k := k - 1) (by omega) (by simp at k1; omega)
      exact ⟨.ref a :: p, q, (at_, oct) :: pr, qr, a', pk', at', oct', u1, u2, n', by rw [e1]; rfl, by simp; omega, by rw [e3]; rfl, .cons h1 h2 e4, e5, e6, e7⟩
theorem fdiv_of {C W j : Int} (hW : 0 < W) (h0 : 0 ≤ C - j * W) (h1 : C - j * W < W) : j = C.fdiv W := by
  rw [Int.fdiv_eq_ediv_of_nonneg _ (by omega)]
  have e : C = (C - j * W) + j * W := by omega
  rw [e, Int.add_mul_ediv_right _ _ (by omega), Int.ediv_eq_zero_of_lt h0 h1]
  omega
theorem while_keep {prog : Program} {w : World} {A : Around} {E : Value → Shared → Prop} {Q : Flow → Shared → Prop} {s : Shared} {env : Env} {h₀ : Heap} {L : Addr} {test : Expr} {body : List Stmt} {pos : Pos} {m : Str → Option Value} {news : List (Addr × Obj)} (J : Nat → (Str → Option Value) → Prop) {n₀ : Nat}
    (F : Fr h₀ L s.heap m) (N : News h₀ L s.heap news) (hJ : J n₀ m)
    (turn : ∀ n m₁ h₁ tk₁ (Qt : Flow → Shared → Prop), Fr h₀ L h₁ m₁ → News h₀ L h₁ news → J n m₁ → (∀ h' tk m₂ n', Fr h₀ L h' m₂ → News h₀ L h' news → n' < n → J n' m₂ → Qt .next { s with heap := h', toks := tk }) →
      wpAny (model prog w) A (isTrue test env (eval test env)) (fun b s₂ => if b = true then wpAny (model prog w) A (execs body env) Qt E s₂ else Q .next s₂) E { s with heap := h₁, toks := tk₁ })
    (hE : PassesOwn (model prog w) A env E) : wpAny (model prog w) A (exec (.While test body [] pos) env) Q E s := by
  refine While_inv2 (fun n m nx => nx = news ∧ J n m) F N ⟨rfl, hJ⟩ ?_ hE
  rintro n m₁ nx h₁ tk₁ F₁ N₁ ⟨rfl, hj⟩
  exact turn n m₁ h₁ tk₁ _ F₁ N₁ hj (fun h' tk m₂ n' F' N' hn hj' => ⟨h', tk, m₂, _, n', rfl, F', N', hn, rfl, hj'⟩)
section
variable {prog : Program} {w : World} {A : Around} {E : Value → Shared → Prop} {s : Shared} {h₀ : Heap} {L l : Addr} {m : Str → Option Value} {news : List (Addr × Obj)} {vs : List Value} {ns : List Int} {n : Nat} {M : Int} {Q : Value → Shared → Prop}
theorem max_own (hh : A.handled = none) (F : Fr h₀ L s.heap m) (N : News h₀ L s.heap news) (hm : (l, listOf vs.toArray n) ∈ news) (hi : IntsAre vs ns) (h1 : M ∈ ns) (h2 : ∀ a ∈ ns, a ≤ M)
    (h : ∀ h' (t : Tok) tk, Fr h₀ L h' m → News h₀ L h' news → Q (.int M t) { s with heap := h', toks := tk }) : wpAny (model prog w) A (call (.builtin "max") [.ref l]) Q E s := by
  refine kso_max F N (News.isList N hm) hi (List.length_pos_of_mem h1) hh (fun h' M' t tk F' N' e1 e2 => ?_)
  have e : M' = M := Int.le_antisymm (h2 _ e1) (e2 _ h1)
  rw [e]
  exact h h' t tk F' N'
theorem min_own (hh : A.handled = none) (F : Fr h₀ L s.heap m) (N : News h₀ L s.heap news) (hm : (l, listOf vs.toArray n) ∈ news) (hi : IntsAre vs ns) (h1 : M ∈ ns) (h2 : ∀ a ∈ ns, M ≤ a)
    (h : ∀ h' (t : Tok) tk, Fr h₀ L h' m → News h₀ L h' news → Q (.int M t) { s with heap := h', toks := tk }) : wpAny (model prog w) A (call (.builtin "min") [.ref l]) Q E s := by
  refine kso_min F N (News.isList N hm) hi (List.length_pos_of_mem h1) hh (fun h' M' t tk F' N' e1 e2 => ?_)
  have e : M' = M := Int.le_antisymm (e2 _ h1) (h2 _ e1)
  rw [e]
  exact h h' t tk F' N'
theorem min_lo {a b : Int} {t u : Tok} (hh : A.handled = none) (F : Fr h₀ L s.heap m) (N : News h₀ L s.heap news) (c : b < a)
    (h : ∀ h' tk, Fr h₀ L h' m → News h₀ L h' news → Q (.int b u) { s with heap := h', toks := tk }) : wpAny (model prog w) A (call (.builtin "min") [.int a t, .int b u]) Q E s :=
  min_two_N hh F N (fun h' tk F' N' => by rw [if_pos c, if_pos c]; exact h h' tk F' N')
theorem min_hi {a b : Int} {t u : Tok} (hh : A.handled = none) (F : Fr h₀ L s.heap m) (N : News h₀ L s.heap news) (c : ¬ b < a)
    (h : ∀ h' tk, Fr h₀ L h' m → News h₀ L h' news → Q (.int a t) { s with heap := h', toks := tk }) : wpAny (model prog w) A (call (.builtin "min") [.int a t, .int b u]) Q E s :=
  min_two_N hh F N (fun h' tk F' N' => by rw [if_neg c, if_neg c]; exact h h' tk F' N')
end
/-! ## iterators in the ledger -/
def IterObj (o : Obj) : Prop := o.cls = .type "enumerate" ∨ o.cls = .type "list_iterator" ∨ o.cls = .type "range_iterator"
theorem not_iter {o : Obj} (h : o.cls ≠ .type "enumerate") (h2 : o.cls ≠ .type "list_iterator") (h3 : o.cls ≠ .type "range_iterator") : ¬ IterObj o := fun h' => by
  rcases h' with h' | h' | h'
  · exact h h'
  · exact h2 h'
  · exact h3 h'
theorem inst_noIter {C d : Addr} : ¬ IterObj (instObj C d) := not_iter (fun h => by cases h) (fun h => by cases h) (fun h => by cases h)
theorem dict_noIter {es : List DictEntry} {n : Nat} : ¬ IterObj (dictOf es n) := not_iter (by show ¬ (Value.type "dict" = _); decide) (by show ¬ (Value.type "dict" = _); decide) (by show ¬ (Value.type "dict" = _); decide)
theorem list_noIter {a : Array Value} {n : Nat} : ¬ IterObj (listOf a n) := not_iter (by show ¬ (Value.type "list" = _); decide) (by show ¬ (Value.type "list" = _); decide) (by show ¬ (Value.type "list" = _); decide)
theorem tup_noIter {vs : List Value} {n : Nat} : ¬ IterObj (tupOf vs n) := not_iter (by show ¬ (Value.type "tuple" = _); decide) (by show ¬ (Value.type "tuple" = _); decide) (by show ¬ (Value.type "tuple" = _); decide)
theorem PkIn.imp {news news' : List (Addr × Obj)} {pk : Addr} {a o : Int} (h : PkIn news pk a o) (hs : ∀ p ∈ news, ¬ IterObj p.2 → p ∈ news') : PkIn news' pk a o := by
  obtain ⟨d, es, n, h1, h2, h3⟩ := h
  exact ⟨d, es, n, hs _ h1 inst_noIter, hs _ h2 dict_noIter, h3⟩
theorem RowsIn.imp {news news' : List (Addr × Obj)} {vs : List Value} {rs : List (Int × Int)} (h : RowsIn news vs rs) (hs : ∀ p ∈ news, ¬ IterObj p.2 → p ∈ news') : RowsIn news' vs rs := by
  induction h with
  | nil => exact .nil
  | cons h1 h2 _ ih => exact .cons (hs _ h1 tup_noIter) (h2.imp hs) ih
def LD.drop (d : LD) (wr : List Addr) : LD := { d with rest := d.rest.filter fun p => !(wr.contains p.1) }
def LD.more (d : LD) (own : List (Addr × Obj)) : LD := { d with rest := own ++ d.rest }
section
variable {d : LD} {σ : LS} {wr : List Addr} {h₀ h : Heap} {L : Addr} {own : List (Addr × Obj)}
theorem drop_mem {p : Addr × Obj} (N : News h₀ L h d.led) (hw : ∀ b ∈ wr, ∃ o, (b, o) ∈ d.rest ∧ IterObj o) (hp : p ∈ d.rest) (hn : ¬ IterObj p.2) : p ∈ (d.drop wr).rest := by
  refine List.mem_filter.mpr ⟨hp, ?_⟩
  have hin : ∀ q ∈ d.rest, q ∈ d.led := fun q hq => .tail _ (.tail _ (.tail _ (.tail _ hq)))
  cases hc : wr.contains p.1 with
  | false => rfl
  | true =>
    exfalso
    obtain ⟨o, ho, hio⟩ := hw p.1 (by simpa using hc)
    have e1 := (N _ (hin _ ho)).1
    have e2 := (N _ (hin _ hp)).1
    dsimp only at e1
    rw [e2] at e1
    exact hn (Option.some.inj e1 ▸ hio)
theorem LLed.drop (N : News h₀ L h d.led) (hL : LLed d σ) (hw : ∀ b ∈ wr, ∃ o, (b, o) ∈ d.rest ∧ IterObj o) : LLed (d.drop wr) σ := by
  have keep : ∀ p ∈ d.rest, ¬ IterObj p.2 → p ∈ (d.drop wr).rest := fun p hp hn => drop_mem N hw hp hn
  have sub : ∀ p ∈ (d.drop wr).rest, p ∈ d.rest := fun p hp => (List.mem_filter.mp hp).1
  exact { hL with
    hreno := keep _ hL.hreno inst_noIter
    hmon := keep _ hL.hmon inst_noIter
    htr := keep _ hL.htr list_noIter
    rows := hL.rows.imp keep
    off1 := fun p hp => hL.off1 p (sub p hp)
    off2 := fun p hp => hL.off2 p (sub p hp)
    off3 := fun p hp => hL.off3 p (sub p hp)
    off4 := fun p hp => hL.off4 p (sub p hp) }
theorem LLed.more (hL : LLed d σ) (ho : ∀ p ∈ own, p.1 ≠ d.dM ∧ p.1 ≠ d.smp ∧ p.1 ≠ d.dR ∧ p.1 ≠ d.outA) : LLed (d.more own) σ := by
  have sub : ∀ p ∈ d.rest, p ∈ (d.more own).rest := fun p hp => List.mem_append.mpr (.inr hp)
  exact { hL with
    hreno := sub _ hL.hreno
    hmon := sub _ hL.hmon
    htr := sub _ hL.htr
    rows := hL.rows.mono sub
    off1 := fun p hp => (List.mem_append.mp hp).elim (fun h => (ho p h).1) (hL.off1 p)
    off2 := fun p hp => (List.mem_append.mp hp).elim (fun h => (ho p h).2.1) (hL.off2 p)
    off3 := fun p hp => (List.mem_append.mp hp).elim (fun h => (ho p h).2.2.1) (hL.off3 p)
    off4 := fun p hp => (List.mem_append.mp hp).elim (fun h => (ho p h).2.2.2) (hL.off4 p) }
theorem led_more {p : Addr × Obj} (hp : p ∈ (d.more own).led) : p ∈ own ++ d.led := by
  simp only [LD.led, LD.more, List.mem_cons, List.mem_append] at hp ⊢
  rcases hp with h | h | h | h | h | h <;> simp [h]
theorem led_drop {p : Addr × Obj} (hp : p ∈ (d.drop wr).led) : p ∈ d.led := by
  simp only [LD.led, LD.drop, List.mem_cons, List.mem_filter] at hp ⊢
  rcases hp with h | h | h | h | h
  · simp [h]
  · simp [h]
  · simp [h]
  · simp [h]
  · simp [h.1]
theorem drop_off (hL : LLed d σ) (hw : ∀ b ∈ wr, ∃ o, (b, o) ∈ d.rest ∧ IterObj o) : ∀ p ∈ (d.drop wr).led, p.1 ∉ wr := by
  intro p hp hin
  obtain ⟨o, ho, _⟩ := hw _ hin
  have a1 := hL.off1 _ ho
  have a2 := hL.off2 _ ho
  have a3 := hL.off3 _ ho
  have a4 := hL.off4 _ ho
  dsimp only at a1 a2 a3 a4
  simp only [LD.led, LD.drop, List.mem_cons, List.mem_filter] at hp
  rcases hp with h | h | h | h | h
  · rw [h] at a1; exact a1 rfl
  · rw [h] at a2; exact a2 rfl
  · rw [h] at a3; exact a3 rfl
  · rw [h] at a4; exact a4 rfl
  · have := h.2
    simp [hin] at this
end
theorem Keeps.trans {a b c : LD} (h : Keeps a b) (k : Keeps b c) : Keeps a c := ⟨fun p hp => k.rest p (h.rest p hp)⟩
section
variable {prog : Program} {w : World} {A : Around} {E : Value → Shared → Prop} {s : Shared} {env : Env} {h₀ : Heap} {x : Str} {body : List Stmt} {Q : Flow → Shared → Prop}
theorem range_LD {r : Addr} {b₀ : Int} {t₀ u₀ v₀ : Tok} {n : Nat} {m₀ : Str → Option Value} {d : LD} {σ : LS} (Inv : Nat → LD → LS → (Str → Option Value) → Prop)
    (hInv : ∀ i d σ m R, Inv i d σ m → Inv i { d with rest := R } σ m)
    (hh : A.handled = none) (hr : IsRange s.heap r 0 b₀ 1 t₀ u₀ v₀) (hsmall : Builtin.Range.small 0 b₀ 1 = true) (hsz : Builtin.Range.rangeSize 0 b₀ 1 = (n : Int))
    (F : Fr h₀ env.locals s.heap m₀) (N : News h₀ env.locals s.heap d.led) (hL : LLed d σ) (hi : Inv 0 d σ m₀)
    (turn : ∀ i v d₁ σ₁ m₁ h tk (Qt : Flow → Shared → Prop), i < n → LLed d₁ σ₁ → Inv i d₁ σ₁ m₁ → Fr h₀ env.locals h (fun y => if y = x then some v else m₁ y) → News h₀ env.locals h d₁.led →
      (∀ d' σ' m' h' tk', Keeps d₁ d' → LLed d' σ' → Inv (i + 1) d' σ' m' → Fr h₀ env.locals h' m' → News h₀ env.locals h' d'.led → Qt .next { s with heap := h', toks := tk' }) →
      wpAny (model prog w) A (execs body env) Qt E { s with heap := h, toks := tk })
    (done : ∀ d₁ σ₁ m₁ h tk, Keeps d d₁ → LLed d₁ σ₁ → Inv n d₁ σ₁ m₁ → Fr h₀ env.locals h m₁ → News h₀ env.locals h d₁.led → Q .next { s with heap := h, toks := tk }) :
    wpAny (model prog w) A (pyIter (.ref r)) (fun it s₂ => LoopAtV prog w A h₀ env x body Q E it s₂) E s := by
  refine wpAny_pyIter_range hr hsmall ?_
  have W := Walks.range (prog := prog) (w := w) hh s.heap.objs.size 0 1 n
  have hI0 : h₀.get? s.heap.objs.size = none := next_is_new F
  have hnI : ∀ p ∈ d.led, p.1 ≠ s.heap.objs.size := fun p hp e => absurd (Heap.lt_size (N p hp).1) (e ▸ Nat.lt_irrefl _)
  refine ⟨_, _, _, n, _, _, m₀, d.led, (fun i m nx => ∃ d₁ σ₁, nx = d₁.led ∧ Keeps d d₁ ∧ LLed d₁ σ₁ ∧ Inv i d₁ σ₁ m), rfl, W, ?_, ?_, ?_, ?_, F.push _, (fun p hp => ⟨Heap.get?_push_of_some _ (N p hp).1, (N p hp).2⟩), ⟨d, σ, rfl, ⟨fun _ h => h⟩, hL, hi⟩, ?_, ?_⟩
  · intro hm
    exact absurd F.ns.lt ((List.mem_singleton.mp hm) ▸ Nat.lt_irrefl _)
  · intro b hb
    rw [List.mem_singleton.mp hb]
    exact hI0
  · intro p hp hI
    exact hnI p hp (List.mem_singleton.mp hI)
  · show IsRangeIter _ _ _ _ _
    rw [hsz]
    simpa using Heap.get?_push_size _ rfl
  · rintro i v m₁ nx s₁ own ⟨hh', tk', rfl⟩ hin hP ⟨d₁, σ₁, rfl, hK, hL₁, hi₁⟩ hoff hown _ hmem hst' F₁ N₁
    have hIn := hmem _ (List.mem_singleton.mpr rfl) hI0 _ hst'
    have hoI : ∀ p ∈ own, p.1 = s.heap.objs.size := fun p hp => List.mem_singleton.mp (hown p hp)
    have hne : ∀ p ∈ d₁.led, p.1 ≠ s.heap.objs.size := fun p hp e => hoff p hp (List.mem_singleton.mpr e)
    have hLm : LLed (d₁.more own) σ₁ := hL₁.more fun p hp => by
      rw [hoI p hp]
      exact ⟨fun e => hne (d₁.dM, _) (.head _) e.symm, fun e => hne (d₁.smp, _) (.tail _ (.head _)) e.symm, fun e => hne (d₁.dR, _) (.tail _ (.tail _ (.head _))) e.symm, fun e => hne (d₁.outA, _) (.tail _ (.tail _ (.tail _ (.head _)))) e.symm⟩
    refine turn i v (d₁.more own) σ₁ m₁ hh' tk' _ hin hLm (hInv _ _ _ _ _ hi₁) F₁ (news_sub N₁ fun p hp => led_more hp) ?_
    intro d' σ' m' h' tk2 hK' hL' hi' F' N'
    have hw : ∀ b ∈ [s.heap.objs.size], ∃ o, (b, o) ∈ d'.rest ∧ IterObj o := by
      intro b hb
      rw [List.mem_singleton.mp hb]
      exact ⟨_, hK'.rest _ (List.mem_append.mpr (.inl hIn)), .inr (.inr rfl)⟩
    refine LoopStepV.next ⟨rfl, h', tk2, m', (d'.drop [s.heap.objs.size]).led, rfl, F', ?_, drop_off hL' hw, ?_⟩
    · intro p hp
      rcases List.mem_append.mp hp with hp | hp
      · exact N' p (.tail _ (.tail _ (.tail _ (.tail _ (hK'.rest _ (List.mem_append.mpr (.inl hp)))))))
      · exact N' p (led_drop hp)
    · refine ⟨d'.drop [s.heap.objs.size], σ', rfl, ⟨fun p hp => ?_⟩, hL'.drop N' hw, hInv _ _ _ _ _ hi'⟩
      refine List.mem_filter.mpr ⟨hK'.rest _ (List.mem_append.mpr (.inr (hK.rest p hp))), ?_⟩
      have := hnI p (.tail _ (.tail _ (.tail _ (.tail _ hp))))
      simpa using this
  · rintro h' tk m' nx F' N' _ ⟨d₁, σ₁, rfl, hK, hL₁, hi₁⟩
    exact done d₁ σ₁ m' h' tk hK hL₁ hi₁ F' N'
end
section
variable {prog : Program} {w : World} {A : Around} {E : Value → Shared → Prop} {s : Shared} {env : Env} {h₀ : Heap} {Q : Flow → Shared → Prop}
/-- what a loop over «enumerate(a list of the ledger's)» is to show -/
def EnumAt (prog : Program) (w : World) (A : Around) (h₀ : Heap) (env : Env) (xi xc : Str) (body : List Stmt) (Q : Flow → Shared → Prop) (E : Value → Shared → Prop) (Inv : Nat → LD → LS → (Str → Option Value) → Prop) (xv : Value) (s₁ : Shared) : Prop :=
  ∃ (e it l nl : Nat) (vs : List Value) (m₀ : Str → Option Value) (d : LD) (σ : LS), xv = .ref e ∧ e ≠ it ∧ l ≠ e ∧ l ≠ it ∧ env.locals ≠ e ∧ env.locals ≠ it ∧ h₀.get? e = none ∧ h₀.get? it = none ∧
    IsEnum s₁.heap e it 0 .none ∧ s₁.heap.IsListIter it l 0 ∧ (l, listOf vs.toArray nl) ∈ d.rest ∧ (∀ p ∈ d.led, p.1 ≠ e ∧ p.1 ≠ it) ∧
    (∀ i d σ m R, Inv i d σ m → Inv i { d with rest := R } σ m) ∧ Fr h₀ env.locals s₁.heap m₀ ∧ News h₀ env.locals s₁.heap d.led ∧ LLed d σ ∧ Inv 0 d σ m₀ ∧
    (∀ i t v d₁ σ₁ m₁ h tk (Qt : Flow → Shared → Prop), vs[i]? = some v → LLed d₁ σ₁ → Inv i d₁ σ₁ m₁ → Fr h₀ env.locals h (fun y => if y = xc then some v else if y = xi then some (.int (i : Int) t) else m₁ y) → News h₀ env.locals h d₁.led →
      (∀ d' σ' m' h' tk', Keeps d₁ d' → LLed d' σ' → Inv (i + 1) d' σ' m' → Fr h₀ env.locals h' m' → News h₀ env.locals h' d'.led → Qt .next { s₁ with heap := h', toks := tk' }) →
      wpAny (model prog w) A (execs body env) Qt E { s₁ with heap := h, toks := tk }) ∧
    (∀ d₁ σ₁ m₁ h tk, LLed d₁ σ₁ → Inv vs.length d₁ σ₁ m₁ → Fr h₀ env.locals h m₁ → News h₀ env.locals h d₁.led → Q .next { s₁ with heap := h, toks := tk })
theorem For_enum {xi xc : Str} {pk pv pt pos : Pos} {x1 : Nat} {iter : Expr} {body : List Stmt} (Inv : Nat → LD → LS → (Str → Option Value) → Prop) (hh : A.handled = none)
    (hxi : env.kindOf xi = some .local) (hxc : env.kindOf xc = some .local) (hp : (env.scope.kind == .class || (env.scope.kind == .module && env.locals != env.globals)) = false)
    (h : wpAny (model prog w) A (eval iter env) (EnumAt prog w A h₀ env xi xc body Q E Inv) E s)
    (hs : ∀ x, foldedSetIterable iter env x = pure x) (hE : PassesOwn (model prog w) A env E) :
    wpAny (model prog w) A (exec (.For (.Tuple [.Name xi pk, .Name xc pv] x1 pt) iter body [] pos) env) Q E s := by
  refine wpAny_For (wpAny_mono h (fun xv s₁ h₁ => ?_) fun _ _ z => z) hs
  obtain ⟨e, it, l, nl, vs, m₀, d, σ, rfl, hei, hle, hli, hLe, hLi, he0, hi0, hEn, hIt, hl, hne, hInv, F, N, hL, hi, turn, done⟩ := h₁
  refine wpAny_pyIter_enum hEn ?_
  have W := WalksT.enumerate (prog := prog) (w := w) hh e it l hei hle hli vs.toArray
  have hsize : vs.toArray.size = vs.length := by simp
  have hol : ∀ h' : Heap, ∀ d₁ : LD, News h₀ env.locals h' d₁.led → (l, listOf vs.toArray nl) ∈ d₁.rest → h'.IsList l vs.toArray := fun h' d₁ N' hl' => News.isList N' (.tail _ (.tail _ (.tail _ (.tail _ hl'))))
  refine codeAny_forLoop_any
    (fun k s' => ∃ (h' : Heap) (tk : Nat) (m' : Str → Option Value) (d₁ : LD) (σ₁ : LS) (i : Nat), s' = { s₁ with heap := h', toks := tk } ∧ ((∃ old, IsEnum h' e it (i : Int) old) ∧ h'.IsListIter it l i ∧ h'.IsList l vs.toArray) ∧ Fr h₀ env.locals h' m' ∧ News h₀ env.locals h' d₁.led ∧ (∀ p ∈ d₁.led, p.1 ≠ e ∧ p.1 ≠ it) ∧
      (l, listOf vs.toArray nl) ∈ d₁.rest ∧ LLed d₁ σ₁ ∧ Inv i d₁ σ₁ m' ∧ i ≤ vs.length ∧ k = vs.length + 1 - i) ?_ (vs.length + 1)
    ⟨s₁.heap, s₁.toks, m₀, d, σ, 0, rfl, ⟨⟨_, by simpa using hEn⟩, hIt, hol _ _ N hl⟩, F, N, hne, hl, hL, hi, Nat.zero_le _, rfl⟩
  rintro k s' ⟨H, tk, m', d₁, σ₁, i, rfl, hst', F', N', hne', hl', hL', hi', hile, rfl⟩
  have old : ∀ b o, h₀.get? b = some o → b ∉ [e, it] := fun b o hb hm => by
    rcases List.mem_cons.mp hm with rfl | hm
    · rw [he0] at hb; cases hb
    · rw [List.mem_singleton.mp hm, hi0] at hb; cases hb
  have hLw : env.locals ∉ [e, it] := fun hm => by
    rcases List.mem_cons.mp hm with e' | hm
    · exact hLe e'
    · exact hLi (List.mem_singleton.mp hm)
  have hnw : ∀ p ∈ d₁.led, p.1 ∉ [e, it] := fun p hp hm => by
    rcases List.mem_cons.mp hm with e' | hm
    · exact (hne' p hp).1 e'
    · exact (hne' p hp).2 (List.mem_singleton.mp hm)
  have next : ∀ h₁ : Heap, (∀ b o, b ∉ [e, it] → H.get? b = some o → h₁.get? b = some o) → Fr h₀ env.locals h₁ m' ∧ News h₀ env.locals h₁ d₁.led := fun h₁ hk₁ =>
    ⟨⟨F'.ns.at' fun o z => hk₁ _ o hLw z, fun b o z => hk₁ b o (old b o z) (F'.keep b o z), F'.above⟩, fun p hp => ⟨hk₁ _ _ (hnw p hp) (N' p hp).1, (N' p hp).2⟩⟩
  by_cases hlt : i < vs.length
  · refine W.item i _ _ _ (by rw [hsize]; exact hlt) hst' fun T vals h₁ tk₁ hPt _ hT hMid hk₁ => ?_
    obtain ⟨t, v, hv, rfl⟩ := hPt
    have hv' : vs[i]? = some v := by simpa using hv
    refine W.go _ x1 pt i T _ _ _ hMid fun h₂ hst₂ hk₂ => ?_
    have ht₂ : h₂.IsTuple T #[.int (i : Int) t, v] := hT.at fun o z => hk₂ T o (W.apart i T h₁ hMid) z
    refine wpAny_assign_Tuple hh ht₂ rfl rfl fun h₃ hx₃ => ?_
    replace hx₃ : Heap.ExtBut h₂.objs.size h₂ h₃ := hx₃
    have up₃ : ∀ b o, h₂.get? b = some o → h₃.get? b = some o := fun b o z => hx₃ b o (Nat.ne_of_lt (Heap.lt_size z)) z
    obtain ⟨F₃, N₃⟩ := next h₃ fun b o hb z => up₃ b o (hk₂ b o hb (hk₁ b o hb z))
    show wpAny _ A (do holding [v] (assign (.Name xi pk) env (.int (i : Int) t)); do holding [] (assign (.Name xc pv) env v); pure ()) _ _ _
    refine wpAny_bind (wpAny_holding (wpAny_assign_Name (wpAny_storeName_local hxi F₃.ns (fun h₄ hn₄ hs₄ => ?_) hp)))
    replace hs₄ : Heap.SameBut env.locals h₃ h₄ := hs₄
    have F₄ := F₃.set hn₄ hs₄
    refine wpAny_bind (wpAny_holding (wpAny_assign_Name (wpAny_storeName_local hxc F₄.ns (fun h₅ hn₅ hs₅ => wpAny_pure ?_) hp)))
    replace hs₅ : Heap.SameBut env.locals h₄ h₅ := hs₅
    have F₅ := F₄.set hn₅ hs₅
    have N₅ : News h₀ env.locals h₅ d₁.led := (N₃.set hs₄).set hs₅
    have hLl : env.locals ≠ l := fun z => (N' _ (.tail _ (.tail _ (.tail _ (.tail _ hl'))))).2.1 z.symm
    have hst₅ := W.frame _ _ _ hst₂ fun b hb o z => hs₅.extBut b o (fun q => by
        rw [q] at hb
        rcases List.mem_cons.mp hb with z | hb
        · exact hLe z
        · rcases List.mem_cons.mp hb with z | hb
          · exact hLi z
          · exact hLl (List.mem_singleton.mp hb)) (hs₄.extBut b o (fun q => by
        rw [q] at hb
        rcases List.mem_cons.mp hb with z | hb
        · exact hLe z
        · rcases List.mem_cons.mp hb with z | hb
          · exact hLi z
          · exact hLl (List.mem_singleton.mp hb)) (up₃ b o z))
    obtain ⟨⟨old5, hE5⟩, ⟨oi, hoi, hoc, hod⟩, hl5⟩ := hst₅
    obtain ⟨oe, hoe1, hoe2, hoe3⟩ : ∃ oe : Obj, h₅.get? e = some oe ∧ oe.cls = .type "enumerate" ∧ ∀ h' : Heap, h'.get? e = some oe → IsEnum h' e it ((i + 1 : Nat) : Int) old5 := ⟨_, hE5, rfl, fun _ z => z⟩
    have hLm : LLed (d₁.more [(e, oe), (it, oi)]) σ₁ := hL'.more fun p hp => by
      have b1 := hne' (d₁.dM, _) (.head _)
      have b2 := hne' (d₁.smp, _) (.tail _ (.head _))
      have b3 := hne' (d₁.dR, _) (.tail _ (.tail _ (.head _)))
      have b4 := hne' (d₁.outA, _) (.tail _ (.tail _ (.tail _ (.head _))))
      rcases List.mem_cons.mp hp with rfl | hp
      · exact ⟨fun z => b1.1 z.symm, fun z => b2.1 z.symm, fun z => b3.1 z.symm, fun z => b4.1 z.symm⟩
      · rw [List.mem_singleton.mp hp]
        exact ⟨fun z => b1.2 z.symm, fun z => b2.2 z.symm, fun z => b3.2 z.symm, fun z => b4.2 z.symm⟩
    refine wpAny_passesOwn hE (turn i t v (d₁.more [(e, oe), (it, oi)]) σ₁ m' h₅ _ _ hv' hLm (hInv _ _ _ _ _ hi') F₅ ?_ ?_)
    · intro p hp
      rcases List.mem_append.mp (led_more hp) with hp | hp
      · rcases List.mem_cons.mp hp with rfl | hp
        · exact ⟨hoe1, fun z => hLe z.symm, he0⟩
        · rw [List.mem_singleton.mp hp]
          exact ⟨hoi, fun z => hLi z.symm, hi0⟩
      · exact N₅ p hp
    · intro d' σ' m₂ h' tk' hK hL2 hi2 F2 N2
      have hw : ∀ b ∈ [e, it], ∃ o, (b, o) ∈ d'.rest ∧ IterObj o := by
        intro b hb
        rcases List.mem_cons.mp hb with rfl | hb
        · exact ⟨_, hK.rest _ (List.mem_append.mpr (.inl (.head _))), .inl hoe2⟩
        · rw [List.mem_singleton.mp hb]
          exact ⟨oi, hK.rest _ (List.mem_append.mpr (.inl (.tail _ (.head _)))), .inr (.inl hoc)⟩
      have hl2 : (l, listOf vs.toArray nl) ∈ d'.rest := hK.rest _ (List.mem_append.mpr (.inr hl'))
      have g1 := (N2 _ (.tail _ (.tail _ (.tail _ (.tail _ (hK.rest _ (List.mem_append.mpr (.inl (.head _)))))))) : _)
      have g2 := (N2 _ (.tail _ (.tail _ (.tail _ (.tail _ (hK.rest _ (List.mem_append.mpr (.inl (.tail _ (.head _))))))))) : _)
      refine ⟨vs.length + 1 - (i + 1), by omega, h', tk', m₂, d'.drop [e, it], σ', i + 1, rfl, ⟨⟨old5, ?_⟩, ⟨oi, g2.1, hoc, hod⟩, hol _ _ N2 hl2⟩, F2, fun p hp => N2 p (led_drop hp), ?_, drop_mem N2 hw hl2 list_noIter, hL2.drop N2 hw, hInv _ _ _ _ _ hi2, hlt, rfl⟩
      · exact hoe3 _ g1.1
      · intro p hp
        have h7 := drop_off hL2 hw p hp
        exact ⟨fun z => h7 (z ▸ .head _), fun z => h7 (z ▸ .tail _ (.head _))⟩
  · have hin : i = vs.length := by omega
    subst hin
    rw [← hsize] at hst'
    refine W.done _ _ _ hst' fun h₁ tk₁ hk₁ => wpAny_execs_nil ?_
    obtain ⟨F₁, N₁⟩ := next h₁ hk₁
    exact done d₁ σ₁ m' h₁ tk₁ hL' hi' F₁ N₁
end
theorem fold_ext : ∀ (l : List Int) (p : Int × Int), p.1 ≤ p.2 → ((l.foldl stepMM p).1 = p.1 ∨ (l.foldl stepMM p).1 ∈ l) ∧ ((l.foldl stepMM p).2 = p.2 ∨ (l.foldl stepMM p).2 ∈ l) ∧ (l.foldl stepMM p).1 ≤ p.1 ∧ p.2 ≤ (l.foldl stepMM p).2 ∧ (∀ x ∈ l, (l.foldl stepMM p).1 ≤ x ∧ x ≤ (l.foldl stepMM p).2)
  | [], p, h => ⟨.inl rfl, .inl rfl, Int.le_refl _, Int.le_refl _, fun _ h => nomatch h⟩
  | x :: r, p, h => by
    have hs : (stepMM p x).1 ≤ (stepMM p x).2 ∧ ((stepMM p x).1 = p.1 ∨ (stepMM p x).1 = x) ∧ ((stepMM p x).2 = p.2 ∨ (stepMM p x).2 = x) ∧ (stepMM p x).1 ≤ p.1 ∧ p.2 ≤ (stepMM p x).2 ∧ (stepMM p x).1 ≤ x ∧ x ≤ (stepMM p x).2 := by
      unfold stepMM
      split
      · refine ⟨?_, .inr rfl, .inl rfl, ?_, ?_, ?_, ?_⟩ <;> dsimp only <;> omega
      · split
        · refine ⟨?_, .inl rfl, .inr rfl, ?_, ?_, ?_, ?_⟩ <;> dsimp only <;> omega
        · refine ⟨?_, .inl rfl, .inl rfl, ?_, ?_, ?_, ?_⟩ <;> omega
    obtain ⟨s1, s2, s3, s4, s5, s6, s7⟩ := hs
    obtain ⟨i1, i2, i3, i4, i5⟩ := fold_ext r (stepMM p x) s1
    show ((r.foldl stepMM (stepMM p x)).1 = p.1 ∨ _) ∧ _
    refine ⟨?_, ?_, ?_, ?_, ?_⟩
    · rcases i1 with e | e
      · rcases s2 with e2 | e2
        · exact .inl (e.trans e2)
        · exact .inr (by show (r.foldl stepMM (stepMM p x)).1 ∈ x :: r; rw [e, e2]; exact .head _)
      · exact .inr (.tail _ e)
    · rcases i2 with e | e
      · rcases s3 with e2 | e2
        · exact .inl (e.trans e2)
        · exact .inr (by show (r.foldl stepMM (stepMM p x)).2 ∈ x :: r; rw [e, e2]; exact .head _)
      · exact .inr (.tail _ e)
    · exact Int.le_trans i3 s4
    · exact Int.le_trans s5 i4
    · intro y hy
      rcases List.mem_cons.mp hy with rfl | hy
      · exact ⟨Int.le_trans i3 s6, Int.le_trans s7 i4⟩
      · exact i5 y hy
theorem mm_ext {l : List Int} (hl : l.length = 5) : (mmOf l).1 ∈ l ∧ (mmOf l).2 ∈ l ∧ (∀ x ∈ l, (mmOf l).1 ≤ x) ∧ (∀ x ∈ l, x ≤ (mmOf l).2) := by
  cases l with
  | nil => simp at hl
  | cons a r =>
    obtain ⟨i1, i2, i3, i4, i5⟩ := fold_ext r (a, a) (Int.le_refl _)
    have e : mmOf (a :: r) = r.foldl stepMM (a, a) := rfl
    rw [e]
    refine ⟨?_, ?_, ?_, ?_⟩
    · rcases i1 with z | z
      · rw [z]; exact .head _
      · exact .tail _ z
    · rcases i2 with z | z
      · rw [z]; exact .head _
      · exact .tail _ z
    · intro x hx
      rcases List.mem_cons.mp hx with rfl | hx
      · exact i3
      · exact (i5 x hx).1
    · intro x hx
      rcases List.mem_cons.mp hx with rfl | hx
      · exact i4
      · exact (i5 x hx).2
def last5 (l : List Int) : List Int := l.drop (l.length - 5)
theorem trips_turn {M : Mon} {trips : List Int} {r : Int} (ht : TripsOf M trips) (hl : M.sl.length = 5) (h0 : 0 ≤ M.idx) (h1 : M.idx < 5) :
    ((M.ready || decide (5 ≤ M.idx + 1)) = false ∧ last5 (trips ++ [r]) = (M.sl.set M.idx.toNat r).take (if 5 ≤ M.idx + 1 then 0 else M.idx + 1).toNat ∧ (last5 (trips ++ [r])).length < 5) ∨
    ((M.ready || decide (5 ≤ M.idx + 1)) = true ∧ last5 (trips ++ [r]) = (M.sl.set M.idx.toNat r).drop (if 5 ≤ M.idx + 1 then 0 else M.idx + 1).toNat ++ (M.sl.set M.idx.toNat r).take (if 5 ≤ M.idx + 1 then 0 else M.idx + 1).toNat ∧ (last5 (trips ++ [r])).length = 5 ∧ ∀ x, x ∈ last5 (trips ++ [r]) ↔ x ∈ M.sl.set M.idx.toNat r) := by
  obtain ⟨inc, idx, stime, ready, fm, sl⟩ := M
  dsimp only at *
  match sl, hl with
  | [a, b, c, d, e], _ =>
    have hx : idx = 0 ∨ idx = 1 ∨ idx = 2 ∨ idx = 3 ∨ idx = 4 := by omega
    rcases ht with ⟨hr, ht⟩ | ⟨hr, ht⟩ <;> dsimp only at hr ht <;> subst hr <;> subst ht
    · rcases hx with rfl | rfl | rfl | rfl | rfl
      · exact .inl ⟨rfl, rfl, (by decide : (1 : Nat) < 5)⟩
      · exact .inl ⟨rfl, rfl, (by decide : (2 : Nat) < 5)⟩
      · exact .inl ⟨rfl, rfl, (by decide : (3 : Nat) < 5)⟩
      · exact .inl ⟨rfl, rfl, (by decide : (4 : Nat) < 5)⟩
      · refine .inr ⟨rfl, rfl, rfl, fun x => ?_⟩
        show x ∈ [a, b, c, d, r] ↔ x ∈ [a, b, c, d, r]
        exact Iff.rfl
    · rcases hx with rfl | rfl | rfl | rfl | rfl
      · refine .inr ⟨rfl, rfl, rfl, fun x => ?_⟩
        show x ∈ [b, c, d, e, r] ↔ x ∈ [r, b, c, d, e]
        simp only [List.mem_cons, List.not_mem_nil, or_false]
        constructor <;> (intro h; rcases h with h | h | h | h | h <;> simp [h])
      · refine .inr ⟨rfl, rfl, rfl, fun x => ?_⟩
        show x ∈ [c, d, e, a, r] ↔ x ∈ [a, r, c, d, e]
        simp only [List.mem_cons, List.not_mem_nil, or_false]
        constructor <;> (intro h; rcases h with h | h | h | h | h <;> simp [h])
      · refine .inr ⟨rfl, rfl, rfl, fun x => ?_⟩
        show x ∈ [d, e, a, b, r] ↔ x ∈ [a, b, r, d, e]
        simp only [List.mem_cons, List.not_mem_nil, or_false]
        constructor <;> (intro h; rcases h with h | h | h | h | h <;> simp [h])
      · refine .inr ⟨rfl, rfl, rfl, fun x => ?_⟩
        show x ∈ [e, a, b, c, r] ↔ x ∈ [a, b, c, r, e]
        simp only [List.mem_cons, List.not_mem_nil, or_false]
        constructor <;> (intro h; rcases h with h | h | h | h | h <;> simp [h])
      · refine .inr ⟨rfl, rfl, rfl, fun x => ?_⟩
        show x ∈ [a, b, c, d, r] ↔ x ∈ [a, b, c, d, r]
        exact Iff.rfl
theorem pick_last5 {l : List Value} : kms_pick l (some (-5)) none = l.drop (l.length - 5) := by
  unfold kms_pick kms_lo kms_hi
  dsimp only
  rw [if_pos (by decide)]
  apply List.take_of_length_le
  rw [List.length_drop]
  exact Nat.le_refl _
theorem IntsAre_drop {vs : List Value} {ns : List Int} (h : IntsAre vs ns) : ∀ k, IntsAre (vs.drop k) (ns.drop k) := by
  induction h with
  | nil => intro k; simp; exact .nil
  | cons a t r ih =>
    intro k
    cases k with
    | zero => exact .cons a t r
    | succ k => exact ih k
theorem trips_len {M : Mon} {trips : List Int} (ht : TripsOf M trips) (hl : M.sl.length = 5) : trips.length ≤ 5 := by
  rcases ht with ⟨_, ht⟩ | ⟨_, ht⟩ <;> subst ht
  · rw [List.length_take]; omega
  · rw [List.length_append, List.length_take, List.length_drop]; omega
theorem last5_ints {tv : List Value} {trips : List Int} {trip : Int} {tt : Tok} (h : IntsAre tv trips) : ∃ zs, kms_pick (tv ++ [Value.int trip tt]) (some (-5)) none = zs ∧ IntsAre zs (last5 (trips ++ [trip])) := by
  refine ⟨_, pick_last5, ?_⟩
  have e : (tv ++ [Value.int trip tt]).length = (trips ++ [trip]).length := by simp [h.length]
  unfold last5
  rw [← e]
  exact IntsAre_drop (IntsAre.append h (.cons trip tt .nil)) _
theorem LFr.rest {d : LD} {σ : LS} {m : Str → Option Value} {R : List (Addr × Obj)} (h : LFr d σ m) : LFr { d with rest := R } σ m :=
  ⟨h.1, h.2, h.3, h.4, h.5, h.6, h.7, h.8, h.9, h.10, h.11, h.12⟩
def frNames : List Str := [Str.ofString "size", Str.ofString "reno", Str.ofString "out", Str.ofString "window", Str.ofString "threshold", Str.ofString "carried", Str.ofString "since", Str.ofString "trips", Str.ofString "counted", Str.ofString "floor", Str.ofString "rises", Str.ofString "now"]
theorem LFr.of {d : LD} {σ : LS} {m m' : Str → Option Value} (h : LFr d σ m) (e : ∀ y ∈ frNames, m' y = m y) : LFr d σ m' := by
  simp only [frNames, List.forall_mem_cons] at e
  obtain ⟨e1, e2, e3, e4, e5, e6, e7, e8, e9, e10, e11, e12, _⟩ := e
  exact ⟨by rw [e1]; exact h.1, by rw [e2]; exact h.2, by rw [e3]; exact h.3, by rw [e4]; exact h.4, h.5.keep e5, by rw [e6]; exact h.6, by rw [e7]; exact h.7, by rw [e8]; exact h.8, by rw [e9]; exact h.9, h.10.keep e10, by rw [e11]; exact h.11, by rw [e12]; exact h.12⟩
theorem LFr.set {d : LD} {σ : LS} {m : Str → Option Value} {x : Str} {o : Option Value} (h : LFr d σ m) (hx : ∀ y ∈ frNames, y ≠ x) : LFr d σ (fun y => if y = x then o else m y) :=
  h.of fun y hy => if_neg (hx y hy)
theorem LPure.succ {σ : LS} {i : Nat} (h : LPure σ i) (hi : i < 22) : LPure σ (i + 1) :=
  { h with
    pot := by have := h.pot; omega
    rlen := by have := h.rlen; omega
    ihi := by omega }
theorem pick_big {prog : Program} {w : World} {A : Around} {E : Value → Shared → Prop} {s : Shared} {h₀ : Heap} {L a : Addr} {news : List (Addr × Obj)} {vs : List Value} {n : Nat} {value slice : PySem.Expr} {k : Int} {u : Tok} {Q : Value → Shared → Prop} (N : News h₀ L s.heap news) (hm : (a, tupOf vs n) ∈ news) (h0 : 0 ≤ k) (h1 : k < (vs.length : Int)) (hl : vs.length < 100)
    (hall : ∀ x ∈ vs, ∃ o t, x = .int o t ∧ 0 ≤ o ∧ o ≤ 20000) (h : ∀ o t, 0 ≤ o → o ≤ 20000 → Q (.int o t) s)
    (hs : subscripted slice false (.ref a) (.int k u) = operate [.ref a, .int k u] (getItem (.ref a) (.int k u))) :
    wpAny (model prog w) A (subscriptTail value slice (.ref a) (.int k u)) Q E s := by
  have hk : k.toNat < vs.length := by omega
  obtain ⟨o, t, e, b1, b2⟩ := hall _ (List.getElem_mem hk)
  refine item_tupleT (News.isTup N hm) (by omega) (by omega) (j := k.toNat) ?_ (List.getElem?_eq_getElem hk) (by rw [e]; exact h o t b1 b2) hs
  unfold seqIndex?
  have hk0 : ¬ (k < 0) := by omega
  simp [hk0]
  omega
section
theorem back7 : True := by
  w_top off
  trivial
local macro_rules | `(tactic| k_all) => `(tactic| assumption)
local macro_rules | `(tactic| k_get) => `(tactic| ((with_reducible refine (getL_put_ne (by decide +kernel)).trans ?_); k_get))
local macro_rules | `(tactic| k_get) => `(tactic| with_reducible exact getL_put_same)
local macro_rules | `(tactic| k_get) => `(tactic| with_reducible assumption)
local macro_rules | `(tactic| walk_at "setAttr ref") => `(tactic| (k_here; k_dflt (refine' set_dictA ?k1 ?k2 ?k3 ?k4 ?k5 ?k6 ?k7 ?k8 ?k9 ?k10 ?k11 ?k12 ?_; (case k1 => k_asm); (case k2 => k_asm); (case k3 => k_asm); (case k4 => k_inst); (case k5 => exact rfl); (case k6 => k_is); (case k7 => k_is); (case k8 => k_is); (case k9 => k_is); (case k10 => (refine' getL_some ?g; (case g => ((repeat (with_reducible refine (getL_put_ne (by decide +kernel)).trans ?_)); with_reducible first | assumption | exact getL_put_same)))); (case k11 => k_updF); (case k12 => (refine lt_put0 ?_; repeat (first | omega | refine lt_put ?_))); k_whole; intro h' hsh' t' n' F' N'; (try dsimp only at N'); (try k_sweep))))
local macro_rules | `(tactic| k_mem) => `(tactic| ((show (_ : Addr × Obj) ∈ (_ : List (Addr × Obj))); ktr_member))
local macro_rules | `(tactic| walk_at "eval Name") => `(tactic| (k_here; k_dflt (refine' ld ?k1 ?k2 ?_; (case k1 => k_asm); (case k2 => first | with_reducible assumption | ((with_reducible show (ite _ _ _) = _); (repeat (with_reducible refine (if_neg (by decide +kernel)).trans ?_)); with_reducible first | assumption | exact if_pos rfl)); k_whole)))
local macro_rules | `(tactic| walk_at "loadName") => `(tactic| (k_here; k_dflt (refine' ldn ?k1 ?k2 ?_; (case k1 => k_asm); (case k2 => first | with_reducible assumption | ((with_reducible show (ite _ _ _) = _); (repeat (with_reducible refine (if_neg (by decide +kernel)).trans ?_)); with_reducible first | assumption | exact if_pos rfl)); k_whole)))
local macro_rules | `(tactic| walk_at "call ref") => `(tactic| (k_here; (with_reducible show wpAny _ _ (call (Value.ref 119) _ _) _ _ _); k_dflt (refine' c_persist ?k1 ?k2 ?k3 ?k4 ?k5 ?k6 ?k7 ?k8 ?_; (case k1 => k_asm); (case k2 => k_asm); (case k3 => assumption); (case k4 => k_mem); (case k5 => k_updF); (case k6 => assumption); (case k7 => omega); (case k8 => omega); k_whole; intro es9 n9 h9 tk9 D9 F9 N9; (try dsimp only at N9))))
local macro_rules | `(tactic| walk_at "subscriptTail Name Slice ref ref") => `(tactic| (k_here; (with_reducible show wpAny _ _ (subscriptTail _ (PySem.Expr.Slice _ _ none _) (Value.ref _) (Value.ref _)) _ _ _); k_dflt (refine' slice_own ?F ?N ?m ?p ?q ?z ?e ?_ ?s ?t; (case F => k_asm); (case N => k_asm); (case m => k_mem); (case p => kmk_part); (case q => kmk_part); (case z => first | assumption | (simp only [List.length_cons, List.length_nil]; omega)); (case e => assumption); (case s => with_unfolding_all rfl); (case t => kmk_pure)); intro D' h' F' N' l1; (try k_lt l1); (try k_sweep)))
local macro_rules | `(tactic| walk_at "call ref") => `(tactic| (k_here; (with_reducible show wpAny _ _ (call (Value.ref 105) _ _) _ _ _); k_dflt (refine' c_expired ?k1 ?k2 ?k3 ?k4 ?k5 ?k6 ?k7 ?k11 ?k8 ?k9 ?k10 ?_; (case k1 => k_asm); (case k2 => k_asm); (case k3 => assumption); (case k4 => k_mem); (case k5 => k_updF); (case k6 => assumption); (case k7 => k_mem); (case k11 => omega); (case k8 => with_reducible assumption); (case k9 => (intro p9 hp9; repeat (first | exact hp9 | refine List.Mem.tail _ ?_))); (case k10 => assumption); k_whole; intro es9 n9 h9 tk9 D9 F9 N9; (try dsimp only at N9))))
local macro_rules | `(tactic| walk_at "CompSrc") => `(tactic| (k_here; k_dflt (refine LCg.CompSrc.ledger (by rfl) (by k_asm) (by k_asm) (by k_mem) (by (simp only [List.size_toArray, List.length_take, sizeLine_eq]; omega)) ?_); intro g'; k_dflt (refine' comp_row0 ?hI ?hsub ?hm ?hfn ?hlo ?hx ?_; (case hI => assumption); (case hsub => (intro p9 hp9; repeat (first | exact hp9 | refine List.Mem.tail _ ?_))); (case hm => k_mem); (case hfn => (intro C9; rfl)); (case hlo => (intro C9; rfl)); (case hx => decide)); k_whole; intro D' h' tk' F' N' off'; (try simp only [LCg.Off1, and_true] at off')))
local macro_rules | `(tactic| walk_at "CompSrc") => `(tactic| (k_here; k_dflt (refine LCg.CompSrc.ledger (by rfl) (by k_asm) (by k_asm) (by k_mem) (by (simp only [List.size_toArray, List.length_take, sizeLine_eq]; omega)) ?_); intro g'; k_dflt (refine' comp_row2 ?hI ?hsub ?hm ?hfn ?hlo ?hx ?_; (case hI => assumption); (case hsub => (intro p9 hp9; repeat (first | exact hp9 | refine List.Mem.tail _ ?_))); (case hm => k_mem); (case hfn => (intro C9; rfl)); (case hlo => (intro C9; rfl)); (case hx => decide)); k_whole; intro D' h' tk' F' N' off'; (try simp only [LCg.Off1, and_true] at off')))
local macro_rules | `(tactic| walk_at "call builtin:len") => `(tactic| (k_here; (with_reducible show wpAny _ _ (call (Value.builtin "len") [Value.ref _]) _ _ _); k_dflt (refine' len_own ?N ?m ?z ?_; (case N => k_asm); (case m => k_mem); (case z => first | assumption | (simp only [List.length_take, List.length_drop, List.length_cons, List.length_nil]; omega)); k_whole)))
local macro_rules | `(tactic| walk_at "binaryOp Add ref ref") => `(tactic| (k_here; (with_reducible show wpAny _ _ (binaryOp _ (Value.ref _) (Value.ref _)) _ _ _); k_dflt (refine' add_own ?F ?N ?a ?b ?z1 ?z2 ?_; (case F => k_asm); (case N => k_asm); (case a => k_mem); (case b => k_mem); (case z1 => first | assumption | exact Nat.le_of_ble_eq_true rfl); (case z2 => first | assumption | exact Nat.le_of_ble_eq_true rfl); k_whole); intro D' h' F' N' l1; (try k_lt l1); (try k_sweep)))
local macro_rules | `(tactic| walk_at "subscriptTail") => `(tactic| (k_here; (with_reducible show wpAny _ _ (subscriptTail _ _ (Value.ref _) (Value.int _ _)) _ _ _); k_dflt (refine' last_own ?N ?m ?k ?l ?z ?x ?_ ?s; (case N => k_asm); (case m => k_mem); (case k => rfl); (case l => assumption); (case z => assumption); (case x => assumption); (case s => with_unfolding_all rfl); k_whole)))
local macro_rules | `(tactic| walk_at "call ref") => `(tactic| (k_here; (with_reducible show wpAny _ _ (call (Value.ref 112) _ _) _ _ _); k_dflt (refine' c_lost ?k1 ?k2 ?k3 ?k4 ?k5 ?k6 ?k7 ?k11 ?k8 ?k9 ?k10 ?k12 ?k13 ?k14 ?k15 ?_; (case k1 => k_asm); (case k2 => k_asm); (case k3 => assumption); (case k4 => k_mem); (case k5 => k_updF); (case k6 => assumption); (case k7 => k_mem); (case k11 => omega); (case k8 => with_reducible assumption); (case k9 => (intro p9 hp9; repeat (first | exact hp9 | refine List.Mem.tail _ ?_))); (case k10 => assumption); (case k12 => omega); (case k13 => omega); (case k14 => omega); (case k15 => omega); k_whole; intro es9 n9 h9 tk9 cr9 cw9 ss9 R9 D9 F9 N9; (try dsimp only at N9); (rcases R9 with ⟨c9, r1, r2, r3⟩ | ⟨c9, r1, r2, r3⟩) <;> (replace r1 := Eq.symm r1; subst r1; replace r2 := Eq.symm r2; subst r2; replace r3 := Eq.symm r3; subst r3))))
local macro_rules | `(tactic| walk_at "subscriptTail") => `(tactic| (k_here; (with_reducible show wpAny _ _ (subscriptTail _ _ (Value.ref _) (Value.int _ _)) _ _ _); k_dflt (refine' pick_own ?N ?m ?k0 ?k1 ?l ?all ?_ ?s; (case N => k_asm); (case m => k_mem); (case k0 => assumption); (case k1 => assumption); (case l => exact Nat.lt_of_sub_eq_succ rfl); (case all => (repeat (first | exact List.forall_mem_nil _ | refine List.forall_mem_cons.mpr ⟨⟨_, _, rfl, by omega, by omega⟩, ?_⟩))); (case s => with_unfolding_all rfl); k_whole); intro o9 t9 b9 c9))
local macro_rules | `(tactic| walk_at "call ref") => `(tactic| (k_here; (with_reducible show wpAny _ _ (call (Value.ref 98) _ _) _ _ _); k_dflt (refine' c_sent (tl := [(_, instObj 177 _), (_, dictOf _ _)]) ?k1 ?k2 ?k3 ?k4 ?k5 ?k6 ?k7 ?k8 ?k9 ?_; (case k1 => k_asm); (case k2 => k_asm); (case k3 => assumption); (case k4 => k_mem); (case k5 => k_updF); (case k6 => assumption); (case k8 => refine List.forall_mem_cons.mpr ⟨by k_mem, List.forall_mem_cons.mpr ⟨by k_mem, List.forall_mem_nil _⟩⟩); (case k7 => exact ⟨_, _, _, .head _, .tail _ (.head _), ⟨⟨_, by k_get⟩, ⟨_, by k_get⟩⟩⟩); (case k9 => (intro p9 hp9; rcases List.mem_cons.mp hp9 with h9 | hp9; (subst h9; k_ne); rcases List.mem_cons.mp hp9 with h9 | hp9; (subst h9; k_ne); exact nomatch hp9)); k_whole; intro es9 n9 h9 tk9 D9 F9 N9; (try dsimp only at N9))))
local macro_rules | `(tactic| walk_at "call builtin:list.pop") => `(tactic| (k_here; (with_reducible show wpAny _ _ (call (Value.builtin _) [Value.ref _, Value.int _ _]) _ _ _); k_dflt (refine' pop_own ?F ?N ?v ?k ?l ?U ?_; (case F => k_asm); (case N => k_asm); (case v => assumption); (case k => assumption); (case l => assumption); (case U => k_upd); k_whole); intro h' F' N'; (try dsimp only at N')))
local macro_rules | `(tactic| walk_at "call ref") => `(tactic| (k_here; (with_reducible show wpAny _ _ (call (Value.ref 91) _ _) _ _ _); k_dflt (refine' c_acked ?k1 ?k2 ?k3 ?k4 ?k5 ?k6 ?k7 ?k8 ?k9 ?b1 ?b2 ?b3 ?b4 ?b5 ?b6 ?b7 ?b8 ?_; (case k1 => k_asm); (case k2 => k_asm); (case k3 => assumption); (case k4 => k_mem); (case k5 => k_updF); (case k6 => assumption); (case k7 => with_reducible assumption); (case k8 => (intro p9 hp9; repeat (first | exact hp9 | refine List.Mem.tail _ ?_))); (case k9 => assumption); (case b1 => omega); (case b2 => omega); (case b3 => omega); (case b4 => omega); (case b5 => omega); (case b6 => omega); (case b7 => omega); (case b8 => omega); k_whole; intro es9 n9 h9 tk9 cw9 st9 R9 D9 F9 N9; (try dsimp only at N9); refine Stop.mk ?_)))
local macro_rules | `(tactic| walk_at "exec While Compare cons nil") => `(tactic| refine Stop.mk ?_)
local macro_rules | `(tactic| walk_at "call builtin:max") => `(tactic| (k_here; (with_reducible show wpAny _ _ (call (Value.builtin _) [Value.ref _]) _ _ _); k_dflt (refine' max_own ?h ?F ?N ?m ?i ?a ?b ?_; (case h => exact rfl); (case F => k_asm); (case N => k_asm); (case m => k_mem); (case i => with_reducible assumption); (case b => with_reducible assumption); (case a => with_reducible assumption); k_whole); intro h' t' tk' F' N'))
local macro_rules | `(tactic| walk_at "call builtin:min") => `(tactic| (k_here; (with_reducible show wpAny _ _ (call (Value.builtin _) [Value.ref _]) _ _ _); k_dflt (refine' min_own ?h ?F ?N ?m ?i ?a ?b ?_; (case h => exact rfl); (case F => k_asm); (case N => k_asm); (case m => k_mem); (case i => with_reducible assumption); (case b => with_reducible assumption); (case a => with_reducible assumption); k_whole); intro h' t' tk' F' N'))
local macro_rules | `(tactic| walk_at "call builtin:min") => `(tactic| (k_here; (with_reducible show wpAny _ _ (call (Value.builtin _) [Value.int _ _, Value.int _ _]) _ _ _); k_dflt (refine' min_lo ?h ?F ?N ?c ?_; (case h => exact rfl); (case F => k_asm); (case N => k_asm); (case c => with_reducible assumption); k_whole); intro h' tk' F' N'))
local macro_rules | `(tactic| walk_at "call builtin:min") => `(tactic| (k_here; (with_reducible show wpAny _ _ (call (Value.builtin _) [Value.int _ _, Value.int _ _]) _ _ _); k_dflt (refine' min_hi ?h ?F ?N ?c ?_; (case h => exact rfl); (case F => k_asm); (case N => k_asm); (case c => with_reducible assumption); k_whole); intro h' tk' F' N'))
local macro_rules | `(tactic| walk_at "call ref") => `(tactic| ((with_reducible show wpAny _ _ (call (Value.ref 126) _ _) _ _ _); refine Stop.mk ?_))
section
variable {w : World} {mg mb : Str → Option Value} {mean : ExcName → Option Value} {base h₀ : Heap} {L fa : Addr} {cd : Value} {s : Shared} {E : Value → Shared → Prop} {m : Str → Option Value} {d : LD} {σ : LS} {i : Nat}
theorem br_pers {Qt : Flow → Shared → Prop} (C : Ctx w mg mb mean base h₀) (F : Fr h₀ L s.heap m) (N : News h₀ L s.heap d.led) (hF : LFr d σ m) (hL : LLed d σ) (hP : LPure σ i) (hi : i < 22)
    (k : ∀ d' σ' m' h' tk, Keeps d d' → LFr d' σ' m' → LLed d' σ' → LPure σ' (i + 1) → Fr h₀ L h' m' → News h₀ L h' d'.led → Qt .next { s with heap := h', toks := tk }) :
    wpAny (model PySem.Challenge.rw_je0001_01.row.prog w) (lawA L fa cd) (execs brPers (lawEnv L fa cd)) Qt E s := by
  have e1 : brPers = brPers := rfl
  conv at e1 => rhs; whnf
  have e2 : lawScope = lawScope := rfl
  conv at e2 => rhs; whnf
  rw [e1]
  unfold lawA lawEnv
  rw [e2]
  clear e1 e2
  obtain ⟨B, X, T⟩ := id C
  obtain ⟨size, now, window, carried, since, counted, rises, thr, flr, trips, rows, M⟩ := σ
  obtain ⟨reno, mon, dR, dM, smp, outA, trA, em, es, nM, n, ns, no, nt, sv, ov, tv, mx, mn, rest⟩ := d
  obtain ⟨⟨ts, hsize⟩, hreno, hout, ⟨tw, hwin⟩, hthr, ⟨tc, hcar⟩, ⟨tsi, hsin⟩, htrp, ⟨tcn, hcnt⟩, hflr, ⟨tri, hris⟩, ⟨tno, hnow⟩⟩ := id hF
  obtain ⟨qreno, qmon, qtr, itr, hrows, D, DM, ism, off1, off2, off3, off4, ne1, ne2, ne3, ne4, ne5, ne6⟩ := id hL
  obtain ⟨psize, pwlo, ppot, pclo, pslo, pshi, pnlo, prlen, prbd, pminc, pmfm, pmtime, pmlen, pmi0, pmi1, pmbd, pmfb, ptrp, pihi, prthr⟩ := id hP
  clear hF hL hP
  dsimp only at *
  unfold LD.led at N
  dsimp only at N
  have em1 := D.meths (Str.ofString "on_persistent_congestion") (by decide +kernel)
  k_steps
  (rename Fr _ _ _ _ => kF9)
  (rename News _ _ _ _ => kN9)
  (rename RenoD _ _ _ _ _ _ _ _ => D9)
  exact k ⟨reno, mon, dR, dM, smp, outA, trA, em, _, nM, _, ns, no, nt, sv, ov, tv, mx, mn, rest⟩ ⟨size, now, (2 * size), carried, 0, counted, rises, thr, flr, trips, rows, M⟩ _ _ _ (by exact ⟨fun _ h => h⟩)
    ⟨(by first | exact ⟨_, hsize⟩ | exact ⟨_, rfl⟩), (by first | exact hreno | exact rfl), (by first | exact hout | exact rfl), (by first | exact ⟨_, hwin⟩ | exact ⟨_, rfl⟩), (by first | exact OptAt.keep hthr rfl | exact .inl ⟨_, _, rfl, rfl⟩), (by first | exact ⟨_, hcar⟩ | exact ⟨_, rfl⟩), (by first | exact ⟨_, hsin⟩ | exact ⟨_, rfl⟩), (by first | exact htrp | exact rfl), (by first | exact ⟨_, hcnt⟩ | exact ⟨_, rfl⟩), (by first | exact OptAt.keep hflr rfl | exact .inl ⟨_, _, rfl, rfl⟩), (by first | exact ⟨_, hris⟩ | exact ⟨_, rfl⟩), (by first | exact ⟨_, hnow⟩ | exact ⟨_, rfl⟩)⟩
    ⟨qreno, qmon, qtr, itr, hrows, D9, DM, ism, off1, off2, off3, off4, ne1, ne2, ne3, ne4, ne5, ne6⟩
    ⟨psize, by dsimp only; omega, by dsimp only; omega, by dsimp only; omega, by dsimp only; omega, by dsimp only; omega, by dsimp only; omega, by dsimp only; omega, prbd, pminc, pmfm, pmtime, pmlen, pmi0, pmi1, pmbd, pmfb, ptrp, by omega, prthr⟩ kF9 kN9
end

end
section
local macro_rules | `(tactic| walk_at "no such key") => `(tactic| fail)
theorem back8 : True := by
  w_top off
  trivial
local macro_rules | `(tactic| k_all) => `(tactic| assumption)
local macro_rules | `(tactic| k_get) => `(tactic| ((with_reducible refine (getL_put_ne (by decide +kernel)).trans ?_); k_get))
local macro_rules | `(tactic| k_get) => `(tactic| with_reducible exact getL_put_same)
local macro_rules | `(tactic| k_get) => `(tactic| with_reducible assumption)
local macro_rules | `(tactic| walk_at "setAttr ref") => `(tactic| (k_here; k_dflt (refine' set_dictA ?k1 ?k2 ?k3 ?k4 ?k5 ?k6 ?k7 ?k8 ?k9 ?k10 ?k11 ?k12 ?_; (case k1 => k_asm); (case k2 => k_asm); (case k3 => k_asm); (case k4 => k_inst); (case k5 => exact rfl); (case k6 => k_is); (case k7 => k_is); (case k8 => k_is); (case k9 => k_is); (case k10 => (refine' getL_some ?g; (case g => ((repeat (with_reducible refine (getL_put_ne (by decide +kernel)).trans ?_)); with_reducible first | assumption | exact getL_put_same)))); (case k11 => k_updF); (case k12 => (refine lt_put0 ?_; repeat (first | omega | refine lt_put ?_))); k_whole; intro h' hsh' t' n' F' N'; (try dsimp only at N'); (try k_sweep))))
local macro_rules | `(tactic| k_mem) => `(tactic| ((show (_ : Addr × Obj) ∈ (_ : List (Addr × Obj))); ktr_member))
local macro_rules | `(tactic| walk_at "eval Name") => `(tactic| (k_here; k_dflt (refine' ld ?k1 ?k2 ?_; (case k1 => k_asm); (case k2 => first | with_reducible assumption | ((with_reducible show (ite _ _ _) = _); (repeat (with_reducible refine (if_neg (by decide +kernel)).trans ?_)); with_reducible first | assumption | exact if_pos rfl)); k_whole)))
local macro_rules | `(tactic| walk_at "loadName") => `(tactic| (k_here; k_dflt (refine' ldn ?k1 ?k2 ?_; (case k1 => k_asm); (case k2 => first | with_reducible assumption | ((with_reducible show (ite _ _ _) = _); (repeat (with_reducible refine (if_neg (by decide +kernel)).trans ?_)); with_reducible first | assumption | exact if_pos rfl)); k_whole)))
local macro_rules | `(tactic| walk_at "call ref") => `(tactic| (k_here; (with_reducible show wpAny _ _ (call (Value.ref 119) _ _) _ _ _); k_dflt (refine' c_persist ?k1 ?k2 ?k3 ?k4 ?k5 ?k6 ?k7 ?k8 ?_; (case k1 => k_asm); (case k2 => k_asm); (case k3 => assumption); (case k4 => k_mem); (case k5 => k_updF); (case k6 => assumption); (case k7 => omega); (case k8 => omega); k_whole; intro es9 n9 h9 tk9 D9 F9 N9; (try dsimp only at N9))))
local macro_rules | `(tactic| walk_at "subscriptTail Name Slice ref ref") => `(tactic| (k_here; (with_reducible show wpAny _ _ (subscriptTail _ (PySem.Expr.Slice _ _ none _) (Value.ref _) (Value.ref _)) _ _ _); k_dflt (refine' slice_own ?F ?N ?m ?p ?q ?z ?e ?_ ?s ?t; (case F => k_asm); (case N => k_asm); (case m => k_mem); (case p => kmk_part); (case q => kmk_part); (case z => first | assumption | (simp only [List.length_cons, List.length_nil]; omega)); (case e => assumption); (case s => with_unfolding_all rfl); (case t => kmk_pure)); intro D' h' F' N' l1; (try k_lt l1); (try k_sweep)))
local macro_rules | `(tactic| walk_at "call ref") => `(tactic| (k_here; (with_reducible show wpAny _ _ (call (Value.ref 105) _ _) _ _ _); k_dflt (refine' c_expired ?k1 ?k2 ?k3 ?k4 ?k5 ?k6 ?k7 ?k11 ?k8 ?k9 ?k10 ?_; (case k1 => k_asm); (case k2 => k_asm); (case k3 => assumption); (case k4 => k_mem); (case k5 => k_updF); (case k6 => assumption); (case k7 => k_mem); (case k11 => omega); (case k8 => with_reducible assumption); (case k9 => (intro p9 hp9; repeat (first | exact hp9 | refine List.Mem.tail _ ?_))); (case k10 => assumption); k_whole; intro es9 n9 h9 tk9 D9 F9 N9; (try dsimp only at N9))))
local macro_rules | `(tactic| walk_at "CompSrc") => `(tactic| (k_here; k_dflt (refine LCg.CompSrc.ledger (by rfl) (by k_asm) (by k_asm) (by k_mem) (by (simp only [List.size_toArray, List.length_take, sizeLine_eq]; omega)) ?_); intro g'; k_dflt (refine' comp_row0 ?hI ?hsub ?hm ?hfn ?hlo ?hx ?_; (case hI => assumption); (case hsub => (intro p9 hp9; repeat (first | exact hp9 | refine List.Mem.tail _ ?_))); (case hm => k_mem); (case hfn => (intro C9; rfl)); (case hlo => (intro C9; rfl)); (case hx => decide)); k_whole; intro D' h' tk' F' N' off'; (try simp only [LCg.Off1, and_true] at off')))
local macro_rules | `(tactic| walk_at "CompSrc") => `(tactic| (k_here; k_dflt (refine LCg.CompSrc.ledger (by rfl) (by k_asm) (by k_asm) (by k_mem) (by (simp only [List.size_toArray, List.length_take, sizeLine_eq]; omega)) ?_); intro g'; k_dflt (refine' comp_row2 ?hI ?hsub ?hm ?hfn ?hlo ?hx ?_; (case hI => assumption); (case hsub => (intro p9 hp9; repeat (first | exact hp9 | refine List.Mem.tail _ ?_))); (case hm => k_mem); (case hfn => (intro C9; rfl)); (case hlo => (intro C9; rfl)); (case hx => decide)); k_whole; intro D' h' tk' F' N' off'; (try simp only [LCg.Off1, and_true] at off')))
local macro_rules | `(tactic| walk_at "call builtin:len") => `(tactic| (k_here; (with_reducible show wpAny _ _ (call (Value.builtin "len") [Value.ref _]) _ _ _); k_dflt (refine' len_own ?N ?m ?z ?_; (case N => k_asm); (case m => k_mem); (case z => first | assumption | (simp only [List.length_take, List.length_drop, List.length_cons, List.length_nil]; omega)); k_whole)))
local macro_rules | `(tactic| walk_at "binaryOp Add ref ref") => `(tactic| (k_here; (with_reducible show wpAny _ _ (binaryOp _ (Value.ref _) (Value.ref _)) _ _ _); k_dflt (refine' add_own ?F ?N ?a ?b ?z1 ?z2 ?_; (case F => k_asm); (case N => k_asm); (case a => k_mem); (case b => k_mem); (case z1 => first | assumption | exact Nat.le_of_ble_eq_true rfl); (case z2 => first | assumption | exact Nat.le_of_ble_eq_true rfl); k_whole); intro D' h' F' N' l1; (try k_lt l1); (try k_sweep)))
local macro_rules | `(tactic| walk_at "subscriptTail") => `(tactic| (k_here; (with_reducible show wpAny _ _ (subscriptTail _ _ (Value.ref _) (Value.int _ _)) _ _ _); k_dflt (refine' last_own ?N ?m ?k ?l ?z ?x ?_ ?s; (case N => k_asm); (case m => k_mem); (case k => rfl); (case l => assumption); (case z => assumption); (case x => assumption); (case s => with_unfolding_all rfl); k_whole)))
local macro_rules | `(tactic| walk_at "call ref") => `(tactic| (k_here; (with_reducible show wpAny _ _ (call (Value.ref 112) _ _) _ _ _); k_dflt (refine' c_lost ?k1 ?k2 ?k3 ?k4 ?k5 ?k6 ?k7 ?k11 ?k8 ?k9 ?k10 ?k12 ?k13 ?k14 ?k15 ?_; (case k1 => k_asm); (case k2 => k_asm); (case k3 => assumption); (case k4 => k_mem); (case k5 => k_updF); (case k6 => assumption); (case k7 => k_mem); (case k11 => omega); (case k8 => with_reducible assumption); (case k9 => (intro p9 hp9; repeat (first | exact hp9 | refine List.Mem.tail _ ?_))); (case k10 => assumption); (case k12 => omega); (case k13 => omega); (case k14 => omega); (case k15 => omega); k_whole; intro es9 n9 h9 tk9 cr9 cw9 ss9 R9 D9 F9 N9; (try dsimp only at N9); (rcases R9 with ⟨c9, r1, r2, r3⟩ | ⟨c9, r1, r2, r3⟩) <;> (replace r1 := Eq.symm r1; subst r1; replace r2 := Eq.symm r2; subst r2; replace r3 := Eq.symm r3; subst r3))))
local macro_rules | `(tactic| walk_at "subscriptTail") => `(tactic| (k_here; (with_reducible show wpAny _ _ (subscriptTail _ _ (Value.ref _) (Value.int _ _)) _ _ _); k_dflt (refine' pick_own ?N ?m ?k0 ?k1 ?l ?all ?_ ?s; (case N => k_asm); (case m => k_mem); (case k0 => assumption); (case k1 => assumption); (case l => exact Nat.lt_of_sub_eq_succ rfl); (case all => (repeat (first | exact List.forall_mem_nil _ | refine List.forall_mem_cons.mpr ⟨⟨_, _, rfl, by omega, by omega⟩, ?_⟩))); (case s => with_unfolding_all rfl); k_whole); intro o9 t9 b9 c9))
local macro_rules | `(tactic| walk_at "call ref") => `(tactic| (k_here; (with_reducible show wpAny _ _ (call (Value.ref 98) _ _) _ _ _); k_dflt (refine' c_sent (tl := [(_, instObj 177 _), (_, dictOf _ _)]) ?k1 ?k2 ?k3 ?k4 ?k5 ?k6 ?k7 ?k8 ?k9 ?_; (case k1 => k_asm); (case k2 => k_asm); (case k3 => assumption); (case k4 => k_mem); (case k5 => k_updF); (case k6 => assumption); (case k8 => refine List.forall_mem_cons.mpr ⟨by k_mem, List.forall_mem_cons.mpr ⟨by k_mem, List.forall_mem_nil _⟩⟩); (case k7 => exact ⟨_, _, _, .head _, .tail _ (.head _), ⟨⟨_, by k_get⟩, ⟨_, by k_get⟩⟩⟩); (case k9 => (intro p9 hp9; rcases List.mem_cons.mp hp9 with h9 | hp9; (subst h9; k_ne); rcases List.mem_cons.mp hp9 with h9 | hp9; (subst h9; k_ne); exact nomatch hp9)); k_whole; intro es9 n9 h9 tk9 D9 F9 N9; (try dsimp only at N9))))
local macro_rules | `(tactic| walk_at "call builtin:list.pop") => `(tactic| (k_here; (with_reducible show wpAny _ _ (call (Value.builtin _) [Value.ref _, Value.int _ _]) _ _ _); k_dflt (refine' pop_own ?F ?N ?v ?k ?l ?U ?_; (case F => k_asm); (case N => k_asm); (case v => assumption); (case k => assumption); (case l => assumption); (case U => k_upd); k_whole); intro h' F' N'; (try dsimp only at N')))
local macro_rules | `(tactic| walk_at "call ref") => `(tactic| (k_here; (with_reducible show wpAny _ _ (call (Value.ref 91) _ _) _ _ _); k_dflt (refine' c_acked ?k1 ?k2 ?k3 ?k4 ?k5 ?k6 ?k7 ?k8 ?k9 ?b1 ?b2 ?b3 ?b4 ?b5 ?b6 ?b7 ?b8 ?_; (case k1 => k_asm); (case k2 => k_asm); (case k3 => assumption); (case k4 => k_mem); (case k5 => k_updF); (case k6 => assumption); (case k7 => with_reducible assumption); (case k8 => (intro p9 hp9; repeat (first | exact hp9 | refine List.Mem.tail _ ?_))); (case k9 => assumption); (case b1 => omega); (case b2 => omega); (case b3 => omega); (case b4 => omega); (case b5 => omega); (case b6 => omega); (case b7 => omega); (case b8 => omega); k_whole; intro es9 n9 h9 tk9 cw9 st9 R9 D9 F9 N9; (try dsimp only at N9); refine Stop.mk ?_)))
local macro_rules | `(tactic| walk_at "exec While Compare cons nil") => `(tactic| refine Stop.mk ?_)
local macro_rules | `(tactic| walk_at "call builtin:max") => `(tactic| (k_here; (with_reducible show wpAny _ _ (call (Value.builtin _) [Value.ref _]) _ _ _); k_dflt (refine' max_own ?h ?F ?N ?m ?i ?a ?b ?_; (case h => exact rfl); (case F => k_asm); (case N => k_asm); (case m => k_mem); (case i => with_reducible assumption); (case b => with_reducible assumption); (case a => with_reducible assumption); k_whole); intro h' t' tk' F' N'))
local macro_rules | `(tactic| walk_at "call builtin:min") => `(tactic| (k_here; (with_reducible show wpAny _ _ (call (Value.builtin _) [Value.ref _]) _ _ _); k_dflt (refine' min_own ?h ?F ?N ?m ?i ?a ?b ?_; (case h => exact rfl); (case F => k_asm); (case N => k_asm); (case m => k_mem); (case i => with_reducible assumption); (case b => with_reducible assumption); (case a => with_reducible assumption); k_whole); intro h' t' tk' F' N'))
local macro_rules | `(tactic| walk_at "call builtin:min") => `(tactic| (k_here; (with_reducible show wpAny _ _ (call (Value.builtin _) [Value.int _ _, Value.int _ _]) _ _ _); k_dflt (refine' min_lo ?h ?F ?N ?c ?_; (case h => exact rfl); (case F => k_asm); (case N => k_asm); (case c => with_reducible assumption); k_whole); intro h' tk' F' N'))
local macro_rules | `(tactic| walk_at "call builtin:min") => `(tactic| (k_here; (with_reducible show wpAny _ _ (call (Value.builtin _) [Value.int _ _, Value.int _ _]) _ _ _); k_dflt (refine' min_hi ?h ?F ?N ?c ?_; (case h => exact rfl); (case F => k_asm); (case N => k_asm); (case c => with_reducible assumption); k_whole); intro h' tk' F' N'))
local macro_rules | `(tactic| walk_at "call ref") => `(tactic| ((with_reducible show wpAny _ _ (call (Value.ref 126) _ _) _ _ _); refine Stop.mk ?_))
section
variable {w : World} {mg mb : Str → Option Value} {mean : ExcName → Option Value} {base h₀ : Heap} {L fa : Addr} {cd : Value} {s : Shared} {E : Value → Shared → Prop} {m : Str → Option Value} {d : LD} {σ : LS} {i : Nat}
theorem br_exp {Qt : Flow → Shared → Prop} {rst : Int} {trs : Tok} (C : Ctx w mg mb mean base h₀) (F : Fr h₀ L s.heap m) (N : News h₀ L s.heap d.led) (hF : LFr d σ m) (hL : LLed d σ) (hP : LPure σ i) (hi : i < 22) (hrest : m (Str.ofString "rest") = some (.int rst trs))
    (k : ∀ d' σ' m' h' tk, Keeps d d' → LFr d' σ' m' → LLed d' σ' → LPure σ' (i + 1) → Fr h₀ L h' m' → News h₀ L h' d'.led → Qt .next { s with heap := h', toks := tk }) :
    wpAny (model PySem.Challenge.rw_je0001_01.row.prog w) (lawA L fa cd) (execs brExp (lawEnv L fa cd)) Qt E s := by
  have e1 : brExp = brExp := rfl
  conv at e1 => rhs; whnf
  have e2 : lawScope = lawScope := rfl
  conv at e2 => rhs; whnf
  rw [e1]
  unfold lawA lawEnv
  rw [e2]
  clear e1 e2
  obtain ⟨B, X, T⟩ := id C
  obtain ⟨size, now, window, carried, since, counted, rises, thr, flr, trips, rows, M⟩ := σ
  obtain ⟨reno, mon, dR, dM, smp, outA, trA, em, es, nM, n, ns, no, nt, sv, ov, tv, mx, mn, rest⟩ := d
  obtain ⟨⟨ts, hsize⟩, hreno, hout, ⟨tw, hwin⟩, hthr, ⟨tc, hcar⟩, ⟨tsi, hsin⟩, htrp, ⟨tcn, hcnt⟩, hflr, ⟨tri, hris⟩, ⟨tno, hnow⟩⟩ := id hF
  obtain ⟨qreno, qmon, qtr, itr, hrows, D, DM, ism, off1, off2, off3, off4, ne1, ne2, ne3, ne4, ne5, ne6⟩ := id hL
  obtain ⟨psize, pwlo, ppot, pclo, pslo, pshi, pnlo, prlen, prbd, pminc, pmfm, pmtime, pmlen, pmi0, pmi1, pmbd, pmfb, ptrp, pihi, prthr⟩ := id hP
  clear hF hL hP
  dsimp only at *
  unfold LD.led at N
  dsimp only at N
  have em1 := D.meths (Str.ofString "on_packets_expired") (by decide +kernel)
  have hol : ov.length ≤ 100 := by rw [hrows.length]; omega
  have hc0 : 0 ≤ (rst.fdiv 2).fmod 3 := Int.fmod_nonneg_of_pos _ (by decide)
  have hpk := pick_upto (l := ov) hc0
  have hpk2 : kms_pick ov (some ((ov.take ((rst.fdiv 2).fmod 3).toNat).length : Int)) none = ov.drop (ov.take ((rst.fdiv 2).fmod 3).toNat).length := by rw [pick_from (by omega)]; rfl
  obtain ⟨zs, hzI, hzP⟩ := (hrows.take ((rst.fdiv 2).fmod 3).toNat).packets
  k_steps
  (rename Fr _ _ _ _ => kF9)
  (rename News _ _ _ _ => kN9)
  (rename ((@LT.lt Nat _ _ _) ∧ _) => lt1)
  (rename RenoD _ _ _ _ _ _ _ _ => D9)
  rw [sumO_drop (c := ((rst.fdiv 2).fmod 3).toNat) hrows.length] at D9
  have lt2 := lt1.2.2.2.2.2
  exact k ⟨reno, mon, dR, dM, smp, _, trA, em, _, nM, _, ns, 0, nt, sv, _, tv, mx, mn, rest⟩ ⟨size, now, window, carried, since, counted, rises, thr, flr, trips, (rows.drop (ov.take ((rst.fdiv 2).fmod 3).toNat).length), M⟩ _ _ _ (by exact ⟨fun _ h => h⟩)
    ⟨(by first | exact ⟨_, hsize⟩ | exact ⟨_, rfl⟩), (by first | exact hreno | exact rfl), (by first | exact hout | exact rfl), (by first | exact ⟨_, hwin⟩ | exact ⟨_, rfl⟩), (by first | exact OptAt.keep hthr rfl | exact .inl ⟨_, _, rfl, rfl⟩), (by first | exact ⟨_, hcar⟩ | exact ⟨_, rfl⟩), (by first | exact ⟨_, hsin⟩ | exact ⟨_, rfl⟩), (by first | exact htrp | exact rfl), (by first | exact ⟨_, hcnt⟩ | exact ⟨_, rfl⟩), (by first | exact OptAt.keep hflr rfl | exact .inl ⟨_, _, rfl, rfl⟩), (by first | exact ⟨_, hris⟩ | exact ⟨_, rfl⟩), (by first | exact ⟨_, hnow⟩ | exact ⟨_, rfl⟩)⟩
    ⟨qreno, qmon, qtr, itr, (hrows.drop _), D9, DM, ism, off1, off2, off3, (allLt_off lt2), ne1, ne2, (by dsimp only; omega), ne4, (by dsimp only; omega), (by dsimp only; omega)⟩
    ⟨psize, by dsimp only; omega, by dsimp only; omega, by dsimp only; omega, by dsimp only; omega, by dsimp only; omega, by dsimp only; omega, by dsimp only; rw [List.length_drop]; omega, (fun r hr => prbd r (List.mem_of_mem_drop hr)), pminc, pmfm, pmtime, pmlen, pmi0, pmi1, pmbd, pmfb, ptrp, by omega, prthr⟩ kF9 (news_sub kN9 (by dsimp only [LD.led]; refine List.forall_mem_cons.mpr ⟨by k_mem, List.forall_mem_cons.mpr ⟨by k_mem, List.forall_mem_cons.mpr ⟨by k_mem, List.forall_mem_cons.mpr ⟨by k_mem, ?_⟩⟩⟩⟩; intro p9 hp9; repeat (first | exact hp9 | refine List.Mem.tail _ ?_)))
end

end
section
local macro_rules | `(tactic| walk_at "no such key") => `(tactic| fail)
local macro_rules | `(tactic| walk_at "no such key") => `(tactic| fail)
theorem back9 : True := by
  w_top off
  trivial
local macro_rules | `(tactic| k_all) => `(tactic| assumption)
local macro_rules | `(tactic| k_get) => `(tactic| ((with_reducible refine (getL_put_ne (by decide +kernel)).trans ?_); k_get))
local macro_rules | `(tactic| k_get) => `(tactic| with_reducible exact getL_put_same)
local macro_rules | `(tactic| k_get) => `(tactic| with_reducible assumption)
local macro_rules | `(tactic| walk_at "setAttr ref") => `(tactic| (k_here; k_dflt (refine' set_dictA ?k1 ?k2 ?k3 ?k4 ?k5 ?k6 ?k7 ?k8 ?k9 ?k10 ?k11 ?k12 ?_; (case k1 => k_asm); (case k2 => k_asm); (case k3 => k_asm); (case k4 => k_inst); (case k5 => exact rfl); (case k6 => k_is); (case k7 => k_is); (case k8 => k_is); (case k9 => k_is); (case k10 => (refine' getL_some ?g; (case g => ((repeat (with_reducible refine (getL_put_ne (by decide +kernel)).trans ?_)); with_reducible first | assumption | exact getL_put_same)))); (case k11 => k_updF); (case k12 => (refine lt_put0 ?_; repeat (first | omega | refine lt_put ?_))); k_whole; intro h' hsh' t' n' F' N'; (try dsimp only at N'); (try k_sweep))))
local macro_rules | `(tactic| k_mem) => `(tactic| ((show (_ : Addr × Obj) ∈ (_ : List (Addr × Obj))); ktr_member))
local macro_rules | `(tactic| walk_at "eval Name") => `(tactic| (k_here; k_dflt (refine' ld ?k1 ?k2 ?_; (case k1 => k_asm); (case k2 => first | with_reducible assumption | ((with_reducible show (ite _ _ _) = _); (repeat (with_reducible refine (if_neg (by decide +kernel)).trans ?_)); with_reducible first | assumption | exact if_pos rfl)); k_whole)))
local macro_rules | `(tactic| walk_at "loadName") => `(tactic| (k_here; k_dflt (refine' ldn ?k1 ?k2 ?_; (case k1 => k_asm); (case k2 => first | with_reducible assumption | ((with_reducible show (ite _ _ _) = _); (repeat (with_reducible refine (if_neg (by decide +kernel)).trans ?_)); with_reducible first | assumption | exact if_pos rfl)); k_whole)))
local macro_rules | `(tactic| walk_at "call ref") => `(tactic| (k_here; (with_reducible show wpAny _ _ (call (Value.ref 119) _ _) _ _ _); k_dflt (refine' c_persist ?k1 ?k2 ?k3 ?k4 ?k5 ?k6 ?k7 ?k8 ?_; (case k1 => k_asm); (case k2 => k_asm); (case k3 => assumption); (case k4 => k_mem); (case k5 => k_updF); (case k6 => assumption); (case k7 => omega); (case k8 => omega); k_whole; intro es9 n9 h9 tk9 D9 F9 N9; (try dsimp only at N9))))
local macro_rules | `(tactic| walk_at "subscriptTail Name Slice ref ref") => `(tactic| (k_here; (with_reducible show wpAny _ _ (subscriptTail _ (PySem.Expr.Slice _ _ none _) (Value.ref _) (Value.ref _)) _ _ _); k_dflt (refine' slice_own ?F ?N ?m ?p ?q ?z ?e ?_ ?s ?t; (case F => k_asm); (case N => k_asm); (case m => k_mem); (case p => kmk_part); (case q => kmk_part); (case z => first | assumption | (simp only [List.length_cons, List.length_nil]; omega)); (case e => assumption); (case s => with_unfolding_all rfl); (case t => kmk_pure)); intro D' h' F' N' l1; (try k_lt l1); (try k_sweep)))
local macro_rules | `(tactic| walk_at "call ref") => `(tactic| (k_here; (with_reducible show wpAny _ _ (call (Value.ref 105) _ _) _ _ _); k_dflt (refine' c_expired ?k1 ?k2 ?k3 ?k4 ?k5 ?k6 ?k7 ?k11 ?k8 ?k9 ?k10 ?_; (case k1 => k_asm); (case k2 => k_asm); (case k3 => assumption); (case k4 => k_mem); (case k5 => k_updF); (case k6 => assumption); (case k7 => k_mem); (case k11 => omega); (case k8 => with_reducible assumption); (case k9 => (intro p9 hp9; repeat (first | exact hp9 | refine List.Mem.tail _ ?_))); (case k10 => assumption); k_whole; intro es9 n9 h9 tk9 D9 F9 N9; (try dsimp only at N9))))
local macro_rules | `(tactic| walk_at "CompSrc") => `(tactic| (k_here; k_dflt (refine LCg.CompSrc.ledger (by rfl) (by k_asm) (by k_asm) (by k_mem) (by (simp only [List.size_toArray, List.length_take, sizeLine_eq]; omega)) ?_); intro g'; k_dflt (refine' comp_row0 ?hI ?hsub ?hm ?hfn ?hlo ?hx ?_; (case hI => assumption); (case hsub => (intro p9 hp9; repeat (first | exact hp9 | refine List.Mem.tail _ ?_))); (case hm => k_mem); (case hfn => (intro C9; rfl)); (case hlo => (intro C9; rfl)); (case hx => decide)); k_whole; intro D' h' tk' F' N' off'; (try simp only [LCg.Off1, and_true] at off')))
local macro_rules | `(tactic| walk_at "CompSrc") => `(tactic| (k_here; k_dflt (refine LCg.CompSrc.ledger (by rfl) (by k_asm) (by k_asm) (by k_mem) (by (simp only [List.size_toArray, List.length_take, sizeLine_eq]; omega)) ?_); intro g'; k_dflt (refine' comp_row2 ?hI ?hsub ?hm ?hfn ?hlo ?hx ?_; (case hI => assumption); (case hsub => (intro p9 hp9; repeat (first | exact hp9 | refine List.Mem.tail _ ?_))); (case hm => k_mem); (case hfn => (intro C9; rfl)); (case hlo => (intro C9; rfl)); (case hx => decide)); k_whole; intro D' h' tk' F' N' off'; (try simp only [LCg.Off1, and_true] at off')))
local macro_rules | `(tactic| walk_at "call builtin:len") => `(tactic| (k_here; (with_reducible show wpAny _ _ (call (Value.builtin "len") [Value.ref _]) _ _ _); k_dflt (refine' len_own ?N ?m ?z ?_; (case N => k_asm); (case m => k_mem); (case z => first | assumption | (simp only [List.length_take, List.length_drop, List.length_cons, List.length_nil]; omega)); k_whole)))
local macro_rules | `(tactic| walk_at "binaryOp Add ref ref") => `(tactic| (k_here; (with_reducible show wpAny _ _ (binaryOp _ (Value.ref _) (Value.ref _)) _ _ _); k_dflt (refine' add_own ?F ?N ?a ?b ?z1 ?z2 ?_; (case F => k_asm); (case N => k_asm); (case a => k_mem); (case b => k_mem); (case z1 => first | assumption | exact Nat.le_of_ble_eq_true rfl); (case z2 => first | assumption | exact Nat.le_of_ble_eq_true rfl); k_whole); intro D' h' F' N' l1; (try k_lt l1); (try k_sweep)))
local macro_rules | `(tactic| walk_at "subscriptTail") => `(tactic| (k_here; (with_reducible show wpAny _ _ (subscriptTail _ _ (Value.ref _) (Value.int _ _)) _ _ _); k_dflt (refine' last_own ?N ?m ?k ?l ?z ?x ?_ ?s; (case N => k_asm); (case m => k_mem); (case k => rfl); (case l => assumption); (case z => assumption); (case x => assumption); (case s => with_unfolding_all rfl); k_whole)))
local macro_rules | `(tactic| walk_at "call ref") => `(tactic| (k_here; (with_reducible show wpAny _ _ (call (Value.ref 112) _ _) _ _ _); k_dflt (refine' c_lost ?k1 ?k2 ?k3 ?k4 ?k5 ?k6 ?k7 ?k11 ?k8 ?k9 ?k10 ?k12 ?k13 ?k14 ?k15 ?_; (case k1 => k_asm); (case k2 => k_asm); (case k3 => assumption); (case k4 => k_mem); (case k5 => k_updF); (case k6 => assumption); (case k7 => k_mem); (case k11 => omega); (case k8 => with_reducible assumption); (case k9 => (intro p9 hp9; repeat (first | exact hp9 | refine List.Mem.tail _ ?_))); (case k10 => assumption); (case k12 => omega); (case k13 => omega); (case k14 => omega); (case k15 => omega); k_whole; intro es9 n9 h9 tk9 cr9 cw9 ss9 R9 D9 F9 N9; (try dsimp only at N9); (rcases R9 with ⟨c9, r1, r2, r3⟩ | ⟨c9, r1, r2, r3⟩) <;> (replace r1 := Eq.symm r1; subst r1; replace r2 := Eq.symm r2; subst r2; replace r3 := Eq.symm r3; subst r3))))
local macro_rules | `(tactic| walk_at "subscriptTail") => `(tactic| (k_here; (with_reducible show wpAny _ _ (subscriptTail _ _ (Value.ref _) (Value.int _ _)) _ _ _); k_dflt (refine' pick_own ?N ?m ?k0 ?k1 ?l ?all ?_ ?s; (case N => k_asm); (case m => k_mem); (case k0 => assumption); (case k1 => assumption); (case l => exact Nat.lt_of_sub_eq_succ rfl); (case all => (repeat (first | exact List.forall_mem_nil _ | refine List.forall_mem_cons.mpr ⟨⟨_, _, rfl, by omega, by omega⟩, ?_⟩))); (case s => with_unfolding_all rfl); k_whole); intro o9 t9 b9 c9))
local macro_rules | `(tactic| walk_at "call ref") => `(tactic| (k_here; (with_reducible show wpAny _ _ (call (Value.ref 98) _ _) _ _ _); k_dflt (refine' c_sent (tl := [(_, instObj 177 _), (_, dictOf _ _)]) ?k1 ?k2 ?k3 ?k4 ?k5 ?k6 ?k7 ?k8 ?k9 ?_; (case k1 => k_asm); (case k2 => k_asm); (case k3 => assumption); (case k4 => k_mem); (case k5 => k_updF); (case k6 => assumption); (case k8 => refine List.forall_mem_cons.mpr ⟨by k_mem, List.forall_mem_cons.mpr ⟨by k_mem, List.forall_mem_nil _⟩⟩); (case k7 => exact ⟨_, _, _, .head _, .tail _ (.head _), ⟨⟨_, by k_get⟩, ⟨_, by k_get⟩⟩⟩); (case k9 => (intro p9 hp9; rcases List.mem_cons.mp hp9 with h9 | hp9; (subst h9; k_ne); rcases List.mem_cons.mp hp9 with h9 | hp9; (subst h9; k_ne); exact nomatch hp9)); k_whole; intro es9 n9 h9 tk9 D9 F9 N9; (try dsimp only at N9))))
local macro_rules | `(tactic| walk_at "call builtin:list.pop") => `(tactic| (k_here; (with_reducible show wpAny _ _ (call (Value.builtin _) [Value.ref _, Value.int _ _]) _ _ _); k_dflt (refine' pop_own ?F ?N ?v ?k ?l ?U ?_; (case F => k_asm); (case N => k_asm); (case v => assumption); (case k => assumption); (case l => assumption); (case U => k_upd); k_whole); intro h' F' N'; (try dsimp only at N')))
local macro_rules | `(tactic| walk_at "call ref") => `(tactic| (k_here; (with_reducible show wpAny _ _ (call (Value.ref 91) _ _) _ _ _); k_dflt (refine' c_acked ?k1 ?k2 ?k3 ?k4 ?k5 ?k6 ?k7 ?k8 ?k9 ?b1 ?b2 ?b3 ?b4 ?b5 ?b6 ?b7 ?b8 ?_; (case k1 => k_asm); (case k2 => k_asm); (case k3 => assumption); (case k4 => k_mem); (case k5 => k_updF); (case k6 => assumption); (case k7 => with_reducible assumption); (case k8 => (intro p9 hp9; repeat (first | exact hp9 | refine List.Mem.tail _ ?_))); (case k9 => assumption); (case b1 => omega); (case b2 => omega); (case b3 => omega); (case b4 => omega); (case b5 => omega); (case b6 => omega); (case b7 => omega); (case b8 => omega); k_whole; intro es9 n9 h9 tk9 cw9 st9 R9 D9 F9 N9; (try dsimp only at N9); refine Stop.mk ?_)))
local macro_rules | `(tactic| walk_at "exec While Compare cons nil") => `(tactic| refine Stop.mk ?_)
local macro_rules | `(tactic| walk_at "call builtin:max") => `(tactic| (k_here; (with_reducible show wpAny _ _ (call (Value.builtin _) [Value.ref _]) _ _ _); k_dflt (refine' max_own ?h ?F ?N ?m ?i ?a ?b ?_; (case h => exact rfl); (case F => k_asm); (case N => k_asm); (case m => k_mem); (case i => with_reducible assumption); (case b => with_reducible assumption); (case a => with_reducible assumption); k_whole); intro h' t' tk' F' N'))
local macro_rules | `(tactic| walk_at "call builtin:min") => `(tactic| (k_here; (with_reducible show wpAny _ _ (call (Value.builtin _) [Value.ref _]) _ _ _); k_dflt (refine' min_own ?h ?F ?N ?m ?i ?a ?b ?_; (case h => exact rfl); (case F => k_asm); (case N => k_asm); (case m => k_mem); (case i => with_reducible assumption); (case b => with_reducible assumption); (case a => with_reducible assumption); k_whole); intro h' t' tk' F' N'))
local macro_rules | `(tactic| walk_at "call builtin:min") => `(tactic| (k_here; (with_reducible show wpAny _ _ (call (Value.builtin _) [Value.int _ _, Value.int _ _]) _ _ _); k_dflt (refine' min_lo ?h ?F ?N ?c ?_; (case h => exact rfl); (case F => k_asm); (case N => k_asm); (case c => with_reducible assumption); k_whole); intro h' tk' F' N'))
local macro_rules | `(tactic| walk_at "call builtin:min") => `(tactic| (k_here; (with_reducible show wpAny _ _ (call (Value.builtin _) [Value.int _ _, Value.int _ _]) _ _ _); k_dflt (refine' min_hi ?h ?F ?N ?c ?_; (case h => exact rfl); (case F => k_asm); (case N => k_asm); (case c => with_reducible assumption); k_whole); intro h' tk' F' N'))
local macro_rules | `(tactic| walk_at "call ref") => `(tactic| ((with_reducible show wpAny _ _ (call (Value.ref 126) _ _) _ _ _); refine Stop.mk ?_))
section
variable {w : World} {mg mb : Str → Option Value} {mean : ExcName → Option Value} {base h₀ : Heap} {L fa : Addr} {cd : Value} {s : Shared} {E : Value → Shared → Prop} {m : Str → Option Value} {d : LD} {σ : LS} {i : Nat}
theorem br_lost {Qt : Flow → Shared → Prop} {rst : Int} {trs : Tok} (C : Ctx w mg mb mean base h₀) (F : Fr h₀ L s.heap m) (N : News h₀ L s.heap d.led) (hF : LFr d σ m) (hL : LLed d σ) (hP : LPure σ i) (hi : i < 22) (hrest : m (Str.ofString "rest") = some (.int rst trs))
    (k : ∀ d' σ' m' h' tk, Keeps d d' → LFr d' σ' m' → LLed d' σ' → LPure σ' (i + 1) → Fr h₀ L h' m' → News h₀ L h' d'.led → Qt .next { s with heap := h', toks := tk }) :
    wpAny (model PySem.Challenge.rw_je0001_01.row.prog w) (lawA L fa cd) (execs brLost (lawEnv L fa cd)) Qt E s := by
  have e1 : brLost = brLost := rfl
  conv at e1 => rhs; whnf
  have e2 : lawScope = lawScope := rfl
  conv at e2 => rhs; whnf
  rw [e1]
  unfold lawA lawEnv
  rw [e2]
  clear e1 e2
  obtain ⟨B, X, T⟩ := id C
  obtain ⟨size, now, window, carried, since, counted, rises, thr, flr, trips, rows, M⟩ := σ
  obtain ⟨reno, mon, dR, dM, smp, outA, trA, em, es, nM, n, ns, no, nt, sv, ov, tv, mx, mn, rest⟩ := d
  obtain ⟨⟨ts, hsize⟩, hreno, hout, ⟨tw, hwin⟩, hthr, ⟨tc, hcar⟩, ⟨tsi, hsin⟩, htrp, ⟨tcn, hcnt⟩, hflr, ⟨tri, hris⟩, ⟨tno, hnow⟩⟩ := id hF
  obtain ⟨qreno, qmon, qtr, itr, hrows, D, DM, ism, off1, off2, off3, off4, ne1, ne2, ne3, ne4, ne5, ne6⟩ := id hL
  obtain ⟨psize, pwlo, ppot, pclo, pslo, pshi, pnlo, prlen, prbd, pminc, pmfm, pmtime, pmlen, pmi0, pmi1, pmbd, pmfb, ptrp, pihi, prthr⟩ := id hP
  clear hF hL hP
  dsimp only at *
  unfold LD.led at N
  dsimp only at N
  have em1 := D.meths (Str.ofString "on_packets_lost") (by decide +kernel)
  have hol : ov.length ≤ 100 := by rw [hrows.length]; omega
  have hf0 : 0 ≤ rst.fmod ((ov.length : Int) + 1) := Int.fmod_nonneg_of_pos _ (by omega)
  have hb0 : 0 ≤ (rst.fdiv 23).fmod 2 := Int.fmod_nonneg_of_pos _ (by decide)
  obtain ⟨gv, pv, qv, gr, pr, qr, hp1, hp2, hp3, hgr, hpr, hqr, hsum, hmem, hlen, hglen, hplen⟩ := split_rows hrows hf0 (c := rst.fmod ((ov.length : Int) + 1) + 1 + (rst.fdiv 23).fmod 2) (by omega)
  have hgl : gv.length ≤ 100 := by rw [hgr.length]; omega
  have hpl : pv.length ≤ 100 := by rw [hpr.length]; omega
  have hql : qv.length ≤ 100 := by rw [hqr.length]; omega
  have hs2 : sumO rows - sumO gr = sumO (pr ++ qr) := by rw [sumO_append]; omega
  obtain ⟨zs, hzI, hzP⟩ := hgr.packets
  have hfd : window.fdiv 2 = window / 2 := Int.fdiv_eq_ediv_of_nonneg _ (by decide)
  by_cases hg0 : gr = []
  · have hgv0 : gv.length = 0 := by rw [hgr.length, hg0]; rfl
    have hlt0 : lastT gr = 0 := by rw [hg0]; rfl
    k_steps
    all_goals first
      | (exfalso; omega)
      | (
         (rename Fr _ _ _ _ => kF9)
         (rename News _ _ _ _ => kN9)
         (rename ((@LT.lt Nat _ _ _) ∧ _) => lta)
         (rename RenoD _ _ _ _ _ _ _ _ => D9)
         rw [hs2] at D9
         have ltb := lta.2.2.2.2.2.2.2
         exact k ⟨reno, mon, dR, dM, smp, _, trA, em, _, nM, _, ns, 0, nt, sv, _, tv, mx, mn, rest⟩ ⟨size, now, window, carried, since, counted, rises, thr, flr, trips, (pr ++ qr), M⟩ _ _ _ (by exact ⟨fun _ h => h⟩)
           ⟨(by first | exact ⟨_, hsize⟩ | exact ⟨_, rfl⟩), (by first | exact hreno | exact rfl), (by first | exact hout | exact rfl), (by first | exact ⟨_, hwin⟩ | exact ⟨_, rfl⟩), (by first | exact OptAt.keep hthr rfl | exact .inl ⟨_, _, rfl, rfl⟩), (by first | exact ⟨_, hcar⟩ | exact ⟨_, rfl⟩), (by first | exact ⟨_, hsin⟩ | exact ⟨_, rfl⟩), (by first | exact htrp | exact rfl), (by first | exact ⟨_, hcnt⟩ | exact ⟨_, rfl⟩), (by first | exact OptAt.keep hflr rfl | exact .inl ⟨_, _, rfl, rfl⟩), (by first | exact ⟨_, hris⟩ | exact ⟨_, rfl⟩), (by first | exact ⟨_, hnow⟩ | exact ⟨_, rfl⟩)⟩
           ⟨qreno, qmon, qtr, itr, (hpr.append hqr), D9, DM, ism, off1, off2, off3, (allLt_off ltb), ne1, ne2, (by dsimp only; omega), ne4, (by dsimp only; omega), (by dsimp only; omega)⟩
           ⟨psize, by dsimp only; omega, by dsimp only; omega, by dsimp only; omega, by dsimp only; omega, by dsimp only; omega, by dsimp only; omega, by dsimp only; rw [List.length_append]; omega, (fun r hr => prbd r (hmem r hr)), pminc, pmfm, pmtime, pmlen, pmi0, pmi1, pmbd, pmfb, ptrp, by omega, prthr⟩ kF9 (news_sub kN9 (by dsimp only [LD.led]; refine List.forall_mem_cons.mpr ⟨by k_mem, List.forall_mem_cons.mpr ⟨by k_mem, List.forall_mem_cons.mpr ⟨by k_mem, List.forall_mem_cons.mpr ⟨by k_mem, ?_⟩⟩⟩⟩; intro p9 hp9; repeat (first | exact hp9 | refine List.Mem.tail _ ?_)))
        )
  · obtain ⟨la, lpk, lat, loct, lt1, lt2, ln, hl1, hl2, hl3, hl4⟩ := hgr.last hg0
    k_steps
    · (rename Fr _ _ _ _ => kF9)
      (rename News _ _ _ _ => kN9)
      (rename ((@LT.lt Nat _ _ _) ∧ _) => lta)
      (rename RenoD _ _ _ _ _ _ _ _ => D9)
      rw [hs2] at D9
      have ltb := lta.2.2.2.2.2.2.2
      exact k ⟨reno, mon, dR, dM, smp, _, trA, em, _, nM, _, ns, 0, nt, sv, _, tv, mx, mn, rest⟩ ⟨size, now, (if 2 * size > window.fdiv 2 then 2 * size else window.fdiv 2), carried, now, counted, rises, (some (if 2 * size > window.fdiv 2 then 2 * size else window.fdiv 2)), flr, trips, (pr ++ qr), M⟩ _ _ _ (by exact ⟨fun _ h => h⟩)
        ⟨(by first | exact ⟨_, hsize⟩ | exact ⟨_, rfl⟩), (by first | exact hreno | exact rfl), (by first | exact hout | exact rfl), (by first | exact ⟨_, hwin⟩ | exact ⟨_, rfl⟩), (by first | exact OptAt.keep hthr rfl | exact .inl ⟨_, _, rfl, rfl⟩), (by first | exact ⟨_, hcar⟩ | exact ⟨_, rfl⟩), (by first | exact ⟨_, hsin⟩ | exact ⟨_, rfl⟩), (by first | exact htrp | exact rfl), (by first | exact ⟨_, hcnt⟩ | exact ⟨_, rfl⟩), (by first | exact OptAt.keep hflr rfl | exact .inl ⟨_, _, rfl, rfl⟩), (by first | exact ⟨_, hris⟩ | exact ⟨_, rfl⟩), (by first | exact ⟨_, hnow⟩ | exact ⟨_, rfl⟩)⟩
        ⟨qreno, qmon, qtr, itr, (hpr.append hqr), D9, DM, ism, off1, off2, off3, (allLt_off ltb), ne1, ne2, (by dsimp only; omega), ne4, (by dsimp only; omega), (by dsimp only; omega)⟩
        ⟨psize, by dsimp only; split <;> omega, by dsimp only; split <;> omega, by dsimp only; omega, by dsimp only; omega, by dsimp only; omega, by dsimp only; omega, by dsimp only; rw [List.length_append]; omega, (fun r hr => prbd r (hmem r hr)), pminc, pmfm, pmtime, pmlen, pmi0, pmi1, pmbd, pmfb, ptrp, by omega, (fun h => by cases h)⟩ kF9 (news_sub kN9 (by dsimp only [LD.led]; refine List.forall_mem_cons.mpr ⟨by k_mem, List.forall_mem_cons.mpr ⟨by k_mem, List.forall_mem_cons.mpr ⟨by k_mem, List.forall_mem_cons.mpr ⟨by k_mem, ?_⟩⟩⟩⟩; intro p9 hp9; repeat (first | exact hp9 | refine List.Mem.tail _ ?_)))
    · (rename Fr _ _ _ _ => kF9)
      (rename News _ _ _ _ => kN9)
      (rename ((@LT.lt Nat _ _ _) ∧ _) => lta)
      (rename RenoD _ _ _ _ _ _ _ _ => D9)
      rw [hs2] at D9
      have ltb := lta.2.2.2.2.2.2.2
      exact k ⟨reno, mon, dR, dM, smp, _, trA, em, _, nM, _, ns, 0, nt, sv, _, tv, mx, mn, rest⟩ ⟨size, now, window, carried, since, counted, rises, thr, flr, trips, (pr ++ qr), M⟩ _ _ _ (by exact ⟨fun _ h => h⟩)
        ⟨(by first | exact ⟨_, hsize⟩ | exact ⟨_, rfl⟩), (by first | exact hreno | exact rfl), (by first | exact hout | exact rfl), (by first | exact ⟨_, hwin⟩ | exact ⟨_, rfl⟩), (by first | exact OptAt.keep hthr rfl | exact .inl ⟨_, _, rfl, rfl⟩), (by first | exact ⟨_, hcar⟩ | exact ⟨_, rfl⟩), (by first | exact ⟨_, hsin⟩ | exact ⟨_, rfl⟩), (by first | exact htrp | exact rfl), (by first | exact ⟨_, hcnt⟩ | exact ⟨_, rfl⟩), (by first | exact OptAt.keep hflr rfl | exact .inl ⟨_, _, rfl, rfl⟩), (by first | exact ⟨_, hris⟩ | exact ⟨_, rfl⟩), (by first | exact ⟨_, hnow⟩ | exact ⟨_, rfl⟩)⟩
        ⟨qreno, qmon, qtr, itr, (hpr.append hqr), D9, DM, ism, off1, off2, off3, (allLt_off ltb), ne1, ne2, (by dsimp only; omega), ne4, (by dsimp only; omega), (by dsimp only; omega)⟩
        ⟨psize, by dsimp only; omega, by dsimp only; omega, by dsimp only; omega, by dsimp only; omega, by dsimp only; omega, by dsimp only; omega, by dsimp only; rw [List.length_append]; omega, (fun r hr => prbd r (hmem r hr)), pminc, pmfm, pmtime, pmlen, pmi0, pmi1, pmbd, pmfb, ptrp, by omega, prthr⟩ kF9 (news_sub kN9 (by dsimp only [LD.led]; refine List.forall_mem_cons.mpr ⟨by k_mem, List.forall_mem_cons.mpr ⟨by k_mem, List.forall_mem_cons.mpr ⟨by k_mem, List.forall_mem_cons.mpr ⟨by k_mem, ?_⟩⟩⟩⟩; intro p9 hp9; repeat (first | exact hp9 | refine List.Mem.tail _ ?_)))
end

end
section
local macro_rules | `(tactic| walk_at "no such key") => `(tactic| fail)
local macro_rules | `(tactic| walk_at "no such key") => `(tactic| fail)
local macro_rules | `(tactic| walk_at "no such key") => `(tactic| fail)
theorem back10 : True := by
  w_top off
  trivial
local macro_rules | `(tactic| k_all) => `(tactic| assumption)
local macro_rules | `(tactic| k_get) => `(tactic| ((with_reducible refine (getL_put_ne (by decide +kernel)).trans ?_); k_get))
local macro_rules | `(tactic| k_get) => `(tactic| with_reducible exact getL_put_same)
local macro_rules | `(tactic| k_get) => `(tactic| with_reducible assumption)
local macro_rules | `(tactic| walk_at "setAttr ref") => `(tactic| (k_here; k_dflt (refine' set_dictA ?k1 ?k2 ?k3 ?k4 ?k5 ?k6 ?k7 ?k8 ?k9 ?k10 ?k11 ?k12 ?_; (case k1 => k_asm); (case k2 => k_asm); (case k3 => k_asm); (case k4 => k_inst); (case k5 => exact rfl); (case k6 => k_is); (case k7 => k_is); (case k8 => k_is); (case k9 => k_is); (case k10 => (refine' getL_some ?g; (case g => ((repeat (with_reducible refine (getL_put_ne (by decide +kernel)).trans ?_)); with_reducible first | assumption | exact getL_put_same)))); (case k11 => k_updF); (case k12 => (refine lt_put0 ?_; repeat (first | omega | refine lt_put ?_))); k_whole; intro h' hsh' t' n' F' N'; (try dsimp only at N'); (try k_sweep))))
local macro_rules | `(tactic| k_mem) => `(tactic| ((show (_ : Addr × Obj) ∈ (_ : List (Addr × Obj))); ktr_member))
local macro_rules | `(tactic| walk_at "eval Name") => `(tactic| (k_here; k_dflt (refine' ld ?k1 ?k2 ?_; (case k1 => k_asm); (case k2 => first | with_reducible assumption | ((with_reducible show (ite _ _ _) = _); (repeat (with_reducible refine (if_neg (by decide +kernel)).trans ?_)); with_reducible first | assumption | exact if_pos rfl)); k_whole)))
local macro_rules | `(tactic| walk_at "loadName") => `(tactic| (k_here; k_dflt (refine' ldn ?k1 ?k2 ?_; (case k1 => k_asm); (case k2 => first | with_reducible assumption | ((with_reducible show (ite _ _ _) = _); (repeat (with_reducible refine (if_neg (by decide +kernel)).trans ?_)); with_reducible first | assumption | exact if_pos rfl)); k_whole)))
local macro_rules | `(tactic| walk_at "call ref") => `(tactic| (k_here; (with_reducible show wpAny _ _ (call (Value.ref 119) _ _) _ _ _); k_dflt (refine' c_persist ?k1 ?k2 ?k3 ?k4 ?k5 ?k6 ?k7 ?k8 ?_; (case k1 => k_asm); (case k2 => k_asm); (case k3 => assumption); (case k4 => k_mem); (case k5 => k_updF); (case k6 => assumption); (case k7 => omega); (case k8 => omega); k_whole; intro es9 n9 h9 tk9 D9 F9 N9; (try dsimp only at N9))))
local macro_rules | `(tactic| walk_at "subscriptTail Name Slice ref ref") => `(tactic| (k_here; (with_reducible show wpAny _ _ (subscriptTail _ (PySem.Expr.Slice _ _ none _) (Value.ref _) (Value.ref _)) _ _ _); k_dflt (refine' slice_own ?F ?N ?m ?p ?q ?z ?e ?_ ?s ?t; (case F => k_asm); (case N => k_asm); (case m => k_mem); (case p => kmk_part); (case q => kmk_part); (case z => first | assumption | (simp only [List.length_cons, List.length_nil]; omega)); (case e => assumption); (case s => with_unfolding_all rfl); (case t => kmk_pure)); intro D' h' F' N' l1; (try k_lt l1); (try k_sweep)))
local macro_rules | `(tactic| walk_at "call ref") => `(tactic| (k_here; (with_reducible show wpAny _ _ (call (Value.ref 105) _ _) _ _ _); k_dflt (refine' c_expired ?k1 ?k2 ?k3 ?k4 ?k5 ?k6 ?k7 ?k11 ?k8 ?k9 ?k10 ?_; (case k1 => k_asm); (case k2 => k_asm); (case k3 => assumption); (case k4 => k_mem); (case k5 => k_updF); (case k6 => assumption); (case k7 => k_mem); (case k11 => omega); (case k8 => with_reducible assumption); (case k9 => (intro p9 hp9; repeat (first | exact hp9 | refine List.Mem.tail _ ?_))); (case k10 => assumption); k_whole; intro es9 n9 h9 tk9 D9 F9 N9; (try dsimp only at N9))))
local macro_rules | `(tactic| walk_at "CompSrc") => `(tactic| (k_here; k_dflt (refine LCg.CompSrc.ledger (by rfl) (by k_asm) (by k_asm) (by k_mem) (by (simp only [List.size_toArray, List.length_take, sizeLine_eq]; omega)) ?_); intro g'; k_dflt (refine' comp_row0 ?hI ?hsub ?hm ?hfn ?hlo ?hx ?_; (case hI => assumption); (case hsub => (intro p9 hp9; repeat (first | exact hp9 | refine List.Mem.tail _ ?_))); (case hm => k_mem); (case hfn => (intro C9; rfl)); (case hlo => (intro C9; rfl)); (case hx => decide)); k_whole; intro D' h' tk' F' N' off'; (try simp only [LCg.Off1, and_true] at off')))
local macro_rules | `(tactic| walk_at "CompSrc") => `(tactic| (k_here; k_dflt (refine LCg.CompSrc.ledger (by rfl) (by k_asm) (by k_asm) (by k_mem) (by (simp only [List.size_toArray, List.length_take, sizeLine_eq]; omega)) ?_); intro g'; k_dflt (refine' comp_row2 ?hI ?hsub ?hm ?hfn ?hlo ?hx ?_; (case hI => assumption); (case hsub => (intro p9 hp9; repeat (first | exact hp9 | refine List.Mem.tail _ ?_))); (case hm => k_mem); (case hfn => (intro C9; rfl)); (case hlo => (intro C9; rfl)); (case hx => decide)); k_whole; intro D' h' tk' F' N' off'; (try simp only [LCg.Off1, and_true] at off')))
local macro_rules | `(tactic| walk_at "call builtin:len") => `(tactic| (k_here; (with_reducible show wpAny _ _ (call (Value.builtin "len") [Value.ref _]) _ _ _); k_dflt (refine' len_own ?N ?m ?z ?_; (case N => k_asm); (case m => k_mem); (case z => first | assumption | (simp only [List.length_take, List.length_drop, List.length_cons, List.length_nil]; omega)); k_whole)))
local macro_rules | `(tactic| walk_at "binaryOp Add ref ref") => `(tactic| (k_here; (with_reducible show wpAny _ _ (binaryOp _ (Value.ref _) (Value.ref _)) _ _ _); k_dflt (refine' add_own ?F ?N ?a ?b ?z1 ?z2 ?_; (case F => k_asm); (case N => k_asm); (case a => k_mem); (case b => k_mem); (case z1 => first | assumption | exact Nat.le_of_ble_eq_true rfl); (case z2 => first | assumption | exact Nat.le_of_ble_eq_true rfl); k_whole); intro D' h' F' N' l1; (try k_lt l1); (try k_sweep)))
local macro_rules | `(tactic| walk_at "subscriptTail") => `(tactic| (k_here; (with_reducible show wpAny _ _ (subscriptTail _ _ (Value.ref _) (Value.int _ _)) _ _ _); k_dflt (refine' last_own ?N ?m ?k ?l ?z ?x ?_ ?s; (case N => k_asm); (case m => k_mem); (case k => rfl); (case l => assumption); (case z => assumption); (case x => assumption); (case s => with_unfolding_all rfl); k_whole)))
local macro_rules | `(tactic| walk_at "call ref") => `(tactic| (k_here; (with_reducible show wpAny _ _ (call (Value.ref 112) _ _) _ _ _); k_dflt (refine' c_lost ?k1 ?k2 ?k3 ?k4 ?k5 ?k6 ?k7 ?k11 ?k8 ?k9 ?k10 ?k12 ?k13 ?k14 ?k15 ?_; (case k1 => k_asm); (case k2 => k_asm); (case k3 => assumption); (case k4 => k_mem); (case k5 => k_updF); (case k6 => assumption); (case k7 => k_mem); (case k11 => omega); (case k8 => with_reducible assumption); (case k9 => (intro p9 hp9; repeat (first | exact hp9 | refine List.Mem.tail _ ?_))); (case k10 => assumption); (case k12 => omega); (case k13 => omega); (case k14 => omega); (case k15 => omega); k_whole; intro es9 n9 h9 tk9 cr9 cw9 ss9 R9 D9 F9 N9; (try dsimp only at N9); (rcases R9 with ⟨c9, r1, r2, r3⟩ | ⟨c9, r1, r2, r3⟩) <;> (replace r1 := Eq.symm r1; subst r1; replace r2 := Eq.symm r2; subst r2; replace r3 := Eq.symm r3; subst r3))))
local macro_rules | `(tactic| walk_at "subscriptTail") => `(tactic| (k_here; (with_reducible show wpAny _ _ (subscriptTail _ _ (Value.ref _) (Value.int _ _)) _ _ _); k_dflt (refine' pick_own ?N ?m ?k0 ?k1 ?l ?all ?_ ?s; (case N => k_asm); (case m => k_mem); (case k0 => assumption); (case k1 => assumption); (case l => exact Nat.lt_of_sub_eq_succ rfl); (case all => (repeat (first | exact List.forall_mem_nil _ | refine List.forall_mem_cons.mpr ⟨⟨_, _, rfl, by omega, by omega⟩, ?_⟩))); (case s => with_unfolding_all rfl); k_whole); intro o9 t9 b9 c9))
local macro_rules | `(tactic| walk_at "call ref") => `(tactic| (k_here; (with_reducible show wpAny _ _ (call (Value.ref 98) _ _) _ _ _); k_dflt (refine' c_sent (tl := [(_, instObj 177 _), (_, dictOf _ _)]) ?k1 ?k2 ?k3 ?k4 ?k5 ?k6 ?k7 ?k8 ?k9 ?_; (case k1 => k_asm); (case k2 => k_asm); (case k3 => assumption); (case k4 => k_mem); (case k5 => k_updF); (case k6 => assumption); (case k8 => refine List.forall_mem_cons.mpr ⟨by k_mem, List.forall_mem_cons.mpr ⟨by k_mem, List.forall_mem_nil _⟩⟩); (case k7 => exact ⟨_, _, _, .head _, .tail _ (.head _), ⟨⟨_, by k_get⟩, ⟨_, by k_get⟩⟩⟩); (case k9 => (intro p9 hp9; rcases List.mem_cons.mp hp9 with h9 | hp9; (subst h9; k_ne); rcases List.mem_cons.mp hp9 with h9 | hp9; (subst h9; k_ne); exact nomatch hp9)); k_whole; intro es9 n9 h9 tk9 D9 F9 N9; (try dsimp only at N9))))
local macro_rules | `(tactic| walk_at "call builtin:list.pop") => `(tactic| (k_here; (with_reducible show wpAny _ _ (call (Value.builtin _) [Value.ref _, Value.int _ _]) _ _ _); k_dflt (refine' pop_own ?F ?N ?v ?k ?l ?U ?_; (case F => k_asm); (case N => k_asm); (case v => assumption); (case k => assumption); (case l => assumption); (case U => k_upd); k_whole); intro h' F' N'; (try dsimp only at N')))
local macro_rules | `(tactic| walk_at "call ref") => `(tactic| (k_here; (with_reducible show wpAny _ _ (call (Value.ref 91) _ _) _ _ _); k_dflt (refine' c_acked ?k1 ?k2 ?k3 ?k4 ?k5 ?k6 ?k7 ?k8 ?k9 ?b1 ?b2 ?b3 ?b4 ?b5 ?b6 ?b7 ?b8 ?_; (case k1 => k_asm); (case k2 => k_asm); (case k3 => assumption); (case k4 => k_mem); (case k5 => k_updF); (case k6 => assumption); (case k7 => with_reducible assumption); (case k8 => (intro p9 hp9; repeat (first | exact hp9 | refine List.Mem.tail _ ?_))); (case k9 => assumption); (case b1 => omega); (case b2 => omega); (case b3 => omega); (case b4 => omega); (case b5 => omega); (case b6 => omega); (case b7 => omega); (case b8 => omega); k_whole; intro es9 n9 h9 tk9 cw9 st9 R9 D9 F9 N9; (try dsimp only at N9); refine Stop.mk ?_)))
local macro_rules | `(tactic| walk_at "exec While Compare cons nil") => `(tactic| refine Stop.mk ?_)
local macro_rules | `(tactic| walk_at "call builtin:max") => `(tactic| (k_here; (with_reducible show wpAny _ _ (call (Value.builtin _) [Value.ref _]) _ _ _); k_dflt (refine' max_own ?h ?F ?N ?m ?i ?a ?b ?_; (case h => exact rfl); (case F => k_asm); (case N => k_asm); (case m => k_mem); (case i => with_reducible assumption); (case b => with_reducible assumption); (case a => with_reducible assumption); k_whole); intro h' t' tk' F' N'))
local macro_rules | `(tactic| walk_at "call builtin:min") => `(tactic| (k_here; (with_reducible show wpAny _ _ (call (Value.builtin _) [Value.ref _]) _ _ _); k_dflt (refine' min_own ?h ?F ?N ?m ?i ?a ?b ?_; (case h => exact rfl); (case F => k_asm); (case N => k_asm); (case m => k_mem); (case i => with_reducible assumption); (case b => with_reducible assumption); (case a => with_reducible assumption); k_whole); intro h' t' tk' F' N'))
local macro_rules | `(tactic| walk_at "call builtin:min") => `(tactic| (k_here; (with_reducible show wpAny _ _ (call (Value.builtin _) [Value.int _ _, Value.int _ _]) _ _ _); k_dflt (refine' min_lo ?h ?F ?N ?c ?_; (case h => exact rfl); (case F => k_asm); (case N => k_asm); (case c => with_reducible assumption); k_whole); intro h' tk' F' N'))
local macro_rules | `(tactic| walk_at "call builtin:min") => `(tactic| (k_here; (with_reducible show wpAny _ _ (call (Value.builtin _) [Value.int _ _, Value.int _ _]) _ _ _); k_dflt (refine' min_hi ?h ?F ?N ?c ?_; (case h => exact rfl); (case F => k_asm); (case N => k_asm); (case c => with_reducible assumption); k_whole); intro h' tk' F' N'))
local macro_rules | `(tactic| walk_at "call ref") => `(tactic| ((with_reducible show wpAny _ _ (call (Value.ref 126) _ _) _ _ _); refine Stop.mk ?_))
section
variable {w : World} {mg mb : Str → Option Value} {mean : ExcName → Option Value} {base h₀ : Heap} {L fa : Addr} {cd : Value} {s : Shared} {E : Value → Shared → Prop} {m : Str → Option Value} {d : LD} {σ : LS} {i : Nat}
theorem br_send {Qt : Flow → Shared → Prop} {rst ti : Int} {trs tti : Tok} (C : Ctx w mg mb mean base h₀) (F : Fr h₀ L s.heap m) (N : News h₀ L s.heap d.led) (hF : LFr d σ m) (hL : LLed d σ) (hP : LPure σ i) (hi : i < 22) (hrest : m (Str.ofString "rest") = some (.int rst trs)) (hturn : m (Str.ofString "turn") = some (.int ti tti)) (ht0 : 0 ≤ ti) (ht1 : ti ≤ 22)
    (k : ∀ d' σ' m' h' tk, Keeps d d' → LFr d' σ' m' → LLed d' σ' → LPure σ' (i + 1) → Fr h₀ L h' m' → News h₀ L h' d'.led → Qt .next { s with heap := h', toks := tk }) :
    wpAny (model PySem.Challenge.rw_je0001_01.row.prog w) (lawA L fa cd) (execs brSend (lawEnv L fa cd)) Qt E s := by
  have e1 : brSend = brSend := rfl
  conv at e1 => rhs; whnf
  have e2 : lawScope = lawScope := rfl
  conv at e2 => rhs; whnf
  rw [e1]
  unfold lawA lawEnv
  rw [e2]
  clear e1 e2
  obtain ⟨B, X, T⟩ := id C
  obtain ⟨size, now, window, carried, since, counted, rises, thr, flr, trips, rows, M⟩ := σ
  obtain ⟨reno, mon, dR, dM, smp, outA, trA, em, es, nM, n, ns, no, nt, sv, ov, tv, mx, mn, rest⟩ := d
  obtain ⟨⟨ts, hsize⟩, hreno, hout, ⟨tw, hwin⟩, hthr, ⟨tc, hcar⟩, ⟨tsi, hsin⟩, htrp, ⟨tcn, hcnt⟩, hflr, ⟨tri, hris⟩, ⟨tno, hnow⟩⟩ := id hF
  obtain ⟨qreno, qmon, qtr, itr, hrows, D, DM, ism, off1, off2, off3, off4, ne1, ne2, ne3, ne4, ne5, ne6⟩ := id hL
  obtain ⟨psize, pwlo, ppot, pclo, pslo, pshi, pnlo, prlen, prbd, pminc, pmfm, pmtime, pmlen, pmi0, pmi1, pmbd, pmfb, ptrp, pihi, prthr⟩ := id hP
  clear hF hL hP
  dsimp only at *
  unfold LD.led at N
  dsimp only at N
  have em1 := D.meths (Str.ofString "on_packet_sent") (by decide +kernel)
  have hol : ov.length ≤ 100 := by rw [hrows.length]; omega
  have ha0 : 0 ≤ rst.fmod 5 := Int.fmod_nonneg_of_pos _ (by decide)
  have ha1 : rst.fmod 5 < 5 := Int.fmod_lt_of_pos _ (by decide)
  have hb0 : 0 ≤ (rst.fdiv 5).fmod 3 := Int.fmod_nonneg_of_pos _ (by decide)
  have hb1 : (rst.fdiv 5).fmod 3 < 3 := Int.fmod_lt_of_pos _ (by decide)
  k_steps
  (rename Fr _ _ _ _ => kF9)
  (rename News _ _ _ _ => kN9)
  (rename RenoD _ _ _ _ _ _ _ _ => D9)
  simp only [List.push_toArray] at kN9
  have kN8 : News h₀ L _ ((dM, dictOf em nM) :: (smp, listOf sv.toArray ns) :: (dR, dictOf _ _) :: (outA, listOf (ov ++ [Value.ref _]).toArray _) :: (_, tupOf [.ref _, .int now _, .int _ _] _) :: (_, instObj 177 _) :: (_, dictOf _ _) :: rest) := news_sub kN9 (by (iterate 7 refine List.forall_mem_cons.mpr ⟨by (repeat (first | with_reducible exact List.mem_cons_self | with_reducible refine List.mem_cons_of_mem _ ?_)), ?_⟩); intro p9 hp9; repeat (first | with_reducible exact hp9 | with_reducible refine List.mem_cons_of_mem _ ?_))
  exact k ⟨reno, mon, dR, dM, smp, outA, trA, em, _, nM, _, ns, _, nt, sv, (ov ++ [Value.ref _]), tv, mx, mn, _⟩ ⟨size, now, window, carried, since, counted, rises, thr, flr, trips, (rows ++ [(now, _)]), M⟩ _ _ _ (by exact ⟨fun _ h => .tail _ (.tail _ (.tail _ h))⟩)
    ⟨(by first | exact ⟨_, hsize⟩ | exact ⟨_, rfl⟩), (by first | exact hreno | exact rfl), (by first | exact hout | exact rfl), (by first | exact ⟨_, hwin⟩ | exact ⟨_, rfl⟩), (by first | exact OptAt.keep hthr rfl | exact .inl ⟨_, _, rfl, rfl⟩), (by first | exact ⟨_, hcar⟩ | exact ⟨_, rfl⟩), (by first | exact ⟨_, hsin⟩ | exact ⟨_, rfl⟩), (by first | exact htrp | exact rfl), (by first | exact ⟨_, hcnt⟩ | exact ⟨_, rfl⟩), (by first | exact OptAt.keep hflr rfl | exact .inl ⟨_, _, rfl, rfl⟩), (by first | exact ⟨_, hris⟩ | exact ⟨_, rfl⟩), (by first | exact ⟨_, hnow⟩ | exact ⟨_, rfl⟩)⟩
    ⟨(by exact .tail _ (.tail _ (.tail _ qreno))), (by exact .tail _ (.tail _ (.tail _ qmon))), (by exact .tail _ (.tail _ (.tail _ qtr))), itr, (by exact (hrows.mono (fun _ h => .tail _ (.tail _ (.tail _ h)))).append (.cons (.head _) ⟨_, _, _, .tail _ (.head _), .tail _ (.tail _ (.head _)), ⟨⟨_, by k_get⟩, ⟨_, by k_get⟩⟩⟩ .nil)), (by rw [sumO_append, sumO_cons]; simpa [sumO] using D9), DM, ism, (by exact (off_cons (by k_ne) (off_cons (by k_ne) (off_cons (by k_ne) off1)))), (by exact (off_cons (by k_ne) (off_cons (by k_ne) (off_cons (by k_ne) off2)))), (by exact (off_cons (by k_ne) (off_cons (by k_ne) (off_cons (by k_ne) off3)))), (by exact (off_cons (by k_ne) (off_cons (by k_ne) (off_cons (by k_ne) off4)))), ne1, ne2, ne3, ne4, ne5, ne6⟩
    ⟨psize, by dsimp only; omega, by dsimp only; omega, by dsimp only; omega, by dsimp only; omega, by dsimp only; omega, by dsimp only; omega, by dsimp only; rw [List.length_append]; simp; omega, (by intro r hr; rcases List.mem_append.mp hr with hr | hr; exact prbd r hr; rw [List.mem_singleton.mp hr]; exact ⟨pnlo, by omega, by omega⟩), pminc, pmfm, pmtime, pmlen, pmi0, pmi1, pmbd, pmfb, ptrp, by omega, prthr⟩ kF9 kN8
end

end
section
local macro_rules | `(tactic| walk_at "no such key") => `(tactic| fail)
local macro_rules | `(tactic| walk_at "no such key") => `(tactic| fail)
local macro_rules | `(tactic| walk_at "no such key") => `(tactic| fail)
local macro_rules | `(tactic| walk_at "no such key") => `(tactic| fail)
theorem back11 : True := by
  w_top off
  trivial
local macro_rules | `(tactic| k_all) => `(tactic| assumption)
local macro_rules | `(tactic| k_get) => `(tactic| ((with_reducible refine (getL_put_ne (by decide +kernel)).trans ?_); k_get))
local macro_rules | `(tactic| k_get) => `(tactic| with_reducible exact getL_put_same)
local macro_rules | `(tactic| k_get) => `(tactic| with_reducible assumption)
local macro_rules | `(tactic| walk_at "setAttr ref") => `(tactic| (k_here; k_dflt (refine' set_dictA ?k1 ?k2 ?k3 ?k4 ?k5 ?k6 ?k7 ?k8 ?k9 ?k10 ?k11 ?k12 ?_; (case k1 => k_asm); (case k2 => k_asm); (case k3 => k_asm); (case k4 => k_inst); (case k5 => exact rfl); (case k6 => k_is); (case k7 => k_is); (case k8 => k_is); (case k9 => k_is); (case k10 => (refine' getL_some ?g; (case g => ((repeat (with_reducible refine (getL_put_ne (by decide +kernel)).trans ?_)); with_reducible first | assumption | exact getL_put_same)))); (case k11 => k_updF); (case k12 => (refine lt_put0 ?_; repeat (first | omega | refine lt_put ?_))); k_whole; intro h' hsh' t' n' F' N'; (try dsimp only at N'); (try k_sweep))))
local macro_rules | `(tactic| k_mem) => `(tactic| ((show (_ : Addr × Obj) ∈ (_ : List (Addr × Obj))); ktr_member))
local macro_rules | `(tactic| walk_at "eval Name") => `(tactic| (k_here; k_dflt (refine' ld ?k1 ?k2 ?_; (case k1 => k_asm); (case k2 => first | with_reducible assumption | ((with_reducible show (ite _ _ _) = _); (repeat (with_reducible refine (if_neg (by decide +kernel)).trans ?_)); with_reducible first | assumption | exact if_pos rfl)); k_whole)))
local macro_rules | `(tactic| walk_at "loadName") => `(tactic| (k_here; k_dflt (refine' ldn ?k1 ?k2 ?_; (case k1 => k_asm); (case k2 => first | with_reducible assumption | ((with_reducible show (ite _ _ _) = _); (repeat (with_reducible refine (if_neg (by decide +kernel)).trans ?_)); with_reducible first | assumption | exact if_pos rfl)); k_whole)))
local macro_rules | `(tactic| walk_at "call ref") => `(tactic| (k_here; (with_reducible show wpAny _ _ (call (Value.ref 119) _ _) _ _ _); k_dflt (refine' c_persist ?k1 ?k2 ?k3 ?k4 ?k5 ?k6 ?k7 ?k8 ?_; (case k1 => k_asm); (case k2 => k_asm); (case k3 => assumption); (case k4 => k_mem); (case k5 => k_updF); (case k6 => assumption); (case k7 => omega); (case k8 => omega); k_whole; intro es9 n9 h9 tk9 D9 F9 N9; (try dsimp only at N9))))
local macro_rules | `(tactic| walk_at "subscriptTail Name Slice ref ref") => `(tactic| (k_here; (with_reducible show wpAny _ _ (subscriptTail _ (PySem.Expr.Slice _ _ none _) (Value.ref _) (Value.ref _)) _ _ _); k_dflt (refine' slice_own ?F ?N ?m ?p ?q ?z ?e ?_ ?s ?t; (case F => k_asm); (case N => k_asm); (case m => k_mem); (case p => kmk_part); (case q => kmk_part); (case z => first | assumption | (simp only [List.length_cons, List.length_nil]; omega)); (case e => assumption); (case s => with_unfolding_all rfl); (case t => kmk_pure)); intro D' h' F' N' l1; (try k_lt l1); (try k_sweep)))
local macro_rules | `(tactic| walk_at "call ref") => `(tactic| (k_here; (with_reducible show wpAny _ _ (call (Value.ref 105) _ _) _ _ _); k_dflt (refine' c_expired ?k1 ?k2 ?k3 ?k4 ?k5 ?k6 ?k7 ?k11 ?k8 ?k9 ?k10 ?_; (case k1 => k_asm); (case k2 => k_asm); (case k3 => assumption); (case k4 => k_mem); (case k5 => k_updF); (case k6 => assumption); (case k7 => k_mem); (case k11 => omega); (case k8 => with_reducible assumption); (case k9 => (intro p9 hp9; repeat (first | exact hp9 | refine List.Mem.tail _ ?_))); (case k10 => assumption); k_whole; intro es9 n9 h9 tk9 D9 F9 N9; (try dsimp only at N9))))
local macro_rules | `(tactic| walk_at "CompSrc") => `(tactic| (k_here; k_dflt (refine LCg.CompSrc.ledger (by rfl) (by k_asm) (by k_asm) (by k_mem) (by (simp only [List.size_toArray, List.length_take, sizeLine_eq]; omega)) ?_); intro g'; k_dflt (refine' comp_row0 ?hI ?hsub ?hm ?hfn ?hlo ?hx ?_; (case hI => assumption); (case hsub => (intro p9 hp9; repeat (first | exact hp9 | refine List.Mem.tail _ ?_))); (case hm => k_mem); (case hfn => (intro C9; rfl)); (case hlo => (intro C9; rfl)); (case hx => decide)); k_whole; intro D' h' tk' F' N' off'; (try simp only [LCg.Off1, and_true] at off')))
local macro_rules | `(tactic| walk_at "CompSrc") => `(tactic| (k_here; k_dflt (refine LCg.CompSrc.ledger (by rfl) (by k_asm) (by k_asm) (by k_mem) (by (simp only [List.size_toArray, List.length_take, sizeLine_eq]; omega)) ?_); intro g'; k_dflt (refine' comp_row2 ?hI ?hsub ?hm ?hfn ?hlo ?hx ?_; (case hI => assumption); (case hsub => (intro p9 hp9; repeat (first | exact hp9 | refine List.Mem.tail _ ?_))); (case hm => k_mem); (case hfn => (intro C9; rfl)); (case hlo => (intro C9; rfl)); (case hx => decide)); k_whole; intro D' h' tk' F' N' off'; (try simp only [LCg.Off1, and_true] at off')))
local macro_rules | `(tactic| walk_at "call builtin:len") => `(tactic| (k_here; (with_reducible show wpAny _ _ (call (Value.builtin "len") [Value.ref _]) _ _ _); k_dflt (refine' len_own ?N ?m ?z ?_; (case N => k_asm); (case m => k_mem); (case z => first | assumption | (simp only [List.length_take, List.length_drop, List.length_cons, List.length_nil]; omega)); k_whole)))
local macro_rules | `(tactic| walk_at "binaryOp Add ref ref") => `(tactic| (k_here; (with_reducible show wpAny _ _ (binaryOp _ (Value.ref _) (Value.ref _)) _ _ _); k_dflt (refine' add_own ?F ?N ?a ?b ?z1 ?z2 ?_; (case F => k_asm); (case N => k_asm); (case a => k_mem); (case b => k_mem); (case z1 => first | assumption | exact Nat.le_of_ble_eq_true rfl); (case z2 => first | assumption | exact Nat.le_of_ble_eq_true rfl); k_whole); intro D' h' F' N' l1; (try k_lt l1); (try k_sweep)))
local macro_rules | `(tactic| walk_at "subscriptTail") => `(tactic| (k_here; (with_reducible show wpAny _ _ (subscriptTail _ _ (Value.ref _) (Value.int _ _)) _ _ _); k_dflt (refine' last_own ?N ?m ?k ?l ?z ?x ?_ ?s; (case N => k_asm); (case m => k_mem); (case k => rfl); (case l => assumption); (case z => assumption); (case x => assumption); (case s => with_unfolding_all rfl); k_whole)))
local macro_rules | `(tactic| walk_at "call ref") => `(tactic| (k_here; (with_reducible show wpAny _ _ (call (Value.ref 112) _ _) _ _ _); k_dflt (refine' c_lost ?k1 ?k2 ?k3 ?k4 ?k5 ?k6 ?k7 ?k11 ?k8 ?k9 ?k10 ?k12 ?k13 ?k14 ?k15 ?_; (case k1 => k_asm); (case k2 => k_asm); (case k3 => assumption); (case k4 => k_mem); (case k5 => k_updF); (case k6 => assumption); (case k7 => k_mem); (case k11 => omega); (case k8 => with_reducible assumption); (case k9 => (intro p9 hp9; repeat (first | exact hp9 | refine List.Mem.tail _ ?_))); (case k10 => assumption); (case k12 => omega); (case k13 => omega); (case k14 => omega); (case k15 => omega); k_whole; intro es9 n9 h9 tk9 cr9 cw9 ss9 R9 D9 F9 N9; (try dsimp only at N9); (rcases R9 with ⟨c9, r1, r2, r3⟩ | ⟨c9, r1, r2, r3⟩) <;> (replace r1 := Eq.symm r1; subst r1; replace r2 := Eq.symm r2; subst r2; replace r3 := Eq.symm r3; subst r3))))
local macro_rules | `(tactic| walk_at "subscriptTail") => `(tactic| (k_here; (with_reducible show wpAny _ _ (subscriptTail _ _ (Value.ref _) (Value.int _ _)) _ _ _); k_dflt (refine' pick_own ?N ?m ?k0 ?k1 ?l ?all ?_ ?s; (case N => k_asm); (case m => k_mem); (case k0 => assumption); (case k1 => assumption); (case l => exact Nat.lt_of_sub_eq_succ rfl); (case all => (repeat (first | exact List.forall_mem_nil _ | refine List.forall_mem_cons.mpr ⟨⟨_, _, rfl, by omega, by omega⟩, ?_⟩))); (case s => with_unfolding_all rfl); k_whole); intro o9 t9 b9 c9))
local macro_rules | `(tactic| walk_at "call ref") => `(tactic| (k_here; (with_reducible show wpAny _ _ (call (Value.ref 98) _ _) _ _ _); k_dflt (refine' c_sent (tl := [(_, instObj 177 _), (_, dictOf _ _)]) ?k1 ?k2 ?k3 ?k4 ?k5 ?k6 ?k7 ?k8 ?k9 ?_; (case k1 => k_asm); (case k2 => k_asm); (case k3 => assumption); (case k4 => k_mem); (case k5 => k_updF); (case k6 => assumption); (case k8 => refine List.forall_mem_cons.mpr ⟨by k_mem, List.forall_mem_cons.mpr ⟨by k_mem, List.forall_mem_nil _⟩⟩); (case k7 => exact ⟨_, _, _, .head _, .tail _ (.head _), ⟨⟨_, by k_get⟩, ⟨_, by k_get⟩⟩⟩); (case k9 => (intro p9 hp9; rcases List.mem_cons.mp hp9 with h9 | hp9; (subst h9; k_ne); rcases List.mem_cons.mp hp9 with h9 | hp9; (subst h9; k_ne); exact nomatch hp9)); k_whole; intro es9 n9 h9 tk9 D9 F9 N9; (try dsimp only at N9))))
local macro_rules | `(tactic| walk_at "call builtin:list.pop") => `(tactic| (k_here; (with_reducible show wpAny _ _ (call (Value.builtin _) [Value.ref _, Value.int _ _]) _ _ _); k_dflt (refine' pop_own ?F ?N ?v ?k ?l ?U ?_; (case F => k_asm); (case N => k_asm); (case v => assumption); (case k => assumption); (case l => assumption); (case U => k_upd); k_whole); intro h' F' N'; (try dsimp only at N')))
local macro_rules | `(tactic| walk_at "call ref") => `(tactic| (k_here; (with_reducible show wpAny _ _ (call (Value.ref 91) _ _) _ _ _); k_dflt (refine' c_acked ?k1 ?k2 ?k3 ?k4 ?k5 ?k6 ?k7 ?k8 ?k9 ?b1 ?b2 ?b3 ?b4 ?b5 ?b6 ?b7 ?b8 ?_; (case k1 => k_asm); (case k2 => k_asm); (case k3 => assumption); (case k4 => k_mem); (case k5 => k_updF); (case k6 => assumption); (case k7 => with_reducible assumption); (case k8 => (intro p9 hp9; repeat (first | exact hp9 | refine List.Mem.tail _ ?_))); (case k9 => assumption); (case b1 => omega); (case b2 => omega); (case b3 => omega); (case b4 => omega); (case b5 => omega); (case b6 => omega); (case b7 => omega); (case b8 => omega); k_whole; intro es9 n9 h9 tk9 cw9 st9 R9 D9 F9 N9; (try dsimp only at N9); refine Stop.mk ?_)))
local macro_rules | `(tactic| walk_at "exec While Compare cons nil") => `(tactic| refine Stop.mk ?_)
local macro_rules | `(tactic| walk_at "call builtin:max") => `(tactic| (k_here; (with_reducible show wpAny _ _ (call (Value.builtin _) [Value.ref _]) _ _ _); k_dflt (refine' max_own ?h ?F ?N ?m ?i ?a ?b ?_; (case h => exact rfl); (case F => k_asm); (case N => k_asm); (case m => k_mem); (case i => with_reducible assumption); (case b => with_reducible assumption); (case a => with_reducible assumption); k_whole); intro h' t' tk' F' N'))
local macro_rules | `(tactic| walk_at "call builtin:min") => `(tactic| (k_here; (with_reducible show wpAny _ _ (call (Value.builtin _) [Value.ref _]) _ _ _); k_dflt (refine' min_own ?h ?F ?N ?m ?i ?a ?b ?_; (case h => exact rfl); (case F => k_asm); (case N => k_asm); (case m => k_mem); (case i => with_reducible assumption); (case b => with_reducible assumption); (case a => with_reducible assumption); k_whole); intro h' t' tk' F' N'))
local macro_rules | `(tactic| walk_at "call builtin:min") => `(tactic| (k_here; (with_reducible show wpAny _ _ (call (Value.builtin _) [Value.int _ _, Value.int _ _]) _ _ _); k_dflt (refine' min_lo ?h ?F ?N ?c ?_; (case h => exact rfl); (case F => k_asm); (case N => k_asm); (case c => with_reducible assumption); k_whole); intro h' tk' F' N'))
local macro_rules | `(tactic| walk_at "call builtin:min") => `(tactic| (k_here; (with_reducible show wpAny _ _ (call (Value.builtin _) [Value.int _ _, Value.int _ _]) _ _ _); k_dflt (refine' min_hi ?h ?F ?N ?c ?_; (case h => exact rfl); (case F => k_asm); (case N => k_asm); (case c => with_reducible assumption); k_whole); intro h' tk' F' N'))
local macro_rules | `(tactic| walk_at "call ref") => `(tactic| ((with_reducible show wpAny _ _ (call (Value.ref 126) _ _) _ _ _); refine Stop.mk ?_))
section
variable {w : World} {mg mb : Str → Option Value} {mean : ExcName → Option Value} {base h₀ : Heap} {L fa : Addr} {cd : Value} {s : Shared} {E : Value → Shared → Prop} {m : Str → Option Value} {d : LD} {σ : LS} {i : Nat}
theorem br_ack {Qt : Flow → Shared → Prop} {rst : Int} {trs : Tok} (C : Ctx w mg mb mean base h₀) (F : Fr h₀ L s.heap m) (N : News h₀ L s.heap d.led) (hF : LFr d σ m) (hL : LLed d σ) (hP : LPure σ i) (hi : i < 22) (hrest : m (Str.ofString "rest") = some (.int rst trs)) (hE : PassesOwn (model PySem.Challenge.rw_je0001_01.row.prog w) (lawA L fa cd) (lawEnv L fa cd) E)
    (k : ∀ d' σ' m' h' tk, Keeps d d' → LFr d' σ' m' → LLed d' σ' → LPure σ' (i + 1) → Fr h₀ L h' m' → News h₀ L h' d'.led → Qt .next { s with heap := h', toks := tk }) :
    wpAny (model PySem.Challenge.rw_je0001_01.row.prog w) (lawA L fa cd) (execs brAck (lawEnv L fa cd)) Qt E s := by
  have e1 : brAck = brAck := rfl
  conv at e1 => rhs; whnf
  have e2 : lawScope = lawScope := rfl
  conv at e2 => rhs; whnf
  rw [e1]
  unfold lawA lawEnv
  unfold lawA lawEnv at hE
  rw [e2] at hE ⊢
  clear e1 e2
  obtain ⟨B, X, T⟩ := id C
  obtain ⟨size, now, window, carried, since, counted, rises, thr, flr, trips, rows, M⟩ := σ
  obtain ⟨reno, mon, dR, dM, smp, outA, trA, em, es, nM, n, ns, no, nt, sv, ov, tv, mx, mn, rest⟩ := d
  obtain ⟨⟨ts, hsize⟩, hreno, hout, ⟨tw, hwin⟩, hthr, ⟨tc, hcar⟩, ⟨tsi, hsin⟩, htrp, ⟨tcn, hcnt⟩, hflr, ⟨tri, hris⟩, ⟨tno, hnow⟩⟩ := id hF
  obtain ⟨qreno, qmon, qtr, itr, hrows, D, DM, ism, off1, off2, off3, off4, ne1, ne2, ne3, ne4, ne5, ne6⟩ := id hL
  obtain ⟨psize, pwlo, ppot, pclo, pslo, pshi, pnlo, prlen, prbd, pminc, pmfm, pmtime, pmlen, pmi0, pmi1, pmbd, pmfb, ptrp, pihi, prthr⟩ := id hP
  clear hF hL hP
  dsimp only at *
  unfold LD.led at N
  dsimp only at N
  have em1 := D.meths (Str.ofString "on_packet_acked") (by decide +kernel)
  have hthr0 := hthr
  have hol : ov.length ≤ 100 := by rw [hrows.length]; omega
  by_cases h0 : ov.length = 0
  · k_steps
    exact k ⟨reno, mon, dR, dM, smp, outA, trA, em, es, nM, n, ns, no, nt, sv, ov, tv, mx, mn, rest⟩ ⟨size, now, window, carried, since, counted, rises, thr, flr, trips, rows, M⟩ _ _ _ (by exact ⟨fun _ h => h⟩)
      ⟨(by first | exact ⟨_, hsize⟩ | exact ⟨_, rfl⟩), (by first | exact hreno | exact rfl), (by first | exact hout | exact rfl), (by first | exact ⟨_, hwin⟩ | exact ⟨_, rfl⟩), (by first | exact OptAt.keep hthr0 rfl | exact .inl ⟨_, _, rfl, rfl⟩), (by first | exact ⟨_, hcar⟩ | exact ⟨_, rfl⟩), (by first | exact ⟨_, hsin⟩ | exact ⟨_, rfl⟩), (by first | exact htrp | exact rfl), (by first | exact ⟨_, hcnt⟩ | exact ⟨_, rfl⟩), (by first | exact OptAt.keep hflr rfl | exact .inl ⟨_, _, rfl, rfl⟩), (by first | exact ⟨_, hris⟩ | exact ⟨_, rfl⟩), (by first | exact ⟨_, hnow⟩ | exact ⟨_, rfl⟩)⟩
      ⟨qreno, qmon, qtr, itr, hrows, D, DM, ism, off1, off2, off3, off4, ne1, ne2, ne3, ne4, ne5, ne6⟩
      ⟨psize, by dsimp only; omega, by dsimp only; omega, by dsimp only; omega, by dsimp only; omega, by dsimp only; omega, by dsimp only; omega, by dsimp only; omega, prbd, pminc, pmfm, pmtime, pmlen, pmi0, pmi1, pmbd, pmfb, ptrp, by omega, prthr⟩ F N
  · have hk0 : 0 ≤ rst.fmod (ov.length : Int) := Int.fmod_nonneg_of_pos _ (by omega)
    have hk1 : rst.fmod (ov.length : Int) < (ov.length : Int) := Int.fmod_lt_of_pos _ (by omega)
    obtain ⟨p, q, pr, qr, a, pk, at_, oct, u1, u2, un, hv, hk, hrw, hp, hq, hmem, hpk⟩ := rows_at hrows hk0 hk1
    have hb : 1 ≤ at_ ∧ 0 ≤ oct ∧ oct ≤ 10000 := prbd (at_, oct) (by rw [hrw]; simp)
    have hmm : ∀ r ∈ pr ++ qr, r ∈ rows := by intro r hr; rw [hrw]; rcases List.mem_append.mp hr with hr | hr <;> simp [hr]
    have hs2 : sumO rows - oct = sumO (pr ++ qr) := by rw [hrw, sumO_append, sumO_append, sumO_cons]; dsimp only; omega
    have hlen : pr.length + qr.length ≤ i := by rw [hrw] at prlen; simp at prlen; omega
    k_steps
    show wpAny _ _ _ _ _ _
    (rename RenoD _ _ _ _ _ _ _ _ => D9)
    (rename AckR _ _ _ _ _ _ _ _ _ => R9)
    rw [hs2] at D9
    clear hrows prlen
    rcases R9 with ⟨c9, r1, r2⟩ | ⟨c9, d9, r1, r2⟩ | ⟨c9, d9, r1, r2⟩
    · replace r1 := r1.symm; subst r1; replace r2 := r2.symm; subst r2
      k_steps
      (rename Fr _ _ _ _ => kF9)
      (rename News _ _ _ _ => kN9)
      exact k ⟨reno, mon, dR, dM, smp, outA, trA, em, _, nM, _, ns, _, nt, sv, _, tv, mx, mn, rest⟩ ⟨size, now, window, carried, since, counted, rises, thr, flr, trips, (pr ++ qr), M⟩ _ _ _ (by exact ⟨fun _ h => h⟩)
        ⟨(by first | exact ⟨_, hsize⟩ | exact ⟨_, rfl⟩), (by first | exact hreno | exact rfl), (by first | exact hout | exact rfl), (by first | exact ⟨_, hwin⟩ | exact ⟨_, rfl⟩), (by first | exact OptAt.keep hthr0 rfl | exact .inl ⟨_, _, rfl, rfl⟩), (by first | exact ⟨_, hcar⟩ | exact ⟨_, rfl⟩), (by first | exact ⟨_, hsin⟩ | exact ⟨_, rfl⟩), (by first | exact htrp | exact rfl), (by first | exact ⟨_, hcnt⟩ | exact ⟨_, rfl⟩), (by first | exact OptAt.keep hflr rfl | exact .inl ⟨_, _, rfl, rfl⟩), (by first | exact ⟨_, hris⟩ | exact ⟨_, rfl⟩), (by first | exact ⟨_, hnow⟩ | exact ⟨_, rfl⟩)⟩
        ⟨qreno, qmon, qtr, itr, (hp.append hq), D9, DM, ism, off1, off2, off3, off4, ne1, ne2, ne3, ne4, ne5, ne6⟩
        ⟨psize, by dsimp only; omega, by dsimp only; omega, by dsimp only; omega, by dsimp only; omega, by dsimp only; omega, by dsimp only; omega, by dsimp only; rw [List.length_append]; omega, (fun r hr => prbd r (hmm r hr)), pminc, pmfm, pmtime, pmlen, pmi0, pmi1, pmbd, pmfb, ptrp, by omega, prthr⟩ kF9 kN9
    · replace r1 := r1.symm; subst r1; replace r2 := r2.symm; subst r2
      rcases hthr with ⟨v, vt, hv1, hthr⟩ | ⟨hv1, hthr⟩
      · have hwv : window < v := by rcases d9 with e | ⟨v', e, h⟩ <;> rw [hv1] at e <;> cases e; exact h
        k_steps
        (rename Fr _ _ _ _ => kF9)
        (rename News _ _ _ _ => kN9)
        exact k ⟨reno, mon, dR, dM, smp, outA, trA, em, _, nM, _, ns, _, nt, sv, _, tv, mx, mn, rest⟩ ⟨size, now, (window + oct), carried, since, counted, rises, thr, flr, trips, (pr ++ qr), M⟩ _ _ _ (by exact ⟨fun _ h => h⟩)
          ⟨(by first | exact ⟨_, hsize⟩ | exact ⟨_, rfl⟩), (by first | exact hreno | exact rfl), (by first | exact hout | exact rfl), (by first | exact ⟨_, hwin⟩ | exact ⟨_, rfl⟩), (by first | exact OptAt.keep hthr0 rfl | exact .inl ⟨_, _, rfl, rfl⟩), (by first | exact ⟨_, hcar⟩ | exact ⟨_, rfl⟩), (by first | exact ⟨_, hsin⟩ | exact ⟨_, rfl⟩), (by first | exact htrp | exact rfl), (by first | exact ⟨_, hcnt⟩ | exact ⟨_, rfl⟩), (by first | exact OptAt.keep hflr rfl | exact .inl ⟨_, _, rfl, rfl⟩), (by first | exact ⟨_, hris⟩ | exact ⟨_, rfl⟩), (by first | exact ⟨_, hnow⟩ | exact ⟨_, rfl⟩)⟩
          ⟨qreno, qmon, qtr, itr, (hp.append hq), D9, DM, ism, off1, off2, off3, off4, ne1, ne2, ne3, ne4, ne5, ne6⟩
          ⟨psize, by dsimp only; omega, by dsimp only; omega, by dsimp only; omega, by dsimp only; omega, by dsimp only; omega, by dsimp only; omega, by dsimp only; rw [List.length_append]; omega, (fun r hr => prbd r (hmm r hr)), pminc, pmfm, pmtime, pmlen, pmi0, pmi1, pmbd, pmfb, ptrp, by omega, prthr⟩ kF9 kN9
      · k_steps
        (rename Fr _ _ _ _ => kF9)
        (rename News _ _ _ _ => kN9)
        exact k ⟨reno, mon, dR, dM, smp, outA, trA, em, _, nM, _, ns, _, nt, sv, _, tv, mx, mn, rest⟩ ⟨size, now, (window + oct), carried, since, counted, rises, thr, flr, trips, (pr ++ qr), M⟩ _ _ _ (by exact ⟨fun _ h => h⟩)
          ⟨(by first | exact ⟨_, hsize⟩ | exact ⟨_, rfl⟩), (by first | exact hreno | exact rfl), (by first | exact hout | exact rfl), (by first | exact ⟨_, hwin⟩ | exact ⟨_, rfl⟩), (by first | exact OptAt.keep hthr0 rfl | exact .inl ⟨_, _, rfl, rfl⟩), (by first | exact ⟨_, hcar⟩ | exact ⟨_, rfl⟩), (by first | exact ⟨_, hsin⟩ | exact ⟨_, rfl⟩), (by first | exact htrp | exact rfl), (by first | exact ⟨_, hcnt⟩ | exact ⟨_, rfl⟩), (by first | exact OptAt.keep hflr rfl | exact .inl ⟨_, _, rfl, rfl⟩), (by first | exact ⟨_, hris⟩ | exact ⟨_, rfl⟩), (by first | exact ⟨_, hnow⟩ | exact ⟨_, rfl⟩)⟩
          ⟨qreno, qmon, qtr, itr, (hp.append hq), D9, DM, ism, off1, off2, off3, off4, ne1, ne2, ne3, ne4, ne5, ne6⟩
          ⟨psize, by dsimp only; omega, by dsimp only; omega, by dsimp only; omega, by dsimp only; omega, by dsimp only; omega, by dsimp only; omega, by dsimp only; rw [List.length_append]; omega, (fun r hr => prbd r (hmm r hr)), pminc, pmfm, pmtime, pmlen, pmi0, pmi1, pmbd, pmfb, ptrp, by omega, prthr⟩ kF9 kN9
    · obtain ⟨v, hv1, hvw⟩ := d9
      rcases hthr with ⟨v', vt, hv2, hthr⟩ | ⟨hv2, hthr⟩
      · have e9 : v' = v := by rw [hv1] at hv2; cases hv2; rfl
        subst e9
        k_steps
        show wpAny _ _ _ _ _ _
        (rename Fr _ _ _ _ => kF9)
        (rename News _ _ _ _ => kN9)
        have hthr2 := hthr0
        refine while_keep (n₀ := (carried + oct).toNat) (fun nn m' => ∃ j : Int, 0 ≤ j ∧ 0 ≤ carried + oct - j * window ∧ nn = (carried + oct - j * window).toNat ∧ LFr ⟨reno, mon, dR, dM, smp, outA, trA, em, es, nM, n, ns, no, nt, sv, p ++ q, tv, mx, mn, rest⟩ ⟨size, now, (window + j * size), (carried + oct - j * window), since, counted, rises, thr, flr, trips, pr ++ qr, M⟩ m' ∧ ∃ t, m' (Str.ofString "whole") = some (.int window t)) kF9 kN9 ?_ ?_ hE
        · refine ⟨0, by omega, by omega, by simp, ?_, _, rfl⟩
          rw [Int.zero_mul, Int.zero_mul, Int.add_zero, Int.sub_zero]
          exact ⟨(by first | exact ⟨_, hsize⟩ | exact ⟨_, rfl⟩), (by first | exact hreno | exact rfl), (by first | exact hout | exact rfl), (by first | exact ⟨_, hwin⟩ | exact ⟨_, rfl⟩), (by first | exact OptAt.keep hthr2 rfl | exact .inl ⟨_, _, rfl, rfl⟩), (by first | exact ⟨_, hcar⟩ | exact ⟨_, rfl⟩), (by first | exact ⟨_, hsin⟩ | exact ⟨_, rfl⟩), (by first | exact htrp | exact rfl), (by first | exact ⟨_, hcnt⟩ | exact ⟨_, rfl⟩), (by first | exact OptAt.keep hflr rfl | exact .inl ⟨_, _, rfl, rfl⟩), (by first | exact ⟨_, hris⟩ | exact ⟨_, rfl⟩), (by first | exact ⟨_, hnow⟩ | exact ⟨_, rfl⟩)⟩
        · clear kF9 kN9 hreno hout hsize hwin hthr hthr2 hthr0 hcar hsin htrp hcnt hflr hris hnow
          rintro nn m₁ h₁ tk₁ Qt F₁ N₁ ⟨j, hj0, hj1, hnn, hF, tw9, hwhole⟩ kk
          obtain ⟨⟨ts, hsize⟩, hreno, hout, ⟨tw, hwin⟩, hthr, ⟨tc, hcar⟩, ⟨tsi, hsin⟩, htrp, ⟨tcn, hcnt⟩, hflr, ⟨tri, hris⟩, ⟨tno, hnow⟩⟩ := id hF
          dsimp only at *
          have hj2 : (j + 1) * window = j * window + window := by rw [Int.add_mul, Int.one_mul]
          have hj3 : (j + 1) * size = j * size + size := by rw [Int.add_mul, Int.one_mul]
          generalize hjw : j * window = jw at *
          generalize hjs : j * size = js at *
          have hjs0 : 0 ≤ js := by rw [← hjs]; exact Int.mul_nonneg hj0 (by omega)
          have hjb : 2 * js ≤ jw := by have h7 := Int.mul_le_mul_of_nonneg_left pwlo hj0; rw [Int.mul_left_comm, hjs, hjw] at h7; exact h7
          k_steps
          · (rename Fr _ _ _ _ => kF9)
            (rename News _ _ _ _ => kN9)
            refine kk _ _ _ (carried + oct - jw - window).toNat kF9 kN9 (by omega) ⟨j + 1, by omega, by rw [hj2]; omega, by rw [hj2]; omega, ?_, _, by exact hwhole⟩
            rw [hj2, hj3, ← Int.add_assoc window js size, show carried + oct - (jw + window) = carried + oct - jw - window by omega]
            exact ⟨(by first | exact ⟨_, hsize⟩ | exact ⟨_, rfl⟩), (by first | exact hreno | exact rfl), (by first | exact hout | exact rfl), (by first | exact ⟨_, hwin⟩ | exact ⟨_, rfl⟩), (by first | exact OptAt.keep hthr rfl | exact .inl ⟨_, _, rfl, rfl⟩), (by first | exact ⟨_, hcar⟩ | exact ⟨_, rfl⟩), (by first | exact ⟨_, hsin⟩ | exact ⟨_, rfl⟩), (by first | exact htrp | exact rfl), (by first | exact ⟨_, hcnt⟩ | exact ⟨_, rfl⟩), (by first | exact OptAt.keep hflr rfl | exact .inl ⟨_, _, rfl, rfl⟩), (by first | exact ⟨_, hris⟩ | exact ⟨_, rfl⟩), (by first | exact ⟨_, hnow⟩ | exact ⟨_, rfl⟩)⟩
          · have hjq : j = (carried + oct).fdiv window := fdiv_of (by omega) (by rw [hjw]; omega) (by rw [hjw]; omega)
            rw [r1, r2, ← hjq, hjw, hjs] at D9
            clear kk
            exact k ⟨reno, mon, dR, dM, smp, outA, trA, em, _, nM, _, ns, _, nt, sv, _, tv, mx, mn, rest⟩ ⟨size, now, (window + js), (carried + oct - jw), since, counted, rises, thr, flr, trips, (pr ++ qr), M⟩ _ _ _ (by exact ⟨fun _ h => h⟩)
              ⟨(by first | exact ⟨_, hsize⟩ | exact ⟨_, rfl⟩), (by first | exact hreno | exact rfl), (by first | exact hout | exact rfl), (by first | exact ⟨_, hwin⟩ | exact ⟨_, rfl⟩), (by first | exact OptAt.keep hthr rfl | exact .inl ⟨_, _, rfl, rfl⟩), (by first | exact ⟨_, hcar⟩ | exact ⟨_, rfl⟩), (by first | exact ⟨_, hsin⟩ | exact ⟨_, rfl⟩), (by first | exact htrp | exact rfl), (by first | exact ⟨_, hcnt⟩ | exact ⟨_, rfl⟩), (by first | exact OptAt.keep hflr rfl | exact .inl ⟨_, _, rfl, rfl⟩), (by first | exact ⟨_, hris⟩ | exact ⟨_, rfl⟩), (by first | exact ⟨_, hnow⟩ | exact ⟨_, rfl⟩)⟩
              ⟨qreno, qmon, qtr, itr, (hp.append hq), D9, DM, ism, off1, off2, off3, off4, ne1, ne2, ne3, ne4, ne5, ne6⟩
              ⟨psize, by dsimp only; omega, by dsimp only; omega, by dsimp only; omega, by dsimp only; omega, by dsimp only; omega, by dsimp only; omega, by dsimp only; rw [List.length_append]; omega, (fun r hr => prbd r (hmm r hr)), pminc, pmfm, pmtime, pmlen, pmi0, pmi1, pmbd, pmfb, ptrp, by omega, prthr⟩ F₁ N₁
      · rw [hv1] at hv2; cases hv2
end

end
section
local macro_rules | `(tactic| walk_at "no such key") => `(tactic| fail)
local macro_rules | `(tactic| walk_at "no such key") => `(tactic| fail)
local macro_rules | `(tactic| walk_at "no such key") => `(tactic| fail)
local macro_rules | `(tactic| walk_at "no such key") => `(tactic| fail)
local macro_rules | `(tactic| walk_at "no such key") => `(tactic| fail)
theorem back12 : True := by
  w_top off
  trivial
local macro_rules | `(tactic| k_all) => `(tactic| assumption)
local macro_rules | `(tactic| k_get) => `(tactic| ((with_reducible refine (getL_put_ne (by decide +kernel)).trans ?_); k_get))
local macro_rules | `(tactic| k_get) => `(tactic| with_reducible exact getL_put_same)
local macro_rules | `(tactic| k_get) => `(tactic| with_reducible assumption)
local macro_rules | `(tactic| walk_at "setAttr ref") => `(tactic| (k_here; k_dflt (refine' set_dictA ?k1 ?k2 ?k3 ?k4 ?k5 ?k6 ?k7 ?k8 ?k9 ?k10 ?k11 ?k12 ?_; (case k1 => k_asm); (case k2 => k_asm); (case k3 => k_asm); (case k4 => k_inst); (case k5 => exact rfl); (case k6 => k_is); (case k7 => k_is); (case k8 => k_is); (case k9 => k_is); (case k10 => (refine' getL_some ?g; (case g => ((repeat (with_reducible refine (getL_put_ne (by decide +kernel)).trans ?_)); with_reducible first | assumption | exact getL_put_same)))); (case k11 => k_updF); (case k12 => (refine lt_put0 ?_; repeat (first | omega | refine lt_put ?_))); k_whole; intro h' hsh' t' n' F' N'; (try dsimp only at N'); (try k_sweep))))
local macro_rules | `(tactic| k_mem) => `(tactic| ((show (_ : Addr × Obj) ∈ (_ : List (Addr × Obj))); ktr_member))
local macro_rules | `(tactic| walk_at "eval Name") => `(tactic| (k_here; k_dflt (refine' ld ?k1 ?k2 ?_; (case k1 => k_asm); (case k2 => first | with_reducible assumption | ((with_reducible show (ite _ _ _) = _); (repeat (with_reducible refine (if_neg (by decide +kernel)).trans ?_)); with_reducible first | assumption | exact if_pos rfl)); k_whole)))
local macro_rules | `(tactic| walk_at "loadName") => `(tactic| (k_here; k_dflt (refine' ldn ?k1 ?k2 ?_; (case k1 => k_asm); (case k2 => first | with_reducible assumption | ((with_reducible show (ite _ _ _) = _); (repeat (with_reducible refine (if_neg (by decide +kernel)).trans ?_)); with_reducible first | assumption | exact if_pos rfl)); k_whole)))
local macro_rules | `(tactic| walk_at "call ref") => `(tactic| (k_here; (with_reducible show wpAny _ _ (call (Value.ref 119) _ _) _ _ _); k_dflt (refine' c_persist ?k1 ?k2 ?k3 ?k4 ?k5 ?k6 ?k7 ?k8 ?_; (case k1 => k_asm); (case k2 => k_asm); (case k3 => assumption); (case k4 => k_mem); (case k5 => k_updF); (case k6 => assumption); (case k7 => omega); (case k8 => omega); k_whole; intro es9 n9 h9 tk9 D9 F9 N9; (try dsimp only at N9))))
local macro_rules | `(tactic| walk_at "subscriptTail Name Slice ref ref") => `(tactic| (k_here; (with_reducible show wpAny _ _ (subscriptTail _ (PySem.Expr.Slice _ _ none _) (Value.ref _) (Value.ref _)) _ _ _); k_dflt (refine' slice_own ?F ?N ?m ?p ?q ?z ?e ?_ ?s ?t; (case F => k_asm); (case N => k_asm); (case m => k_mem); (case p => kmk_part); (case q => kmk_part); (case z => first | assumption | (simp only [List.length_cons, List.length_nil]; omega)); (case e => assumption); (case s => with_unfolding_all rfl); (case t => kmk_pure)); intro D' h' F' N' l1; (try k_lt l1); (try k_sweep)))
local macro_rules | `(tactic| walk_at "call ref") => `(tactic| (k_here; (with_reducible show wpAny _ _ (call (Value.ref 105) _ _) _ _ _); k_dflt (refine' c_expired ?k1 ?k2 ?k3 ?k4 ?k5 ?k6 ?k7 ?k11 ?k8 ?k9 ?k10 ?_; (case k1 => k_asm); (case k2 => k_asm); (case k3 => assumption); (case k4 => k_mem); (case k5 => k_updF); (case k6 => assumption); (case k7 => k_mem); (case k11 => omega); (case k8 => with_reducible assumption); (case k9 => (intro p9 hp9; repeat (first | exact hp9 | refine List.Mem.tail _ ?_))); (case k10 => assumption); k_whole; intro es9 n9 h9 tk9 D9 F9 N9; (try dsimp only at N9))))
local macro_rules | `(tactic| walk_at "CompSrc") => `(tactic| (k_here; k_dflt (refine LCg.CompSrc.ledger (by rfl) (by k_asm) (by k_asm) (by k_mem) (by (simp only [List.size_toArray, List.length_take, sizeLine_eq]; omega)) ?_); intro g'; k_dflt (refine' comp_row0 ?hI ?hsub ?hm ?hfn ?hlo ?hx ?_; (case hI => assumption); (case hsub => (intro p9 hp9; repeat (first | exact hp9 | refine List.Mem.tail _ ?_))); (case hm => k_mem); (case hfn => (intro C9; rfl)); (case hlo => (intro C9; rfl)); (case hx => decide)); k_whole; intro D' h' tk' F' N' off'; (try simp only [LCg.Off1, and_true] at off')))
local macro_rules | `(tactic| walk_at "CompSrc") => `(tactic| (k_here; k_dflt (refine LCg.CompSrc.ledger (by rfl) (by k_asm) (by k_asm) (by k_mem) (by (simp only [List.size_toArray, List.length_take, sizeLine_eq]; omega)) ?_); intro g'; k_dflt (refine' comp_row2 ?hI ?hsub ?hm ?hfn ?hlo ?hx ?_; (case hI => assumption); (case hsub => (intro p9 hp9; repeat (first | exact hp9 | refine List.Mem.tail _ ?_))); (case hm => k_mem); (case hfn => (intro C9; rfl)); (case hlo => (intro C9; rfl)); (case hx => decide)); k_whole; intro D' h' tk' F' N' off'; (try simp only [LCg.Off1, and_true] at off')))
local macro_rules | `(tactic| walk_at "call builtin:len") => `(tactic| (k_here; (with_reducible show wpAny _ _ (call (Value.builtin "len") [Value.ref _]) _ _ _); k_dflt (refine' len_own ?N ?m ?z ?_; (case N => k_asm); (case m => k_mem); (case z => first | assumption | (simp only [List.length_take, List.length_drop, List.length_cons, List.length_nil]; omega)); k_whole)))
local macro_rules | `(tactic| walk_at "binaryOp Add ref ref") => `(tactic| (k_here; (with_reducible show wpAny _ _ (binaryOp _ (Value.ref _) (Value.ref _)) _ _ _); k_dflt (refine' add_own ?F ?N ?a ?b ?z1 ?z2 ?_; (case F => k_asm); (case N => k_asm); (case a => k_mem); (case b => k_mem); (case z1 => first | assumption | exact Nat.le_of_ble_eq_true rfl); (case z2 => first | assumption | exact Nat.le_of_ble_eq_true rfl); k_whole); intro D' h' F' N' l1; (try k_lt l1); (try k_sweep)))
local macro_rules | `(tactic| walk_at "subscriptTail") => `(tactic| (k_here; (with_reducible show wpAny _ _ (subscriptTail _ _ (Value.ref _) (Value.int _ _)) _ _ _); k_dflt (refine' last_own ?N ?m ?k ?l ?z ?x ?_ ?s; (case N => k_asm); (case m => k_mem); (case k => rfl); (case l => assumption); (case z => assumption); (case x => assumption); (case s => with_unfolding_all rfl); k_whole)))
local macro_rules | `(tactic| walk_at "call ref") => `(tactic| (k_here; (with_reducible show wpAny _ _ (call (Value.ref 112) _ _) _ _ _); k_dflt (refine' c_lost ?k1 ?k2 ?k3 ?k4 ?k5 ?k6 ?k7 ?k11 ?k8 ?k9 ?k10 ?k12 ?k13 ?k14 ?k15 ?_; (case k1 => k_asm); (case k2 => k_asm); (case k3 => assumption); (case k4 => k_mem); (case k5 => k_updF); (case k6 => assumption); (case k7 => k_mem); (case k11 => omega); (case k8 => with_reducible assumption); (case k9 => (intro p9 hp9; repeat (first | exact hp9 | refine List.Mem.tail _ ?_))); (case k10 => assumption); (case k12 => omega); (case k13 => omega); (case k14 => omega); (case k15 => omega); k_whole; intro es9 n9 h9 tk9 cr9 cw9 ss9 R9 D9 F9 N9; (try dsimp only at N9); (rcases R9 with ⟨c9, r1, r2, r3⟩ | ⟨c9, r1, r2, r3⟩) <;> (replace r1 := Eq.symm r1; subst r1; replace r2 := Eq.symm r2; subst r2; replace r3 := Eq.symm r3; subst r3))))
local macro_rules | `(tactic| walk_at "subscriptTail") => `(tactic| (k_here; (with_reducible show wpAny _ _ (subscriptTail _ _ (Value.ref _) (Value.int _ _)) _ _ _); k_dflt (refine' pick_own ?N ?m ?k0 ?k1 ?l ?all ?_ ?s; (case N => k_asm); (case m => k_mem); (case k0 => assumption); (case k1 => assumption); (case l => exact Nat.lt_of_sub_eq_succ rfl); (case all => (repeat (first | exact List.forall_mem_nil _ | refine List.forall_mem_cons.mpr ⟨⟨_, _, rfl, by omega, by omega⟩, ?_⟩))); (case s => with_unfolding_all rfl); k_whole); intro o9 t9 b9 c9))
local macro_rules | `(tactic| walk_at "call ref") => `(tactic| (k_here; (with_reducible show wpAny _ _ (call (Value.ref 98) _ _) _ _ _); k_dflt (refine' c_sent (tl := [(_, instObj 177 _), (_, dictOf _ _)]) ?k1 ?k2 ?k3 ?k4 ?k5 ?k6 ?k7 ?k8 ?k9 ?_; (case k1 => k_asm); (case k2 => k_asm); (case k3 => assumption); (case k4 => k_mem); (case k5 => k_updF); (case k6 => assumption); (case k8 => refine List.forall_mem_cons.mpr ⟨by k_mem, List.forall_mem_cons.mpr ⟨by k_mem, List.forall_mem_nil _⟩⟩); (case k7 => exact ⟨_, _, _, .head _, .tail _ (.head _), ⟨⟨_, by k_get⟩, ⟨_, by k_get⟩⟩⟩); (case k9 => (intro p9 hp9; rcases List.mem_cons.mp hp9 with h9 | hp9; (subst h9; k_ne); rcases List.mem_cons.mp hp9 with h9 | hp9; (subst h9; k_ne); exact nomatch hp9)); k_whole; intro es9 n9 h9 tk9 D9 F9 N9; (try dsimp only at N9))))
local macro_rules | `(tactic| walk_at "call builtin:list.pop") => `(tactic| (k_here; (with_reducible show wpAny _ _ (call (Value.builtin _) [Value.ref _, Value.int _ _]) _ _ _); k_dflt (refine' pop_own ?F ?N ?v ?k ?l ?U ?_; (case F => k_asm); (case N => k_asm); (case v => assumption); (case k => assumption); (case l => assumption); (case U => k_upd); k_whole); intro h' F' N'; (try dsimp only at N')))
local macro_rules | `(tactic| walk_at "call ref") => `(tactic| (k_here; (with_reducible show wpAny _ _ (call (Value.ref 91) _ _) _ _ _); k_dflt (refine' c_acked ?k1 ?k2 ?k3 ?k4 ?k5 ?k6 ?k7 ?k8 ?k9 ?b1 ?b2 ?b3 ?b4 ?b5 ?b6 ?b7 ?b8 ?_; (case k1 => k_asm); (case k2 => k_asm); (case k3 => assumption); (case k4 => k_mem); (case k5 => k_updF); (case k6 => assumption); (case k7 => with_reducible assumption); (case k8 => (intro p9 hp9; repeat (first | exact hp9 | refine List.Mem.tail _ ?_))); (case k9 => assumption); (case b1 => omega); (case b2 => omega); (case b3 => omega); (case b4 => omega); (case b5 => omega); (case b6 => omega); (case b7 => omega); (case b8 => omega); k_whole; intro es9 n9 h9 tk9 cw9 st9 R9 D9 F9 N9; (try dsimp only at N9); refine Stop.mk ?_)))
local macro_rules | `(tactic| walk_at "exec While Compare cons nil") => `(tactic| refine Stop.mk ?_)
local macro_rules | `(tactic| walk_at "call builtin:max") => `(tactic| (k_here; (with_reducible show wpAny _ _ (call (Value.builtin _) [Value.ref _]) _ _ _); k_dflt (refine' max_own ?h ?F ?N ?m ?i ?a ?b ?_; (case h => exact rfl); (case F => k_asm); (case N => k_asm); (case m => k_mem); (case i => with_reducible assumption); (case b => with_reducible assumption); (case a => with_reducible assumption); k_whole); intro h' t' tk' F' N'))
local macro_rules | `(tactic| walk_at "call builtin:min") => `(tactic| (k_here; (with_reducible show wpAny _ _ (call (Value.builtin _) [Value.ref _]) _ _ _); k_dflt (refine' min_own ?h ?F ?N ?m ?i ?a ?b ?_; (case h => exact rfl); (case F => k_asm); (case N => k_asm); (case m => k_mem); (case i => with_reducible assumption); (case b => with_reducible assumption); (case a => with_reducible assumption); k_whole); intro h' t' tk' F' N'))
local macro_rules | `(tactic| walk_at "call builtin:min") => `(tactic| (k_here; (with_reducible show wpAny _ _ (call (Value.builtin _) [Value.int _ _, Value.int _ _]) _ _ _); k_dflt (refine' min_lo ?h ?F ?N ?c ?_; (case h => exact rfl); (case F => k_asm); (case N => k_asm); (case c => with_reducible assumption); k_whole); intro h' tk' F' N'))
local macro_rules | `(tactic| walk_at "call builtin:min") => `(tactic| (k_here; (with_reducible show wpAny _ _ (call (Value.builtin _) [Value.int _ _, Value.int _ _]) _ _ _); k_dflt (refine' min_hi ?h ?F ?N ?c ?_; (case h => exact rfl); (case F => k_asm); (case N => k_asm); (case c => with_reducible assumption); k_whole); intro h' tk' F' N'))
local macro_rules | `(tactic| walk_at "call ref") => `(tactic| ((with_reducible show wpAny _ _ (call (Value.ref 126) _ _) _ _ _); refine Stop.mk ?_))
section
variable {w : World} {mg mb : Str → Option Value} {mean : ExcName → Option Value} {base h₀ : Heap} {L fa : Addr} {cd : Value} {s : Shared} {E : Value → Shared → Prop} {m : Str → Option Value} {d : LD} {σ : LS} {i : Nat}
theorem check_ok {Qt : Flow → Shared → Prop} (C : Ctx w mg mb mean base h₀) (F : Fr h₀ L s.heap m) (N : News h₀ L s.heap d.led) (hF : LFr d σ m) (hL : LLed d σ) (hP : LPure σ i)
    (k : ∀ h' tk, Fr h₀ L h' m → News h₀ L h' d.led → Qt .next { s with heap := h', toks := tk }) :
    wpAny (model PySem.Challenge.rw_je0001_01.row.prog w) (lawA L fa cd) (execs brCheck (lawEnv L fa cd)) Qt E s := by
  have e1 : brCheck = brCheck := rfl
  conv at e1 => rhs; whnf
  have e2 : lawScope = lawScope := rfl
  conv at e2 => rhs; whnf
  rw [e1]
  unfold lawA lawEnv
  rw [e2]
  clear e1 e2
  obtain ⟨B, X, T⟩ := id C
  obtain ⟨size, now, window, carried, since, counted, rises, thr, flr, trips, rows, M⟩ := σ
  obtain ⟨reno, mon, dR, dM, smp, outA, trA, em, es, nM, n, ns, no, nt, sv, ov, tv, mx, mn, rest⟩ := d
  obtain ⟨⟨ts, hsize⟩, hreno, hout, ⟨tw, hwin⟩, hthr, ⟨tc, hcar⟩, ⟨tsi, hsin⟩, htrp, ⟨tcn, hcnt⟩, hflr, ⟨tri, hris⟩, ⟨tno, hnow⟩⟩ := id hF
  obtain ⟨qreno, qmon, qtr, itr, hrows, D, DM, ism, off1, off2, off3, off4, ne1, ne2, ne3, ne4, ne5, ne6⟩ := id hL
  obtain ⟨psize, pwlo, ppot, pclo, pslo, pshi, pnlo, prlen, prbd, pminc, pmfm, pmtime, pmlen, pmi0, pmi1, pmbd, pmfb, ptrp, pihi, prthr⟩ := id hP
  clear hF hL hP
  dsimp only at *
  unfold LD.led at N
  dsimp only at N
  have hol : ov.length ≤ 100 := by rw [hrows.length]; omega
  obtain ⟨zs, hzI, hzP⟩ := hrows.octets
  have hsm : sumO rows = (rows.map (·.2)).sum := rfl
  obtain ⟨⟨t1, g1⟩, ⟨t2, g2⟩, ⟨t3, g3⟩, ⟨t4, g4⟩, g5, _, a, b, hl, hb, hss⟩ := id D
  rcases hb with ⟨ha, tb, gb⟩ | ⟨ha, gb, hz⟩ <;> rcases hss with ⟨hb, v, vt, hv, gv⟩ | ⟨hb, hv, gv⟩ <;> rcases hthr with ⟨v', vt', hv', hthr⟩ | ⟨hv', hthr⟩ <;> (try (rw [hv] at hv'; cases hv')) <;> k_steps
  all_goals first
    | (exfalso; omega)
    | ((rename Fr _ _ _ _ => kF9); (rename News _ _ _ _ => kN9); exact k _ _ kF9 (news_sub kN9 (by dsimp only [LD.led]; refine List.forall_mem_cons.mpr ⟨by k_mem, List.forall_mem_cons.mpr ⟨by k_mem, List.forall_mem_cons.mpr ⟨by k_mem, List.forall_mem_cons.mpr ⟨by k_mem, ?_⟩⟩⟩⟩; intro p9 hp9; repeat (first | exact hp9 | refine List.Mem.tail _ ?_))))
end

end
section
local macro_rules | `(tactic| walk_at "no such key") => `(tactic| fail)
local macro_rules | `(tactic| walk_at "no such key") => `(tactic| fail)
local macro_rules | `(tactic| walk_at "no such key") => `(tactic| fail)
local macro_rules | `(tactic| walk_at "no such key") => `(tactic| fail)
local macro_rules | `(tactic| walk_at "no such key") => `(tactic| fail)
local macro_rules | `(tactic| walk_at "no such key") => `(tactic| fail)
theorem back13 : True := by
  w_top off
  trivial
local macro_rules | `(tactic| k_all) => `(tactic| assumption)
local macro_rules | `(tactic| k_get) => `(tactic| ((with_reducible refine (getL_put_ne (by decide +kernel)).trans ?_); k_get))
local macro_rules | `(tactic| k_get) => `(tactic| with_reducible exact getL_put_same)
local macro_rules | `(tactic| k_get) => `(tactic| with_reducible assumption)
local macro_rules | `(tactic| walk_at "setAttr ref") => `(tactic| (k_here; k_dflt (refine' set_dictA ?k1 ?k2 ?k3 ?k4 ?k5 ?k6 ?k7 ?k8 ?k9 ?k10 ?k11 ?k12 ?_; (case k1 => k_asm); (case k2 => k_asm); (case k3 => k_asm); (case k4 => k_inst); (case k5 => exact rfl); (case k6 => k_is); (case k7 => k_is); (case k8 => k_is); (case k9 => k_is); (case k10 => (refine' getL_some ?g; (case g => ((repeat (with_reducible refine (getL_put_ne (by decide +kernel)).trans ?_)); with_reducible first | assumption | exact getL_put_same)))); (case k11 => k_updF); (case k12 => (refine lt_put0 ?_; repeat (first | omega | refine lt_put ?_))); k_whole; intro h' hsh' t' n' F' N'; (try dsimp only at N'); (try k_sweep))))
local macro_rules | `(tactic| k_mem) => `(tactic| ((show (_ : Addr × Obj) ∈ (_ : List (Addr × Obj))); ktr_member))
local macro_rules | `(tactic| walk_at "eval Name") => `(tactic| (k_here; k_dflt (refine' ld ?k1 ?k2 ?_; (case k1 => k_asm); (case k2 => first | with_reducible assumption | ((with_reducible show (ite _ _ _) = _); (repeat (with_reducible refine (if_neg (by decide +kernel)).trans ?_)); with_reducible first | assumption | exact if_pos rfl)); k_whole)))
local macro_rules | `(tactic| walk_at "loadName") => `(tactic| (k_here; k_dflt (refine' ldn ?k1 ?k2 ?_; (case k1 => k_asm); (case k2 => first | with_reducible assumption | ((with_reducible show (ite _ _ _) = _); (repeat (with_reducible refine (if_neg (by decide +kernel)).trans ?_)); with_reducible first | assumption | exact if_pos rfl)); k_whole)))
local macro_rules | `(tactic| walk_at "call ref") => `(tactic| (k_here; (with_reducible show wpAny _ _ (call (Value.ref 119) _ _) _ _ _); k_dflt (refine' c_persist ?k1 ?k2 ?k3 ?k4 ?k5 ?k6 ?k7 ?k8 ?_; (case k1 => k_asm); (case k2 => k_asm); (case k3 => assumption); (case k4 => k_mem); (case k5 => k_updF); (case k6 => assumption); (case k7 => omega); (case k8 => omega); k_whole; intro es9 n9 h9 tk9 D9 F9 N9; (try dsimp only at N9))))
local macro_rules | `(tactic| walk_at "subscriptTail Name Slice ref ref") => `(tactic| (k_here; (with_reducible show wpAny _ _ (subscriptTail _ (PySem.Expr.Slice _ _ none _) (Value.ref _) (Value.ref _)) _ _ _); k_dflt (refine' slice_own ?F ?N ?m ?p ?q ?z ?e ?_ ?s ?t; (case F => k_asm); (case N => k_asm); (case m => k_mem); (case p => kmk_part); (case q => kmk_part); (case z => first | assumption | (simp only [List.length_cons, List.length_nil]; omega)); (case e => assumption); (case s => with_unfolding_all rfl); (case t => kmk_pure)); intro D' h' F' N' l1; (try k_lt l1); (try k_sweep)))
local macro_rules | `(tactic| walk_at "call ref") => `(tactic| (k_here; (with_reducible show wpAny _ _ (call (Value.ref 105) _ _) _ _ _); k_dflt (refine' c_expired ?k1 ?k2 ?k3 ?k4 ?k5 ?k6 ?k7 ?k11 ?k8 ?k9 ?k10 ?_; (case k1 => k_asm); (case k2 => k_asm); (case k3 => assumption); (case k4 => k_mem); (case k5 => k_updF); (case k6 => assumption); (case k7 => k_mem); (case k11 => omega); (case k8 => with_reducible assumption); (case k9 => (intro p9 hp9; repeat (first | exact hp9 | refine List.Mem.tail _ ?_))); (case k10 => assumption); k_whole; intro es9 n9 h9 tk9 D9 F9 N9; (try dsimp only at N9))))
local macro_rules | `(tactic| walk_at "CompSrc") => `(tactic| (k_here; k_dflt (refine LCg.CompSrc.ledger (by rfl) (by k_asm) (by k_asm) (by k_mem) (by (simp only [List.size_toArray, List.length_take, sizeLine_eq]; omega)) ?_); intro g'; k_dflt (refine' comp_row0 ?hI ?hsub ?hm ?hfn ?hlo ?hx ?_; (case hI => assumption); (case hsub => (intro p9 hp9; repeat (first | exact hp9 | refine List.Mem.tail _ ?_))); (case hm => k_mem); (case hfn => (intro C9; rfl)); (case hlo => (intro C9; rfl)); (case hx => decide)); k_whole; intro D' h' tk' F' N' off'; (try simp only [LCg.Off1, and_true] at off')))
local macro_rules | `(tactic| walk_at "CompSrc") => `(tactic| (k_here; k_dflt (refine LCg.CompSrc.ledger (by rfl) (by k_asm) (by k_asm) (by k_mem) (by (simp only [List.size_toArray, List.length_take, sizeLine_eq]; omega)) ?_); intro g'; k_dflt (refine' comp_row2 ?hI ?hsub ?hm ?hfn ?hlo ?hx ?_; (case hI => assumption); (case hsub => (intro p9 hp9; repeat (first | exact hp9 | refine List.Mem.tail _ ?_))); (case hm => k_mem); (case hfn => (intro C9; rfl)); (case hlo => (intro C9; rfl)); (case hx => decide)); k_whole; intro D' h' tk' F' N' off'; (try simp only [LCg.Off1, and_true] at off')))
local macro_rules | `(tactic| walk_at "call builtin:len") => `(tactic| (k_here; (with_reducible show wpAny _ _ (call (Value.builtin "len") [Value.ref _]) _ _ _); k_dflt (refine' len_own ?N ?m ?z ?_; (case N => k_asm); (case m => k_mem); (case z => first | assumption | (simp only [List.length_take, List.length_drop, List.length_cons, List.length_nil]; omega)); k_whole)))
local macro_rules | `(tactic| walk_at "binaryOp Add ref ref") => `(tactic| (k_here; (with_reducible show wpAny _ _ (binaryOp _ (Value.ref _) (Value.ref _)) _ _ _); k_dflt (refine' add_own ?F ?N ?a ?b ?z1 ?z2 ?_; (case F => k_asm); (case N => k_asm); (case a => k_mem); (case b => k_mem); (case z1 => first | assumption | exact Nat.le_of_ble_eq_true rfl); (case z2 => first | assumption | exact Nat.le_of_ble_eq_true rfl); k_whole); intro D' h' F' N' l1; (try k_lt l1); (try k_sweep)))
local macro_rules | `(tactic| walk_at "subscriptTail") => `(tactic| (k_here; (with_reducible show wpAny _ _ (subscriptTail _ _ (Value.ref _) (Value.int _ _)) _ _ _); k_dflt (refine' last_own ?N ?m ?k ?l ?z ?x ?_ ?s; (case N => k_asm); (case m => k_mem); (case k => rfl); (case l => assumption); (case z => assumption); (case x => assumption); (case s => with_unfolding_all rfl); k_whole)))
local macro_rules | `(tactic| walk_at "call ref") => `(tactic| (k_here; (with_reducible show wpAny _ _ (call (Value.ref 112) _ _) _ _ _); k_dflt (refine' c_lost ?k1 ?k2 ?k3 ?k4 ?k5 ?k6 ?k7 ?k11 ?k8 ?k9 ?k10 ?k12 ?k13 ?k14 ?k15 ?_; (case k1 => k_asm); (case k2 => k_asm); (case k3 => assumption); (case k4 => k_mem); (case k5 => k_updF); (case k6 => assumption); (case k7 => k_mem); (case k11 => omega); (case k8 => with_reducible assumption); (case k9 => (intro p9 hp9; repeat (first | exact hp9 | refine List.Mem.tail _ ?_))); (case k10 => assumption); (case k12 => omega); (case k13 => omega); (case k14 => omega); (case k15 => omega); k_whole; intro es9 n9 h9 tk9 cr9 cw9 ss9 R9 D9 F9 N9; (try dsimp only at N9); (rcases R9 with ⟨c9, r1, r2, r3⟩ | ⟨c9, r1, r2, r3⟩) <;> (replace r1 := Eq.symm r1; subst r1; replace r2 := Eq.symm r2; subst r2; replace r3 := Eq.symm r3; subst r3))))
local macro_rules | `(tactic| walk_at "subscriptTail") => `(tactic| (k_here; (with_reducible show wpAny _ _ (subscriptTail _ _ (Value.ref _) (Value.int _ _)) _ _ _); k_dflt (refine' pick_own ?N ?m ?k0 ?k1 ?l ?all ?_ ?s; (case N => k_asm); (case m => k_mem); (case k0 => assumption); (case k1 => assumption); (case l => exact Nat.lt_of_sub_eq_succ rfl); (case all => (repeat (first | exact List.forall_mem_nil _ | refine List.forall_mem_cons.mpr ⟨⟨_, _, rfl, by omega, by omega⟩, ?_⟩))); (case s => with_unfolding_all rfl); k_whole); intro o9 t9 b9 c9))
local macro_rules | `(tactic| walk_at "call ref") => `(tactic| (k_here; (with_reducible show wpAny _ _ (call (Value.ref 98) _ _) _ _ _); k_dflt (refine' c_sent (tl := [(_, instObj 177 _), (_, dictOf _ _)]) ?k1 ?k2 ?k3 ?k4 ?k5 ?k6 ?k7 ?k8 ?k9 ?_; (case k1 => k_asm); (case k2 => k_asm); (case k3 => assumption); (case k4 => k_mem); (case k5 => k_updF); (case k6 => assumption); (case k8 => refine List.forall_mem_cons.mpr ⟨by k_mem, List.forall_mem_cons.mpr ⟨by k_mem, List.forall_mem_nil _⟩⟩); (case k7 => exact ⟨_, _, _, .head _, .tail _ (.head _), ⟨⟨_, by k_get⟩, ⟨_, by k_get⟩⟩⟩); (case k9 => (intro p9 hp9; rcases List.mem_cons.mp hp9 with h9 | hp9; (subst h9; k_ne); rcases List.mem_cons.mp hp9 with h9 | hp9; (subst h9; k_ne); exact nomatch hp9)); k_whole; intro es9 n9 h9 tk9 D9 F9 N9; (try dsimp only at N9))))
local macro_rules | `(tactic| walk_at "call builtin:list.pop") => `(tactic| (k_here; (with_reducible show wpAny _ _ (call (Value.builtin _) [Value.ref _, Value.int _ _]) _ _ _); k_dflt (refine' pop_own ?F ?N ?v ?k ?l ?U ?_; (case F => k_asm); (case N => k_asm); (case v => assumption); (case k => assumption); (case l => assumption); (case U => k_upd); k_whole); intro h' F' N'; (try dsimp only at N')))
local macro_rules | `(tactic| walk_at "call ref") => `(tactic| (k_here; (with_reducible show wpAny _ _ (call (Value.ref 91) _ _) _ _ _); k_dflt (refine' c_acked ?k1 ?k2 ?k3 ?k4 ?k5 ?k6 ?k7 ?k8 ?k9 ?b1 ?b2 ?b3 ?b4 ?b5 ?b6 ?b7 ?b8 ?_; (case k1 => k_asm); (case k2 => k_asm); (case k3 => assumption); (case k4 => k_mem); (case k5 => k_updF); (case k6 => assumption); (case k7 => with_reducible assumption); (case k8 => (intro p9 hp9; repeat (first | exact hp9 | refine List.Mem.tail _ ?_))); (case k9 => assumption); (case b1 => omega); (case b2 => omega); (case b3 => omega); (case b4 => omega); (case b5 => omega); (case b6 => omega); (case b7 => omega); (case b8 => omega); k_whole; intro es9 n9 h9 tk9 cw9 st9 R9 D9 F9 N9; (try dsimp only at N9); refine Stop.mk ?_)))
local macro_rules | `(tactic| walk_at "exec While Compare cons nil") => `(tactic| refine Stop.mk ?_)
local macro_rules | `(tactic| walk_at "call builtin:max") => `(tactic| (k_here; (with_reducible show wpAny _ _ (call (Value.builtin _) [Value.ref _]) _ _ _); k_dflt (refine' max_own ?h ?F ?N ?m ?i ?a ?b ?_; (case h => exact rfl); (case F => k_asm); (case N => k_asm); (case m => k_mem); (case i => with_reducible assumption); (case b => with_reducible assumption); (case a => with_reducible assumption); k_whole); intro h' t' tk' F' N'))
local macro_rules | `(tactic| walk_at "call builtin:min") => `(tactic| (k_here; (with_reducible show wpAny _ _ (call (Value.builtin _) [Value.ref _]) _ _ _); k_dflt (refine' min_own ?h ?F ?N ?m ?i ?a ?b ?_; (case h => exact rfl); (case F => k_asm); (case N => k_asm); (case m => k_mem); (case i => with_reducible assumption); (case b => with_reducible assumption); (case a => with_reducible assumption); k_whole); intro h' t' tk' F' N'))
local macro_rules | `(tactic| walk_at "call builtin:min") => `(tactic| (k_here; (with_reducible show wpAny _ _ (call (Value.builtin _) [Value.int _ _, Value.int _ _]) _ _ _); k_dflt (refine' min_lo ?h ?F ?N ?c ?_; (case h => exact rfl); (case F => k_asm); (case N => k_asm); (case c => with_reducible assumption); k_whole); intro h' tk' F' N'))
local macro_rules | `(tactic| walk_at "call builtin:min") => `(tactic| (k_here; (with_reducible show wpAny _ _ (call (Value.builtin _) [Value.int _ _, Value.int _ _]) _ _ _); k_dflt (refine' min_hi ?h ?F ?N ?c ?_; (case h => exact rfl); (case F => k_asm); (case N => k_asm); (case c => with_reducible assumption); k_whole); intro h' tk' F' N'))
local macro_rules | `(tactic| walk_at "call ref") => `(tactic| ((with_reducible show wpAny _ _ (call (Value.ref 126) _ _) _ _ _); refine Stop.mk ?_))
section
variable {w : World} {mg mb : Str → Option Value} {mean : ExcName → Option Value} {base h₀ : Heap} {L fa : Addr} {cd : Value} {s : Shared} {E : Value → Shared → Prop} {m : Str → Option Value} {d : LD} {σ : LS} {i : Nat}
theorem rtt_step {Qt : Flow → Shared → Prop} {trip rst : Int} {tt trs : Tok} (C : Ctx w mg mb mean base h₀) (F : Fr h₀ L s.heap m) (N : News h₀ L s.heap d.led) (hF : LFr d σ m) (hL : LLed d σ) (hP : LPure σ i)
    (htrip : m (Str.ofString "trip") = some (.int trip tt)) (hrest : m (Str.ofString "rest") = some (.int rst trs)) (hb : 0 ≤ trip ∧ trip ≤ 20000)
    (k : ∀ d' σ' m' h' tk, Keeps d d' → LFr d' σ' m' → LLed d' σ' → LPure σ' i → m' (Str.ofString "trip") = some (.int trip tt) → m' (Str.ofString "rest") = some (.int rst trs) → Fr h₀ L h' m' → News h₀ L h' d'.led → Qt .next { s with heap := h', toks := tk }) :
    wpAny (model PySem.Challenge.rw_je0001_01.row.prog w) (lawA L fa cd) (execs brStep (lawEnv L fa cd)) Qt E s := by
  have e1 : brStep = brStep := rfl
  conv at e1 => rhs; whnf
  have e2 : lawScope = lawScope := rfl
  conv at e2 => rhs; whnf
  rw [e1]
  unfold lawA lawEnv
  rw [e2]
  clear e1 e2
  obtain ⟨B, X, T⟩ := id C
  obtain ⟨size, now, window, carried, since, counted, rises, thr, flr, trips, rows, M⟩ := σ
  obtain ⟨reno, mon, dR, dM, smp, outA, trA, em, es, nM, n, ns, no, nt, sv, ov, tv, mx, mn, rest⟩ := d
  obtain ⟨⟨ts, hsize⟩, hreno, hout, ⟨tw, hwin⟩, hthr, ⟨tc, hcar⟩, ⟨tsi, hsin⟩, htrp, ⟨tcn, hcnt⟩, hflr, ⟨tri, hris⟩, ⟨tno, hnow⟩⟩ := id hF
  obtain ⟨qreno, qmon, qtr, itr, hrows, D, DM, ism, off1, off2, off3, off4, ne1, ne2, ne3, ne4, ne5, ne6⟩ := id hL
  obtain ⟨psize, pwlo, ppot, pclo, pslo, pshi, pnlo, prlen, prbd, pminc, pmfm, pmtime, pmlen, pmi0, pmi1, pmbd, pmfb, ptrp, pihi, prthr⟩ := id hP
  clear hF hL hP
  dsimp only at *
  unfold LD.led at N
  dsimp only at N
  have em1 := D.meths (Str.ofString "on_rtt_measurement") (by decide +kernel)
  have ha0 : 0 ≤ rst.fmod 4 := Int.fmod_nonneg_of_pos _ (by decide)
  have ha1 : rst.fmod 4 < 4 := Int.fmod_lt_of_pos _ (by decide)
  have hthr0 := hthr
  have hflr0 := hflr
  obtain ⟨inc, idx, stime, ready, fm, sl⟩ := M
  dsimp only at *
  k_steps
  show wpAny _ _ _ _ _ _
  (rename Fr _ _ _ _ => kF9)
  (rename News _ _ _ _ => kN9)
  rename Int => o9
  generalize hnw : now + o9 = nw at *
  have hnw0 : now ≤ nw := by omega
  refine c_rtt (rest := (outA, listOf ov.toArray no) :: rest) (M := ⟨inc, idx, stime, ready, fm, sl⟩) kF9 (news_sub kN9 (by (iterate 4 refine List.forall_mem_cons.mpr ⟨by (repeat (first | with_reducible exact List.mem_cons_self | with_reducible refine List.mem_cons_of_mem _ ?_)), ?_⟩); intro p9 hp9; repeat (first | with_reducible exact hp9 | with_reducible refine List.mem_cons_of_mem _ ?_))) C (.tail _ qreno) (.tail _ qmon) D DM ism pmlen pmi0 pmi1 pmbd pmfb hb (off_cons (fun e => ne3 e.symm) off1) (off_cons (fun e => ne5 e.symm) off2) (off_cons (fun e => ne6 e.symm) off3) ne1 ne2 ne4 ?_
  clear kN9
  intro em9 nM9 sv9 ns9 es9 n9 h9 tk9 ss9 M9 b9 mx9 mn9 R9 D9 DM9 I9 F9 N9
  clear kF9
  rcases R9 with ⟨hn, hturn, hss⟩ | ⟨hn, hss, hM⟩
  · rcases hthr with ⟨v, vt, hv, hthr⟩ | ⟨hv, hthr⟩
    · rw [hn] at hv; cases hv
    · by_cases h1 : counted + 1000 < nw
      · have htl := trips_len ptrp pmlen
        have htv : tv.length ≤ 100 := by rw [itr.length]; omega
        have hz6 : (tv ++ [Value.int trip tt]).length ≤ 100 := by rw [List.length_append, itr.length]; simp; omega
        obtain ⟨zs, hpk5, hzs⟩ := last5_ints (trip := trip) (tt := tt) itr
        have hzl := hzs.length
        rcases trips_turn (r := trip) ptrp pmlen pmi0 pmi1 with ⟨hrd, htp, hln⟩ | ⟨hrd, htp, hln, hmem⟩
        · have hz100 : zs.length ≤ 100 := by omega
          rw [turn_un (by omega) hrd.symm] at hturn
          cases hturn
          rw [if_neg (by decide)] at hss
          rw [hss, ← hn] at D9
          k_steps
          · exfalso; omega
          · (rename Fr _ _ _ _ => kF9)
            (rename News _ _ _ _ => kN9)
            have kN8 : News h₀ L _ ((dM, dictOf em9 nM9) :: (smp, listOf sv9.toArray ns9) :: (dR, dictOf es9 n9) :: (outA, listOf ov.toArray no) :: (_, listOf zs.toArray 0) :: rest) := news_sub kN9 (by (iterate 5 refine List.forall_mem_cons.mpr ⟨by (repeat (first | with_reducible exact List.mem_cons_self | with_reducible refine List.mem_cons_of_mem _ ?_)), ?_⟩); intro p9 hp9; repeat (first | with_reducible exact hp9 | with_reducible refine List.mem_cons_of_mem _ ?_))
            exact k ⟨reno, mon, dR, dM, smp, outA, _, em9, es9, nM9, n9, ns9, no, 0, sv9, ov, zs, mx9, mn9, _⟩ ⟨size, nw, window, carried, since, nw, rises, thr, flr, (last5 (trips ++ [trip])), rows, ⟨inc, (if 5 ≤ idx + 1 then 0 else idx + 1), nw, false, fm, sl.set idx.toNat trip⟩⟩ _ _ _ (by exact ⟨fun _ h => .tail _ h⟩)
              ⟨(by first | exact ⟨_, hsize⟩ | exact ⟨_, rfl⟩), (by first | exact hreno | exact rfl), (by first | exact hout | exact rfl), (by first | exact ⟨_, hwin⟩ | exact ⟨_, rfl⟩), (by first | exact OptAt.keep hthr0 rfl | exact .inl ⟨_, _, rfl, rfl⟩), (by first | exact ⟨_, hcar⟩ | exact ⟨_, rfl⟩), (by first | exact ⟨_, hsin⟩ | exact ⟨_, rfl⟩), (by first | exact htrp | exact rfl), (by first | exact ⟨_, hcnt⟩ | exact ⟨_, rfl⟩), (by first | exact OptAt.keep hflr0 rfl | exact .inl ⟨_, _, rfl, rfl⟩), (by first | exact ⟨_, hris⟩ | exact ⟨_, rfl⟩), (by first | exact ⟨_, hnow⟩ | exact ⟨_, rfl⟩)⟩
              ⟨(by exact .tail _ qreno), (by exact .tail _ qmon), (by exact .head _), hzs, (by exact hrows.mono (fun _ h => .tail _ h)), D9, DM9, I9, (by exact off_cons (by k_ne) off1), (by exact off_cons (by k_ne) off2), (by exact off_cons (by k_ne) off3), (by exact off_cons (by k_ne) off4), ne1, ne2, ne3, ne4, ne5, ne6⟩
              ⟨psize, by dsimp only; omega, by dsimp only; omega, by dsimp only; omega, by dsimp only; omega, by dsimp only; omega, by dsimp only; omega, by dsimp only; omega, prbd, (by dsimp only; omega), pmfm, rfl, (by simpa using pmlen), (by dsimp only; split <;> omega), (by dsimp only; split <;> omega), (set_bd pmbd hb), pmfb, (.inl ⟨rfl, htp⟩), pihi, prthr⟩ (by exact htrip) (by exact hrest) kF9 kN8
        · have hz100 : zs.length ≤ 100 := by omega
          have hmm := mm_ext (l := sl.set idx.toNat trip) (by simpa using pmlen)
          have hbd := mm_bd (set_bd (i := idx.toNat) pmbd hb)
          generalize hmq : mmOf (sl.set idx.toNat trip) = mm at *
          obtain ⟨mlo, mhi⟩ := mm
          dsimp only at *
          have hx1 : mhi ∈ last5 (trips ++ [trip]) := (hmem _).mpr hmm.2.1
          have hx2 : ∀ a ∈ last5 (trips ++ [trip]), a ≤ mhi := fun a ha => hmm.2.2.2 a ((hmem _).mp ha)
          have hy1 : mlo ∈ last5 (trips ++ [trip]) := (hmem _).mpr hmm.1
          have hy2 : ∀ a ∈ last5 (trips ++ [trip]), mlo ≤ a := fun a ha => hmm.2.2.1 a ((hmem _).mp ha)
          have hr4 := prthr hn
          clear hmm hmem
          rcases hflr with ⟨f, ft, hf, hflr⟩ | ⟨hf, hflr⟩
          · have hfb := pmfb f (pmfm.trans hf)
            by_cases c0 : mhi < f
            · have hfl : Mon.floor ⟨inc, idx, stime, ready, fm, sl⟩ (mlo, mhi) = mhi := by simp [Mon.floor, pmfm, hf, c0]
              k_steps
              all_goals (first
                | (exfalso; omega)
                | (have q1 : stime + 1000 < nw := by omega
                   have q2 : mhi ≤ (mlo - mhi) * 4 := by omega
                   have q3 : 5 ≤ inc + 1 := by omega
                   rw [turn_A1 q1 hrd.symm hmq hfl q2 q3] at hturn
                   cases hturn
                   rw [if_pos rfl] at hss
                   rw [hss] at D9
                   (rename Fr _ _ _ _ => kF9)
                   (rename News _ _ _ _ => kN9)
                   have kN8 : News h₀ L _ ((dM, dictOf em9 nM9) :: (smp, listOf sv9.toArray ns9) :: (dR, dictOf es9 n9) :: (outA, listOf ov.toArray no) :: (_, listOf zs.toArray 0) :: rest) := news_sub kN9 (by (iterate 5 refine List.forall_mem_cons.mpr ⟨by (repeat (first | with_reducible exact List.mem_cons_self | with_reducible refine List.mem_cons_of_mem _ ?_)), ?_⟩); intro p9 hp9; repeat (first | with_reducible exact hp9 | with_reducible refine List.mem_cons_of_mem _ ?_))
                   exact k ⟨reno, mon, dR, dM, smp, outA, _, em9, es9, nM9, n9, ns9, no, 0, sv9, ov, zs, mx9, mn9, _⟩ ⟨size, nw, window, carried, since, nw, (rises + 1), (some window), (some mhi), (last5 (trips ++ [trip])), rows, ⟨(inc + 1), (if 5 ≤ idx + 1 then 0 else idx + 1), nw, true, some mhi, sl.set idx.toNat trip⟩⟩ _ _ _ (by exact ⟨fun _ h => .tail _ h⟩)
                     ⟨(by first | exact ⟨_, hsize⟩ | exact ⟨_, rfl⟩), (by first | exact hreno | exact rfl), (by first | exact hout | exact rfl), (by first | exact ⟨_, hwin⟩ | exact ⟨_, rfl⟩), (by first | exact OptAt.keep hthr0 rfl | exact .inl ⟨_, _, rfl, rfl⟩), (by first | exact ⟨_, hcar⟩ | exact ⟨_, rfl⟩), (by first | exact ⟨_, hsin⟩ | exact ⟨_, rfl⟩), (by first | exact htrp | exact rfl), (by first | exact ⟨_, hcnt⟩ | exact ⟨_, rfl⟩), (by first | exact OptAt.keep hflr0 rfl | exact .inl ⟨_, _, rfl, rfl⟩), (by first | exact ⟨_, hris⟩ | exact ⟨_, rfl⟩), (by first | exact ⟨_, hnow⟩ | exact ⟨_, rfl⟩)⟩
                     ⟨(by exact .tail _ qreno), (by exact .tail _ qmon), (by exact .head _), hzs, (by exact hrows.mono (fun _ h => .tail _ h)), D9, DM9, I9, (by exact off_cons (by k_ne) off1), (by exact off_cons (by k_ne) off2), (by exact off_cons (by k_ne) off3), (by exact off_cons (by k_ne) off4), ne1, ne2, ne3, ne4, ne5, ne6⟩
                     ⟨psize, by dsimp only; omega, by dsimp only; omega, by dsimp only; omega, by dsimp only; omega, by dsimp only; omega, by dsimp only; omega, by dsimp only; omega, prbd, (by dsimp only; omega), rfl, rfl, (by simpa using pmlen), (by dsimp only; split <;> omega), (by dsimp only; split <;> omega), (set_bd pmbd hb), (fun f9 h9 => by cases h9; exact ⟨hbd.2.2.1, hbd.2.2.2⟩), (.inr ⟨rfl, htp⟩), pihi, (fun h9 => by cases h9)⟩ (by exact htrip) (by exact hrest) kF9 kN8)
                | (have q1 : stime + 1000 < nw := by omega
                   have q2 : mhi ≤ (mlo - mhi) * 4 := by omega
                   have q3 : ¬ 5 ≤ inc + 1 := by omega
                   rw [turn_A0 q1 hrd.symm hmq hfl q2 q3] at hturn
                   cases hturn
                   rw [if_neg (by decide)] at hss
                   rw [hss, ← hn] at D9
                   (rename Fr _ _ _ _ => kF9)
                   (rename News _ _ _ _ => kN9)
                   have kN8 : News h₀ L _ ((dM, dictOf em9 nM9) :: (smp, listOf sv9.toArray ns9) :: (dR, dictOf es9 n9) :: (outA, listOf ov.toArray no) :: (_, listOf zs.toArray 0) :: rest) := news_sub kN9 (by (iterate 5 refine List.forall_mem_cons.mpr ⟨by (repeat (first | with_reducible exact List.mem_cons_self | with_reducible refine List.mem_cons_of_mem _ ?_)), ?_⟩); intro p9 hp9; repeat (first | with_reducible exact hp9 | with_reducible refine List.mem_cons_of_mem _ ?_))
                   exact k ⟨reno, mon, dR, dM, smp, outA, _, em9, es9, nM9, n9, ns9, no, 0, sv9, ov, zs, mx9, mn9, _⟩ ⟨size, nw, window, carried, since, nw, (rises + 1), thr, (some mhi), (last5 (trips ++ [trip])), rows, ⟨(inc + 1), (if 5 ≤ idx + 1 then 0 else idx + 1), nw, true, some mhi, sl.set idx.toNat trip⟩⟩ _ _ _ (by exact ⟨fun _ h => .tail _ h⟩)
                     ⟨(by first | exact ⟨_, hsize⟩ | exact ⟨_, rfl⟩), (by first | exact hreno | exact rfl), (by first | exact hout | exact rfl), (by first | exact ⟨_, hwin⟩ | exact ⟨_, rfl⟩), (by first | exact OptAt.keep hthr0 rfl | exact .inl ⟨_, _, rfl, rfl⟩), (by first | exact ⟨_, hcar⟩ | exact ⟨_, rfl⟩), (by first | exact ⟨_, hsin⟩ | exact ⟨_, rfl⟩), (by first | exact htrp | exact rfl), (by first | exact ⟨_, hcnt⟩ | exact ⟨_, rfl⟩), (by first | exact OptAt.keep hflr0 rfl | exact .inl ⟨_, _, rfl, rfl⟩), (by first | exact ⟨_, hris⟩ | exact ⟨_, rfl⟩), (by first | exact ⟨_, hnow⟩ | exact ⟨_, rfl⟩)⟩
                     ⟨(by exact .tail _ qreno), (by exact .tail _ qmon), (by exact .head _), hzs, (by exact hrows.mono (fun _ h => .tail _ h)), D9, DM9, I9, (by exact off_cons (by k_ne) off1), (by exact off_cons (by k_ne) off2), (by exact off_cons (by k_ne) off3), (by exact off_cons (by k_ne) off4), ne1, ne2, ne3, ne4, ne5, ne6⟩
                     ⟨psize, by dsimp only; omega, by dsimp only; omega, by dsimp only; omega, by dsimp only; omega, by dsimp only; omega, by dsimp only; omega, by dsimp only; omega, prbd, (by dsimp only; omega), rfl, rfl, (by simpa using pmlen), (by dsimp only; split <;> omega), (by dsimp only; split <;> omega), (set_bd pmbd hb), (fun f9 h9 => by cases h9; exact ⟨hbd.2.2.1, hbd.2.2.2⟩), (.inr ⟨rfl, htp⟩), pihi, (fun _ => by dsimp only; omega)⟩ (by exact htrip) (by exact hrest) kF9 kN8)
                | (have q1 : stime + 1000 < nw := by omega
                   have q2 : ¬ mhi ≤ (mlo - mhi) * 4 := by omega
                   have q3 : 0 < mlo - mhi := by omega
                   rw [turn_B q1 hrd.symm hmq hfl q2 q3] at hturn
                   cases hturn
                   rw [if_neg (by decide)] at hss
                   rw [hss, ← hn] at D9
                   (rename Fr _ _ _ _ => kF9)
                   (rename News _ _ _ _ => kN9)
                   have kN8 : News h₀ L _ ((dM, dictOf em9 nM9) :: (smp, listOf sv9.toArray ns9) :: (dR, dictOf es9 n9) :: (outA, listOf ov.toArray no) :: (_, listOf zs.toArray 0) :: rest) := news_sub kN9 (by (iterate 5 refine List.forall_mem_cons.mpr ⟨by (repeat (first | with_reducible exact List.mem_cons_self | with_reducible refine List.mem_cons_of_mem _ ?_)), ?_⟩); intro p9 hp9; repeat (first | with_reducible exact hp9 | with_reducible refine List.mem_cons_of_mem _ ?_))
                   exact k ⟨reno, mon, dR, dM, smp, outA, _, em9, es9, nM9, n9, ns9, no, 0, sv9, ov, zs, mx9, mn9, _⟩ ⟨size, nw, window, carried, since, nw, 0, thr, (some mhi), (last5 (trips ++ [trip])), rows, ⟨0, (if 5 ≤ idx + 1 then 0 else idx + 1), nw, true, some mhi, sl.set idx.toNat trip⟩⟩ _ _ _ (by exact ⟨fun _ h => .tail _ h⟩)
                     ⟨(by first | exact ⟨_, hsize⟩ | exact ⟨_, rfl⟩), (by first | exact hreno | exact rfl), (by first | exact hout | exact rfl), (by first | exact ⟨_, hwin⟩ | exact ⟨_, rfl⟩), (by first | exact OptAt.keep hthr0 rfl | exact .inl ⟨_, _, rfl, rfl⟩), (by first | exact ⟨_, hcar⟩ | exact ⟨_, rfl⟩), (by first | exact ⟨_, hsin⟩ | exact ⟨_, rfl⟩), (by first | exact htrp | exact rfl), (by first | exact ⟨_, hcnt⟩ | exact ⟨_, rfl⟩), (by first | exact OptAt.keep hflr0 rfl | exact .inl ⟨_, _, rfl, rfl⟩), (by first | exact ⟨_, hris⟩ | exact ⟨_, rfl⟩), (by first | exact ⟨_, hnow⟩ | exact ⟨_, rfl⟩)⟩
                     ⟨(by exact .tail _ qreno), (by exact .tail _ qmon), (by exact .head _), hzs, (by exact hrows.mono (fun _ h => .tail _ h)), D9, DM9, I9, (by exact off_cons (by k_ne) off1), (by exact off_cons (by k_ne) off2), (by exact off_cons (by k_ne) off3), (by exact off_cons (by k_ne) off4), ne1, ne2, ne3, ne4, ne5, ne6⟩
                     ⟨psize, by dsimp only; omega, by dsimp only; omega, by dsimp only; omega, by dsimp only; omega, by dsimp only; omega, by dsimp only; omega, by dsimp only; omega, prbd, rfl, rfl, rfl, (by simpa using pmlen), (by dsimp only; split <;> omega), (by dsimp only; split <;> omega), (set_bd pmbd hb), (fun f9 h9 => by cases h9; exact ⟨hbd.2.2.1, hbd.2.2.2⟩), (.inr ⟨rfl, htp⟩), pihi, (fun _ => by dsimp only; omega)⟩ (by exact htrip) (by exact hrest) kF9 kN8)
                | (have q1 : stime + 1000 < nw := by omega
                   have q2 : ¬ mhi ≤ (mlo - mhi) * 4 := by omega
                   have q3 : ¬ 0 < mlo - mhi := by omega
                   rw [turn_C q1 hrd.symm hmq hfl q2 q3] at hturn
                   cases hturn
                   rw [if_neg (by decide)] at hss
                   rw [hss, ← hn] at D9
                   (rename Fr _ _ _ _ => kF9)
                   (rename News _ _ _ _ => kN9)
                   have kN8 : News h₀ L _ ((dM, dictOf em9 nM9) :: (smp, listOf sv9.toArray ns9) :: (dR, dictOf es9 n9) :: (outA, listOf ov.toArray no) :: (_, listOf zs.toArray 0) :: rest) := news_sub kN9 (by (iterate 5 refine List.forall_mem_cons.mpr ⟨by (repeat (first | with_reducible exact List.mem_cons_self | with_reducible refine List.mem_cons_of_mem _ ?_)), ?_⟩); intro p9 hp9; repeat (first | with_reducible exact hp9 | with_reducible refine List.mem_cons_of_mem _ ?_))
                   exact k ⟨reno, mon, dR, dM, smp, outA, _, em9, es9, nM9, n9, ns9, no, 0, sv9, ov, zs, mx9, mn9, _⟩ ⟨size, nw, window, carried, since, nw, rises, thr, (some mhi), (last5 (trips ++ [trip])), rows, ⟨inc, (if 5 ≤ idx + 1 then 0 else idx + 1), nw, true, some mhi, sl.set idx.toNat trip⟩⟩ _ _ _ (by exact ⟨fun _ h => .tail _ h⟩)
                     ⟨(by first | exact ⟨_, hsize⟩ | exact ⟨_, rfl⟩), (by first | exact hreno | exact rfl), (by first | exact hout | exact rfl), (by first | exact ⟨_, hwin⟩ | exact ⟨_, rfl⟩), (by first | exact OptAt.keep hthr0 rfl | exact .inl ⟨_, _, rfl, rfl⟩), (by first | exact ⟨_, hcar⟩ | exact ⟨_, rfl⟩), (by first | exact ⟨_, hsin⟩ | exact ⟨_, rfl⟩), (by first | exact htrp | exact rfl), (by first | exact ⟨_, hcnt⟩ | exact ⟨_, rfl⟩), (by first | exact OptAt.keep hflr0 rfl | exact .inl ⟨_, _, rfl, rfl⟩), (by first | exact ⟨_, hris⟩ | exact ⟨_, rfl⟩), (by first | exact ⟨_, hnow⟩ | exact ⟨_, rfl⟩)⟩
                     ⟨(by exact .tail _ qreno), (by exact .tail _ qmon), (by exact .head _), hzs, (by exact hrows.mono (fun _ h => .tail _ h)), D9, DM9, I9, (by exact off_cons (by k_ne) off1), (by exact off_cons (by k_ne) off2), (by exact off_cons (by k_ne) off3), (by exact off_cons (by k_ne) off4), ne1, ne2, ne3, ne4, ne5, ne6⟩
                     ⟨psize, by dsimp only; omega, by dsimp only; omega, by dsimp only; omega, by dsimp only; omega, by dsimp only; omega, by dsimp only; omega, by dsimp only; omega, prbd, (by dsimp only; omega), rfl, rfl, (by simpa using pmlen), (by dsimp only; split <;> omega), (by dsimp only; split <;> omega), (set_bd pmbd hb), (fun f9 h9 => by cases h9; exact ⟨hbd.2.2.1, hbd.2.2.2⟩), (.inr ⟨rfl, htp⟩), pihi, prthr⟩ (by exact htrip) (by exact hrest) kF9 kN8))
            · have hfl : Mon.floor ⟨inc, idx, stime, ready, fm, sl⟩ (mlo, mhi) = f := by simp [Mon.floor, pmfm, hf, c0]
              k_steps
              all_goals (first
                | (exfalso; omega)
                | (have q1 : stime + 1000 < nw := by omega
                   have q2 : f ≤ (mlo - f) * 4 := by omega
                   have q3 : 5 ≤ inc + 1 := by omega
                   rw [turn_A1 q1 hrd.symm hmq hfl q2 q3] at hturn
                   cases hturn
                   rw [if_pos rfl] at hss
                   rw [hss] at D9
                   (rename Fr _ _ _ _ => kF9)
                   (rename News _ _ _ _ => kN9)
                   have kN8 : News h₀ L _ ((dM, dictOf em9 nM9) :: (smp, listOf sv9.toArray ns9) :: (dR, dictOf es9 n9) :: (outA, listOf ov.toArray no) :: (_, listOf zs.toArray 0) :: rest) := news_sub kN9 (by (iterate 5 refine List.forall_mem_cons.mpr ⟨by (repeat (first | with_reducible exact List.mem_cons_self | with_reducible refine List.mem_cons_of_mem _ ?_)), ?_⟩); intro p9 hp9; repeat (first | with_reducible exact hp9 | with_reducible refine List.mem_cons_of_mem _ ?_))
                   exact k ⟨reno, mon, dR, dM, smp, outA, _, em9, es9, nM9, n9, ns9, no, 0, sv9, ov, zs, mx9, mn9, _⟩ ⟨size, nw, window, carried, since, nw, (rises + 1), (some window), (some f), (last5 (trips ++ [trip])), rows, ⟨(inc + 1), (if 5 ≤ idx + 1 then 0 else idx + 1), nw, true, some f, sl.set idx.toNat trip⟩⟩ _ _ _ (by exact ⟨fun _ h => .tail _ h⟩)
                     ⟨(by first | exact ⟨_, hsize⟩ | exact ⟨_, rfl⟩), (by first | exact hreno | exact rfl), (by first | exact hout | exact rfl), (by first | exact ⟨_, hwin⟩ | exact ⟨_, rfl⟩), (by first | exact OptAt.keep hthr0 rfl | exact .inl ⟨_, _, rfl, rfl⟩), (by first | exact ⟨_, hcar⟩ | exact ⟨_, rfl⟩), (by first | exact ⟨_, hsin⟩ | exact ⟨_, rfl⟩), (by first | exact htrp | exact rfl), (by first | exact ⟨_, hcnt⟩ | exact ⟨_, rfl⟩), (by first | exact OptAt.keep hflr0 rfl | exact .inl ⟨_, _, rfl, rfl⟩), (by first | exact ⟨_, hris⟩ | exact ⟨_, rfl⟩), (by first | exact ⟨_, hnow⟩ | exact ⟨_, rfl⟩)⟩
                     ⟨(by exact .tail _ qreno), (by exact .tail _ qmon), (by exact .head _), hzs, (by exact hrows.mono (fun _ h => .tail _ h)), D9, DM9, I9, (by exact off_cons (by k_ne) off1), (by exact off_cons (by k_ne) off2), (by exact off_cons (by k_ne) off3), (by exact off_cons (by k_ne) off4), ne1, ne2, ne3, ne4, ne5, ne6⟩
                     ⟨psize, by dsimp only; omega, by dsimp only; omega, by dsimp only; omega, by dsimp only; omega, by dsimp only; omega, by dsimp only; omega, by dsimp only; omega, prbd, (by dsimp only; omega), rfl, rfl, (by simpa using pmlen), (by dsimp only; split <;> omega), (by dsimp only; split <;> omega), (set_bd pmbd hb), (fun f9 h9 => by cases h9; exact hfb), (.inr ⟨rfl, htp⟩), pihi, (fun h9 => by cases h9)⟩ (by exact htrip) (by exact hrest) kF9 kN8)
                | (have q1 : stime + 1000 < nw := by omega
                   have q2 : f ≤ (mlo - f) * 4 := by omega
                   have q3 : ¬ 5 ≤ inc + 1 := by omega
                   rw [turn_A0 q1 hrd.symm hmq hfl q2 q3] at hturn
                   cases hturn
                   rw [if_neg (by decide)] at hss
                   rw [hss, ← hn] at D9
                   (rename Fr _ _ _ _ => kF9)
                   (rename News _ _ _ _ => kN9)
                   have kN8 : News h₀ L _ ((dM, dictOf em9 nM9) :: (smp, listOf sv9.toArray ns9) :: (dR, dictOf es9 n9) :: (outA, listOf ov.toArray no) :: (_, listOf zs.toArray 0) :: rest) := news_sub kN9 (by (iterate 5 refine List.forall_mem_cons.mpr ⟨by (repeat (first | with_reducible exact List.mem_cons_self | with_reducible refine List.mem_cons_of_mem _ ?_)), ?_⟩); intro p9 hp9; repeat (first | with_reducible exact hp9 | with_reducible refine List.mem_cons_of_mem _ ?_))
                   exact k ⟨reno, mon, dR, dM, smp, outA, _, em9, es9, nM9, n9, ns9, no, 0, sv9, ov, zs, mx9, mn9, _⟩ ⟨size, nw, window, carried, since, nw, (rises + 1), thr, (some f), (last5 (trips ++ [trip])), rows, ⟨(inc + 1), (if 5 ≤ idx + 1 then 0 else idx + 1), nw, true, some f, sl.set idx.toNat trip⟩⟩ _ _ _ (by exact ⟨fun _ h => .tail _ h⟩)
                     ⟨(by first | exact ⟨_, hsize⟩ | exact ⟨_, rfl⟩), (by first | exact hreno | exact rfl), (by first | exact hout | exact rfl), (by first | exact ⟨_, hwin⟩ | exact ⟨_, rfl⟩), (by first | exact OptAt.keep hthr0 rfl | exact .inl ⟨_, _, rfl, rfl⟩), (by first | exact ⟨_, hcar⟩ | exact ⟨_, rfl⟩), (by first | exact ⟨_, hsin⟩ | exact ⟨_, rfl⟩), (by first | exact htrp | exact rfl), (by first | exact ⟨_, hcnt⟩ | exact ⟨_, rfl⟩), (by first | exact OptAt.keep hflr0 rfl | exact .inl ⟨_, _, rfl, rfl⟩), (by first | exact ⟨_, hris⟩ | exact ⟨_, rfl⟩), (by first | exact ⟨_, hnow⟩ | exact ⟨_, rfl⟩)⟩
                     ⟨(by exact .tail _ qreno), (by exact .tail _ qmon), (by exact .head _), hzs, (by exact hrows.mono (fun _ h => .tail _ h)), D9, DM9, I9, (by exact off_cons (by k_ne) off1), (by exact off_cons (by k_ne) off2), (by exact off_cons (by k_ne) off3), (by exact off_cons (by k_ne) off4), ne1, ne2, ne3, ne4, ne5, ne6⟩
                     ⟨psize, by dsimp only; omega, by dsimp only; omega, by dsimp only; omega, by dsimp only; omega, by dsimp only; omega, by dsimp only; omega, by dsimp only; omega, prbd, (by dsimp only; omega), rfl, rfl, (by simpa using pmlen), (by dsimp only; split <;> omega), (by dsimp only; split <;> omega), (set_bd pmbd hb), (fun f9 h9 => by cases h9; exact hfb), (.inr ⟨rfl, htp⟩), pihi, (fun _ => by dsimp only; omega)⟩ (by exact htrip) (by exact hrest) kF9 kN8)
                | (have q1 : stime + 1000 < nw := by omega
                   have q2 : ¬ f ≤ (mlo - f) * 4 := by omega
                   have q3 : 0 < mlo - f := by omega
                   rw [turn_B q1 hrd.symm hmq hfl q2 q3] at hturn
                   cases hturn
                   rw [if_neg (by decide)] at hss
                   rw [hss, ← hn] at D9
                   (rename Fr _ _ _ _ => kF9)
                   (rename News _ _ _ _ => kN9)
                   have kN8 : News h₀ L _ ((dM, dictOf em9 nM9) :: (smp, listOf sv9.toArray ns9) :: (dR, dictOf es9 n9) :: (outA, listOf ov.toArray no) :: (_, listOf zs.toArray 0) :: rest) := news_sub kN9 (by (iterate 5 refine List.forall_mem_cons.mpr ⟨by (repeat (first | with_reducible exact List.mem_cons_self | with_reducible refine List.mem_cons_of_mem _ ?_)), ?_⟩); intro p9 hp9; repeat (first | with_reducible exact hp9 | with_reducible refine List.mem_cons_of_mem _ ?_))
                   exact k ⟨reno, mon, dR, dM, smp, outA, _, em9, es9, nM9, n9, ns9, no, 0, sv9, ov, zs, mx9, mn9, _⟩ ⟨size, nw, window, carried, since, nw, 0, thr, (some f), (last5 (trips ++ [trip])), rows, ⟨0, (if 5 ≤ idx + 1 then 0 else idx + 1), nw, true, some f, sl.set idx.toNat trip⟩⟩ _ _ _ (by exact ⟨fun _ h => .tail _ h⟩)
                     ⟨(by first | exact ⟨_, hsize⟩ | exact ⟨_, rfl⟩), (by first | exact hreno | exact rfl), (by first | exact hout | exact rfl), (by first | exact ⟨_, hwin⟩ | exact ⟨_, rfl⟩), (by first | exact OptAt.keep hthr0 rfl | exact .inl ⟨_, _, rfl, rfl⟩), (by first | exact ⟨_, hcar⟩ | exact ⟨_, rfl⟩), (by first | exact ⟨_, hsin⟩ | exact ⟨_, rfl⟩), (by first | exact htrp | exact rfl), (by first | exact ⟨_, hcnt⟩ | exact ⟨_, rfl⟩), (by first | exact OptAt.keep hflr0 rfl | exact .inl ⟨_, _, rfl, rfl⟩), (by first | exact ⟨_, hris⟩ | exact ⟨_, rfl⟩), (by first | exact ⟨_, hnow⟩ | exact ⟨_, rfl⟩)⟩
                     ⟨(by exact .tail _ qreno), (by exact .tail _ qmon), (by exact .head _), hzs, (by exact hrows.mono (fun _ h => .tail _ h)), D9, DM9, I9, (by exact off_cons (by k_ne) off1), (by exact off_cons (by k_ne) off2), (by exact off_cons (by k_ne) off3), (by exact off_cons (by k_ne) off4), ne1, ne2, ne3, ne4, ne5, ne6⟩
                     ⟨psize, by dsimp only; omega, by dsimp only; omega, by dsimp only; omega, by dsimp only; omega, by dsimp only; omega, by dsimp only; omega, by dsimp only; omega, prbd, rfl, rfl, rfl, (by simpa using pmlen), (by dsimp only; split <;> omega), (by dsimp only; split <;> omega), (set_bd pmbd hb), (fun f9 h9 => by cases h9; exact hfb), (.inr ⟨rfl, htp⟩), pihi, (fun _ => by dsimp only; omega)⟩ (by exact htrip) (by exact hrest) kF9 kN8)
                | (have q1 : stime + 1000 < nw := by omega
                   have q2 : ¬ f ≤ (mlo - f) * 4 := by omega
                   have q3 : ¬ 0 < mlo - f := by omega
                   rw [turn_C q1 hrd.symm hmq hfl q2 q3] at hturn
                   cases hturn
                   rw [if_neg (by decide)] at hss
                   rw [hss, ← hn] at D9
                   (rename Fr _ _ _ _ => kF9)
                   (rename News _ _ _ _ => kN9)
                   have kN8 : News h₀ L _ ((dM, dictOf em9 nM9) :: (smp, listOf sv9.toArray ns9) :: (dR, dictOf es9 n9) :: (outA, listOf ov.toArray no) :: (_, listOf zs.toArray 0) :: rest) := news_sub kN9 (by (iterate 5 refine List.forall_mem_cons.mpr ⟨by (repeat (first | with_reducible exact List.mem_cons_self | with_reducible refine List.mem_cons_of_mem _ ?_)), ?_⟩); intro p9 hp9; repeat (first | with_reducible exact hp9 | with_reducible refine List.mem_cons_of_mem _ ?_))
                   exact k ⟨reno, mon, dR, dM, smp, outA, _, em9, es9, nM9, n9, ns9, no, 0, sv9, ov, zs, mx9, mn9, _⟩ ⟨size, nw, window, carried, since, nw, rises, thr, (some f), (last5 (trips ++ [trip])), rows, ⟨inc, (if 5 ≤ idx + 1 then 0 else idx + 1), nw, true, some f, sl.set idx.toNat trip⟩⟩ _ _ _ (by exact ⟨fun _ h => .tail _ h⟩)
                     ⟨(by first | exact ⟨_, hsize⟩ | exact ⟨_, rfl⟩), (by first | exact hreno | exact rfl), (by first | exact hout | exact rfl), (by first | exact ⟨_, hwin⟩ | exact ⟨_, rfl⟩), (by first | exact OptAt.keep hthr0 rfl | exact .inl ⟨_, _, rfl, rfl⟩), (by first | exact ⟨_, hcar⟩ | exact ⟨_, rfl⟩), (by first | exact ⟨_, hsin⟩ | exact ⟨_, rfl⟩), (by first | exact htrp | exact rfl), (by first | exact ⟨_, hcnt⟩ | exact ⟨_, rfl⟩), (by first | exact OptAt.keep hflr0 rfl | exact .inl ⟨_, _, rfl, rfl⟩), (by first | exact ⟨_, hris⟩ | exact ⟨_, rfl⟩), (by first | exact ⟨_, hnow⟩ | exact ⟨_, rfl⟩)⟩
                     ⟨(by exact .tail _ qreno), (by exact .tail _ qmon), (by exact .head _), hzs, (by exact hrows.mono (fun _ h => .tail _ h)), D9, DM9, I9, (by exact off_cons (by k_ne) off1), (by exact off_cons (by k_ne) off2), (by exact off_cons (by k_ne) off3), (by exact off_cons (by k_ne) off4), ne1, ne2, ne3, ne4, ne5, ne6⟩
                     ⟨psize, by dsimp only; omega, by dsimp only; omega, by dsimp only; omega, by dsimp only; omega, by dsimp only; omega, by dsimp only; omega, by dsimp only; omega, prbd, (by dsimp only; omega), rfl, rfl, (by simpa using pmlen), (by dsimp only; split <;> omega), (by dsimp only; split <;> omega), (set_bd pmbd hb), (fun f9 h9 => by cases h9; exact hfb), (.inr ⟨rfl, htp⟩), pihi, prthr⟩ (by exact htrip) (by exact hrest) kF9 kN8))
          · have hfl : Mon.floor ⟨inc, idx, stime, ready, fm, sl⟩ (mlo, mhi) = mhi := by simp [Mon.floor, pmfm, hf]
            k_steps
            all_goals (first
              | (exfalso; omega)
              | (have q1 : stime + 1000 < nw := by omega
                 have q2 : mhi ≤ (mlo - mhi) * 4 := by omega
                 have q3 : 5 ≤ inc + 1 := by omega
                 rw [turn_A1 q1 hrd.symm hmq hfl q2 q3] at hturn
                 cases hturn
                 rw [if_pos rfl] at hss
                 rw [hss] at D9
                 (rename Fr _ _ _ _ => kF9)
                 (rename News _ _ _ _ => kN9)
                 have kN8 : News h₀ L _ ((dM, dictOf em9 nM9) :: (smp, listOf sv9.toArray ns9) :: (dR, dictOf es9 n9) :: (outA, listOf ov.toArray no) :: (_, listOf zs.toArray 0) :: rest) := news_sub kN9 (by (iterate 5 refine List.forall_mem_cons.mpr ⟨by (repeat (first | with_reducible exact List.mem_cons_self | with_reducible refine List.mem_cons_of_mem _ ?_)), ?_⟩); intro p9 hp9; repeat (first | with_reducible exact hp9 | with_reducible refine List.mem_cons_of_mem _ ?_))
                 exact k ⟨reno, mon, dR, dM, smp, outA, _, em9, es9, nM9, n9, ns9, no, 0, sv9, ov, zs, mx9, mn9, _⟩ ⟨size, nw, window, carried, since, nw, (rises + 1), (some window), (some mhi), (last5 (trips ++ [trip])), rows, ⟨(inc + 1), (if 5 ≤ idx + 1 then 0 else idx + 1), nw, true, some mhi, sl.set idx.toNat trip⟩⟩ _ _ _ (by exact ⟨fun _ h => .tail _ h⟩)
                   ⟨(by first | exact ⟨_, hsize⟩ | exact ⟨_, rfl⟩), (by first | exact hreno | exact rfl), (by first | exact hout | exact rfl), (by first | exact ⟨_, hwin⟩ | exact ⟨_, rfl⟩), (by first | exact OptAt.keep hthr0 rfl | exact .inl ⟨_, _, rfl, rfl⟩), (by first | exact ⟨_, hcar⟩ | exact ⟨_, rfl⟩), (by first | exact ⟨_, hsin⟩ | exact ⟨_, rfl⟩), (by first | exact htrp | exact rfl), (by first | exact ⟨_, hcnt⟩ | exact ⟨_, rfl⟩), (by first | exact OptAt.keep hflr0 rfl | exact .inl ⟨_, _, rfl, rfl⟩), (by first | exact ⟨_, hris⟩ | exact ⟨_, rfl⟩), (by first | exact ⟨_, hnow⟩ | exact ⟨_, rfl⟩)⟩
                   ⟨(by exact .tail _ qreno), (by exact .tail _ qmon), (by exact .head _), hzs, (by exact hrows.mono (fun _ h => .tail _ h)), D9, DM9, I9, (by exact off_cons (by k_ne) off1), (by exact off_cons (by k_ne) off2), (by exact off_cons (by k_ne) off3), (by exact off_cons (by k_ne) off4), ne1, ne2, ne3, ne4, ne5, ne6⟩
                   ⟨psize, by dsimp only; omega, by dsimp only; omega, by dsimp only; omega, by dsimp only; omega, by dsimp only; omega, by dsimp only; omega, by dsimp only; omega, prbd, (by dsimp only; omega), rfl, rfl, (by simpa using pmlen), (by dsimp only; split <;> omega), (by dsimp only; split <;> omega), (set_bd pmbd hb), (fun f9 h9 => by cases h9; exact ⟨hbd.2.2.1, hbd.2.2.2⟩), (.inr ⟨rfl, htp⟩), pihi, (fun h9 => by cases h9)⟩ (by exact htrip) (by exact hrest) kF9 kN8)
              | (have q1 : stime + 1000 < nw := by omega
                 have q2 : mhi ≤ (mlo - mhi) * 4 := by omega
                 have q3 : ¬ 5 ≤ inc + 1 := by omega
                 rw [turn_A0 q1 hrd.symm hmq hfl q2 q3] at hturn
                 cases hturn
                 rw [if_neg (by decide)] at hss
                 rw [hss, ← hn] at D9
                 (rename Fr _ _ _ _ => kF9)
                 (rename News _ _ _ _ => kN9)
                 have kN8 : News h₀ L _ ((dM, dictOf em9 nM9) :: (smp, listOf sv9.toArray ns9) :: (dR, dictOf es9 n9) :: (outA, listOf ov.toArray no) :: (_, listOf zs.toArray 0) :: rest) := news_sub kN9 (by (iterate 5 refine List.forall_mem_cons.mpr ⟨by (repeat (first | with_reducible exact List.mem_cons_self | with_reducible refine List.mem_cons_of_mem _ ?_)), ?_⟩); intro p9 hp9; repeat (first | with_reducible exact hp9 | with_reducible refine List.mem_cons_of_mem _ ?_))
                 exact k ⟨reno, mon, dR, dM, smp, outA, _, em9, es9, nM9, n9, ns9, no, 0, sv9, ov, zs, mx9, mn9, _⟩ ⟨size, nw, window, carried, since, nw, (rises + 1), thr, (some mhi), (last5 (trips ++ [trip])), rows, ⟨(inc + 1), (if 5 ≤ idx + 1 then 0 else idx + 1), nw, true, some mhi, sl.set idx.toNat trip⟩⟩ _ _ _ (by exact ⟨fun _ h => .tail _ h⟩)
                   ⟨(by first | exact ⟨_, hsize⟩ | exact ⟨_, rfl⟩), (by first | exact hreno | exact rfl), (by first | exact hout | exact rfl), (by first | exact ⟨_, hwin⟩ | exact ⟨_, rfl⟩), (by first | exact OptAt.keep hthr0 rfl | exact .inl ⟨_, _, rfl, rfl⟩), (by first | exact ⟨_, hcar⟩ | exact ⟨_, rfl⟩), (by first | exact ⟨_, hsin⟩ | exact ⟨_, rfl⟩), (by first | exact htrp | exact rfl), (by first | exact ⟨_, hcnt⟩ | exact ⟨_, rfl⟩), (by first | exact OptAt.keep hflr0 rfl | exact .inl ⟨_, _, rfl, rfl⟩), (by first | exact ⟨_, hris⟩ | exact ⟨_, rfl⟩), (by first | exact ⟨_, hnow⟩ | exact ⟨_, rfl⟩)⟩
                   ⟨(by exact .tail _ qreno), (by exact .tail _ qmon), (by exact .head _), hzs, (by exact hrows.mono (fun _ h => .tail _ h)), D9, DM9, I9, (by exact off_cons (by k_ne) off1), (by exact off_cons (by k_ne) off2), (by exact off_cons (by k_ne) off3), (by exact off_cons (by k_ne) off4), ne1, ne2, ne3, ne4, ne5, ne6⟩
                   ⟨psize, by dsimp only; omega, by dsimp only; omega, by dsimp only; omega, by dsimp only; omega, by dsimp only; omega, by dsimp only; omega, by dsimp only; omega, prbd, (by dsimp only; omega), rfl, rfl, (by simpa using pmlen), (by dsimp only; split <;> omega), (by dsimp only; split <;> omega), (set_bd pmbd hb), (fun f9 h9 => by cases h9; exact ⟨hbd.2.2.1, hbd.2.2.2⟩), (.inr ⟨rfl, htp⟩), pihi, (fun _ => by dsimp only; omega)⟩ (by exact htrip) (by exact hrest) kF9 kN8)
              | (have q1 : stime + 1000 < nw := by omega
                 have q2 : ¬ mhi ≤ (mlo - mhi) * 4 := by omega
                 have q3 : 0 < mlo - mhi := by omega
                 rw [turn_B q1 hrd.symm hmq hfl q2 q3] at hturn
                 cases hturn
                 rw [if_neg (by decide)] at hss
                 rw [hss, ← hn] at D9
                 (rename Fr _ _ _ _ => kF9)
                 (rename News _ _ _ _ => kN9)
                 have kN8 : News h₀ L _ ((dM, dictOf em9 nM9) :: (smp, listOf sv9.toArray ns9) :: (dR, dictOf es9 n9) :: (outA, listOf ov.toArray no) :: (_, listOf zs.toArray 0) :: rest) := news_sub kN9 (by (iterate 5 refine List.forall_mem_cons.mpr ⟨by (repeat (first | with_reducible exact List.mem_cons_self | with_reducible refine List.mem_cons_of_mem _ ?_)), ?_⟩); intro p9 hp9; repeat (first | with_reducible exact hp9 | with_reducible refine List.mem_cons_of_mem _ ?_))
                 exact k ⟨reno, mon, dR, dM, smp, outA, _, em9, es9, nM9, n9, ns9, no, 0, sv9, ov, zs, mx9, mn9, _⟩ ⟨size, nw, window, carried, since, nw, 0, thr, (some mhi), (last5 (trips ++ [trip])), rows, ⟨0, (if 5 ≤ idx + 1 then 0 else idx + 1), nw, true, some mhi, sl.set idx.toNat trip⟩⟩ _ _ _ (by exact ⟨fun _ h => .tail _ h⟩)
                   ⟨(by first | exact ⟨_, hsize⟩ | exact ⟨_, rfl⟩), (by first | exact hreno | exact rfl), (by first | exact hout | exact rfl), (by first | exact ⟨_, hwin⟩ | exact ⟨_, rfl⟩), (by first | exact OptAt.keep hthr0 rfl | exact .inl ⟨_, _, rfl, rfl⟩), (by first | exact ⟨_, hcar⟩ | exact ⟨_, rfl⟩), (by first | exact ⟨_, hsin⟩ | exact ⟨_, rfl⟩), (by first | exact htrp | exact rfl), (by first | exact ⟨_, hcnt⟩ | exact ⟨_, rfl⟩), (by first | exact OptAt.keep hflr0 rfl | exact .inl ⟨_, _, rfl, rfl⟩), (by first | exact ⟨_, hris⟩ | exact ⟨_, rfl⟩), (by first | exact ⟨_, hnow⟩ | exact ⟨_, rfl⟩)⟩
                   ⟨(by exact .tail _ qreno), (by exact .tail _ qmon), (by exact .head _), hzs, (by exact hrows.mono (fun _ h => .tail _ h)), D9, DM9, I9, (by exact off_cons (by k_ne) off1), (by exact off_cons (by k_ne) off2), (by exact off_cons (by k_ne) off3), (by exact off_cons (by k_ne) off4), ne1, ne2, ne3, ne4, ne5, ne6⟩
                   ⟨psize, by dsimp only; omega, by dsimp only; omega, by dsimp only; omega, by dsimp only; omega, by dsimp only; omega, by dsimp only; omega, by dsimp only; omega, prbd, rfl, rfl, rfl, (by simpa using pmlen), (by dsimp only; split <;> omega), (by dsimp only; split <;> omega), (set_bd pmbd hb), (fun f9 h9 => by cases h9; exact ⟨hbd.2.2.1, hbd.2.2.2⟩), (.inr ⟨rfl, htp⟩), pihi, (fun _ => by dsimp only; omega)⟩ (by exact htrip) (by exact hrest) kF9 kN8)
              | (have q1 : stime + 1000 < nw := by omega
                 have q2 : ¬ mhi ≤ (mlo - mhi) * 4 := by omega
                 have q3 : ¬ 0 < mlo - mhi := by omega
                 rw [turn_C q1 hrd.symm hmq hfl q2 q3] at hturn
                 cases hturn
                 rw [if_neg (by decide)] at hss
                 rw [hss, ← hn] at D9
                 (rename Fr _ _ _ _ => kF9)
                 (rename News _ _ _ _ => kN9)
                 have kN8 : News h₀ L _ ((dM, dictOf em9 nM9) :: (smp, listOf sv9.toArray ns9) :: (dR, dictOf es9 n9) :: (outA, listOf ov.toArray no) :: (_, listOf zs.toArray 0) :: rest) := news_sub kN9 (by (iterate 5 refine List.forall_mem_cons.mpr ⟨by (repeat (first | with_reducible exact List.mem_cons_self | with_reducible refine List.mem_cons_of_mem _ ?_)), ?_⟩); intro p9 hp9; repeat (first | with_reducible exact hp9 | with_reducible refine List.mem_cons_of_mem _ ?_))
                 exact k ⟨reno, mon, dR, dM, smp, outA, _, em9, es9, nM9, n9, ns9, no, 0, sv9, ov, zs, mx9, mn9, _⟩ ⟨size, nw, window, carried, since, nw, rises, thr, (some mhi), (last5 (trips ++ [trip])), rows, ⟨inc, (if 5 ≤ idx + 1 then 0 else idx + 1), nw, true, some mhi, sl.set idx.toNat trip⟩⟩ _ _ _ (by exact ⟨fun _ h => .tail _ h⟩)
                   ⟨(by first | exact ⟨_, hsize⟩ | exact ⟨_, rfl⟩), (by first | exact hreno | exact rfl), (by first | exact hout | exact rfl), (by first | exact ⟨_, hwin⟩ | exact ⟨_, rfl⟩), (by first | exact OptAt.keep hthr0 rfl | exact .inl ⟨_, _, rfl, rfl⟩), (by first | exact ⟨_, hcar⟩ | exact ⟨_, rfl⟩), (by first | exact ⟨_, hsin⟩ | exact ⟨_, rfl⟩), (by first | exact htrp | exact rfl), (by first | exact ⟨_, hcnt⟩ | exact ⟨_, rfl⟩), (by first | exact OptAt.keep hflr0 rfl | exact .inl ⟨_, _, rfl, rfl⟩), (by first | exact ⟨_, hris⟩ | exact ⟨_, rfl⟩), (by first | exact ⟨_, hnow⟩ | exact ⟨_, rfl⟩)⟩
                   ⟨(by exact .tail _ qreno), (by exact .tail _ qmon), (by exact .head _), hzs, (by exact hrows.mono (fun _ h => .tail _ h)), D9, DM9, I9, (by exact off_cons (by k_ne) off1), (by exact off_cons (by k_ne) off2), (by exact off_cons (by k_ne) off3), (by exact off_cons (by k_ne) off4), ne1, ne2, ne3, ne4, ne5, ne6⟩
                   ⟨psize, by dsimp only; omega, by dsimp only; omega, by dsimp only; omega, by dsimp only; omega, by dsimp only; omega, by dsimp only; omega, by dsimp only; omega, prbd, (by dsimp only; omega), rfl, rfl, (by simpa using pmlen), (by dsimp only; split <;> omega), (by dsimp only; split <;> omega), (set_bd pmbd hb), (fun f9 h9 => by cases h9; exact ⟨hbd.2.2.1, hbd.2.2.2⟩), (.inr ⟨rfl, htp⟩), pihi, prthr⟩ (by exact htrip) (by exact hrest) kF9 kN8))
      · rw [turn_no (by omega)] at hturn
        cases hturn
        rw [if_neg (by decide)] at hss
        rw [hss, ← hn] at D9
        k_steps
        (rename Fr _ _ _ _ => kF9)
        (rename News _ _ _ _ => kN9)
        exact k ⟨reno, mon, dR, dM, smp, outA, trA, em9, es9, nM9, n9, ns9, no, nt, sv9, ov, tv, mx9, mn9, rest⟩ ⟨size, nw, window, carried, since, counted, rises, thr, flr, trips, rows, ⟨inc, idx, stime, ready, fm, sl⟩⟩ _ _ _ (by exact ⟨fun _ h => h⟩)
          ⟨(by first | exact ⟨_, hsize⟩ | exact ⟨_, rfl⟩), (by first | exact hreno | exact rfl), (by first | exact hout | exact rfl), (by first | exact ⟨_, hwin⟩ | exact ⟨_, rfl⟩), (by first | exact OptAt.keep hthr0 rfl | exact .inl ⟨_, _, rfl, rfl⟩), (by first | exact ⟨_, hcar⟩ | exact ⟨_, rfl⟩), (by first | exact ⟨_, hsin⟩ | exact ⟨_, rfl⟩), (by first | exact htrp | exact rfl), (by first | exact ⟨_, hcnt⟩ | exact ⟨_, rfl⟩), (by first | exact OptAt.keep hflr0 rfl | exact .inl ⟨_, _, rfl, rfl⟩), (by first | exact ⟨_, hris⟩ | exact ⟨_, rfl⟩), (by first | exact ⟨_, hnow⟩ | exact ⟨_, rfl⟩)⟩
          ⟨qreno, qmon, qtr, itr, hrows, D9, DM9, I9, off1, off2, off3, off4, ne1, ne2, ne3, ne4, ne5, ne6⟩
          ⟨psize, by dsimp only; omega, by dsimp only; omega, by dsimp only; omega, by dsimp only; omega, by dsimp only; omega, by dsimp only; omega, by dsimp only; omega, prbd, pminc, pmfm, pmtime, pmlen, pmi0, pmi1, pmbd, pmfb, ptrp, pihi, prthr⟩ (by exact htrip) (by exact hrest) kF9 (news_sub kN9 (by dsimp only [LD.led]; refine List.forall_mem_cons.mpr ⟨by k_mem, List.forall_mem_cons.mpr ⟨by k_mem, List.forall_mem_cons.mpr ⟨by k_mem, List.forall_mem_cons.mpr ⟨by k_mem, ?_⟩⟩⟩⟩; intro p9 hp9; repeat (first | exact hp9 | refine List.Mem.tail _ ?_)))
  · rw [hss] at D9
    rw [hM] at DM9 I9
    rcases hthr with ⟨v, vt, hv, hthr⟩ | ⟨hv, hthr⟩
    · k_steps
      (rename Fr _ _ _ _ => kF9)
      (rename News _ _ _ _ => kN9)
      exact k ⟨reno, mon, dR, dM, smp, outA, trA, em9, es9, nM9, n9, ns9, no, nt, sv9, ov, tv, mx9, mn9, rest⟩ ⟨size, nw, window, carried, since, counted, rises, thr, flr, trips, rows, ⟨inc, idx, stime, ready, fm, sl⟩⟩ _ _ _ (by exact ⟨fun _ h => h⟩)
        ⟨(by first | exact ⟨_, hsize⟩ | exact ⟨_, rfl⟩), (by first | exact hreno | exact rfl), (by first | exact hout | exact rfl), (by first | exact ⟨_, hwin⟩ | exact ⟨_, rfl⟩), (by first | exact OptAt.keep hthr0 rfl | exact .inl ⟨_, _, rfl, rfl⟩), (by first | exact ⟨_, hcar⟩ | exact ⟨_, rfl⟩), (by first | exact ⟨_, hsin⟩ | exact ⟨_, rfl⟩), (by first | exact htrp | exact rfl), (by first | exact ⟨_, hcnt⟩ | exact ⟨_, rfl⟩), (by first | exact OptAt.keep hflr0 rfl | exact .inl ⟨_, _, rfl, rfl⟩), (by first | exact ⟨_, hris⟩ | exact ⟨_, rfl⟩), (by first | exact ⟨_, hnow⟩ | exact ⟨_, rfl⟩)⟩
        ⟨qreno, qmon, qtr, itr, hrows, D9, DM9, I9, off1, off2, off3, off4, ne1, ne2, ne3, ne4, ne5, ne6⟩
        ⟨psize, by dsimp only; omega, by dsimp only; omega, by dsimp only; omega, by dsimp only; omega, by dsimp only; omega, by dsimp only; omega, by dsimp only; omega, prbd, pminc, pmfm, pmtime, pmlen, pmi0, pmi1, pmbd, pmfb, ptrp, pihi, prthr⟩ (by exact htrip) (by exact hrest) kF9 (news_sub kN9 (by dsimp only [LD.led]; refine List.forall_mem_cons.mpr ⟨by k_mem, List.forall_mem_cons.mpr ⟨by k_mem, List.forall_mem_cons.mpr ⟨by k_mem, List.forall_mem_cons.mpr ⟨by k_mem, ?_⟩⟩⟩⟩; intro p9 hp9; repeat (first | exact hp9 | refine List.Mem.tail _ ?_)))
    · exact absurd hv hn
end

end
section
local macro_rules | `(tactic| walk_at "no such key") => `(tactic| fail)
local macro_rules | `(tactic| walk_at "no such key") => `(tactic| fail)
local macro_rules | `(tactic| walk_at "no such key") => `(tactic| fail)
local macro_rules | `(tactic| walk_at "no such key") => `(tactic| fail)
theorem back14 : True := by
  w_top off
  trivial
local macro_rules | `(tactic| k_all) => `(tactic| assumption)
local macro_rules | `(tactic| k_get) => `(tactic| ((with_reducible refine (getL_put_ne (by decide +kernel)).trans ?_); k_get))
local macro_rules | `(tactic| k_get) => `(tactic| with_reducible exact getL_put_same)
local macro_rules | `(tactic| k_get) => `(tactic| with_reducible assumption)
local macro_rules | `(tactic| walk_at "setAttr ref") => `(tactic| (k_here; k_dflt (refine' set_dictA ?k1 ?k2 ?k3 ?k4 ?k5 ?k6 ?k7 ?k8 ?k9 ?k10 ?k11 ?k12 ?_; (case k1 => k_asm); (case k2 => k_asm); (case k3 => k_asm); (case k4 => k_inst); (case k5 => exact rfl); (case k6 => k_is); (case k7 => k_is); (case k8 => k_is); (case k9 => k_is); (case k10 => (refine' getL_some ?g; (case g => ((repeat (with_reducible refine (getL_put_ne (by decide +kernel)).trans ?_)); with_reducible first | assumption | exact getL_put_same)))); (case k11 => k_updF); (case k12 => (refine lt_put0 ?_; repeat (first | omega | refine lt_put ?_))); k_whole; intro h' hsh' t' n' F' N'; (try dsimp only at N'); (try k_sweep))))
local macro_rules | `(tactic| k_mem) => `(tactic| ((show (_ : Addr × Obj) ∈ (_ : List (Addr × Obj))); ktr_member))
local macro_rules | `(tactic| walk_at "eval Name") => `(tactic| (k_here; k_dflt (refine' ld ?k1 ?k2 ?_; (case k1 => k_asm); (case k2 => first | with_reducible assumption | ((with_reducible show (ite _ _ _) = _); (repeat (with_reducible refine (if_neg (by decide +kernel)).trans ?_)); with_reducible first | assumption | exact if_pos rfl)); k_whole)))
local macro_rules | `(tactic| walk_at "loadName") => `(tactic| (k_here; k_dflt (refine' ldn ?k1 ?k2 ?_; (case k1 => k_asm); (case k2 => first | with_reducible assumption | ((with_reducible show (ite _ _ _) = _); (repeat (with_reducible refine (if_neg (by decide +kernel)).trans ?_)); with_reducible first | assumption | exact if_pos rfl)); k_whole)))
local macro_rules | `(tactic| walk_at "call ref") => `(tactic| (k_here; (with_reducible show wpAny _ _ (call (Value.ref 119) _ _) _ _ _); k_dflt (refine' c_persist ?k1 ?k2 ?k3 ?k4 ?k5 ?k6 ?k7 ?k8 ?_; (case k1 => k_asm); (case k2 => k_asm); (case k3 => assumption); (case k4 => k_mem); (case k5 => k_updF); (case k6 => assumption); (case k7 => omega); (case k8 => omega); k_whole; intro es9 n9 h9 tk9 D9 F9 N9; (try dsimp only at N9))))
local macro_rules | `(tactic| walk_at "subscriptTail Name Slice ref ref") => `(tactic| (k_here; (with_reducible show wpAny _ _ (subscriptTail _ (PySem.Expr.Slice _ _ none _) (Value.ref _) (Value.ref _)) _ _ _); k_dflt (refine' slice_own ?F ?N ?m ?p ?q ?z ?e ?_ ?s ?t; (case F => k_asm); (case N => k_asm); (case m => k_mem); (case p => kmk_part); (case q => kmk_part); (case z => first | assumption | (simp only [List.length_cons, List.length_nil]; omega)); (case e => assumption); (case s => with_unfolding_all rfl); (case t => kmk_pure)); intro D' h' F' N' l1; (try k_lt l1); (try k_sweep)))
local macro_rules | `(tactic| walk_at "call ref") => `(tactic| (k_here; (with_reducible show wpAny _ _ (call (Value.ref 105) _ _) _ _ _); k_dflt (refine' c_expired ?k1 ?k2 ?k3 ?k4 ?k5 ?k6 ?k7 ?k11 ?k8 ?k9 ?k10 ?_; (case k1 => k_asm); (case k2 => k_asm); (case k3 => assumption); (case k4 => k_mem); (case k5 => k_updF); (case k6 => assumption); (case k7 => k_mem); (case k11 => omega); (case k8 => with_reducible assumption); (case k9 => (intro p9 hp9; repeat (first | exact hp9 | refine List.Mem.tail _ ?_))); (case k10 => assumption); k_whole; intro es9 n9 h9 tk9 D9 F9 N9; (try dsimp only at N9))))
local macro_rules | `(tactic| walk_at "CompSrc") => `(tactic| (k_here; k_dflt (refine LCg.CompSrc.ledger (by rfl) (by k_asm) (by k_asm) (by k_mem) (by (simp only [List.size_toArray, List.length_take, sizeLine_eq]; omega)) ?_); intro g'; k_dflt (refine' comp_row0 ?hI ?hsub ?hm ?hfn ?hlo ?hx ?_; (case hI => assumption); (case hsub => (intro p9 hp9; repeat (first | exact hp9 | refine List.Mem.tail _ ?_))); (case hm => k_mem); (case hfn => (intro C9; rfl)); (case hlo => (intro C9; rfl)); (case hx => decide)); k_whole; intro D' h' tk' F' N' off'; (try simp only [LCg.Off1, and_true] at off')))
local macro_rules | `(tactic| walk_at "CompSrc") => `(tactic| (k_here; k_dflt (refine LCg.CompSrc.ledger (by rfl) (by k_asm) (by k_asm) (by k_mem) (by (simp only [List.size_toArray, List.length_take, sizeLine_eq]; omega)) ?_); intro g'; k_dflt (refine' comp_row2 ?hI ?hsub ?hm ?hfn ?hlo ?hx ?_; (case hI => assumption); (case hsub => (intro p9 hp9; repeat (first | exact hp9 | refine List.Mem.tail _ ?_))); (case hm => k_mem); (case hfn => (intro C9; rfl)); (case hlo => (intro C9; rfl)); (case hx => decide)); k_whole; intro D' h' tk' F' N' off'; (try simp only [LCg.Off1, and_true] at off')))
local macro_rules | `(tactic| walk_at "call builtin:len") => `(tactic| (k_here; (with_reducible show wpAny _ _ (call (Value.builtin "len") [Value.ref _]) _ _ _); k_dflt (refine' len_own ?N ?m ?z ?_; (case N => k_asm); (case m => k_mem); (case z => first | assumption | (simp only [List.length_take, List.length_drop, List.length_cons, List.length_nil]; omega)); k_whole)))
local macro_rules | `(tactic| walk_at "binaryOp Add ref ref") => `(tactic| (k_here; (with_reducible show wpAny _ _ (binaryOp _ (Value.ref _) (Value.ref _)) _ _ _); k_dflt (refine' add_own ?F ?N ?a ?b ?z1 ?z2 ?_; (case F => k_asm); (case N => k_asm); (case a => k_mem); (case b => k_mem); (case z1 => first | assumption | exact Nat.le_of_ble_eq_true rfl); (case z2 => first | assumption | exact Nat.le_of_ble_eq_true rfl); k_whole); intro D' h' F' N' l1; (try k_lt l1); (try k_sweep)))
local macro_rules | `(tactic| walk_at "subscriptTail") => `(tactic| (k_here; (with_reducible show wpAny _ _ (subscriptTail _ _ (Value.ref _) (Value.int _ _)) _ _ _); k_dflt (refine' last_own ?N ?m ?k ?l ?z ?x ?_ ?s; (case N => k_asm); (case m => k_mem); (case k => rfl); (case l => assumption); (case z => assumption); (case x => assumption); (case s => with_unfolding_all rfl); k_whole)))
local macro_rules | `(tactic| walk_at "call ref") => `(tactic| (k_here; (with_reducible show wpAny _ _ (call (Value.ref 112) _ _) _ _ _); k_dflt (refine' c_lost ?k1 ?k2 ?k3 ?k4 ?k5 ?k6 ?k7 ?k11 ?k8 ?k9 ?k10 ?k12 ?k13 ?k14 ?k15 ?_; (case k1 => k_asm); (case k2 => k_asm); (case k3 => assumption); (case k4 => k_mem); (case k5 => k_updF); (case k6 => assumption); (case k7 => k_mem); (case k11 => omega); (case k8 => with_reducible assumption); (case k9 => (intro p9 hp9; repeat (first | exact hp9 | refine List.Mem.tail _ ?_))); (case k10 => assumption); (case k12 => omega); (case k13 => omega); (case k14 => omega); (case k15 => omega); k_whole; intro es9 n9 h9 tk9 cr9 cw9 ss9 R9 D9 F9 N9; (try dsimp only at N9); (rcases R9 with ⟨c9, r1, r2, r3⟩ | ⟨c9, r1, r2, r3⟩) <;> (replace r1 := Eq.symm r1; subst r1; replace r2 := Eq.symm r2; subst r2; replace r3 := Eq.symm r3; subst r3))))
local macro_rules | `(tactic| walk_at "subscriptTail") => `(tactic| (k_here; (with_reducible show wpAny _ _ (subscriptTail _ _ (Value.ref _) (Value.int _ _)) _ _ _); k_dflt (refine' pick_own ?N ?m ?k0 ?k1 ?l ?all ?_ ?s; (case N => k_asm); (case m => k_mem); (case k0 => assumption); (case k1 => assumption); (case l => exact Nat.lt_of_sub_eq_succ rfl); (case all => (repeat (first | exact List.forall_mem_nil _ | refine List.forall_mem_cons.mpr ⟨⟨_, _, rfl, by omega, by omega⟩, ?_⟩))); (case s => with_unfolding_all rfl); k_whole); intro o9 t9 b9 c9))
local macro_rules | `(tactic| walk_at "call ref") => `(tactic| (k_here; (with_reducible show wpAny _ _ (call (Value.ref 98) _ _) _ _ _); k_dflt (refine' c_sent (tl := [(_, instObj 177 _), (_, dictOf _ _)]) ?k1 ?k2 ?k3 ?k4 ?k5 ?k6 ?k7 ?k8 ?k9 ?_; (case k1 => k_asm); (case k2 => k_asm); (case k3 => assumption); (case k4 => k_mem); (case k5 => k_updF); (case k6 => assumption); (case k8 => refine List.forall_mem_cons.mpr ⟨by k_mem, List.forall_mem_cons.mpr ⟨by k_mem, List.forall_mem_nil _⟩⟩); (case k7 => exact ⟨_, _, _, .head _, .tail _ (.head _), ⟨⟨_, by k_get⟩, ⟨_, by k_get⟩⟩⟩); (case k9 => (intro p9 hp9; rcases List.mem_cons.mp hp9 with h9 | hp9; (subst h9; k_ne); rcases List.mem_cons.mp hp9 with h9 | hp9; (subst h9; k_ne); exact nomatch hp9)); k_whole; intro es9 n9 h9 tk9 D9 F9 N9; (try dsimp only at N9))))
local macro_rules | `(tactic| walk_at "call builtin:list.pop") => `(tactic| (k_here; (with_reducible show wpAny _ _ (call (Value.builtin _) [Value.ref _, Value.int _ _]) _ _ _); k_dflt (refine' pop_own ?F ?N ?v ?k ?l ?U ?_; (case F => k_asm); (case N => k_asm); (case v => assumption); (case k => assumption); (case l => assumption); (case U => k_upd); k_whole); intro h' F' N'; (try dsimp only at N')))
local macro_rules | `(tactic| walk_at "call ref") => `(tactic| (k_here; (with_reducible show wpAny _ _ (call (Value.ref 91) _ _) _ _ _); k_dflt (refine' c_acked ?k1 ?k2 ?k3 ?k4 ?k5 ?k6 ?k7 ?k8 ?k9 ?b1 ?b2 ?b3 ?b4 ?b5 ?b6 ?b7 ?b8 ?_; (case k1 => k_asm); (case k2 => k_asm); (case k3 => assumption); (case k4 => k_mem); (case k5 => k_updF); (case k6 => assumption); (case k7 => with_reducible assumption); (case k8 => (intro p9 hp9; repeat (first | exact hp9 | refine List.Mem.tail _ ?_))); (case k9 => assumption); (case b1 => omega); (case b2 => omega); (case b3 => omega); (case b4 => omega); (case b5 => omega); (case b6 => omega); (case b7 => omega); (case b8 => omega); k_whole; intro es9 n9 h9 tk9 cw9 st9 R9 D9 F9 N9; (try dsimp only at N9); refine Stop.mk ?_)))
local macro_rules | `(tactic| walk_at "exec While Compare cons nil") => `(tactic| refine Stop.mk ?_)
local macro_rules | `(tactic| walk_at "call builtin:max") => `(tactic| (k_here; (with_reducible show wpAny _ _ (call (Value.builtin _) [Value.ref _]) _ _ _); k_dflt (refine' max_own ?h ?F ?N ?m ?i ?a ?b ?_; (case h => exact rfl); (case F => k_asm); (case N => k_asm); (case m => k_mem); (case i => with_reducible assumption); (case b => with_reducible assumption); (case a => with_reducible assumption); k_whole); intro h' t' tk' F' N'))
local macro_rules | `(tactic| walk_at "call builtin:min") => `(tactic| (k_here; (with_reducible show wpAny _ _ (call (Value.builtin _) [Value.ref _]) _ _ _); k_dflt (refine' min_own ?h ?F ?N ?m ?i ?a ?b ?_; (case h => exact rfl); (case F => k_asm); (case N => k_asm); (case m => k_mem); (case i => with_reducible assumption); (case b => with_reducible assumption); (case a => with_reducible assumption); k_whole); intro h' t' tk' F' N'))
local macro_rules | `(tactic| walk_at "call builtin:min") => `(tactic| (k_here; (with_reducible show wpAny _ _ (call (Value.builtin _) [Value.int _ _, Value.int _ _]) _ _ _); k_dflt (refine' min_lo ?h ?F ?N ?c ?_; (case h => exact rfl); (case F => k_asm); (case N => k_asm); (case c => with_reducible assumption); k_whole); intro h' tk' F' N'))
local macro_rules | `(tactic| walk_at "call builtin:min") => `(tactic| (k_here; (with_reducible show wpAny _ _ (call (Value.builtin _) [Value.int _ _, Value.int _ _]) _ _ _); k_dflt (refine' min_hi ?h ?F ?N ?c ?_; (case h => exact rfl); (case F => k_asm); (case N => k_asm); (case c => with_reducible assumption); k_whole); intro h' tk' F' N'))
local macro_rules | `(tactic| walk_at "call ref") => `(tactic| ((with_reducible show wpAny _ _ (call (Value.ref 126) _ _) _ _ _); refine Stop.mk ?_))
local macro_rules | `(tactic| walk_at "subscriptTail") => `(tactic| (k_here; (with_reducible show wpAny _ _ (subscriptTail _ _ (Value.ref _) (Value.int _ _)) _ _ _); k_dflt (refine' pick_big ?N ?m ?k0 ?k1 ?l ?all ?_ ?s; (case N => k_asm); (case m => k_mem); (case k0 => assumption); (case k1 => assumption); (case l => exact Nat.lt_of_sub_eq_succ rfl); (case all => (repeat (first | exact List.forall_mem_nil _ | refine List.forall_mem_cons.mpr ⟨⟨_, _, rfl, by omega, by omega⟩, ?_⟩))); (case s => with_unfolding_all rfl); k_whole); intro o9 t9 b9 c9))
local macro_rules | `(tactic| walk_at "exec For Name Call cons nil") => `(tactic| refine Stop.mk ?_)
local macro_rules | `(tactic| walk_at "pyIter ref") => `(tactic| refine Stop.mk ?_)
section
variable {w : World} {mg mb : Str → Option Value} {mean : ExcName → Option Value} {base h₀ : Heap} {L fa : Addr} {cd : Value} {s : Shared} {E : Value → Shared → Prop} {m : Str → Option Value} {d : LD} {σ : LS} {i : Nat}
theorem br_rtt {Qt : Flow → Shared → Prop} {rst : Int} {trs : Tok} (C : Ctx w mg mb mean base h₀) (F : Fr h₀ L s.heap m) (N : News h₀ L s.heap d.led) (hF : LFr d σ m) (hL : LLed d σ) (hP : LPure σ i) (hi : i < 22) (hrest : m (Str.ofString "rest") = some (.int rst trs)) (hE : PassesOwn (model PySem.Challenge.rw_je0001_01.row.prog w) (lawA L fa cd) (lawEnv L fa cd) E)
    (k : ∀ d' σ' m' h' tk, Keeps d d' → LFr d' σ' m' → LLed d' σ' → LPure σ' (i + 1) → Fr h₀ L h' m' → News h₀ L h' d'.led → Qt .next { s with heap := h', toks := tk }) :
    wpAny (model PySem.Challenge.rw_je0001_01.row.prog w) (lawA L fa cd) (execs brRtt (lawEnv L fa cd)) Qt E s := by
  have e1 : brRtt = brRtt := rfl
  conv at e1 => rhs; whnf
  have e2 : lawScope = lawScope := rfl
  conv at e2 => rhs; whnf
  rw [e1]
  unfold lawA lawEnv
  unfold lawA lawEnv at hE
  rw [e2] at hE ⊢
  clear e1 e2
  obtain ⟨B, X, T⟩ := id C
  obtain ⟨size, now, window, carried, since, counted, rises, thr, flr, trips, rows, M⟩ := σ
  obtain ⟨reno, mon, dR, dM, smp, outA, trA, em, es, nM, n, ns, no, nt, sv, ov, tv, mx, mn, rest⟩ := d
  obtain ⟨⟨ts, hsize⟩, hreno, hout, ⟨tw, hwin⟩, hthr, ⟨tc, hcar⟩, ⟨tsi, hsin⟩, htrp, ⟨tcn, hcnt⟩, hflr, ⟨tri, hris⟩, ⟨tno, hnow⟩⟩ := id hF
  obtain ⟨qreno, qmon, qtr, itr, hrows, D, DM, ism, off1, off2, off3, off4, ne1, ne2, ne3, ne4, ne5, ne6⟩ := id hL
  obtain ⟨psize, pwlo, ppot, pclo, pslo, pshi, pnlo, prlen, prbd, pminc, pmfm, pmtime, pmlen, pmi0, pmi1, pmbd, pmfb, ptrp, pihi, prthr⟩ := id hP
  dsimp only at *
  unfold LD.led at N
  dsimp only at N
  have ha0 : 0 ≤ (rst.fdiv 4).fmod 5 := Int.fmod_nonneg_of_pos _ (by decide)
  have ha1 : (rst.fdiv 4).fmod 5 < 5 := Int.fmod_lt_of_pos _ (by decide)
  have hb0 : 0 ≤ (rst.fdiv 20).fmod 6 := Int.fmod_nonneg_of_pos _ (by decide)
  have hb1 : (rst.fdiv 20).fmod 6 < 6 := Int.fmod_lt_of_pos _ (by decide)
  k_steps
  show wpAny _ _ _ _ _ _
  (rename Fr _ _ _ _ => lF)
  refine For_invVF lF rfl rfl ?_ (hE := hE)
  k_steps
  show wpAny _ _ _ _ _ _
  (rename Fr _ _ _ _ => lF)
  (rename News _ _ _ _ => lN)
  (rename IsRange _ _ _ _ _ _ _ _ => rgX)
  rename Int => trip
  have hLz := hL
  refine range_LD (d := ⟨reno, mon, dR, dM, smp, outA, trA, em, es, nM, n, ns, no, nt, sv, ov, tv, mx, mn, rest⟩) (fun _ d σ m => LFr d σ m ∧ LPure σ i ∧ (∃ tt, m (Str.ofString "trip") = some (.int trip tt)) ∧ m (Str.ofString "rest") = some (.int rst trs)) (fun _ _ _ _ _ h => ⟨h.1.rest, h.2⟩) rfl rgX (small_one (by omega) (by omega) (by omega) (by omega)) (rangeSize_nat _ _) lF (news_sub lN (by dsimp only [LD.led]; refine List.forall_mem_cons.mpr ⟨by k_mem, List.forall_mem_cons.mpr ⟨by k_mem, List.forall_mem_cons.mpr ⟨by k_mem, List.forall_mem_cons.mpr ⟨by k_mem, ?_⟩⟩⟩⟩; intro p9 hp9; repeat (first | exact hp9 | refine List.Mem.tail _ ?_))) hL ⟨hF.set (by decide +kernel), hP, ⟨_, by exact rfl⟩, by exact hrest⟩ ?_ ?_
  · clear lF lN k
    rintro i' v d₁ σ₁ m₁ h tk Qt hlt hL₁ ⟨hF₁, hP₁, ⟨tt, ht⟩, hr⟩ F₁ N₁ kk
    dsimp only [envOf] at F₁ N₁ kk
    exact rtt_step C F₁ N₁ (hF₁.set (by decide +kernel)) hL₁ hP₁ (by exact ht) (by exact hr) ⟨by assumption, by assumption⟩ (fun d' σ' m' h' tk' K F' L' P' t' r' Fr' N' => kk d' σ' m' h' tk' K L' ⟨F', P', ⟨_, t'⟩, r'⟩ Fr' N')
  · clear lF lN
    rintro d₁ σ₁ m₁ h tk K hL₁ ⟨hF₁, hP₁, _, _⟩ F₁ N₁
    k_steps
    exact k d₁ σ₁ m₁ _ _ K hF₁ hL₁ (hP₁.succ hi) F₁ N₁
end

end
section
local macro_rules | `(tactic| walk_at "no such key") => `(tactic| fail)
local macro_rules | `(tactic| walk_at "no such key") => `(tactic| fail)
local macro_rules | `(tactic| walk_at "no such key") => `(tactic| fail)
local macro_rules | `(tactic| walk_at "no such key") => `(tactic| fail)
local macro_rules | `(tactic| walk_at "no such key") => `(tactic| fail)
local macro_rules | `(tactic| walk_at "no such key") => `(tactic| fail)
local macro_rules | `(tactic| walk_at "no such key") => `(tactic| fail)
theorem back15 : True := by
  w_top off
  trivial
local macro_rules | `(tactic| k_all) => `(tactic| assumption)
local macro_rules | `(tactic| k_get) => `(tactic| ((with_reducible refine (getL_put_ne (by decide +kernel)).trans ?_); k_get))
local macro_rules | `(tactic| k_get) => `(tactic| with_reducible exact getL_put_same)
local macro_rules | `(tactic| k_get) => `(tactic| with_reducible assumption)
local macro_rules | `(tactic| walk_at "setAttr ref") => `(tactic| (k_here; k_dflt (refine' set_dictA ?k1 ?k2 ?k3 ?k4 ?k5 ?k6 ?k7 ?k8 ?k9 ?k10 ?k11 ?k12 ?_; (case k1 => k_asm); (case k2 => k_asm); (case k3 => k_asm); (case k4 => k_inst); (case k5 => exact rfl); (case k6 => k_is); (case k7 => k_is); (case k8 => k_is); (case k9 => k_is); (case k10 => (refine' getL_some ?g; (case g => ((repeat (with_reducible refine (getL_put_ne (by decide +kernel)).trans ?_)); with_reducible first | assumption | exact getL_put_same)))); (case k11 => k_updF); (case k12 => (refine lt_put0 ?_; repeat (first | omega | refine lt_put ?_))); k_whole; intro h' hsh' t' n' F' N'; (try dsimp only at N'); (try k_sweep))))
local macro_rules | `(tactic| k_mem) => `(tactic| ((show (_ : Addr × Obj) ∈ (_ : List (Addr × Obj))); ktr_member))
local macro_rules | `(tactic| walk_at "eval Name") => `(tactic| (k_here; k_dflt (refine' ld ?k1 ?k2 ?_; (case k1 => k_asm); (case k2 => first | with_reducible assumption | ((with_reducible show (ite _ _ _) = _); (repeat (with_reducible refine (if_neg (by decide +kernel)).trans ?_)); with_reducible first | assumption | exact if_pos rfl)); k_whole)))
local macro_rules | `(tactic| walk_at "loadName") => `(tactic| (k_here; k_dflt (refine' ldn ?k1 ?k2 ?_; (case k1 => k_asm); (case k2 => first | with_reducible assumption | ((with_reducible show (ite _ _ _) = _); (repeat (with_reducible refine (if_neg (by decide +kernel)).trans ?_)); with_reducible first | assumption | exact if_pos rfl)); k_whole)))
local macro_rules | `(tactic| walk_at "call ref") => `(tactic| (k_here; (with_reducible show wpAny _ _ (call (Value.ref 119) _ _) _ _ _); k_dflt (refine' c_persist ?k1 ?k2 ?k3 ?k4 ?k5 ?k6 ?k7 ?k8 ?_; (case k1 => k_asm); (case k2 => k_asm); (case k3 => assumption); (case k4 => k_mem); (case k5 => k_updF); (case k6 => assumption); (case k7 => omega); (case k8 => omega); k_whole; intro es9 n9 h9 tk9 D9 F9 N9; (try dsimp only at N9))))
local macro_rules | `(tactic| walk_at "subscriptTail Name Slice ref ref") => `(tactic| (k_here; (with_reducible show wpAny _ _ (subscriptTail _ (PySem.Expr.Slice _ _ none _) (Value.ref _) (Value.ref _)) _ _ _); k_dflt (refine' slice_own ?F ?N ?m ?p ?q ?z ?e ?_ ?s ?t; (case F => k_asm); (case N => k_asm); (case m => k_mem); (case p => kmk_part); (case q => kmk_part); (case z => first | assumption | (simp only [List.length_cons, List.length_nil]; omega)); (case e => assumption); (case s => with_unfolding_all rfl); (case t => kmk_pure)); intro D' h' F' N' l1; (try k_lt l1); (try k_sweep)))
local macro_rules | `(tactic| walk_at "call ref") => `(tactic| (k_here; (with_reducible show wpAny _ _ (call (Value.ref 105) _ _) _ _ _); k_dflt (refine' c_expired ?k1 ?k2 ?k3 ?k4 ?k5 ?k6 ?k7 ?k11 ?k8 ?k9 ?k10 ?_; (case k1 => k_asm); (case k2 => k_asm); (case k3 => assumption); (case k4 => k_mem); (case k5 => k_updF); (case k6 => assumption); (case k7 => k_mem); (case k11 => omega); (case k8 => with_reducible assumption); (case k9 => (intro p9 hp9; repeat (first | exact hp9 | refine List.Mem.tail _ ?_))); (case k10 => assumption); k_whole; intro es9 n9 h9 tk9 D9 F9 N9; (try dsimp only at N9))))
local macro_rules | `(tactic| walk_at "CompSrc") => `(tactic| (k_here; k_dflt (refine LCg.CompSrc.ledger (by rfl) (by k_asm) (by k_asm) (by k_mem) (by (simp only [List.size_toArray, List.length_take, sizeLine_eq]; omega)) ?_); intro g'; k_dflt (refine' comp_row0 ?hI ?hsub ?hm ?hfn ?hlo ?hx ?_; (case hI => assumption); (case hsub => (intro p9 hp9; repeat (first | exact hp9 | refine List.Mem.tail _ ?_))); (case hm => k_mem); (case hfn => (intro C9; rfl)); (case hlo => (intro C9; rfl)); (case hx => decide)); k_whole; intro D' h' tk' F' N' off'; (try simp only [LCg.Off1, and_true] at off')))
local macro_rules | `(tactic| walk_at "CompSrc") => `(tactic| (k_here; k_dflt (refine LCg.CompSrc.ledger (by rfl) (by k_asm) (by k_asm) (by k_mem) (by (simp only [List.size_toArray, List.length_take, sizeLine_eq]; omega)) ?_); intro g'; k_dflt (refine' comp_row2 ?hI ?hsub ?hm ?hfn ?hlo ?hx ?_; (case hI => assumption); (case hsub => (intro p9 hp9; repeat (first | exact hp9 | refine List.Mem.tail _ ?_))); (case hm => k_mem); (case hfn => (intro C9; rfl)); (case hlo => (intro C9; rfl)); (case hx => decide)); k_whole; intro D' h' tk' F' N' off'; (try simp only [LCg.Off1, and_true] at off')))
local macro_rules | `(tactic| walk_at "call builtin:len") => `(tactic| (k_here; (with_reducible show wpAny _ _ (call (Value.builtin "len") [Value.ref _]) _ _ _); k_dflt (refine' len_own ?N ?m ?z ?_; (case N => k_asm); (case m => k_mem); (case z => first | assumption | (simp only [List.length_take, List.length_drop, List.length_cons, List.length_nil]; omega)); k_whole)))
local macro_rules | `(tactic| walk_at "binaryOp Add ref ref") => `(tactic| (k_here; (with_reducible show wpAny _ _ (binaryOp _ (Value.ref _) (Value.ref _)) _ _ _); k_dflt (refine' add_own ?F ?N ?a ?b ?z1 ?z2 ?_; (case F => k_asm); (case N => k_asm); (case a => k_mem); (case b => k_mem); (case z1 => first | assumption | exact Nat.le_of_ble_eq_true rfl); (case z2 => first | assumption | exact Nat.le_of_ble_eq_true rfl); k_whole); intro D' h' F' N' l1; (try k_lt l1); (try k_sweep)))
local macro_rules | `(tactic| walk_at "subscriptTail") => `(tactic| (k_here; (with_reducible show wpAny _ _ (subscriptTail _ _ (Value.ref _) (Value.int _ _)) _ _ _); k_dflt (refine' last_own ?N ?m ?k ?l ?z ?x ?_ ?s; (case N => k_asm); (case m => k_mem); (case k => rfl); (case l => assumption); (case z => assumption); (case x => assumption); (case s => with_unfolding_all rfl); k_whole)))
local macro_rules | `(tactic| walk_at "call ref") => `(tactic| (k_here; (with_reducible show wpAny _ _ (call (Value.ref 112) _ _) _ _ _); k_dflt (refine' c_lost ?k1 ?k2 ?k3 ?k4 ?k5 ?k6 ?k7 ?k11 ?k8 ?k9 ?k10 ?k12 ?k13 ?k14 ?k15 ?_; (case k1 => k_asm); (case k2 => k_asm); (case k3 => assumption); (case k4 => k_mem); (case k5 => k_updF); (case k6 => assumption); (case k7 => k_mem); (case k11 => omega); (case k8 => with_reducible assumption); (case k9 => (intro p9 hp9; repeat (first | exact hp9 | refine List.Mem.tail _ ?_))); (case k10 => assumption); (case k12 => omega); (case k13 => omega); (case k14 => omega); (case k15 => omega); k_whole; intro es9 n9 h9 tk9 cr9 cw9 ss9 R9 D9 F9 N9; (try dsimp only at N9); (rcases R9 with ⟨c9, r1, r2, r3⟩ | ⟨c9, r1, r2, r3⟩) <;> (replace r1 := Eq.symm r1; subst r1; replace r2 := Eq.symm r2; subst r2; replace r3 := Eq.symm r3; subst r3))))
local macro_rules | `(tactic| walk_at "subscriptTail") => `(tactic| (k_here; (with_reducible show wpAny _ _ (subscriptTail _ _ (Value.ref _) (Value.int _ _)) _ _ _); k_dflt (refine' pick_own ?N ?m ?k0 ?k1 ?l ?all ?_ ?s; (case N => k_asm); (case m => k_mem); (case k0 => assumption); (case k1 => assumption); (case l => exact Nat.lt_of_sub_eq_succ rfl); (case all => (repeat (first | exact List.forall_mem_nil _ | refine List.forall_mem_cons.mpr ⟨⟨_, _, rfl, by omega, by omega⟩, ?_⟩))); (case s => with_unfolding_all rfl); k_whole); intro o9 t9 b9 c9))
local macro_rules | `(tactic| walk_at "call ref") => `(tactic| (k_here; (with_reducible show wpAny _ _ (call (Value.ref 98) _ _) _ _ _); k_dflt (refine' c_sent (tl := [(_, instObj 177 _), (_, dictOf _ _)]) ?k1 ?k2 ?k3 ?k4 ?k5 ?k6 ?k7 ?k8 ?k9 ?_; (case k1 => k_asm); (case k2 => k_asm); (case k3 => assumption); (case k4 => k_mem); (case k5 => k_updF); (case k6 => assumption); (case k8 => refine List.forall_mem_cons.mpr ⟨by k_mem, List.forall_mem_cons.mpr ⟨by k_mem, List.forall_mem_nil _⟩⟩); (case k7 => exact ⟨_, _, _, .head _, .tail _ (.head _), ⟨⟨_, by k_get⟩, ⟨_, by k_get⟩⟩⟩); (case k9 => (intro p9 hp9; rcases List.mem_cons.mp hp9 with h9 | hp9; (subst h9; k_ne); rcases List.mem_cons.mp hp9 with h9 | hp9; (subst h9; k_ne); exact nomatch hp9)); k_whole; intro es9 n9 h9 tk9 D9 F9 N9; (try dsimp only at N9))))
local macro_rules | `(tactic| walk_at "call builtin:list.pop") => `(tactic| (k_here; (with_reducible show wpAny _ _ (call (Value.builtin _) [Value.ref _, Value.int _ _]) _ _ _); k_dflt (refine' pop_own ?F ?N ?v ?k ?l ?U ?_; (case F => k_asm); (case N => k_asm); (case v => assumption); (case k => assumption); (case l => assumption); (case U => k_upd); k_whole); intro h' F' N'; (try dsimp only at N')))
local macro_rules | `(tactic| walk_at "call ref") => `(tactic| (k_here; (with_reducible show wpAny _ _ (call (Value.ref 91) _ _) _ _ _); k_dflt (refine' c_acked ?k1 ?k2 ?k3 ?k4 ?k5 ?k6 ?k7 ?k8 ?k9 ?b1 ?b2 ?b3 ?b4 ?b5 ?b6 ?b7 ?b8 ?_; (case k1 => k_asm); (case k2 => k_asm); (case k3 => assumption); (case k4 => k_mem); (case k5 => k_updF); (case k6 => assumption); (case k7 => with_reducible assumption); (case k8 => (intro p9 hp9; repeat (first | exact hp9 | refine List.Mem.tail _ ?_))); (case k9 => assumption); (case b1 => omega); (case b2 => omega); (case b3 => omega); (case b4 => omega); (case b5 => omega); (case b6 => omega); (case b7 => omega); (case b8 => omega); k_whole; intro es9 n9 h9 tk9 cw9 st9 R9 D9 F9 N9; (try dsimp only at N9); refine Stop.mk ?_)))
local macro_rules | `(tactic| walk_at "exec While Compare cons nil") => `(tactic| refine Stop.mk ?_)
local macro_rules | `(tactic| walk_at "call builtin:max") => `(tactic| (k_here; (with_reducible show wpAny _ _ (call (Value.builtin _) [Value.ref _]) _ _ _); k_dflt (refine' max_own ?h ?F ?N ?m ?i ?a ?b ?_; (case h => exact rfl); (case F => k_asm); (case N => k_asm); (case m => k_mem); (case i => with_reducible assumption); (case b => with_reducible assumption); (case a => with_reducible assumption); k_whole); intro h' t' tk' F' N'))
local macro_rules | `(tactic| walk_at "call builtin:min") => `(tactic| (k_here; (with_reducible show wpAny _ _ (call (Value.builtin _) [Value.ref _]) _ _ _); k_dflt (refine' min_own ?h ?F ?N ?m ?i ?a ?b ?_; (case h => exact rfl); (case F => k_asm); (case N => k_asm); (case m => k_mem); (case i => with_reducible assumption); (case b => with_reducible assumption); (case a => with_reducible assumption); k_whole); intro h' t' tk' F' N'))
local macro_rules | `(tactic| walk_at "call builtin:min") => `(tactic| (k_here; (with_reducible show wpAny _ _ (call (Value.builtin _) [Value.int _ _, Value.int _ _]) _ _ _); k_dflt (refine' min_lo ?h ?F ?N ?c ?_; (case h => exact rfl); (case F => k_asm); (case N => k_asm); (case c => with_reducible assumption); k_whole); intro h' tk' F' N'))
local macro_rules | `(tactic| walk_at "call builtin:min") => `(tactic| (k_here; (with_reducible show wpAny _ _ (call (Value.builtin _) [Value.int _ _, Value.int _ _]) _ _ _); k_dflt (refine' min_hi ?h ?F ?N ?c ?_; (case h => exact rfl); (case F => k_asm); (case N => k_asm); (case c => with_reducible assumption); k_whole); intro h' tk' F' N'))
local macro_rules | `(tactic| walk_at "call ref") => `(tactic| ((with_reducible show wpAny _ _ (call (Value.ref 126) _ _) _ _ _); refine Stop.mk ?_))
local macro_rules | `(tactic| walk_at "execs cons") => `(tactic| refine Stop.mk ?_)
section
variable {w : World} {mg mb : Str → Option Value} {mean : ExcName → Option Value} {base h₀ : Heap} {L fa : Addr} {cd : Value} {s : Shared} {E : Value → Shared → Prop} {m : Str → Option Value} {d : LD} {σ : LS} {i : Nat}
theorem turn_if {Qt : Flow → Shared → Prop} {kd rst : Int} {tk trs tti : Tok} (C : Ctx w mg mb mean base h₀) (F : Fr h₀ L s.heap m) (N : News h₀ L s.heap d.led) (hF : LFr d σ m) (hL : LLed d σ) (hP : LPure σ i) (hi : i < 22)
    (hkind : m (Str.ofString "kind") = some (.int kd tk)) (hrest : m (Str.ofString "rest") = some (.int rst trs)) (hturn : m (Str.ofString "turn") = some (.int (i : Int) tti)) (hE : PassesOwn (model PySem.Challenge.rw_je0001_01.row.prog w) (lawA L fa cd) (lawEnv L fa cd) E)
    (k : ∀ d' σ' m' h' tk, Keeps d d' → LFr d' σ' m' → LLed d' σ' → LPure σ' (i + 1) → Fr h₀ L h' m' → News h₀ L h' d'.led → Qt .next { s with heap := h', toks := tk }) :
    wpAny (model PySem.Challenge.rw_je0001_01.row.prog w) (lawA L fa cd) (execs (turnBody.drop 3) (lawEnv L fa cd)) Qt E s := by
  have e1 : turnBody.drop 3 = turnBody.drop 3 := rfl
  conv at e1 => rhs; whnf
  have e2 : lawScope = lawScope := rfl
  conv at e2 => rhs; whnf
  rw [e1]
  unfold lawA lawEnv
  rw [e2]
  clear e1 e2
  obtain ⟨B, X, T⟩ := id C
  (show wpAny _ _ _ _ _ _; with_reducible refine wpAny_execs_cons ?_)
  have fin : ∀ d' σ' m' h' tk, Keeps d d' → LFr d' σ' m' → LLed d' σ' → LPure σ' (i + 1) → Fr h₀ L h' m' → News h₀ L h' d'.led → wpAny (model PySem.Challenge.rw_je0001_01.row.prog w) (lawA L fa cd) (execs brCheck (lawEnv L fa cd)) Qt E { s with heap := h', toks := tk } :=
    fun d' σ' m' h' tk K F' L' P' Fr' N' => check_ok C Fr' N' F' L' P' (fun h2 tk2 F2 N2 => k d' σ' m' h2 tk2 K F' L' P' F2 N2)
  clear k
  by_cases c1 : kd < 2
  · k_steps
    (try any_goals (exfalso; omega))
    show wpAny _ _ _ _ _ _
    (rename Fr _ _ _ _ => kF9)
    (rename News _ _ _ _ => kN9)
    refine br_send C kF9 kN9 hF hL hP hi hrest hturn (by omega) (by omega) ?_
    intro d' σ' m' h' tk' K F' L' P' Fr' N'
    first | exact fin _ _ _ _ _ K F' L' P' Fr' N' | (k_steps; exact fin _ _ _ _ _ K F' L' P' Fr' N')
  · by_cases c2 : kd < 4
    · k_steps
      (try any_goals (exfalso; omega))
      (show wpAny _ _ _ _ _ _; with_reducible refine wpAny_execs_cons ?_)
      k_steps
      (try any_goals (exfalso; omega))
      show wpAny _ _ _ _ _ _
      (rename Fr _ _ _ _ => kF9)
      (rename News _ _ _ _ => kN9)
      refine br_ack C kF9 kN9 hF hL hP hi hrest hE ?_
      intro d' σ' m' h' tk' K F' L' P' Fr' N'
      first | exact fin _ _ _ _ _ K F' L' P' Fr' N' | (k_steps; exact fin _ _ _ _ _ K F' L' P' Fr' N')
    · by_cases c3 : kd = 4
      · k_steps
        (try any_goals (exfalso; omega))
        (show wpAny _ _ _ _ _ _; with_reducible refine wpAny_execs_cons ?_)
        k_steps
        (try any_goals (exfalso; omega))
        (show wpAny _ _ _ _ _ _; with_reducible refine wpAny_execs_cons ?_)
        k_steps
        (try any_goals (exfalso; omega))
        show wpAny _ _ _ _ _ _
        (rename Fr _ _ _ _ => kF9)
        (rename News _ _ _ _ => kN9)
        refine br_lost C kF9 kN9 hF hL hP hi hrest ?_
        intro d' σ' m' h' tk' K F' L' P' Fr' N'
        first | exact fin _ _ _ _ _ K F' L' P' Fr' N' | (k_steps; exact fin _ _ _ _ _ K F' L' P' Fr' N')
      · by_cases c4 : kd = 5
        · by_cases c5 : rst.fmod 2 = 0
          · k_steps
            (try any_goals (exfalso; omega))
            (show wpAny _ _ _ _ _ _; with_reducible refine wpAny_execs_cons ?_)
            k_steps
            (try any_goals (exfalso; omega))
            (show wpAny _ _ _ _ _ _; with_reducible refine wpAny_execs_cons ?_)
            k_steps
            (try any_goals (exfalso; omega))
            (show wpAny _ _ _ _ _ _; with_reducible refine wpAny_execs_cons ?_)
            k_steps
            (try any_goals (exfalso; omega))
            show wpAny _ _ _ _ _ _
            (rename Fr _ _ _ _ => kF9)
            (rename News _ _ _ _ => kN9)
            refine br_exp C kF9 kN9 hF hL hP hi hrest ?_
            intro d' σ' m' h' tk' K F' L' P' Fr' N'
            first | exact fin _ _ _ _ _ K F' L' P' Fr' N' | (k_steps; exact fin _ _ _ _ _ K F' L' P' Fr' N')
          · k_steps
            (try any_goals (exfalso; omega))
            (show wpAny _ _ _ _ _ _; with_reducible refine wpAny_execs_cons ?_)
            k_steps
            (try any_goals (exfalso; omega))
            (show wpAny _ _ _ _ _ _; with_reducible refine wpAny_execs_cons ?_)
            k_steps
            (try any_goals (exfalso; omega))
            (show wpAny _ _ _ _ _ _; with_reducible refine wpAny_execs_cons ?_)
            k_steps
            (try any_goals (exfalso; omega))
            (show wpAny _ _ _ _ _ _; with_reducible refine wpAny_execs_cons ?_)
            k_steps
            (try any_goals (exfalso; omega))
            show wpAny _ _ _ _ _ _
            (rename Fr _ _ _ _ => kF9)
            (rename News _ _ _ _ => kN9)
            refine br_pers C kF9 kN9 hF hL hP hi ?_
            intro d' σ' m' h' tk' K F' L' P' Fr' N'
            first | exact fin _ _ _ _ _ K F' L' P' Fr' N' | (k_steps; exact fin _ _ _ _ _ K F' L' P' Fr' N')
        · k_steps
          (try any_goals (exfalso; omega))
          (show wpAny _ _ _ _ _ _; with_reducible refine wpAny_execs_cons ?_)
          k_steps
          (try any_goals (exfalso; omega))
          (show wpAny _ _ _ _ _ _; with_reducible refine wpAny_execs_cons ?_)
          k_steps
          (try any_goals (exfalso; omega))
          (show wpAny _ _ _ _ _ _; with_reducible refine wpAny_execs_cons ?_)
          k_steps
          (try any_goals (exfalso; omega))
          (show wpAny _ _ _ _ _ _; with_reducible refine wpAny_execs_cons ?_)
          k_steps
          (try any_goals (exfalso; omega))
          show wpAny _ _ _ _ _ _
          (rename Fr _ _ _ _ => kF9)
          (rename News _ _ _ _ => kN9)
          refine br_rtt C kF9 kN9 hF hL hP hi hrest hE ?_
          intro d' σ' m' h' tk' K F' L' P' Fr' N'
          first | exact fin _ _ _ _ _ K F' L' P' Fr' N' | (k_steps; exact fin _ _ _ _ _ K F' L' P' Fr' N')
theorem turn_ok {Qt : Flow → Shared → Prop} {num : Int} {tn tti : Tok} (C : Ctx w mg mb mean base h₀) (F : Fr h₀ L s.heap m) (N : News h₀ L s.heap d.led) (hF : LFr d σ m) (hL : LLed d σ) (hP : LPure σ i) (hi : i < 22)
    (hnum : m (Str.ofString "number") = some (.int num tn)) (hturn : m (Str.ofString "turn") = some (.int (i : Int) tti)) (hE : PassesOwn (model PySem.Challenge.rw_je0001_01.row.prog w) (lawA L fa cd) (lawEnv L fa cd) E)
    (k : ∀ d' σ' m' h' tk, Keeps d d' → LFr d' σ' m' → LLed d' σ' → LPure σ' (i + 1) → Fr h₀ L h' m' → News h₀ L h' d'.led → Qt .next { s with heap := h', toks := tk }) :
    wpAny (model PySem.Challenge.rw_je0001_01.row.prog w) (lawA L fa cd) (execs turnBody (lawEnv L fa cd)) Qt E s := by
  have e1 : turnBody = turnBody := rfl
  conv at e1 => rhs; whnf
  have e2 : lawScope = lawScope := rfl
  conv at e2 => rhs; whnf
  rw [e1]
  unfold lawA lawEnv
  rw [e2]
  clear e1 e2
  obtain ⟨B, X, T⟩ := id C
  obtain ⟨size, now, window, carried, since, counted, rises, thr, flr, trips, rows, M⟩ := σ
  obtain ⟨reno, mon, dR, dM, smp, outA, trA, em, es, nM, n, ns, no, nt, sv, ov, tv, mx, mn, rest⟩ := d
  obtain ⟨⟨ts, hsize⟩, hreno, hout, ⟨tw, hwin⟩, hthr, ⟨tc, hcar⟩, ⟨tsi, hsin⟩, htrp, ⟨tcn, hcnt⟩, hflr, ⟨tri, hris⟩, ⟨tno, hnow⟩⟩ := id hF
  obtain ⟨qreno, qmon, qtr, itr, hrows, D, DM, ism, off1, off2, off3, off4, ne1, ne2, ne3, ne4, ne5, ne6⟩ := id hL
  obtain ⟨psize, pwlo, ppot, pclo, pslo, pshi, pnlo, prlen, prbd, pminc, pmfm, pmtime, pmlen, pmi0, pmi1, pmbd, pmfb, ptrp, pihi, prthr⟩ := id hP
  clear hF hL hP
  dsimp only at *
  unfold LD.led at N
  dsimp only at N
  have ha0 : 0 ≤ (num.fdiv 8).fmod 3 := Int.fmod_nonneg_of_pos _ (by decide)
  have ha1 : (num.fdiv 8).fmod 3 < 3 := Int.fmod_lt_of_pos _ (by decide)
  have hthr0 := hthr
  have hflr0 := hflr
  (show wpAny _ _ _ _ _ _; with_reducible refine wpAny_execs_cons ?_)
  k_steps
  (try any_goals (exfalso; omega))
  (show wpAny _ _ _ _ _ _; with_reducible refine wpAny_execs_cons ?_)
  k_steps
  (try any_goals (exfalso; omega))
  (show wpAny _ _ _ _ _ _; with_reducible refine wpAny_execs_cons ?_)
  k_steps
  (try any_goals (exfalso; omega))
  show wpAny _ _ _ _ _ _
  (rename Fr _ _ _ _ => kF9)
  (rename News _ _ _ _ => kN9)
  rename Int => o9
  refine turn_if (d := ⟨reno, mon, dR, dM, smp, outA, trA, em, es, nM, n, ns, no, nt, sv, ov, tv, mx, mn, rest⟩) (σ := ⟨size, (now + o9), window, carried, since, counted, rises, thr, flr, trips, rows, M⟩) C kF9 (news_sub kN9 (by dsimp only [LD.led]; refine List.forall_mem_cons.mpr ⟨by k_mem, List.forall_mem_cons.mpr ⟨by k_mem, List.forall_mem_cons.mpr ⟨by k_mem, List.forall_mem_cons.mpr ⟨by k_mem, ?_⟩⟩⟩⟩; intro p9 hp9; repeat (first | exact hp9 | refine List.Mem.tail _ ?_))) ⟨(by first | exact ⟨_, hsize⟩ | exact ⟨_, rfl⟩), (by first | exact hreno | exact rfl), (by first | exact hout | exact rfl), (by first | exact ⟨_, hwin⟩ | exact ⟨_, rfl⟩), (by first | exact OptAt.keep hthr0 rfl | exact .inl ⟨_, _, rfl, rfl⟩), (by first | exact ⟨_, hcar⟩ | exact ⟨_, rfl⟩), (by first | exact ⟨_, hsin⟩ | exact ⟨_, rfl⟩), (by first | exact htrp | exact rfl), (by first | exact ⟨_, hcnt⟩ | exact ⟨_, rfl⟩), (by first | exact OptAt.keep hflr0 rfl | exact .inl ⟨_, _, rfl, rfl⟩), (by first | exact ⟨_, hris⟩ | exact ⟨_, rfl⟩), (by first | exact ⟨_, hnow⟩ | exact ⟨_, rfl⟩)⟩ ⟨qreno, qmon, qtr, itr, hrows, D, DM, ism, off1, off2, off3, off4, ne1, ne2, ne3, ne4, ne5, ne6⟩ ⟨psize, by dsimp only; omega, by dsimp only; omega, by dsimp only; omega, by dsimp only; omega, by dsimp only; omega, by dsimp only; omega, by dsimp only; omega, prbd, pminc, pmfm, pmtime, pmlen, pmi0, pmi1, pmbd, pmfb, ptrp, pihi, prthr⟩ hi (by exact rfl) (by exact rfl) (by exact hturn) hE ?_
  exact k
end

end
theorem wpAt_MethodCallKW {M : Model} {A : Around} {c : Code} {E : Value → Shared → Prop} {s : Shared} {env : Env} {o : Expr} {name : Str} {apos pos : Pos} {args : List Expr} {kws : List Keyword} {pl : Sem Bool} {Q : Value → Shared → Prop}
    (h : _root_.PySem.wpAt M A c (attributeBase o name env (eval o env)) (fun ov s₁ => wpAny M A (getMethod ov name pl) (fun fx s₂ => wpAny M A (callWith pos fx.1 fx.2 (backTo pos (starEach args env)) (backToKw pos (keywordEach kws env))) Q E s₂) E s₁) E s)
    (he : eval (.Call (.Attribute o name apos) args kws pos) env = (do
      let ov ← attributeBase o name env (eval o env)
      standAt apos.atName
      let (f, first) ← holding [ov] (getMethod ov name pl)
      callWith pos f first (backTo pos (starEach args env)) (backToKw pos (keywordEach kws env))) := by rfl) :
    _root_.PySem.wpAt M A c (eval (.Call (.Attribute o name apos) args kws pos) env) Q E s := by
  rw [he]
  refine PySem.wpAt_bind (ks_wpAt_mono h (fun ov s₁ h₁ => wpAt_of_wpAny (wpAny_bind (wpAny_standAt (wpAny_bind (wpAny_holding (wpAny_mono h₁ (fun fx s₂ h₂ => ?_) fun _ _ x => x)))))) fun _ _ x => x)
  exact h₂
theorem callWith_MKW0 {K : Frag} {M : Model} {A : Around} {E : Value → Shared → Prop} {s : Shared} {env : Env} {pos : Pos} {first : List Value} {Q : Value → Shared → Prop} {q g : Addr} {self : Value} {kws : List Keyword} (hf : fnIn K g = true) (hall : (backToKw pos (keywordEach kws env)).all (·.1.isSome) = true)
    (h : wpAny M A (evalAll ((backToKw pos (keywordEach kws env)).map (·.2))) (fun ks s₂ => MethP K q g self s₂.heap ∧ wpAny M A (call (.ref q) (first ++ []) (((backToKw pos (keywordEach kws env)).filterMap (·.1)).zip ks)) Q E s₂) E s)
    (hplain : ((backTo pos (starEach [] env)).any (·.1) || (backToKw pos (keywordEach kws env)).any (·.1.isNone)) = false := by rfl) :
    wpAny M A (callWith pos (.ref q) first (backTo pos (starEach [] env)) (backToKw pos (keywordEach kws env))) Q E s :=
  callWith_of hplain (keeps_M hf) (evalArgs_kw2_nil hall h)
theorem callWith_MKW {h₀ h : Heap} {L : Addr} {news : List (Addr × Obj)} {K : Frag} {M : Model} {A : Around} {E : Value → Shared → Prop} {s : Shared} {env : Env} {pos : Pos} {first : List Value} {Q : Value → Shared → Prop} {q g : Addr} {self : Value} {kws : List Keyword} (_N : News h₀ L h news) (_q : (q, methodObj (.ref g) self) ∈ news) (hf : fnIn K g = true) (hall : (backToKw pos (keywordEach kws env)).all (·.1.isSome) = true)
    (h : wpAny M A (evalAll ((backToKw pos (keywordEach kws env)).map (·.2))) (fun ks s₂ => MethP K q g self s₂.heap ∧ wpAny M A (call (.ref q) (first ++ []) (((backToKw pos (keywordEach kws env)).filterMap (·.1)).zip ks)) Q E s₂) E s)
    (hplain : ((backTo pos (starEach [] env)).any (·.1) || (backToKw pos (keywordEach kws env)).any (·.1.isNone)) = false := by rfl) :
    wpAny M A (callWith pos (.ref q) first (backTo pos (starEach [] env)) (backToKw pos (keywordEach kws env))) Q E s := callWith_MKW0 hf hall h hplain
section
local macro_rules | `(tactic| walk_at "no such key") => `(tactic| fail)
local macro_rules | `(tactic| walk_at "no such key") => `(tactic| fail)
local macro_rules | `(tactic| walk_at "no such key") => `(tactic| fail)
theorem back16 : True := by
  w_top off
  trivial
local macro_rules | `(tactic| k_all) => `(tactic| assumption)
local macro_rules | `(tactic| k_get) => `(tactic| ((with_reducible refine (getL_put_ne (by decide +kernel)).trans ?_); k_get))
local macro_rules | `(tactic| k_get) => `(tactic| with_reducible exact getL_put_same)
local macro_rules | `(tactic| k_get) => `(tactic| with_reducible assumption)
local macro_rules | `(tactic| walk_at "setAttr ref") => `(tactic| (k_here; k_dflt (refine' set_dictA ?k1 ?k2 ?k3 ?k4 ?k5 ?k6 ?k7 ?k8 ?k9 ?k10 ?k11 ?k12 ?_; (case k1 => k_asm); (case k2 => k_asm); (case k3 => k_asm); (case k4 => k_inst); (case k5 => exact rfl); (case k6 => k_is); (case k7 => k_is); (case k8 => k_is); (case k9 => k_is); (case k10 => (refine' getL_some ?g; (case g => ((repeat (with_reducible refine (getL_put_ne (by decide +kernel)).trans ?_)); with_reducible first | assumption | exact getL_put_same)))); (case k11 => k_updF); (case k12 => (refine lt_put0 ?_; repeat (first | omega | refine lt_put ?_))); k_whole; intro h' hsh' t' n' F' N'; (try dsimp only at N'); (try k_sweep))))
local macro_rules | `(tactic| k_mem) => `(tactic| ((show (_ : Addr × Obj) ∈ (_ : List (Addr × Obj))); ktr_member))
local macro_rules | `(tactic| walk_at "eval Name") => `(tactic| (k_here; k_dflt (refine' ld ?k1 ?k2 ?_; (case k1 => k_asm); (case k2 => first | with_reducible assumption | ((with_reducible show (ite _ _ _) = _); (repeat (with_reducible refine (if_neg (by decide +kernel)).trans ?_)); with_reducible first | assumption | exact if_pos rfl)); k_whole)))
local macro_rules | `(tactic| walk_at "loadName") => `(tactic| (k_here; k_dflt (refine' ldn ?k1 ?k2 ?_; (case k1 => k_asm); (case k2 => first | with_reducible assumption | ((with_reducible show (ite _ _ _) = _); (repeat (with_reducible refine (if_neg (by decide +kernel)).trans ?_)); with_reducible first | assumption | exact if_pos rfl)); k_whole)))
local macro_rules | `(tactic| walk_at "wpAt") => `(tactic| (ks_step "eval Call"; refine wpAt_MethodCallKW ?_))
local macro_rules | `(tactic| walk_at "callWith ref") => `(tactic| (k_here; k_dflt (refine' callWith_MKW (K := Mine.hd.heap_1 _) ?k1 ?k2 ?k3 ?k4 ?_; (case k1 => k_asm); (case k2 => k_mem); (case k3 => k_is); (case k4 => exact rfl); k_whole)))
local macro_rules | `(tactic| walk_at "call type:enumerate") => `(tactic| refine Stop.mk ?_)
def lawFor : Stmt := (lawBody.drop 13).headD (.Pass default)
section
variable {w : World} {mg mb : Str → Option Value} {mean : ExcName → Option Value} {base h₀ : Heap} {L fa : Addr} {cd : Value} {s : Shared} {E : Value → Shared → Prop} {m : Str → Option Value} {d : LD} {σ : LS}
theorem law_loop {Q : Flow → Shared → Prop} {vs : List Value} {ns : List Int} {l : Addr} (C : Ctx w mg mb mean base h₀) (F : Fr h₀ L s.heap m) (N : News h₀ L s.heap d.led) (hF : LFr d σ m) (hLd : LLed d σ) (hP : LPure σ 0) (hL : h₀.IsList l vs.toArray) (hI : IntsAre vs ns) (hn : ns.length ≤ 63)
    (hscr : m (Str.ofString "script") = some (.ref l)) (hE : PassesOwn (model PySem.Challenge.rw_je0001_01.row.prog w) (lawA L fa cd) (lawEnv L fa cd) E)
    (k : ∀ h' tk m', Fr h₀ L h' m' → Q .next { s with heap := h', toks := tk }) :
    wpAny (model PySem.Challenge.rw_je0001_01.row.prog w) (lawA L fa cd) (exec lawFor (lawEnv L fa cd)) Q E s := by
  have e1 : lawFor = lawFor := rfl
  conv at e1 => rhs; whnf
  have e2 : lawScope = lawScope := rfl
  conv at e2 => rhs; whnf
  have hE0 := hE
  rw [e1]
  unfold lawA lawEnv at hE ⊢
  rw [e2] at hE ⊢
  clear e1 e2
  obtain ⟨B, X, T⟩ := id C
  have hvl := hI.length
  refine For_enum (h₀ := h₀) (fun i d σ m => LFr d σ m ∧ LPure σ i) rfl rfl rfl rfl ?_ (fun _ => rfl) hE
  unfold LD.led at N
  obtain ⟨reno, mon, dR, dM, smp, outA, trA, em, es, nM, n, ns', no, nt, sv, ov, tv, mx, mn, rest⟩ := d
  dsimp only at N
  k_steps
  show wpAny _ _ _ _ _ _
  (rename Fr _ _ _ _ => kF)
  (rename News _ _ _ _ => kN)
  (rename IntsAre _ (List.take _ _) => kI)
  (rename (_ ∧ _ ∧ _ ∧ _ ∧ AllLt _ _) => l9)
  (rename (List.length (List.take _ _) = _) => l8)
  have hwl := kI.length
  refine call_enumerate_1 (n := 0) (kN _ (.head _)).1 ?_
  intro h' hEn hIt hsz hup
  have hD := Heap.lt_size (kN _ (.head _)).1
  have hLt := kF.ns.lt
  have hab := kF.above
  have lt := fun (p : Addr × Obj) hp => Heap.lt_size (kN p hp).1
  obtain ⟨l1, l2, l3, l4, l5⟩ := l9
  have kF' : Fr h₀ L h' m := ⟨kF.ns.at' fun o z => hup _ o z, fun b o z => hup b o (kF.keep b o z), kF.above⟩
  have kN' : News h₀ L h' _ := fun p hp => ⟨hup _ _ (kN p hp).1, (kN p hp).2⟩
  unfold EnumAt
  refine ⟨_, _, _, 0, _, m, (LD.more ⟨reno, mon, dR, dM, smp, outA, trA, em, es, nM, n, ns', no, nt, sv, ov, tv, mx, mn, rest⟩ [(_, listOf _ 0)]), σ, rfl, Nat.succ_ne_self _, Nat.ne_of_lt (Nat.lt_succ_of_lt hD), Nat.ne_of_lt hD, Nat.ne_of_lt (Nat.lt_succ_of_lt hLt), Nat.ne_of_lt hLt, Heap.get?_none_of_le (Nat.le_succ_of_le (Nat.le_of_lt (Nat.lt_of_le_of_lt hab hLt))), Heap.get?_none_of_le (Nat.le_of_lt (Nat.lt_of_le_of_lt hab hLt)), hEn, hIt, .head _, ?_, (fun _ _ _ _ _ h => ⟨h.1.rest, h.2⟩), kF', news_sub kN' (fun p hp => led_more hp), hLd.more ?_, ⟨hF.rest, hP⟩, ?_, ?_⟩
  · intro p hp
    have h9 := lt p (led_more hp)
    exact ⟨Nat.ne_of_lt (Nat.lt_succ_of_lt h9), Nat.ne_of_lt h9⟩
  · intro p hp
    rw [List.mem_singleton.mp hp]
    exact ⟨(Nat.ne_of_lt l1).symm, (Nat.ne_of_lt l2).symm, (Nat.ne_of_lt l3).symm, (Nat.ne_of_lt l4).symm⟩
  · intro i t v d₁ σ₁ m₁ h tk Qt hv hL₁ hi₁ F₁ N₁ kk
    obtain ⟨hF₁, hP₁⟩ := hi₁
    dsimp only [envOf] at F₁ N₁ kk
    obtain ⟨num, tn, rfl, _⟩ := intsAre_get kI hv
    have hi : i < 22 := by have h9 := (List.getElem?_eq_some_iff.mp hv).1; omega
    exact turn_ok C F₁ N₁ ((hF₁.set (by decide +kernel)).set (by decide +kernel)) hL₁ hP₁ hi (by exact rfl) (by exact rfl) hE0 (fun d' σ' m' h' tk' K F' L' P' Fr' N' => kk d' σ' m' h' tk' K L' ⟨F', P'⟩ Fr' N')
  · intro d₁ σ₁ m₁ h tk hL₁ hi₁ F₁ N₁
    exact k _ _ _ F₁
end

end
section
local macro_rules | `(tactic| walk_at "no such key") => `(tactic| fail)
local macro_rules | `(tactic| walk_at "no such key") => `(tactic| fail)
local macro_rules | `(tactic| walk_at "no such key") => `(tactic| fail)
local macro_rules | `(tactic| walk_at "no such key") => `(tactic| fail)
theorem back17 : True := by
  w_top off
  trivial
local macro_rules | `(tactic| k_all) => `(tactic| assumption)
local macro_rules | `(tactic| k_get) => `(tactic| ((with_reducible refine (getL_put_ne (by decide +kernel)).trans ?_); k_get))
local macro_rules | `(tactic| k_get) => `(tactic| with_reducible exact getL_put_same)
local macro_rules | `(tactic| k_get) => `(tactic| with_reducible assumption)
local macro_rules | `(tactic| walk_at "setAttr ref") => `(tactic| (k_here; k_dflt (refine' set_dictA ?k1 ?k2 ?k3 ?k4 ?k5 ?k6 ?k7 ?k8 ?k9 ?k10 ?k11 ?k12 ?_; (case k1 => k_asm); (case k2 => k_asm); (case k3 => k_asm); (case k4 => k_inst); (case k5 => exact rfl); (case k6 => k_is); (case k7 => k_is); (case k8 => k_is); (case k9 => k_is); (case k10 => (refine' getL_some ?g; (case g => ((repeat (with_reducible refine (getL_put_ne (by decide +kernel)).trans ?_)); with_reducible first | assumption | exact getL_put_same)))); (case k11 => k_updF); (case k12 => (refine lt_put0 ?_; repeat (first | omega | refine lt_put ?_))); k_whole; intro h' hsh' t' n' F' N'; (try dsimp only at N'); (try k_sweep))))
local macro_rules | `(tactic| k_mem) => `(tactic| ((show (_ : Addr × Obj) ∈ (_ : List (Addr × Obj))); ktr_member))
local macro_rules | `(tactic| walk_at "eval Name") => `(tactic| (k_here; k_dflt (refine' ld ?k1 ?k2 ?_; (case k1 => k_asm); (case k2 => first | with_reducible assumption | ((with_reducible show (ite _ _ _) = _); (repeat (with_reducible refine (if_neg (by decide +kernel)).trans ?_)); with_reducible first | assumption | exact if_pos rfl)); k_whole)))
local macro_rules | `(tactic| walk_at "loadName") => `(tactic| (k_here; k_dflt (refine' ldn ?k1 ?k2 ?_; (case k1 => k_asm); (case k2 => first | with_reducible assumption | ((with_reducible show (ite _ _ _) = _); (repeat (with_reducible refine (if_neg (by decide +kernel)).trans ?_)); with_reducible first | assumption | exact if_pos rfl)); k_whole)))
local macro_rules | `(tactic| walk_at "wpAt") => `(tactic| (ks_step "eval Call"; refine wpAt_MethodCallKW ?_))
local macro_rules | `(tactic| walk_at "callWith ref") => `(tactic| (k_here; k_dflt (refine' callWith_MKW (K := Mine.hd.heap_1 _) ?k1 ?k2 ?k3 ?k4 ?_; (case k1 => k_asm); (case k2 => k_mem); (case k3 => k_is); (case k4 => exact rfl); k_whole)))
local macro_rules | `(tactic| walk_at "exec For Tuple Call cons nil") => `(tactic| refine Stop.mk ?_)
section
variable {w : World} {mg mb : Str → Option Value} {mean : ExcName → Option Value} {base h₀ : Heap} {L fa : Addr} {cd : Value} {s : Shared} {E : Value → Shared → Prop} {m : Str → Option Value}
theorem law_start {Q : Flow → Shared → Prop} {vs : List Value} {ns : List Int} {l : Addr} {size : Int} {trA outA smp mon dM q so reno dR : Addr} {em es : List DictEntry} {nM n nS : Nat} {ys : List Value} {oq os : Obj} {mx mn : Value} (C : Ctx w mg mb mean base h₀) (F : Fr h₀ L s.heap m)
    (N : News h₀ L s.heap [(trA, listOf #[] 0), (outA, listOf #[] 0), (smp, listOf ys.toArray nS), (mon, instObj 64 dM), (dM, dictOf em nM), (q, oq), (so, os), (reno, instObj 129 dR), (dR, dictOf es n)])
    (hF : LFr ⟨reno, mon, dR, dM, smp, outA, trA, em, es, nM, n, nS, 0, 0, ys, [], [], mx, mn, [(trA, listOf #[] 0), (mon, instObj 64 dM), (q, oq), (so, os), (reno, instObj 129 dR)]⟩ ⟨size, 1, 10 * size, 0, 0, 0, 0, none, none, [], [], ⟨0, 0, 0, false, none, [0, 0, 0, 0, 0]⟩⟩ m)
    (D : RenoD es 0 (10 * size) size 0 0 none mon) (DM : MonD em 0 0 0 false none smp mx mn) (I : IntsAre ys [0, 0, 0, 0, 0]) (hsz : size = 1200 ∨ size = 1280 ∨ size = 1452)
    (a1 : trA ≠ dM) (a2 : mon ≠ dM) (a3 : q ≠ dM) (a4 : so ≠ dM) (a5 : reno ≠ dM) (b1 : trA ≠ smp) (b2 : mon ≠ smp) (b3 : q ≠ smp) (b4 : so ≠ smp) (b5 : reno ≠ smp)
    (c1 : trA ≠ dR) (c2 : mon ≠ dR) (c3 : q ≠ dR) (c4 : so ≠ dR) (c5 : reno ≠ dR) (d1 : trA ≠ outA) (d2 : mon ≠ outA) (d3 : q ≠ outA) (d4 : so ≠ outA) (d5 : reno ≠ outA)
    (e1 : dM ≠ smp) (e2 : dM ≠ dR) (e3 : dM ≠ outA) (e4 : smp ≠ dR) (e5 : smp ≠ outA) (e6 : dR ≠ outA)
    (hL : h₀.IsList l vs.toArray) (hI : IntsAre vs ns) (hn : ns.length ≤ 63)
    (hscr : m (Str.ofString "script") = some (.ref l)) (hE : PassesOwn (model PySem.Challenge.rw_je0001_01.row.prog w) (lawA L fa cd) (lawEnv L fa cd) E)
    (k : ∀ h' tk m', Fr h₀ L h' m' → Q .next { s with heap := h', toks := tk }) :
    wpAny (model PySem.Challenge.rw_je0001_01.row.prog w) (lawA L fa cd) (exec lawFor (lawEnv L fa cd)) Q E s := by
  refine law_loop C F (news_sub N ?_) hF ?_ ?_ hL hI hn hscr hE k
  · intro p hp
    simp only [LD.led, List.mem_cons, List.not_mem_nil, or_false] at hp
    rcases hp with h | h | h | h | h | h | h | h | h <;> subst h <;> simp
  · have off : ∀ x : Addr, trA ≠ x → mon ≠ x → q ≠ x → so ≠ x → reno ≠ x → ∀ p ∈ ([(trA, listOf #[] 0), (mon, instObj 64 dM), (q, oq), (so, os), (reno, instObj 129 dR)] : List (Addr × Obj)), p.1 ≠ x := by
      intro x h1 h2 h3 h4 h5 p hp
      simp only [List.mem_cons, List.not_mem_nil, or_false] at hp
      rcases hp with h | h | h | h | h <;> subst h <;> assumption
    exact ⟨by simp, by simp, by simp, .nil, .nil, D, DM, I, off _ a1 a2 a3 a4 a5, off _ b1 b2 b3 b4 b5, off _ c1 c2 c3 c4 c5, off _ d1 d2 d3 d4 d5, e1, e2, e3, e4, e5, e6⟩
  · exact { size := hsz, wlo := by dsimp only; omega, pot := by dsimp only; omega, clo := Int.le_refl _, slo := Int.le_refl _, shi := by dsimp only; omega, nlo := Int.le_refl _, rlen := Nat.le_refl _, rbd := (fun r hr => nomatch hr), minc := rfl, mfm := rfl, mtime := rfl, mlen := rfl, midx0 := Int.le_refl _, midx1 := by dsimp only; omega,
            mbd := (by intro x hx; simp only [List.mem_cons, List.not_mem_nil, or_false] at hx; omega), mfb := (fun f h => nomatch h), trp := .inl ⟨rfl, rfl⟩, ihi := by omega, rthr := fun _ => by dsimp only; omega }
theorem law_from {Q : Flow → Shared → Prop} {vs : List Value} {ns : List Int} {l : Addr} {size : Int} {ts : Tok} (C : Ctx w mg mb mean base h₀) (F : Fr h₀ L s.heap m) (N : News h₀ L s.heap []) (hL : h₀.IsList l vs.toArray) (hI : IntsAre vs ns) (hn : ns.length ≤ 63)
    (hsize : m (Str.ofString "size") = some (.int size ts)) (hscr : m (Str.ofString "script") = some (.ref l)) (hsz : size = 1200 ∨ size = 1280 ∨ size = 1452) (hE : PassesOwn (model PySem.Challenge.rw_je0001_01.row.prog w) (lawA L fa cd) (lawEnv L fa cd) E)
    (k : ∀ h' tk m', Fr h₀ L h' m' → Q (.ret (.bool true)) { s with heap := h', toks := tk }) :
    wpAny (model PySem.Challenge.rw_je0001_01.row.prog w) (lawA L fa cd) (execs (lawBody.drop 1) (lawEnv L fa cd)) Q E s := by
  have e1 : lawBody.drop 1 = lawBody.drop 1 := rfl
  conv at e1 => rhs; whnf
  have e2 : lawScope = lawScope := rfl
  conv at e2 => rhs; whnf
  rw [e1]
  have hE0 := hE
  unfold lawA lawEnv at hE ⊢
  rw [e2] at hE ⊢
  clear e1 e2
  obtain ⟨B, X, T⟩ := id C
  k_steps
  all_goals (try (exfalso; omega))
  all_goals (try first | exact (Str.ofString "") | exact (0 : Nat) | exact Value.none)
  show wpAny _ _ _ _ _ _
  (rename Fr _ _ _ _ => kF)
  (rename News _ _ _ _ => kN)
  (rename IntsAre _ (List.map _ _) => kI)
  refine law_start (mx := .none) (mn := .none) C kF kN ?hF ?hD ?hM kI hsz ?_ ?_ ?_ ?_ ?_ ?_ ?_ ?_ ?_ ?_ ?_ ?_ ?_ ?_ ?_ ?_ ?_ ?_ ?_ ?_ ?_ ?_ ?_ ?_ ?_ ?_ hL hI hn (by exact hscr) hE0 ?k
  case hF => exact ⟨⟨_, by exact hsize⟩, by exact rfl, by exact rfl, ⟨_, by exact rfl⟩, .inr ⟨rfl, by exact rfl⟩, ⟨_, by exact rfl⟩, ⟨_, by exact rfl⟩, by exact rfl, ⟨_, by exact rfl⟩, .inr ⟨rfl, by exact rfl⟩, ⟨_, by exact rfl⟩, ⟨_, by exact rfl⟩⟩
  case hD => exact ⟨⟨_, by k_get⟩, ⟨_, by k_get⟩, ⟨_, by k_get⟩, ⟨_, by k_get⟩, by k_get, by (unfold renoMeths; repeat (first | exact List.forall_mem_nil _ | refine List.forall_mem_cons.mpr ⟨by k_get, ?_⟩)), 0, 0, by simp, .inr ⟨rfl, by k_get, rfl⟩, .inr ⟨rfl, rfl, by k_get⟩⟩
  case hM => exact ⟨⟨_, by k_get⟩, by k_get, ⟨_, by k_get⟩, .inr ⟨rfl, by k_get⟩, ⟨_, by k_get⟩, by k_get, by k_get, ⟨_, by k_get⟩, by k_get, by (unfold monMeths; repeat (first | exact List.forall_mem_nil _ | refine List.forall_mem_cons.mpr ⟨by k_get, ?_⟩)), by simp⟩
  case k =>
    intro h' tk m' F'
    k_steps
    exact k _ _ _ F'
  all_goals k_ne
end

end
section
local macro_rules | `(tactic| walk_at "no such key") => `(tactic| fail)
local macro_rules | `(tactic| walk_at "no such key") => `(tactic| fail)
local macro_rules | `(tactic| walk_at "no such key") => `(tactic| fail)
local macro_rules | `(tactic| walk_at "no such key") => `(tactic| fail)
local macro_rules | `(tactic| walk_at "no such key") => `(tactic| fail)
theorem back18 : True := by
  w_top off
  trivial
local macro_rules | `(tactic| k_all) => `(tactic| assumption)
local macro_rules | `(tactic| k_get) => `(tactic| ((with_reducible refine (getL_put_ne (by decide +kernel)).trans ?_); k_get))
local macro_rules | `(tactic| k_get) => `(tactic| with_reducible exact getL_put_same)
local macro_rules | `(tactic| k_get) => `(tactic| with_reducible assumption)
local macro_rules | `(tactic| walk_at "setAttr ref") => `(tactic| (k_here; k_dflt (refine' set_dictA ?k1 ?k2 ?k3 ?k4 ?k5 ?k6 ?k7 ?k8 ?k9 ?k10 ?k11 ?k12 ?_; (case k1 => k_asm); (case k2 => k_asm); (case k3 => k_asm); (case k4 => k_inst); (case k5 => exact rfl); (case k6 => k_is); (case k7 => k_is); (case k8 => k_is); (case k9 => k_is); (case k10 => (refine' getL_some ?g; (case g => ((repeat (with_reducible refine (getL_put_ne (by decide +kernel)).trans ?_)); with_reducible first | assumption | exact getL_put_same)))); (case k11 => k_updF); (case k12 => (refine lt_put0 ?_; repeat (first | omega | refine lt_put ?_))); k_whole; intro h' hsh' t' n' F' N'; (try dsimp only at N'); (try k_sweep))))
local macro_rules | `(tactic| k_mem) => `(tactic| ((show (_ : Addr × Obj) ∈ (_ : List (Addr × Obj))); ktr_member))
local macro_rules | `(tactic| walk_at "eval Name") => `(tactic| (k_here; k_dflt (refine' ld ?k1 ?k2 ?_; (case k1 => k_asm); (case k2 => first | with_reducible assumption | ((with_reducible show (ite _ _ _) = _); (repeat (with_reducible refine (if_neg (by decide +kernel)).trans ?_)); with_reducible first | assumption | exact if_pos rfl)); k_whole)))
local macro_rules | `(tactic| walk_at "loadName") => `(tactic| (k_here; k_dflt (refine' ldn ?k1 ?k2 ?_; (case k1 => k_asm); (case k2 => first | with_reducible assumption | ((with_reducible show (ite _ _ _) = _); (repeat (with_reducible refine (if_neg (by decide +kernel)).trans ?_)); with_reducible first | assumption | exact if_pos rfl)); k_whole)))
local macro_rules | `(tactic| walk_at "wpAt") => `(tactic| (ks_step "eval Call"; refine wpAt_MethodCallKW ?_))
local macro_rules | `(tactic| walk_at "callWith ref") => `(tactic| (k_here; k_dflt (refine' callWith_MKW (K := Mine.hd.heap_1 _) ?k1 ?k2 ?k3 ?k4 ?_; (case k1 => k_asm); (case k2 => k_mem); (case k3 => k_is); (case k4 => exact rfl); k_whole)))
local macro_rules | `(tactic| walk_at "execs cons") => `(tactic| refine Stop.mk ?_)
theorem main : PySem.Challenge.rw_je0001_01.Holds := hd (by
  k_go0
  (show wpAny _ _ _ _ _ _; with_reducible refine wpAny_execs_cons ?_)
  k_steps
  all_goals show wpAny _ _ _ _ _ _
  all_goals (
    (rename Fr _ _ _ _ => kF)
    (rename News _ _ _ _ => kN)
    (rename (Frag.In _ _) => kX)
    (rename Top _ _ _ _ _ _ => kT)
    (rename Below _ _ _ _ => kB)
    refine law_from ⟨kB, kX, kT⟩ kF (news_sub kN (fun p hp => nomatch hp)) (by assumption) (by assumption) (by omega) (by exact rfl) (by exact rfl) (by first | exact .inl rfl | exact .inr (.inl rfl) | exact .inr (.inr rfl)) (by passes_own) ?_
    intro h' tk m' F'
    wrow_close))

end
end Mine
theorem PySem.Challenge.cw_je0001_01_holds : PySem.Challenge.rw_je0001_01.Holds := by
  exact Mine.main
