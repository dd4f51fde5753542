import PyProof.Rows.All
import Wide.All
import OpenK.AllK
import Wide.FinOn
import PySem.Challenge.RW_sr0100_01
set_option Elab.async false
section THd
open PySem PySem.W PyProof.Rows
set_option maxRecDepth 100000
set_option maxHeartbeats 8000000
namespace Mine
open_top hd for PySem.Challenge.rw_sr0100_01
end Mine
end THd
section TBs
open PySem PySem.W PySem.Calls PyProof.Rows
set_option maxRecDepth 100000
set_option maxHeartbeats 8000000
namespace Mine
noncomputable abbrev prog := PySem.Challenge.rw_sr0100_01.row.prog
noncomputable def Ext (h h' : Heap) : Prop := ∀ b o, h.get? b = some o → h'.get? b = some o
theorem fillNow (P : Params) : PySem.Challenge.rw_sr0100_01 = PySem.Challenge.rw_sr0100_01 ∧ hd.heap_39 P = hd.heap_39 P := by
  w_top off
  k_fill
  exact ⟨rfl, rfl⟩
theorem enter {w : World} {K : Frag} {A : Around} {s : Shared} {Q : Value → Shared → Prop} {f : Addr} {oc pm cd doc : Value} {od : Option Addr} {osl : Array (Option Value)} {name : Str} {params : Arguments} {body : List Stmt} {scope : Scope} {args : List Value} (binds : List (Str × Value))
   (X : K.In s.heap) (hlim : s.heap.NoLimit) (hr : A.depth < recursionLimit)
   (hl : K.lookup f = some ⟨oc, od, .func (docDef name params body scope pm cd doc), osl⟩) (hcd : codeIn K cd name = true)
   (hbind : bindArgs (docDef name params body scope pm cd doc) ⟨args, []⟩ = pure binds)
   (hloc : (binds.all fun x => decide (scope.names.lookup x.1 = some .local)) = true)
   (h : ∀ h₁ tk, Fr s.heap s.heap.objs.size h₁ (fun x => binds.reverse.lookup x) → News s.heap s.heap.objs.size h₁ [] →
      wpAny (model prog w) (A.deeper (envOf name scope s.heap.objs.size f cd)) (execs body (envOf name scope s.heap.objs.size f cd))
        (fun fl s' => Q (match fl with | .ret v => v | _ => .none) s') (fun _ _ => False)
        { s with heap := h₁, toks := tk })
   (hco : scope.isCoroutine = false) (hgen : scope.isGenerator = false) (hk : scope.kind = .function)
   (hcell : ∀ x ∈ scope.names, x.2 ≠ .cell) : wpAny (model prog w) A (call (.ref f) args) Q (fun _ _ => False) s :=
  wpAny_call (call_plain_ret hr (X _ _ hl) rfl hlim (codeRec_of X hcd) hbind (locs hloc) (fun h₁ F => h h₁ _ F News.nil) hco hgen hk hcell)
noncomputable def p0 : Program := { main := { body := [.Import [⟨Str.ofString "sys", none, default⟩] default], scope := { kind := .module, names := [], isGenerator := false, isCoroutine := false }, futureAnnotations := false, file := Str.ofString "" }, modules := [], parses := [], absent := [] }
theorem top_p0 {p : Program} {loose : List Str} {mean : ExcName → Option Value} {mg mb : Str → Option Value} {h : Heap} (T : Top p loose mean mg mb h) :
    Top p0 (loose ++ ((recsOf p).map (·.name) ++ ((litsOf p).map (·.1) ++ (clssOf p loose).map (·.name)))) mean mg mb h where
  g := T.g
  b := T.b
  nolimit := T.nolimit
  nodigits := T.nodigits
  fn := fun d hd => (nomatch hd)
  own := fun o ho => (nomatch ho)
  const := fun x d e => by
    have : valOf p0 x = none := rfl
    rw [this] at e
    cases e
  free := fun x h1 h2 _ _ _ => by
    simp only [List.mem_append, not_or] at h2
    exact T.free x h1 h2.1 h2.2.1 h2.2.2.1 h2.2.2.2
  builtins := T.builtins
  tab := fun d hd => (nomatch hd)
  bmain := T.bmain
  seer := fun hi => by
    have : importsNone p0 = false := by decide
    rw [this] at hi
    cases hi
structure Ok (w : World) (h : Heap) : Prop where
  X : (hd.heap_39 w.params).In h
  T : ∃ loose mean mg mb, Top p0 loose mean mg mb h
  C : ∃ P ps, h.IsCode 60 P ps ∧ h.TableAt 60 P ps
theorem Ok.top {w : World} {h : Heap} (O : Ok w h) : (hd.heap_39 w.params).In h ∧ ∃ loose mean mg mb, Top p0 loose mean mg mb h := ⟨O.X, O.T⟩
theorem Ok.keeps {w : World} {h h' : Heap} (O : Ok w h) (e : Ext h h') : Ok w h' :=
  ⟨O.X.keeps e, let ⟨a, b, c, d, T⟩ := O.T; ⟨a, b, c, d, T.keeps e⟩, let ⟨P, ps, c, t⟩ := O.C; ⟨P, ps, c.keeps e, t.keeps e⟩⟩
theorem Ok.nolimit {w : World} {h : Heap} (O : Ok w h) : h.NoLimit := let ⟨_, _, _, _, T⟩ := O.T; T.nolimit
theorem ok_first {w : World} {loose : List Str} {mean : ExcName → Option Value} {mg mb : Str → Option Value} {h : Heap} (X : (hd.heap_39 w.params).In h) (T : Top hd.view_39 loose mean mg mb h) : Ok w h := by
  refine ⟨X, ⟨_, _, _, _, top_p0 T⟩, ?_⟩
  have hm : (recsOf hd.view_39).any (·.name == Str.ofString "_common_shorten_repr") = true := by decide +kernel
  obtain ⟨d, hd1, hd2⟩ := List.any_eq_true.mp hm
  obtain ⟨a, o, fd, c, P, e1, e2, e3, e4, e5, e6⟩ := T.tab d hd1
  rw [eq_of_beq hd2] at e1
  have e7 : mg (Str.ofString "_common_shorten_repr") = some (.ref 61) := mg_of X T.g (by k_is)
  rw [e7] at e1
  cases e1
  have e8 := X 61 _ (by k_is)
  rw [e2] at e8
  cases e8
  cases e3
  cases e4
  exact ⟨P, _, e5, e6⟩
theorem ext_refl (h : Heap) : Ext h h := fun _ _ e => e
theorem ext_trans {a b c : Heap} (x : Ext a b) (y : Ext b c) : Ext a c := fun k o e => y k o (x k o e)
theorem fr_ext {h₀ h h' : Heap} {L : Addr} {m : Str → Option Value} (F : Fr h₀ L h m) (e : Ext h h') : Fr h₀ L h' m :=
  ⟨F.ns.at' fun o q => e _ o q, fun b o q => e b o (F.keep b o q), F.above⟩
theorem news_ext {h₀ h h' : Heap} {L : Addr} {news : List (Addr × Obj)} (N : News h₀ L h news) (e : Ext h h') : News h₀ L h' news :=
  fun p hp => ⟨e _ _ (N p hp).1, (N p hp).2⟩
noncomputable def Made (h h' : Heap) (tl : List (Addr × Obj)) : Prop := ∀ p ∈ tl, h.get? p.1 = none ∧ h'.get? p.1 = some p.2
theorem news_made {h₀ h h' : Heap} {L : Addr} {m : Str → Option Value} {news tl : List (Addr × Obj)} (F : Fr h₀ L h m) (N : News h₀ L h news) (e : Ext h h') (n : Made h h' tl) : News h₀ L h' (tl ++ news) := by
  intro p hp
  rcases List.mem_append.mp hp with hp | hp
  · obtain ⟨a, b⟩ := n p hp
    refine ⟨b, ?_, ?_⟩
    · intro q
      obtain ⟨oL, _, _, hL, _⟩ := F.ns
      rw [q, hL] at a
      cases a
    · cases q : h₀.get? p.1 with
      | none => rfl
      | some o => rw [F.keep _ _ q] at a; cases a
  · exact news_ext N e p hp
theorem made_nil (h h' : Heap) : Made h h' [] := fun _ hp => nomatch hp
theorem made_ext {h h' h'' : Heap} {tl : List (Addr × Obj)} (n : Made h h' tl) (e : Ext h' h'') : Made h h'' tl := fun p hp => ⟨(n p hp).1, e _ _ (n p hp).2⟩
theorem made_of_news {h₀ h : Heap} {L : Addr} {news : List (Addr × Obj)} (N : News h₀ L h news) : Made h₀ h news := fun p hp => ⟨(N p hp).2.2, (N p hp).1⟩
theorem made_sub {h h' : Heap} {tl tl' : List (Addr × Obj)} (n : Made h h' tl) (hs : ∀ p ∈ tl', p ∈ tl) : Made h h' tl' := fun p hp => n p (hs p hp)
noncomputable def RepIn (tl : List (Addr × Obj)) (v : Value) (d : PyData) : Prop :=
  ∀ h : Heap, (∀ p ∈ tl, h.get? p.1 = some p.2) → ∃ as, Reads h v d as ∧ ∀ a ∈ as, a ∈ tl.map (·.1)
noncomputable abbrev lv (d u : Nat) : Around := { handled := none, depth := d, frames := none, guards := some [], units := u }
theorem at_lv {α : Type} {M : Model} {d u : Nat} {A : Around} {t : Sem α} {Q : α → Shared → Prop} {E : Value → Shared → Prop} {s : Shared} (h : wpAny M (lv d u) t Q E s)
    (hh : A.handled = none) (hd : A.depth ≤ d) (hg : A.guards = some []) (hu : A.units ≤ u) : wpAny M A t Q E s :=
  fun Γ p hΓ => h Γ p ⟨hΓ.1.trans hh, Nat.le_trans hΓ.2.1 hd, (fun _ e => nomatch e), (fun g e => hΓ.2.2.2.1 g (hg.trans e)), Nat.le_trans hΓ.2.2.2.2 hu⟩
theorem ok_fr {w : World} {h₀ h : Heap} {L : Addr} {m : Str → Option Value} (O : Ok w h₀) (F : Fr h₀ L h m) : Ok w h := O.keeps F.keep
end Mine
end TBs
section TFm
open PySem PySem.W PySem.Calls PyProof.Rows
set_option maxRecDepth 100000
set_option maxHeartbeats 2000000
namespace Mine
noncomputable def fmt3 (a c : Str) (n : Int) : Str := a ++ Str.ofString "[" ++ Str.ofString (toString n) ++ Str.ofString " chars]" ++ c
theorem mod_fmt {w : World} {A : Around} {E : Value → Shared → Prop} {s : Shared} {h₀ : Heap} {L : Addr} {news : List (Addr × Obj)} {b : Addr} {a c : Str} {n : Int} {t t1 t2 t3 : Tok} {Q : Value → Shared → Prop}
   (N : News h₀ L s.heap news) (hb : (b, ({ cls := .type "tuple", data := .seq #[.str a t1, .int n t2, .str c t3] } : Obj)) ∈ news)
   (ha : a.length ≤ 20000) (hc : c.length ≤ 20000) (h0 : 0 ≤ n) (h1 : n < 10 ^ 10)
   (h : ∀ t' k, Q (.str (fmt3 a c n) t') { s with toks := k }) : wpAny (model prog w) A (binaryOp .Mod (.str (Str.ofString "%s[%d chars]%s") t) (.ref b)) Q E s := by
  have ha' : a.length ≤ 1000000 := by omega
  have hc' : c.length ≤ 1000000 := by omega
  refine' KPt.mod_tuple N hb ?kptF ?kptm h
  case kptF => kpt_eq
  case kptm => kpt_run
end Mine
end TFm
section TW1
open PySem PySem.W PySem.Calls PyProof.Rows
set_option maxRecDepth 100000
set_option maxHeartbeats 8000000
namespace Mine
theorem fillW1 (P : Params) : PySem.Challenge.rw_sr0100_01 = PySem.Challenge.rw_sr0100_01 ∧ hd.heap_39 P = hd.heap_39 P := by
  w_top off
  k_fill
  exact ⟨rfl, rfl⟩
noncomputable def shortenS (x : Str) (p q : Int) : Str :=
  if 12 < (x.length : Int) - p - q then fmt3 (Txt.slice x none (some p)) (Txt.slice x (some ((x.length : Int) - q)) none) ((x.length : Int) - p - q) else x
end Mine
end TW1
section TW2
open PySem PySem.W PySem.Calls PyProof.Rows
set_option maxRecDepth 100000
set_option maxHeartbeats 8000000
namespace Mine
theorem fillW2 (P : Params) : PySem.Challenge.rw_sr0100_01 = PySem.Challenge.rw_sr0100_01 ∧ hd.heap_39 P = hd.heap_39 P := by
  w_top off
  k_fill
  exact ⟨rfl, rfl⟩
theorem kind_ok {w : World} {s : Shared} {Q : Value → Shared → Prop}
   (O : Ok w s.heap) (x y : Str) (t1 t2 : Tok)
   (hret : ∀ h' tk t, Ext s.heap h' → Q (.str (Str.ofString "") t) { s with heap := h', toks := tk }) :
   wpAny (model prog w) (lv 700 2000) (call (.ref 35) [.str x t1, .str y t2]) Q (fun _ _ => False) s := by
  obtain ⟨X, loose, mean, mg, mb, T⟩ := O.top
  refine' enter [("name", .str x t1), ("x", .str y t2)] X T.nolimit (by decide) ?k1 ?k3 ?k4 ?k5 ?k6 ?k7 ?k8 ?k9 ?k10
  case k1 => k_is
  case k3 => k_is
  case k4 => exact rfl
  case k5 => exact rfl
  case k7 => rfl
  case k8 => rfl
  case k9 => rfl
  case k10 => decide
  intro h₁ tk F N
  repeat' (first | (k_unfold; (try dsimp only)) | walk1 | (dsimp only; walk1))
  (try dsimp only)
  exact hret _ _ _ (by rename Fr _ _ _ _ => F9; exact F9.keep)
theorem fspath_ok {w : World} {s : Shared} {Q : Value → Shared → Prop}
   (O : Ok w s.heap) (x y : Str) (t1 t2 : Tok)
   (hret : ∀ h' tk, Ext s.heap h' → Q (.str y t2) { s with heap := h', toks := tk }) :
   wpAny (model prog w) (lv 600 1900) (call (.ref 42) [.str x t1, .str y t2]) Q (fun _ _ => False) s := by
  obtain ⟨X, loose, mean, mg, mb, T⟩ := O.top
  refine' enter [("name", .str x t1), ("x", .str y t2)] X T.nolimit (by decide) ?k1 ?k3 ?k4 ?k5 ?k6 ?k7 ?k8 ?k9 ?k10
  case k1 => k_is
  case k3 => k_is
  case k4 => exact rfl
  case k5 => exact rfl
  case k7 => rfl
  case k8 => rfl
  case k9 => rfl
  case k10 => decide
  intro h₁ tk F N
  repeat' ((fail_if_success (with_reducible show wpAny _ _ (call (Value.ref 35) _) _ _ _)); first | (k_unfold; (try dsimp only)) | walk1 | (dsimp only; walk1))
  refine' at_lv (kind_ok ?kO _ _ _ _ ?_) rfl (Nat.le_of_ble_eq_true rfl) rfl (Nat.le_of_ble_eq_true rfl)
  case kO => exact ok_fr O F
  intro h' tk' t' e'
  have F' := fr_ext F e'
  have N' := news_ext N e'
  clear F N e'
  repeat' (first | (k_unfold; (try dsimp only)) | walk1 | (dsimp only; walk1))
  (try dsimp only)
  exact hret _ _ (by rename Fr _ _ _ _ => F9; exact F9.keep)
end Mine
end TW2
section TTx
open PySem PySem.W PySem.Calls PyProof.Rows PySem.Builtin.Str
set_option maxRecDepth 100000
set_option maxHeartbeats 8000000
namespace Mine
noncomputable abbrev cs (x : Str) : List Nat := x.cps.toList
theorem str_ext {x y : Str} (h : cs x = cs y) : x = y := by
  cases x with
  | mk a =>
    cases y with
    | mk b => exact congrArg Str.mk (Array.toList_inj.mp h)
theorem cs_len (x : Str) : (cs x).length = x.length := by simp [cs, Str.length]
theorem cs_mk (l : List Nat) : cs ⟨l.toArray⟩ = l := by simp [cs]
theorem cs_app (x y : Str) : cs (x ++ y) = cs x ++ cs y := by
  show (x ++ y).cps.toList = _
  rw [Str.cps_append, Array.toList_append]
theorem fm_range (l : List Nat) (a k : Nat) : ((List.range k).map (a + ·)).filterMap (l[·]?) = (l.drop a).take k := by
  induction k with
  | zero => simp
  | succ k ih =>
    rw [List.range_succ, List.map_append, List.filterMap_append, ih, List.take_add_one]
    congr 1
    simp only [List.map_cons, List.map_nil, List.filterMap_cons, List.filterMap_nil]
    rw [List.getElem?_drop]
    cases l[a + k]? <;> rfl
noncomputable def clipLo (lo : Option Int) (n : Nat) : Int := match lo with | none => 0 | some i => max 0 (min (if i < 0 then i + (n : Int) else i) (n : Int))
noncomputable def clipHi (hi : Option Int) (n : Nat) : Int := match hi with | none => (n : Int) | some i => max 0 (min (if i < 0 then i + (n : Int) else i) (n : Int))
theorem sliceRange_nat (a b : Nat) : sliceRange a b 1 = (List.range (b - a)).map (a + ·) := by
  unfold sliceRange
  have h1 : (if (1 : Int) > 0 then (if (a : Int) < b then ((b : Int) - a + 1 - 1) / 1 else 0) else (if (a : Int) > b then ((a : Int) - b - 1 - 1) / (-1) else 0)).toNat = b - a := by
    rw [if_pos (by decide)]
    split
    · rw [Int.ediv_one]; lia
    · simp; lia
  dsimp only
  rw [h1]
  apply List.map_congr_left
  intro k _
  show ((a : Int) + 1 * (k : Int)).toNat = a + k
  lia
theorem slice_idx (lo hi : Option Int) (n a b : Nat) (hlo : clipLo lo n = a) (hhi : clipHi hi n = b) :
    strSliceIndices lo hi 1 n = (List.range (b - a)).map (a + ·) := by
  rw [← sliceRange_nat, ← hlo, ← hhi]
  unfold strSliceIndices clipLo clipHi
  cases lo <;> cases hi <;> rfl
theorem slice_cs (x : Str) (lo hi : Option Int) (a b : Nat) (hb : b ≤ (cs x).length) (hlo : clipLo lo x.length = a) (hhi : clipHi hi x.length = b) :
    cs (Txt.slice x lo hi) = ((cs x).drop a).take (b - a) := by
  have hl := cs_len x
  have e := slice_idx lo hi x.length a b hlo hhi
  unfold Txt.slice
  rw [e]
  split
  · rename_i h
    have h2 : b - a = x.length := by simpa using h
    rw [← hl] at h2
    clear e hlo hhi
    by_cases hz : (cs x).length = 0
    · rw [List.eq_nil_of_length_eq_zero hz]; simp
    · have : a = 0 := by lia
      subst this
      rw [List.drop_zero, List.take_of_length_le (Nat.le_of_eq h2.symm)]
  · have := fm_range (cs x) a (b - a)
    rw [← this]
    show (List.filterMap _ _).toArray.toList = _
    simp [cs]
theorem clip_lo (n m : Nat) : clipLo (some (n : Int)) m = ((min n m : Nat) : Int) := by
  simp only [clipLo]
  rw [if_neg (Int.not_lt.mpr (Int.natCast_nonneg n))]
  lia
theorem clip_hi (n m : Nat) : clipHi (some (n : Int)) m = ((min n m : Nat) : Int) := clip_lo n m
theorem take_min (l : List Nat) (n : Nat) : l.take (min n l.length) = l.take n := by
  rw [← List.take_take, List.take_length]
theorem drop_min (l : List Nat) (n : Nat) : l.drop (min n l.length) = l.drop n := by
  rcases Nat.le_total n l.length with h | h
  · rw [Nat.min_eq_left h]
  · rw [Nat.min_eq_right h, List.drop_length, List.drop_of_length_le h]
theorem slice_to (x : Str) {j : Int} (h : 0 ≤ j) : cs (Txt.slice x none (some j)) = (cs x).take j.toNat := by
  obtain ⟨n, rfl⟩ := Int.eq_ofNat_of_zero_le h
  rw [slice_cs x none (some (n : Int)) 0 (min n x.length) (cs_len x ▸ Nat.min_le_right _ _) rfl (clip_hi _ _), List.drop_zero, Nat.sub_zero, ← cs_len x, take_min]
  rfl
theorem slice_from (x : Str) {i : Int} (h : 0 ≤ i) : cs (Txt.slice x (some i) none) = (cs x).drop i.toNat := by
  obtain ⟨n, rfl⟩ := Int.eq_ofNat_of_zero_le h
  rw [slice_cs x (some (n : Int)) none (min n x.length) x.length (Nat.le_of_eq (cs_len x).symm) (clip_lo _ _) rfl, ← cs_len x, drop_min, List.take_of_length_le]
  · rfl
  · rw [List.length_drop]
    rcases Nat.le_total n (cs x).length with q | q
    · rw [Nat.min_eq_left q]; exact Nat.le_refl _
    · rw [Nat.sub_eq_zero_of_le q]; exact Nat.zero_le _
theorem slice_both (x : Str) {i j : Int} (h : 0 ≤ i) (h' : 0 ≤ j) : cs (Txt.slice x (some i) (some j)) = ((cs x).drop i.toNat).take (j.toNat - i.toNat) := by
  obtain ⟨n, rfl⟩ := Int.eq_ofNat_of_zero_le h
  obtain ⟨k, rfl⟩ := Int.eq_ofNat_of_zero_le h'
  rw [slice_cs x (some (n : Int)) (some (k : Int)) (min n x.length) (min k x.length) (cs_len x ▸ Nat.min_le_right _ _) (clip_lo _ _) (clip_hi _ _), ← cs_len x, drop_min]
  show _ = ((cs x).drop n).take (k - n)
  rcases Nat.le_total n (cs x).length with q | q
  · rw [Nat.min_eq_left q]
    rcases Nat.le_total k (cs x).length with q' | q'
    · rw [Nat.min_eq_left q']
    · have e : ((cs x).drop n).length = (cs x).length - n := List.length_drop
      rw [Nat.min_eq_right q', List.take_of_length_le (Nat.le_of_eq e), List.take_of_length_le (e ▸ Nat.sub_le_sub_right q' n)]
  · rw [List.drop_of_length_le q, List.take_nil, List.take_nil]
theorem slice_last (x : Str) {k : Nat} (h : 0 < k) : cs (Txt.slice x (some (-(k : Int))) none) = (cs x).drop ((cs x).length - k) := by
  have hl := cs_len x
  rw [slice_cs x (some (-(k : Int))) none (x.length - k) x.length (Nat.le_of_eq hl.symm) (by simp only [clipLo]; rw [if_pos (by lia)]; lia) rfl, hl, List.take_of_length_le (by rw [List.length_drop, hl]; exact Nat.le_refl _)]
noncomputable def lcpL : List Nat → List Nat → List Nat
  | a :: x, b :: y => if a = b then a :: lcpL x y else []
  | _, _ => []
theorem lcp_left : ∀ (l1 l2 : List Nat), (∀ j, j < l1.length → l1[j]? = l2[j]?) → lcpL l1 l2 = l1
  | [], _, _ => by unfold lcpL; rfl
  | a :: x, [], h => by have := h 0 (by simp); simp at this
  | a :: x, b :: y, h => by
    have h0 : a = b := by have := h 0 (by simp); simpa using this
    subst h0
    unfold lcpL
    rw [if_pos rfl, lcp_left x y fun j hj => by have := h (j + 1) (by simp; lia); simpa using this]
theorem lcp_at : ∀ (i : Nat) (l1 l2 : List Nat), (∀ j, j < i → l1[j]? = l2[j]?) → l1[i]? ≠ l2[i]? → lcpL l1 l2 = l1.take i
  | 0, [], [], _, h => absurd rfl h
  | 0, [], b :: y, _, _ => by unfold lcpL; rfl
  | 0, a :: x, [], _, _ => by unfold lcpL; rfl
  | 0, a :: x, b :: y, _, h => by
    unfold lcpL
    rw [if_neg (by simpa using h)]; rfl
  | i + 1, [], _, _, _ => by unfold lcpL; simp
  | i + 1, a :: x, [], h, _ => by have := h 0 (by lia); simp at this
  | i + 1, a :: x, b :: y, h, hn => by
    have h0 : a = b := by have := h 0 (by lia); simpa using this
    subst h0
    unfold lcpL
    rw [if_pos rfl, List.take_succ_cons, lcp_at i x y (fun j hj => by have := h (j + 1) (by lia); simpa using this) (by simpa using hn)]
theorem lt_of_agree : ∀ (i : Nat) (l1 l2 : List Nat), (∀ j, j < i → l1[j]? = l2[j]?) → i < l1.length → ¬ (l2 < l1) → i < l2.length
  | 0, a :: x, [], _, _, h => absurd (List.nil_lt_cons a x) h
  | 0, _ :: _, _ :: _, _, _, _ => by simp
  | 0, [], _, _, h, _ => by simp at h
  | i + 1, [], _, _, h, _ => by simp at h
  | i + 1, a :: x, [], h, _, _ => by have := h 0 (by lia); simp at this
  | i + 1, a :: x, b :: y, h, hl, hn => by
    have h0 : a = b := by have := h 0 (by lia); simpa using this
    subst h0
    have := lt_of_agree i x y (fun j hj => by have := h (j + 1) (by lia); simpa using this) (by simpa using hl) (fun q => hn (by rw [List.cons_lt_cons_self]; exact q))
    simpa using this
end Mine
namespace Mine
noncomputable def ltS (x y : Str) : Bool := decide (cs x < cs y)
noncomputable def bestMin (xs : List Str) : Str := xs.getD (argBest (fun i j => ltS (xs.getD i default) (xs.getD j default)) (xs.length - 1)) default
noncomputable def bestMax (xs : List Str) : Str := xs.getD (argBest (fun i j => ltS (xs.getD j default) (xs.getD i default)) (xs.length - 1)) default
noncomputable def prefixS (xs : List Str) : Str := ⟨(lcpL (cs (bestMin xs)) (cs (bestMax xs))).toArray⟩
theorem argBest_le (bt : Nat → Nat → Bool) : ∀ k, argBest bt k ≤ k
  | 0 => Nat.le_refl _
  | k + 1 => by
    have := argBest_le bt k
    unfold argBest
    split <;> lia
theorem argBest_no (bt : Nat → Nat → Bool) (htr : ∀ i j l, bt i j = true → bt j l = true → bt i l = true) (hirr : ∀ i, bt i i = false) : ∀ k i, i ≤ k → bt i (argBest bt k) = false
  | 0, i, hi => by
    have : i = 0 := by lia
    subst this
    exact hirr 0
  | k + 1, i, hi => by
    have ih := argBest_no bt htr hirr k
    unfold argBest
    split
    · rename_i h
      rcases Nat.lt_or_ge i (k + 1) with q | q
      · cases z : bt i (k + 1) with
        | false => rfl
        | true =>
          have := htr _ _ _ z h
          rw [ih i (by lia)] at this
          cases this
      · have : i = k + 1 := by lia
        subst this
        exact hirr _
    · rename_i h
      rcases Nat.lt_or_ge i (k + 1) with q | q
      · exact ih i (by lia)
      · have : i = k + 1 := by lia
        subst this
        simpa using h
theorem ltS_tr (x y z : Str) (h : ltS x y = true) (h' : ltS y z = true) : ltS x z = true :=
  decide_eq_true (List.lt_trans (of_decide_eq_true h) (of_decide_eq_true h'))
theorem ltS_irr (x : Str) : ltS x x = false := decide_eq_false (List.lt_irrefl _)
theorem getD_mem {xs : List Str} {i : Nat} (h : i < xs.length) : xs.getD i default ∈ xs := by
  rw [List.getD_eq_getElem?_getD, List.getElem?_eq_getElem h]
  exact List.getElem_mem h
theorem bestMin_mem {xs : List Str} (h : xs ≠ []) : bestMin xs ∈ xs :=
  getD_mem (Nat.lt_of_le_of_lt (argBest_le _ _) (Nat.sub_lt (Nat.pos_of_ne_zero fun e => h (List.eq_nil_of_length_eq_zero e)) (by decide)))
theorem bestMax_mem {xs : List Str} (h : xs ≠ []) : bestMax xs ∈ xs :=
  getD_mem (Nat.lt_of_le_of_lt (argBest_le _ _) (Nat.sub_lt (Nat.pos_of_ne_zero fun e => h (List.eq_nil_of_length_eq_zero e)) (by decide)))
theorem bestMin_le {xs : List Str} {x : Str} (h : x ∈ xs) : ¬ (cs x < cs (bestMin xs)) := by
  obtain ⟨i, hi, rfl⟩ := List.getElem_of_mem h
  have := argBest_no (fun i j => ltS (xs.getD i default) (xs.getD j default)) (fun i j l => ltS_tr _ _ _) (fun i => ltS_irr _) (xs.length - 1) i (by lia)
  rw [List.getD_eq_getElem?_getD, List.getElem?_eq_getElem hi] at this
  exact of_decide_eq_false this
theorem bestMax_ge {xs : List Str} {x : Str} (h : x ∈ xs) : ¬ (cs (bestMax xs) < cs x) := by
  obtain ⟨i, hi, rfl⟩ := List.getElem_of_mem h
  have := argBest_no (fun i j => ltS (xs.getD j default) (xs.getD i default)) (fun i j l h h' => ltS_tr _ _ _ h' h) (fun i => ltS_irr _) (xs.length - 1) i (by lia)
  rw [List.getD_eq_getElem?_getD (l := xs) (i := i), List.getElem?_eq_getElem hi] at this
  exact of_decide_eq_false this
end Mine
end TTx
section TW3
open PySem PySem.W PySem.Calls PyProof.Rows
set_option maxRecDepth 100000
set_option maxHeartbeats 8000000
namespace Mine
theorem fillW3 (P : Params) : PySem.Challenge.rw_sr0100_01 = PySem.Challenge.rw_sr0100_01 ∧ hd.heap_39 P = hd.heap_39 P := by
  w_top off
  k_fill
  exact ⟨rfl, rfl⟩
theorem strs_get {vs : List Value} {xs : List Str} (h : StrsAre vs xs) {i : Nat} {v : Value} (e : vs[i]? = some v) : i < xs.length ∧ ∃ t, v = .str (xs.getD i default) t := by
  obtain ⟨a, ha, t, rfl⟩ := h.areOf.get i v e
  refine ⟨(List.getElem?_eq_some_iff.mp ha).1, t, ?_⟩
  rw [List.getD_eq_getElem?_getD, ha]; rfl
theorem min_strs {w : World} {A : Around} {E : Value → Shared → Prop} {s : Shared} {a : Addr} {vs : List Value} {xs : List Str} {Q : Value → Shared → Prop}
   (hh : A.handled = none) (hT : s.heap.IsTuple a vs.toArray) (hv : StrsAre vs xs) (hne : xs ≠ [])
   (h : ∀ h' tk t, Ext s.heap h' → Q (.str (bestMin xs) t) { s with heap := h', toks := tk }) :
   wpAny (model prog w) A (call (.builtin "min") [.ref a]) Q E s := by
  have hlen : vs.length = xs.length := hv.areOf.length
  obtain ⟨ot, hot, _⟩ := id hT
  have hlt : a < s.heap.objs.size := Heap.lt_size hot
  refine call_min_walk (wpAny_pyIter_tuple hT ?_)
  refine ⟨_, _, _, vs.toArray.size, _, _, (fun i j => ltS (xs.getD i default) (xs.getD j default)), rfl, Walks.tuple (A := A.in1) hh s.heap.objs.size a (Nat.ne_of_lt hlt) vs.toArray, ⟨⟨_, Heap.get?_push_size _ rfl, rfl, rfl⟩, hT.at fun o e => Heap.get?_push_of_some _ e⟩, ?_, ?_, ?_, ?_⟩
  · intro b hb
    show b < (s.heap.push _).objs.size
    rw [Heap.size_push]
    rcases List.mem_cons.mp hb with e | hb
    · exact e ▸ Nat.lt_succ_self _
    · exact (List.mem_singleton.mp hb) ▸ Nat.lt_succ_of_lt hlt
  · rw [List.size_toArray, hlen]
    exact Nat.pos_of_ne_zero fun e => hne (List.eq_nil_of_length_eq_zero e)
  · intro i j vi vj s' Q' E' hi hj hQ
    obtain ⟨_, t, rfl⟩ := strs_get hv (by rw [← List.getElem?_toArray]; exact hi)
    obtain ⟨_, u, rfl⟩ := strs_get hv (by rw [← List.getElem?_toArray]; exact hj)
    exact PySem.P.lt_str hQ
  · intro v h' tk hP hk
    obtain ⟨_, t, rfl⟩ := strs_get hv (by rw [← List.getElem?_toArray]; exact hP)
    rw [List.size_toArray, hlen]
    exact h h' tk t fun b o e => hk b o (by simp; exact Nat.ne_of_lt (Heap.lt_size e)) (Heap.get?_push_of_some _ e)
theorem max_strs {w : World} {A : Around} {E : Value → Shared → Prop} {s : Shared} {a : Addr} {vs : List Value} {xs : List Str} {Q : Value → Shared → Prop}
   (hh : A.handled = none) (hT : s.heap.IsTuple a vs.toArray) (hv : StrsAre vs xs) (hne : xs ≠ [])
   (h : ∀ h' tk t, Ext s.heap h' → Q (.str (bestMax xs) t) { s with heap := h', toks := tk }) :
   wpAny (model prog w) A (call (.builtin "max") [.ref a]) Q E s := by
  have hlen : vs.length = xs.length := hv.areOf.length
  obtain ⟨ot, hot, _⟩ := id hT
  have hlt : a < s.heap.objs.size := Heap.lt_size hot
  refine call_max_walk (wpAny_pyIter_tuple hT ?_)
  refine ⟨_, _, _, vs.toArray.size, _, _, (fun i j => ltS (xs.getD j default) (xs.getD i default)), rfl, Walks.tuple (A := A.in1) hh s.heap.objs.size a (Nat.ne_of_lt hlt) vs.toArray, ⟨⟨_, Heap.get?_push_size _ rfl, rfl, rfl⟩, hT.at fun o e => Heap.get?_push_of_some _ e⟩, ?_, ?_, ?_, ?_⟩
  · intro b hb
    show b < (s.heap.push _).objs.size
    rw [Heap.size_push]
    rcases List.mem_cons.mp hb with e | hb
    · exact e ▸ Nat.lt_succ_self _
    · exact (List.mem_singleton.mp hb) ▸ Nat.lt_succ_of_lt hlt
  · rw [List.size_toArray, hlen]
    exact Nat.pos_of_ne_zero fun e => hne (List.eq_nil_of_length_eq_zero e)
  · intro i j vi vj s' Q' E' hi hj hQ
    obtain ⟨_, t, rfl⟩ := strs_get hv (by rw [← List.getElem?_toArray]; exact hi)
    obtain ⟨_, u, rfl⟩ := strs_get hv (by rw [← List.getElem?_toArray]; exact hj)
    exact PySem.P.gt_str hQ
  · intro v h' tk hP hk
    obtain ⟨_, t, rfl⟩ := strs_get hv (by rw [← List.getElem?_toArray]; exact hP)
    rw [List.size_toArray, hlen]
    exact h h' tk t fun b o e => hk b o (by simp; exact Nat.ne_of_lt (Heap.lt_size e)) (Heap.get?_push_of_some _ e)
end Mine
end TW3
section TW4
open PySem PySem.W PySem.Calls PyProof.Rows
set_option maxRecDepth 100000
set_option maxHeartbeats 8000000
namespace Mine
theorem fillW4 (P : Params) : PySem.Challenge.rw_sr0100_01 = PySem.Challenge.rw_sr0100_01 ∧ hd.heap_39 P = hd.heap_39 P := by
  w_top off
  k_fill
  exact ⟨rfl, rfl⟩
theorem bind_self (m : Str → Option Value) (x y : Str) : m = bindM (bindM m x (m x)) y (m y) := by
  funext z
  unfold bindM
  by_cases h : z = y
  · rw [if_pos h, h]
  · rw [if_neg h]
    by_cases h' : z = x
    · rw [if_pos h', h']
    · rw [if_neg h']
noncomputable def PrefJ (m : Str → Option Value) (S1 S2 : Str) (i : Nat) (m₁ : Str → Option Value) (news₁ : List (Addr × Obj)) : Prop :=
  (∃ vi vc, m₁ = bindM (bindM m (Str.ofString "i") vi) (Str.ofString "c") vc) ∧ news₁ = [] ∧ ∀ j, j < i → (cs S1)[j]? = (cs S2)[j]?
theorem prefix_ok {w : World} {s : Shared} {Q : Value → Shared → Prop}
   (O : Ok w s.heap) (a : Addr) (vs : List Value) (xs : List Str) (hT : s.heap.IsTuple a vs.toArray) (hv : StrsAre vs xs) (hne : xs ≠ []) (hlen : ∀ x ∈ xs, x.length ≤ 10000)
   (hret : ∀ h' tk t y, y = prefixS xs → Ext s.heap h' → Q (.str y t) { s with heap := h', toks := tk }) :
   wpAny (model prog w) (lv 600 1900) (call (.ref 49) [.ref a]) Q (fun _ _ => False) s := by
  obtain ⟨X, loose, mean, mg, mb, T⟩ := O.top
  refine' enter [("m", .ref a)] X T.nolimit (by decide) ?k1 ?k3 ?k4 ?k5 ?k6 ?k7 ?k8 ?k9 ?k10
  case k1 => k_is
  case k3 => k_is
  case k4 => exact rfl
  case k5 => exact rfl
  case k7 => rfl
  case k8 => rfl
  case k9 => rfl
  case k10 => decide
  intro h₁ tk F N
  repeat' ((fail_if_success (with_reducible show wpAny _ _ (call (Value.builtin "min") _) _ _ _)); first | (k_unfold; (try dsimp only)) | walk1 | (dsimp only; walk1))
  refine' min_strs rfl (hT.at fun o e => F.keep _ _ e) hv hne ?_
  intro h' tk' tA e'
  have F' := fr_ext F e'
  have N' := news_ext N e'
  clear F N e'
  repeat' ((fail_if_success (with_reducible show wpAny _ _ (call (Value.builtin "max") _) _ _ _)); first | (k_unfold; (try dsimp only)) | walk1 | (dsimp only; walk1))
  rename Fr _ _ _ _ => F
  rename News _ _ _ _ => N
  refine' max_strs rfl (hT.at fun o e => F.keep _ _ e) hv hne ?_
  intro h' tk' tB e'
  have F' := fr_ext F e'
  have N' := news_ext N e'
  clear F N e'
  repeat' ((fail_if_success (with_reducible show wpAny _ _ (exec (Stmt.For _ _ _ _ _) _) _ _ _)); first | (k_unfold; (try dsimp only)) | walk1 | (dsimp only; walk1))
  rename Fr _ _ _ _ => F
  rename News _ _ _ _ => N
  refine' For_pair3F F rfl rfl rfl rfl ?_ (fun _ => rfl)
  repeat' ((fail_if_success (with_reducible show wpAny _ _ (call (Value.type "enumerate") _) _ _ _)); first | (k_unfold; (try dsimp only)) | walk1 | (dsimp only; walk1))
  refine' call_enum_str rfl F N ?_
  intro h9 e9 F9 N9 P9
  refine' P9.at _ rfl _ _ _ _ (PrefJ (fun y => if y = Str.ofString "s2" then some (Value.str (bestMax xs) tB) else if y = Str.ofString "s1" then some (Value.str (bestMin xs) tA) else List.lookup y [(Str.ofString "m", Value.ref a)].reverse) (bestMin xs) (bestMax xs)) ?j0 ?jstep ?jdone
  case j0 => exact ⟨⟨_, _, bind_self _ _ _⟩, rfl, fun j hj => absurd hj (Nat.not_lt_zero _)⟩
  case jstep =>
    rintro i c t v m₁ news₁ s₁ own ⟨h8, tk8, rfl⟩ hc ⟨tc, rfl⟩ ⟨⟨vi, vc, rfl⟩, rfl, hag⟩ hn hown F8 N8
    clear F N F9 N9 P9
    have hS1 : i < (cs (bestMin xs)).length := by
      have := (List.getElem?_eq_some_iff.mp hc).1
      rw [signs_length] at this
      rw [cs_len]; exact this
    have hag' := hag
    have hlt : (i : Int) < ((bestMax xs).length : Int) := by
      have := lt_of_agree i _ _ hag' hS1 (bestMax_ge (bestMin_mem hne))
      rw [cs_len] at this; lia
    have hmx : (bestMax xs).length ≤ 10000 := hlen _ (bestMax_mem hne)
    have hmn : (bestMin xs).length ≤ 10000 := hlen _ (bestMin_mem hne)
    have hci : ∃ k, (cs (bestMin xs))[i]? = some k ∧ c = ⟨#[k]⟩ := by
      unfold signs at hc
      rw [List.getElem?_map] at hc
      cases q : (bestMin xs).cps.toList[i]? with
      | none => rw [q] at hc; cases hc
      | some k => rw [q] at hc; cases hc; exact ⟨k, rfl, rfl⟩
    obtain ⟨ck, hck, rfl⟩ := hci
    have hdi : ∃ k, (cs (bestMax xs))[i]? = some k ∧ Txt.item (bestMax xs) i = ⟨#[k]⟩ := by
      have h2 : i < (cs (bestMax xs)).length := by rw [cs_len]; lia
      refine ⟨_, List.getElem?_eq_getElem h2, ?_⟩
      refine item_meets (by lia) ?_
      rw [← Array.getElem?_toList]
      exact List.getElem?_eq_getElem (by simpa using h2)
    obtain ⟨dk, hdk, hdt⟩ := hdi
    repeat' (first | (k_unfold; (try dsimp only)) | walk1 | (dsimp only; walk1))
    · (try dsimp only)
      rename (_ != _) = true => hne9
      refine hret _ _ _ _ ?_ (by rename Fr _ _ _ _ => F9; exact F9.keep)
      refine str_ext ?_
      rw [slice_to _ (by lia), Int.toNat_natCast]
      show _ = cs ⟨_⟩
      rw [cs_mk, lcp_at i _ _ hag']
      intro e
      rw [hck, hdk] at e
      rw [hdt, Option.some.inj e] at hne9
      simp at hne9
    · rename (_ != _) = false => hne9
      refine ⟨⟨_, _, bind2_find⟩, rfl, fun j hj => ?_⟩
      rcases Nat.lt_or_ge j i with q | q
      · exact hag j q
      · have : j = i := by lia
        subst this
        rw [hdt] at hne9
        have e : ck = dk := by simpa using hne9
        rw [hck, hdk, e]
  case jdone =>
    rintro h8 tk8 m' news' F8 N8 hn ⟨⟨vi, vc, rfl⟩, rfl, hag⟩
    clear F N F9 N9 P9
    repeat' (first | (k_unfold; (try dsimp only)) | walk1 | (dsimp only; walk1))
    (try dsimp only)
    refine hret _ _ _ _ ?_ (by rename Fr _ _ _ _ => F9; exact F9.keep)
    refine str_ext ?_
    show _ = cs ⟨_⟩
    rw [cs_mk, lcp_left _ _ fun j hj => hag j (by rw [signs_length, ← cs_len]; exact hj)]
end Mine
end TW4
section TLp
open PySem PySem.W PySem.Calls PyProof.Rows
set_option maxRecDepth 100000
set_option maxHeartbeats 8000000
namespace Mine
noncomputable abbrev tupO (vs : List Value) : Obj := { cls := .type "tuple", data := .seq vs.toArray }
noncomputable abbrev lstO (vs : List Value) (n : Nat) : Obj := { cls := .type "list", data := .seq vs.toArray n }
theorem bind_again {m : Str → Option Value} {x : Str} {vx : Option Value} {v : Value} : (fun y => if y = x then some v else bindM m x vx y) = bindM m x (some v) := by
  funext y
  unfold bindM
  by_cases h : y = x
  · rw [if_pos h, if_pos h]
  · rw [if_neg h, if_neg h, if_neg h]
theorem bind_one (m : Str → Option Value) (x : Str) : m = bindM m x (m x) := by
  funext z
  unfold bindM
  by_cases h : z = x
  · rw [if_pos h, h]
  · rw [if_neg h]
theorem islist_of {h : Heap} {a : Addr} {vs : List Value} {n : Nat} (e : h.get? a = some (lstO vs n)) : h.IsList a vs.toArray := ⟨_, e, rfl, _, rfl⟩
theorem istup_of {h : Heap} {a : Addr} {vs : List Value} (e : h.get? a = some (tupO vs)) : h.IsTuple a vs.toArray := ⟨_, e, rfl, _, rfl⟩
noncomputable def TurnEnd (h₀ : Heap) (L : Addr) (keep : List (Addr × Obj)) (Jn : (Str → Option Value) → Prop) (s : Shared) (Q : Flow → Shared → Prop) (f : Flow) (s₂ : Shared) : Prop :=
  match f with
  | .ret v => Q (.ret v) s₂
  | .brk => Q .next s₂
  | _ => ∃ h' tk m', s₂ = { s with heap := h', toks := tk } ∧ Fr h₀ L h' m' ∧ News h₀ L h' keep ∧ Jn m'
section
variable {w : World} {A : Around} {s : Shared} {env : Env} {h₀ : Heap} {m : Str → Option Value} {news : List (Addr × Obj)} {x : Str} {body : List Stmt} {Q : Flow → Shared → Prop} {E : Value → Shared → Prop}
theorem loop_walk {I : Addr} {fp wr : List Addr} {n : Nat} {P : Nat → Value → Prop} {St : Nat → Heap → Prop} {s₂ : Shared} {h₂ : Heap} {tk₂ : Nat} (hs : s₂ = { s with heap := h₂, toks := tk₂ })
    (W : Walks prog w A I fp wr n P St) (hLf : env.locals ∉ fp) (hwr : ∀ b ∈ wr, h₀.get? b = none) (hnw : ∀ p ∈ news, p.1 ∉ wr) (hst : St 0 h₂) (F : Fr h₀ env.locals h₂ m) (N : News h₀ env.locals h₂ news)
    (J : Nat → (Str → Option Value) → Prop) (h0 : J 0 m)
    (step : ∀ i v m₁ h tk own, i < n → P i v → J i m₁ → Fr h₀ env.locals h (fun y => if y = x then some v else m₁ y) → News h₀ env.locals h (own ++ news) →
      wpAny (model prog w) A (execs body env) (TurnEnd h₀ env.locals (own ++ news) (J (i + 1)) s Q) E { s with heap := h, toks := tk })
    (done : ∀ h' tk m', J n m' → Fr h₀ env.locals h' m' → News h₀ env.locals h' news → Q .next { s with heap := h', toks := tk }) :
    LoopAtV prog w A h₀ env x body Q E (.ref I) s₂ := by
  subst hs
  refine ⟨I, fp, wr, n, P, St, m, news, fun i m₁ news₁ => news₁ = news ∧ J i m₁, rfl, W, hLf, hwr, hnw, hst, F, N, ⟨rfl, h0⟩, ?_, ?_⟩
  · rintro i v m₁ news₁ s₁ own ⟨h, tk, rfl⟩ hi hP ⟨rfl, hJ⟩ _ _ _ _ _ F₁ N₁
    refine wpAny_mono (step i v m₁ h tk own hi hP hJ F₁ N₁) (fun f s₃ h₃ => ?_) fun _ _ e => e
    have fin : ∀ h' tk' m', s₃ = { s with heap := h', toks := tk' } → Fr h₀ env.locals h' m' → News h₀ env.locals h' (own ++ news₁) → J (i + 1) m' → LoopStepU h₀ env.locals wr own (fun m₁ news₂ => news₂ = news₁ ∧ J (i + 1) m₁) { s with heap := h, toks := tk } .next s₃ := by
      rintro h' tk' m' rfl F' N' J'
      exact ⟨rfl, h', tk', m', news₁, rfl, F', N', hnw, rfl, J'⟩
    cases f with
    | ret v => exact .ret h₃
    | brk => exact .brk h₃
    | next => obtain ⟨h', tk', m', e, F', N', J'⟩ := h₃; exact .next (fin h' tk' m' e F' N' J')
    | cont => obtain ⟨h', tk', m', e, F', N', J'⟩ := h₃; exact .cont (fin h' tk' m' e F' N' J')
  · rintro h' tk m' news' F' N' _ ⟨rfl, hJ⟩
    exact done h' tk m' hJ F' N'
theorem fresh_at {h : Heap} {L : Addr} {m : Str → Option Value} {h₀ : Heap} (F : Fr h₀ L h m) : h₀.get? h.objs.size = none := by
  cases q : h₀.get? h.objs.size with
  | none => rfl
  | some o => exact absurd (Heap.lt_size (F.keep _ _ q)) (Nat.lt_irrefl _)
theorem loop_tuple {a : Addr} {vs : List Value} (hh : A.handled = none) (hO : s.heap.get? a = some (tupO vs)) (haL : a ≠ env.locals) (F : Fr h₀ env.locals s.heap m) (N : News h₀ env.locals s.heap news)
    (J : Nat → (Str → Option Value) → Prop) (h0 : J 0 m)
    (step : ∀ i v m₁ h tk own, i < vs.length → vs[i]? = some v → J i m₁ → Fr h₀ env.locals h (fun y => if y = x then some v else m₁ y) → News h₀ env.locals h (own ++ news) →
      wpAny (model prog w) A (execs body env) (TurnEnd h₀ env.locals (own ++ news) (J (i + 1)) s Q) E { s with heap := h, toks := tk })
    (done : ∀ h' tk m', J vs.length m' → Fr h₀ env.locals h' m' → News h₀ env.locals h' news → Q .next { s with heap := h', toks := tk }) :
    wpAny (model prog w) A (pyIter (.ref a)) (fun it s₂ => LoopAtV prog w A h₀ env x body Q E it s₂) E s := by
  have hlt := Heap.lt_size hO
  have hT : s.heap.IsTuple a vs.toArray := ⟨_, hO, rfl, _, rfl⟩
  refine wpAny_pyIter_tuple hT ?_
  have W := Walks.tuple (prog := prog) (w := w) hh s.heap.objs.size a (Nat.ne_of_lt hlt) vs.toArray
  have e : vs.toArray.size = vs.length := List.size_toArray
  rw [e] at W
  refine loop_walk rfl W ?_ ?_ ?_ ⟨⟨_, Heap.get?_push_size _ rfl, rfl, rfl⟩, hT.at fun o e => Heap.get?_push_of_some _ e⟩ (F.push _) (fun p hp => ⟨Heap.get?_push_of_some _ (N p hp).1, (N p hp).2⟩) J h0 ?_ done
  · intro hm
    rcases List.mem_cons.mp hm with e | hm
    · exact absurd F.ns.lt (e ▸ Nat.lt_irrefl _)
    · exact haL (List.mem_singleton.mp hm).symm
  · intro b hb
    rw [List.mem_singleton.mp hb]
    exact fresh_at F
  · intro p hp hI
    exact absurd (Heap.lt_size (N p hp).1) ((List.mem_singleton.mp hI) ▸ Nat.lt_irrefl _)
  · intro i v m₁ h tk own hi hP hJ F₁ N₁
    exact step i v m₁ h tk own hi (by rw [← List.getElem?_toArray]; exact hP) hJ F₁ N₁
end
section
variable {w : World} {A : Around} {s : Shared} {env : Env} {Q : Value → Shared → Prop}
theorem comp_over {a : Addr} {vs : List Value} {x : Str} {elt : Expr} {scope : Scope} (hh : A.handled = none) (hO : s.heap.get? a = some (tupO vs) ∨ ∃ n, s.heap.get? a = some (lstO vs n)) (G : Value → Value → Prop) (hsz : vs.length ≤ 10000)
    (helt : ∀ (C : Addr) (i : Nat) (v : Value) (s₃ : Shared) (m₃ : Str → Option Value), vs[i]? = some v → s₃.heap.Ns C m₃ → m₃ x = some v → Ext s.heap s₃.heap → wpAny (model prog w) A (eval elt (compEnv scope C env)) (fun y s₄ => G v y ∧ Keeps s₃ s₄) (fun _ _ => False) s₃)
    (hQ : ∀ D h' tk ys n, s.heap.get? D = none → Ext s.heap h' → h'.get? D = some (lstO ys n) → Paired G vs ys → Q (.ref D) { s with heap := h', toks := tk }) :
    wpAny (model prog w) A (pyIter (.ref a)) (fun it s₂ => ∃ I fp wr n P St, it = .ref I ∧ Walks prog w A I fp wr n P St ∧ n ≤ sizeLine ∧ St 0 s₂.heap ∧ (∀ b ∈ fp, b < s₂.heap.objs.size) ∧
      QuietOn prog w A env scope x [] elt wr P (fun _ => true) G s₂ ∧
      (∀ D h' tk ys (vs' : List Value), s₂.heap.get? D = none → h'.IsList D ys → h'.PlainList D ys → vs'.length = n → (∀ j v, vs'[j]? = some v → P j v) → Paired G (vs'.filter fun _ => true) ys.toList →
        (∀ b o, b ∉ wr → s₂.heap.get? b = some o → h'.get? b = some o) → Q (.ref D) { s₂ with heap := h', toks := tk })) (fun _ _ => False) s := by
  have hlt : a < s.heap.objs.size := hO.elim (fun e => Heap.lt_size e) fun ⟨_, e⟩ => Heap.lt_size e
  have fin : ∀ (ob : Obj) (I : Addr) (St : Nat → Heap → Prop), I = s.heap.objs.size → Walks prog w A I [I, a] [I] vs.toArray.size (fun i v => vs.toArray[i]? = some v) St → St 0 (s.heap.push ob) →
      ∃ I fp wr n P St, Value.ref s.heap.objs.size = .ref I ∧ Walks prog w A I fp wr n P St ∧ n ≤ sizeLine ∧ St 0 (s.heap.push ob) ∧ (∀ b ∈ fp, b < (s.heap.push ob).objs.size) ∧
      QuietOn prog w A env scope x [] elt wr P (fun _ => true) G { s with heap := s.heap.push ob } ∧
      (∀ D h' tk ys (vs' : List Value), (s.heap.push ob).get? D = none → h'.IsList D ys → h'.PlainList D ys → vs'.length = n → (∀ j v, vs'[j]? = some v → P j v) → Paired G (vs'.filter fun _ => true) ys.toList →
        (∀ b o, b ∉ wr → (s.heap.push ob).get? b = some o → h'.get? b = some o) → Q (.ref D) { s with heap := h', toks := tk }) := by
    rintro ob I St rfl W hst
    have up : ∀ b o, s.heap.get? b = some o → b ∉ [s.heap.objs.size] := fun b o e hb => Nat.lt_irrefl _ ((List.mem_singleton.mp hb) ▸ Heap.lt_size e)
    refine ⟨_, _, _, _, _, St, rfl, W, ?_, hst, ?_, ⟨?_, ?_⟩, ?_⟩
    · rw [List.size_toArray, sizeLine_eq]; omega
    · intro b hb
      show b < (s.heap.push ob).objs.size
      rw [Heap.size_push]
      rcases List.mem_cons.mp hb with e | hb
      · exact e ▸ Nat.lt_succ_self _
      · exact (List.mem_singleton.mp hb) ▸ Nat.lt_succ_of_lt hlt
    · intro C i v s₃ m₃ E' hP hn hm hk htk
      exact wpAny_pure ⟨rfl, s₃.heap, s₃.toks, rfl, fun _ _ e => e⟩
    · intro C i v s₃ m₃ E' hP _ hn hm hk htk
      exact wpAny_mono (helt C i v s₃ m₃ (by rw [← List.getElem?_toArray]; exact hP) hn hm fun b o e => hk b o (up b o e) (Heap.get?_push_of_some _ e)) (fun _ _ e => e) fun _ _ e => e.elim
    · intro D h' tk ys vs' hD _ hpl hlen hP hF hk
      obtain ⟨n, hpl⟩ := hpl
      have e : vs' = vs := by
        apply List.ext_getElem?
        intro j
        cases q : vs'[j]? with
        | some v => rw [← hP j v q]; simp
        | none =>
          have h1 := List.getElem?_eq_none_iff.mp q
          rw [hlen, List.size_toArray] at h1
          exact (List.getElem?_eq_none h1).symm
      subst e
      have e2 : vs'.filter (fun _ => true) = vs' := List.filter_eq_self.mpr fun _ _ => rfl
      rw [e2] at hF
      refine hQ D h' tk ys.toList n ?_ (fun b o e => hk b o (up b o e) (Heap.get?_push_of_some _ e)) ?_ hF
      · cases q : s.heap.get? D with
        | none => rfl
        | some o => rw [Heap.get?_push_of_some _ q] at hD; cases hD
      · show h'.get? D = some { cls := .type "list", data := .seq ys.toList.toArray n }
        rw [Array.toArray_toList]; exact hpl
  rcases hO with hO | ⟨n, hO⟩
  · have hT : s.heap.IsTuple a vs.toArray := ⟨_, hO, rfl, _, rfl⟩
    exact wpAny_pyIter_tuple hT (fin _ _ _ rfl (Walks.tuple (prog := prog) (w := w) hh s.heap.objs.size a (Nat.ne_of_lt hlt) vs.toArray) ⟨⟨_, Heap.get?_push_size _ rfl, rfl, rfl⟩, hT.at fun o e => Heap.get?_push_of_some _ e⟩)
  · have hT : s.heap.IsList a vs.toArray := ⟨_, hO, rfl, _, rfl⟩
    exact wpAny_pyIter_list hT (fin _ _ _ rfl (Walks.list (prog := prog) (w := w) hh s.heap.objs.size a (Nat.ne_of_lt hlt) vs.toArray) ⟨⟨_, Heap.get?_push_size _ rfl, rfl, rfl⟩, hT.at fun o e => Heap.get?_push_of_some _ e⟩)
end
theorem listcomp_over {w : World} {A : Around} {s : Shared} {env : Env} {Q : Value → Shared → Prop} {a : Addr} {vs : List Value} {x : Str} {px pos : Pos} {elt iter : Expr} {scope : Scope} (G : Value → Value → Prop)
    (hit : ∀ Q' : Value → Shared → Prop, Q' (.ref a) s → wpAny (model prog w) A (eval iter env) Q' (fun _ _ => False) s) (hO : s.heap.get? a = some (tupO vs) ∨ ∃ n, s.heap.get? a = some (lstO vs n)) (hh : A.handled = none)
    (hfree : ∀ y ∈ scope.names, y.2 ≠ .free) (hcell : ∀ y ∈ scope.names, y.2 ≠ .cell) (hkind : scope.kind = .function)
    (hnames : ∀ y ∈ scope.names, y.2 = .local → scope.names.lookup y.1 = some .local) (hx : scope.names.lookup x = some .local) (hs : ∀ x, foldedSetIterable iter env x = pure x) (hsz : vs.length ≤ 10000)
    (helt : ∀ (C : Addr) (i : Nat) (v : Value) (s₃ : Shared) (m₃ : Str → Option Value), vs[i]? = some v → s₃.heap.Ns C m₃ → m₃ x = some v → Ext s.heap s₃.heap → wpAny (model prog w) A (eval elt (compEnv scope C env)) (fun y s₄ => G v y ∧ Keeps s₃ s₄) (fun _ _ => False) s₃)
    (hQ : ∀ D h' tk ys n, s.heap.get? D = none → Ext s.heap h' → h'.get? D = some (lstO ys n) → Paired G vs ys → Q (.ref D) { s with heap := h', toks := tk }) :
    wpAny (model prog w) A (eval (.ListComp elt [⟨.Name x px, iter, [], 0⟩] scope pos) env) Q (fun _ _ => False) s :=
  wpAny_ListComp_walk (fun _ => true) G hfree hcell hkind hnames hx (hit _ (comp_over hh hO G hsz helt hQ)) hs
theorem paired_strs {G : Value → Value → Prop} {f : Str → Str} (hG : ∀ x t y, G (.str x t) y → ∃ u, y = .str (f x) u) {vs ys : List Value} {xs : List Str} (h : Paired G vs ys) : StrsAre vs xs → StrsAre ys (xs.map f) := by
  induction h generalizing xs with
  | nil => intro hs; cases hs; exact .nil
  | cons h r ih =>
    intro hs
    cases hs with
    | cons x t hs =>
      obtain ⟨u, rfl⟩ := hG _ _ _ h
      exact .cons _ u (ih hs)
end Mine
end TLp
section TW5
open PySem PySem.W PySem.Calls PyProof.Rows
set_option maxRecDepth 100000
set_option maxHeartbeats 8000000
namespace Mine
theorem fillW5 (P : Params) : PySem.Challenge.rw_sr0100_01 = PySem.Challenge.rw_sr0100_01 ∧ hd.heap_39 P = hd.heap_39 P := by
  w_top off
  k_fill
  exact ⟨rfl, rfl⟩
theorem commonprefix_ok {w : World} {s : Shared} {Q : Value → Shared → Prop}
   (O : Ok w s.heap) (a : Addr) (vs : List Value) (xs : List Str) (hO : s.heap.get? a = some (tupO vs)) (hv : StrsAre vs xs) (hne : xs ≠ []) (hlen : ∀ x ∈ xs, x.length ≤ 10000) (hn : xs.length ≤ 100)
   (hret : ∀ h' tk t y, y = prefixS xs → Ext s.heap h' → Q (.str y t) { s with heap := h', toks := tk }) :
   wpAny (model prog w) (lv 500 1800) (call (.ref 54) [.ref a]) Q (fun _ _ => False) s := by
  have hvl := hv.areOf.length
  have hget : ∀ (i : Nat) (v : Value), vs[i]? = some v → ∃ t, v = Value.str (xs.getD i default) t := fun i v e => (strs_get hv e).2
  have hvK : (∀ P : Prop, (StrsAre vs xs → P) → P) := fun P h => h hv
  obtain ⟨X, loose, mean, mg, mb, T⟩ := O.top
  refine' enter [("m", .ref a)] X T.nolimit (Nat.le_of_ble_eq_true rfl) ?k1 ?k3 ?k4 ?k5 ?k6 ?k7 ?k8 ?k9 ?k10
  case k1 => k_is
  case k3 => k_is
  case k4 => exact rfl
  case k5 => exact rfl
  case k7 => rfl
  case k8 => rfl
  case k9 => rfl
  case k10 => decide
  intro h₁ tk F N
  have hTup : IsTup s.heap a vs.toArray := ⟨_, hO, rfl, _, rfl⟩
  repeat' ((fail_if_success (with_reducible show wpAny _ _ (call (Value.type "type") _) _ _ _)); first | (k_unfold; (try dsimp only)) | walk1 | (dsimp only; walk1))
  refine' call_type_of (Tx := "tuple") ⟨_, F.keep _ _ hO, rfl⟩ (by decide) ?_
  repeat' ((fail_if_success (with_reducible show wpAny _ _ (call (Value.type "type") _) _ _ _)); first | (k_unfold; (try dsimp only)) | walk1 | (dsimp only; walk1))
  rename Fr _ _ _ _ => F
  rename News _ _ _ _ => N
  refine' call_type_of (Tx := "tuple") ⟨_, F.keep _ _ hO, rfl⟩ (by decide) ?_
  repeat' ((fail_if_success (with_reducible show wpAny _ _ (truthy (Value.ref _)) _ _ _)); first | (k_unfold; (try dsimp only)) | walk1 | (dsimp only; walk1))
  rename Fr _ _ _ _ => F
  rename News _ _ _ _ => N
  refine' ktl_truthy (F.keep _ _ hO) (by rw [List.size_toArray]; omega) ?_
  rw [show vs.toArray.isEmpty = false from by rw [List.isEmpty_toArray]; cases vs with | nil => exact absurd (List.eq_nil_of_length_eq_zero hvl.symm) hne | cons _ _ => rfl]
  have hpos : 0 < xs.length := Nat.pos_of_ne_zero fun e => hne (List.eq_nil_of_length_eq_zero e)
  repeat' ((fail_if_success (with_reducible show wpAny _ _ (call (Value.type "type") _) _ _ _)); first | (k_unfold; (try dsimp only)) | walk1 | (dsimp only; walk1))
  rename Fr _ _ _ _ => F
  rename News _ _ _ _ => N
  refine' call_type_of (Tx := "str") (typeIs_str _ _ _) (by decide) ?_
  repeat' ((fail_if_success (with_reducible show wpAny _ _ (exec (Stmt.For _ _ _ _ _) _) _ _ _)); first | (k_unfold; (try dsimp only)) | walk1 | (dsimp only; walk1))
  rename Fr _ _ _ _ => F
  rename News _ _ _ _ => N
  refine' For_invV s.heap rfl rfl ?_
  repeat' ((fail_if_success (with_reducible show wpAny _ _ (pyIter (Value.ref _)) _ _ _)); first | (k_unfold; (try dsimp only)) | walk1 | (dsimp only; walk1))
  refine' loop_tuple rfl (F.keep _ _ hO) (Nat.ne_of_lt (Heap.lt_size hO)) F N (fun i m₁ => ∃ vx, m₁ = bindM (fun y => if y = Str.ofString "t" then some (Value.type "str") else List.lookup y [(Str.ofString "m", Value.ref a)].reverse) (Str.ofString "x") vx) ?j0 ?jstep ?jdone
  case j0 => exact ⟨_, bind_one _ _⟩
  case jstep =>
    rintro i v m₁ h tk own hi hv' ⟨vx, rfl⟩ F8 N8
    clear F N
    obtain ⟨tx, rfl⟩ := hget _ _ hv'
    repeat' ((fail_if_success (with_reducible show wpAny _ _ (call (Value.ref 35) _) _ _ _)); first | (k_unfold; (try dsimp only)) | walk1 | (dsimp only; walk1))
    rename Fr _ _ _ _ => F
    rename News _ _ _ _ => N
    refine' at_lv (kind_ok ?kO _ _ _ _ ?_) rfl (Nat.le_of_ble_eq_true rfl) rfl (Nat.le_of_ble_eq_true rfl)
    case kO => exact ok_fr O F
    intro h' tk' t' e'
    have F' := fr_ext F e'
    have N' := news_ext N e'
    clear F N e'
    repeat' (first | (k_unfold; (try dsimp only)) | walk1 | (dsimp only; walk1))
    refine ⟨_, _, _, rfl, (by rename Fr _ _ _ _ => F9; exact F9), (by rename News _ _ _ _ => N9; exact N9), ?_⟩
    exact ⟨_, bind_again⟩
  case jdone =>
    rintro h' tk m' ⟨vx, rfl⟩ F8 N8
    clear F N
    repeat' ((fail_if_success (with_reducible show wpAny _ _ (eval (Expr.ListComp _ _ _ _) _) _ _ _)); first | (k_unfold; (try dsimp only)) | walk1 | (dsimp only; walk1))
    rename Fr _ _ _ _ => F
    rename News _ _ _ _ => N
    refine' listcomp_over (a := a) (vs := vs) (fun v y => ∀ x t, v = Value.str x t → ∃ u, y = Value.str x u) ?chit ?chO rfl (by decide) (by decide) rfl (by decide) (by decide) (fun _ => rfl) ?csz ?celt ?cback
    case chit => exact fun Q' h' => ld F rfl h'
    case chO => exact .inl (F.keep _ _ hO)
    case csz => omega
    case celt =>
      intro C i v s₃ m₃ hv' hns hm hk
      obtain ⟨tx, rfl⟩ := hget _ _ hv'
      have F3 := fr_ext F hk
      have N3 := news_ext N hk
      clear F N
      repeat' ((fail_if_success (with_reducible show wpAny _ _ (call (Value.ref 42) _) _ _ _)); first | (k_unfold; (try dsimp only)) | walk1 | (dsimp only; walk1))
      rename Fr _ _ _ _ => F
      refine' at_lv (fspath_ok ?kO _ _ _ _ ?_) rfl (Nat.le_of_ble_eq_true rfl) rfl (Nat.le_of_ble_eq_true rfl)
      case kO => exact ok_fr O F
      intro h8 tk8 e8
      refine ⟨fun x t q => ⟨t, q⟩, h8, tk8, rfl, e8⟩
    case cback =>
      intro D h8 tk8 ys n hD e8 hys hp
      have hys' : StrsAre ys xs := by
        have := hvK _ fun hv => paired_strs (f := id) (fun x t y q => q x t rfl) hp hv
        rwa [List.map_id] at this
      have N1 : News s.heap s.heap.objs.size h8 [(D, lstO ys n)] := news_made F N e8 (tl := [(D, lstO ys n)]) (fun p hp => by cases List.mem_singleton.mp hp; exact ⟨hD, hys⟩)
      have F1 := fr_ext F e8
      clear F N
      repeat' ((fail_if_success (with_reducible show wpAny _ _ (call (Value.type "tuple") _) _ _ _)); first | (k_unfold; (try dsimp only)) | walk1 | (dsimp only; walk1))
      rename Fr _ _ _ _ => F
      rename News _ _ _ _ => N
      refine' call_tuple_list (islist_of (N _ (.head _)).1) ?_ ?_
      case refine'_2 => rw [List.size_toArray, sizeLine_eq, hys'.areOf.length]; omega
      intro h9 e9
      have F1 := Fr.push (fr_ext F e9) (tupO ys)
      have N1 := News.push (fr_ext F e9) (news_ext N e9) (tupO ys)
      clear F N
      repeat' ((fail_if_success (with_reducible show wpAny _ _ (call (Value.ref 49) _) _ _ _)); first | (k_unfold; (try dsimp only)) | walk1 | (dsimp only; walk1))
      rename Fr _ _ _ _ => F
      rename News _ _ _ _ => N
      refine' at_lv (prefix_ok ?kO _ _ _ ?kT hys' hne hlen ?_) rfl (Nat.le_of_ble_eq_true rfl) rfl (Nat.le_of_ble_eq_true rfl)
      case kO => exact ok_fr O F
      case kT => exact istup_of (N _ (.head _)).1
      intro h' tk t y ey e
      exact hret _ _ _ _ ey (ext_trans F.keep e)
end Mine
end TW5
section TEn
open PySem PySem.W PySem.Calls PyProof.Rows
set_option maxRecDepth 100000
set_option maxHeartbeats 8000000
namespace Mine
theorem enterF {w : World} {K : Frag} {A : Around} {s : Shared} {Q : Value → Shared → Prop} {f : Addr} {oc pm cdv ct dV kV doc : Value} {an od : Option Addr} {osl : Array (Option Value)} {name qual : Str} {params : Arguments} {body : List Stmt} {scope : Scope} {args : List Value} (binds : List (Str × Value))
   (X : K.In s.heap) (hlim : s.heap.NoLimit) (hr : A.depth < recursionLimit)
   (hl : K.lookup f = some ⟨oc, od, .func (fnOf name qual params body scope dV kV doc pm an cdv ct), osl⟩) (hcd : codeIn K cdv qual = true)
   (hbind : BindsTo s (fnOf name qual params body scope dV kV doc pm an cdv ct) ⟨args, []⟩ binds)
   (hloc : (binds.all fun x => decide (scope.names.lookup x.1 = some .local)) = true)
   (h : ∀ h₁ tk, Fr s.heap s.heap.objs.size h₁ (fun x => binds.reverse.lookup x) → News s.heap s.heap.objs.size h₁ [] →
      wpAny (model prog w) (A.deeper (envOf qual scope s.heap.objs.size f cdv)) (execs body (envOf qual scope s.heap.objs.size f cdv))
        (fun fl s' => Q (match fl with | .ret v => v | _ => .none) s') (fun _ _ => False)
        { s with heap := h₁, toks := tk })
   (hco : scope.isCoroutine = false) (hgen : scope.isGenerator = false) (hk : scope.kind = .function)
   (hcell : ∀ x ∈ scope.names, x.2 ≠ .cell) : wpAny (model prog w) A (call (.ref f) args) Q (fun _ _ => False) s := by
  refine wpAny_call (codeAny_call_def (fd := fnOf name qual params body scope dV kV doc pm an cdv ct) (body := body) (binds := binds) hr (X _ _ hl) rfl hlim (codeRec_of X hcd) rfl hbind hcell (locs hloc) (fun h₁ hns hk₁ => ?_) hco hgen hk)
  exact wpAny_mono (h h₁ _ ⟨hns, hk₁, Nat.le_refl _⟩ News.nil) (fun _ _ e => e) fun _ _ e => e.elim
theorem enterC {w : World} {K : Frag} {A : Around} {s : Shared} {Q : Value → Shared → Prop} {f : Addr} {oc pm cd doc : Value} {od : Option Addr} {osl : Array (Option Value)} {name : Str} {params : Arguments} {body : List Stmt} {scope : Scope} {args : List Value} (binds : List (Str × Value))
   (X : K.In s.heap) (hlim : s.heap.NoLimit) (hr : A.depth < recursionLimit)
   (hl : K.lookup f = some ⟨oc, od, .func (docDef name params body scope pm cd doc), osl⟩) (hcd : codeIn K cd name = true)
   (hbind : bindArgs (docDef name params body scope pm cd doc) ⟨args, []⟩ = pure binds)
   (hkind : (binds.all fun y => scope.names.lookup y.1 == some .local || scope.names.lookup y.1 == some .cell) = true)
   (hnd : ((cellsFrom 0 scope.names []).map (·.1)).Nodup)
   (h : ∀ h₁ tk cells, Fr s.heap s.heap.objs.size h₁ (bindL (envOfC name scope s.heap.objs.size f cd).kindOf binds fun _ => none) → News s.heap s.heap.objs.size h₁ cells →
      CellsAre (bindC (envOfC name scope s.heap.objs.size f cd).kindOf binds fun _ => none) (cellsFrom (s.heap.objs.size + 1) scope.names []) cells →
      wpAny (model prog w) (A.deeper (envOfC name scope s.heap.objs.size f cd)) (execs body (envOfC name scope s.heap.objs.size f cd))
        (fun fl s' => Q (match fl with | .ret v => v | _ => .none) s') (fun _ _ => False) { s with heap := h₁, toks := tk })
   (hco : scope.isCoroutine = false) (hgen : scope.isGenerator = false) (hk : scope.kind = .function) : wpAny (model prog w) A (call (.ref f) args) Q (fun _ _ => False) s :=
  wpAny_call (call_cellsN_ret hr (X _ _ hl) rfl hlim (codeRec_of X hcd) hbind (kindsX hkind _) hnd (fun h₁ tk cells F N Y => h h₁ tk cells F N Y) hco hgen hk)
end Mine
end TEn
section TW6
open PySem PySem.W PySem.Calls PyProof.Rows
set_option maxRecDepth 100000
set_option maxHeartbeats 8000000
namespace Mine
theorem fillW6 (P : Params) : PySem.Challenge.rw_sr0100_01 = PySem.Challenge.rw_sr0100_01 ∧ hd.heap_39 P = hd.heap_39 P := by
  w_top off
  k_fill
  exact ⟨rfl, rfl⟩
theorem safe_repr_ok {w : World} {s : Shared} {Q : Value → Shared → Prop}
   (O : Ok w s.heap) (a : Addr) (d : PyData) (as : List Addr) (r : Reads s.heap (.ref a) d as) (hsh : d.showable = true) (hsm : d.hasDict = true → sysModules ∉ as) (hlen : d.shown.length ≤ 10000) (hdep : d.depth ≤ 20)
   (hret : ∀ h' tk t, Ext s.heap h' → Q (.str d.shown t) { s with heap := h', toks := tk }) :
   wpAny (model prog w) (lv 800 2500) (call (.ref 69) [.ref a]) Q (fun _ _ => False) s := by
  obtain ⟨X, loose, mean, mg, mb, T⟩ := O.top
  refine' enterF [("obj", .ref a), ("short", .bool false)] X T.nolimit (Nat.le_of_ble_eq_true rfl) ?k1 ?k3 ?k4 ?k5 ?k6 ?k7 ?k8 ?k9 ?k10
  case k1 => k_is
  case k3 => k_is
  case k4 => exact binds_K (T := 62) X rfl (by k_is) rfl rfl rfl
  case k5 => exact rfl
  case k7 => rfl
  case k8 => rfl
  case k9 => rfl
  case k10 => decide
  intro h₁ tk F N
  repeat' ((fail_if_success (with_reducible show wpAny _ _ (call (Value.builtin "repr") _) _ _ _)); first | (k_unfold; (try dsimp only)) | walk1 | (dsimp only; walk1))
  refine' repr_of_reads' r hsh hsm rfl ?hu (fun b o e => F.keep b o e) ?_ ?hz
  case hz => rw [sizeLine_eq]; omega
  case hu =>
    show 2503 + (d.depth + 1) < 9900
    omega
  intro h' u tk' e'
  have F' := fr_ext F e'
  have N' := news_ext N e'
  clear F N e'
  repeat' (first | (k_unfold; (try dsimp only)) | walk1 | (dsimp only; walk1))
  (try dsimp only)
  exact hret _ _ _ (by rename Fr _ _ _ _ => F9; exact F9.keep)
end Mine
end TW6
section TIt
open PySem PySem.W PySem.Calls PyProof.Rows
set_option maxRecDepth 100000
set_option maxHeartbeats 8000000
namespace Mine
set_option genSizeOf false in
inductive Item where
  | str (x : Str)
  | int (i : Int)
  | lst (i : Int)
  | dct (k j : Int)
noncomputable def Item.data : Item → PyData
  | .str x => .str x
  | .int i => .int i
  | .lst i => .list [.tuple [.int i], .list [], .tuple []]
  | .dct k j => .dict [(.int k, .tuple [.str (Str.ofString ""), .int j])]
noncomputable def ItemIs (w : World) (h : Heap) (v : Value) : Item → Prop
  | .str x => ∃ t, v = .str x t
  | .int i => ∃ t, v = .int i t
  | .lst i => ∃ a b c e t n n', v = .ref a ∧ a ≠ sysModules ∧ c ≠ sysModules ∧ h.get? a = some (lstO [.ref b, .ref c, .ref e] n) ∧ h.get? b = some (tupO [.int i t]) ∧ h.get? c = some (lstO [] n') ∧ h.get? e = some (tupO [])
  | .dct k j => ∃ a b t t', v = .ref a ∧ a ≠ sysModules ∧ h.DictOf (intKind prog w) a [(k, .ref b)] ∧ h.get? b = some (tupO [.str (Str.ofString "") t, .int j t'])
noncomputable def ItemIn (w : World) (tl : List (Addr × Obj)) (v : Value) (d : Item) : Prop := ∀ h : Heap, (∀ p ∈ tl, h.get? p.1 = some p.2) → ItemIs w h v d
noncomputable def litD (k : Int) : Str :=
  if k = 0 then Str.ofString "a" else if k = 1 then Str.ofString "'" else if k = 2 then Str.ofString "\"" else if k = 3 then Str.ofString ", "
  else if k = 4 then Str.ofString "[" else if k = 5 then Str.ofString ")" else if k = 6 then Str.ofString "7" else Str.ofString "(0"
noncomputable def itemD (n : Int) : Item :=
  if n.fmod 4 = 0 then .str (Txt.mul (litD ((n.fdiv 4).fmod 8)) (((n.fdiv 4).fdiv 8).fmod 24))
  else if n.fmod 4 = 1 then .int ((n.fdiv 4).fmod (10 ^ 12) - 10 ^ 11)
  else if n.fmod 4 = 2 then .lst ((n.fdiv 4).fmod 100)
  else .dct ((n.fdiv 4).fmod 10) (-((n.fdiv 4).fmod 7))
end Mine
end TIt
section TW7
open PySem PySem.W PySem.Calls PyProof.Rows
set_option maxRecDepth 100000
set_option maxHeartbeats 8000000
namespace Mine
theorem fillW7 (P : Params) : PySem.Challenge.rw_sr0100_01 = PySem.Challenge.rw_sr0100_01 ∧ hd.heap_39 P = hd.heap_39 P := by
  w_top off
  k_fill
  exact ⟨rfl, rfl⟩
theorem dct_made {w : World} {a b : Addr} {o : Obj} {k j : Int} {t t' : Tok} (lo : (a == sysModules) = false) (hd : o.IsDictOf (intKind prog w) [(k, .ref b)]) :
    ItemIn w [(a, o), (b, tupO [.str (Str.ofString "") t, .int j t'])] (.ref a) (.dct k j) := by
  intro h H
  refine ⟨a, b, t, t', rfl, by simpa using lo, ?_, H _ (.tail _ (.head _))⟩
  exact Heap.dictOf_iff.mpr ⟨o, H _ (.head _), hd⟩
theorem dict_cls {w : World} {o : Obj} {kvs : List (Int × Value)} (h : o.IsDictOf (intKind prog w) kvs) : o.cls ≠ .none := by
  obtain ⟨es, ep, hx, _⟩ := h
  rw [hx.1]
  exact fun q => nomatch q
noncomputable def Cl (l : List (Addr × Obj)) : Prop := ∀ p ∈ l, p.2.cls ≠ .none
theorem Cl.nil : Cl [] := fun _ h => nomatch h
theorem Cl.cons {a : Addr} {o : Obj} {l : List (Addr × Obj)} (h : o.cls ≠ .none) (r : Cl l) : Cl ((a, o) :: l) := fun p hp => by
  rcases List.mem_cons.mp hp with rfl | hp
  · exact h
  · exact r p hp
theorem Cl.app {l l' : List (Addr × Obj)} (h : Cl l) (r : Cl l') : Cl (l ++ l') := fun p hp => (List.mem_append.mp hp).elim (h p) (r p)
theorem law_item_ok {w : World} {s : Shared} {Q : Value → Shared → Prop}
   (O : Ok w s.heap) (n : Int) (t : Tok)
   (hret : ∀ h' tk v tl, Made s.heap h' tl → Cl tl → ItemIn w tl v (itemD n) → Ext s.heap h' → Q v { s with heap := h', toks := tk }) :
   wpAny (model prog w) (lv 800 2500) (call (.ref 76) [.int n t]) Q (fun _ _ => False) s := by
  have hstr : ∀ h' tk k t', Ext s.heap h' → n.fmod 4 = 0 → litD ((n.fdiv 4).fmod 8) = k → Q (.str (Txt.mul k (((n.fdiv 4).fdiv 8).fmod 24)) t') { s with heap := h', toks := tk } := by
    intro h' tk k t' e hk hm
    refine hret _ _ _ [] (made_nil _ _) Cl.nil ?_ e
    intro h _
    unfold itemD
    rw [if_pos hk, hm]
    exact ⟨_, rfl⟩
  have hint : ∀ h' tk t', Ext s.heap h' → n.fmod 4 ≠ 0 → n.fmod 4 = 1 → Q (.int ((n.fdiv 4).fmod (10 ^ 12) - 10 ^ 11) t') { s with heap := h', toks := tk } := by
    intro h' tk t' e hk hm
    refine hret _ _ _ [] (made_nil _ _) Cl.nil ?_ e
    intro h _
    unfold itemD
    rw [if_neg hk, if_pos hm]
    exact ⟨_, rfl⟩
  obtain ⟨X, loose, mean, mg, mb, T⟩ := O.top
  refine' enter [("number", .int n t)] X T.nolimit (Nat.le_of_ble_eq_true rfl) ?k1 ?k3 ?k4 ?k5 ?k6 ?k7 ?k8 ?k9 ?k10
  case k1 => k_is
  case k3 => k_is
  case k4 => exact rfl
  case k5 => exact rfl
  case k7 => rfl
  case k8 => rfl
  case k9 => rfl
  case k10 => decide
  intro h₁ tk F N
  repeat' ((fail_if_success (with_reducible show wpAny _ _ (eval (Expr.Dict _ _ _) _) _ _ _)); first | (k_unfold; (try dsimp only)) | walk1 | (dsimp only; walk1))
  all_goals (try (try dsimp only))
  rotate_left 8
  · exact hint _ _ _ (by rename Fr _ _ _ _ => F9; exact F9.keep) (by assumption) (by assumption)
  · rename Fr _ _ _ _ => F
    rename News _ _ _ _ => N
    refine hret _ _ _ _ (made_of_news N) (by repeat' (first | exact Cl.nil | refine Cl.cons (fun q => nomatch q) ?_)) ?_ F.keep
    intro h H
    unfold itemD
    rw [if_neg (by assumption), if_neg (by assumption), if_pos (by assumption)]
    refine ⟨_, _, _, _, _, _, _, rfl, ?_, ?_, H _ (.head _), H _ (.tail _ (.tail _ (.tail _ (.head _)))), H _ (.tail _ (.tail _ (.head _))), H _ (.tail _ (.head _))⟩ <;> (show _ ≠ (1 : Nat); omega)
  · rename Fr _ _ _ _ => F
    rename News _ _ _ _ => N
    refine' kdn_eval (knd := intKind prog w) F N T.nolimit rfl rfl (List.cons_ne_nil _ _) (Nat.le_of_ble_eq_true rfl) ?_
    intro d' h' o' F' N' l1 lo' hd'
    (try k_lt l1)
    clear F N
    repeat' (first | (k_unfold; (try dsimp only)) | walk1 | (dsimp only; walk1))
    (try dsimp only)
    rename Fr _ _ _ _ => F
    rename News _ _ _ _ => N
    rename Obj.IsDictOf _ _ _ => hd9
    have hc9 := dict_cls hd9
    refine hret _ _ _ _ (made_of_news N) (by repeat' (first | exact Cl.nil | refine Cl.cons hc9 ?_ | refine Cl.cons (fun q => nomatch q) ?_)) ?_ F.keep
    intro h H
    unfold itemD
    rw [if_neg (by assumption), if_neg (by assumption), if_neg (by assumption)]
    exact dct_made lo' hd9 h fun p hp => H p (by
      rcases List.mem_cons.mp hp with e | hp
      · subst e; exact .tail _ (.head _)
      · rw [List.mem_singleton.mp hp]; exact .head _)
  all_goals exact hstr _ _ _ _ (by rename Fr _ _ _ _ => F9; exact F9.keep) (by assumption) (by unfold litD; rename Int.fmod _ 8 = _ => e9; rw [e9]; rfl)
end Mine
end TW7
section TW8
open PySem PySem.W PySem.Calls PyProof.Rows
set_option maxRecDepth 100000
set_option maxHeartbeats 8000000
namespace Mine
theorem fillW8 (P : Params) : PySem.Challenge.rw_sr0100_01 = PySem.Challenge.rw_sr0100_01 ∧ hd.heap_39 P = hd.heap_39 P := by
  w_top off
  k_fill
  exact ⟨rfl, rfl⟩
noncomputable def openable (x : Str) : Prop := 6 < Txt.find x (Str.ofString " chars]") ∧ (Txt.item x 5 == Str.ofString "[") = true ∧ Txt.isdigit (Txt.slice x (some 6) (some (Txt.find x (Str.ofString " chars]")))) = true
noncomputable def openedS (x y : Str) (n : Int) : Str := Txt.slice x none (some 5) ++ Txt.slice y (some 5) (some (5 + n)) ++ Txt.slice x (some (Txt.find x (Str.ofString " chars]") + 7)) none
theorem law_open_ok {w : World} {s : Shared} {Q : Value → Shared → Prop}
   (O : Ok w s.heap) (x y : Str) (t1 t2 : Tok) (hx : x.length ≤ 10000) (hy : y.length ≤ 10000) (n : Int)
   (hn : openable x → 0 ≤ n ∧ n < 10 ^ 10 ∧ Txt.slice x (some 6) (some (Txt.find x (Str.ofString " chars]"))) = Str.ofString (toString n))
   (hno : ¬ openable x → ∀ h' tk D, s.heap.get? D = none → h'.get? D = some (tupO [.str x t1, .none]) → Ext s.heap h' → Q (.ref D) { s with heap := h', toks := tk })
   (hyes : openable x → ∀ h' tk D t t', s.heap.get? D = none → h'.get? D = some (tupO [.str (openedS x y n) t, .int n t']) → Ext s.heap h' → Q (.ref D) { s with heap := h', toks := tk }) :
   wpAny (model prog w) (lv 800 2500) (call (.ref 95) [.str x t1, .str y t2]) Q (fun _ _ => False) s := by
  have hf : Txt.find x (Str.ofString " chars]") = -1 ∨ (0 ≤ Txt.find x (Str.ofString " chars]") ∧ Txt.find x (Str.ofString " chars]") + 7 ≤ (x.length : Int)) := fact_find x (Str.ofString " chars]")
  obtain ⟨X, loose, mean, mg, mb, T⟩ := O.top
  refine' enter [("text", .str x t1), ("first", .str y t2)] X T.nolimit (Nat.le_of_ble_eq_true rfl) ?k1 ?k3 ?k4 ?k5 ?k6 ?k7 ?k8 ?k9 ?k10
  case k1 => k_is
  case k3 => k_is
  case k4 => exact rfl
  case k5 => exact rfl
  case k7 => rfl
  case k8 => rfl
  case k9 => rfl
  case k10 => decide
  intro h₁ tk F N
  repeat' ((fail_if_success (with_reducible show wpAny _ _ (subscriptTail _ _ (Value.str _ _) (Value.int 5 _)) _ _ _)); first | (k_unfold; (try dsimp only)) | walk1 | (dsimp only; walk1))
  · refine' item_str (fitsSsize_of (N := 9223372036854775808) (by lia) (by lia) (Int.le_refl _)) (by lia) (by lia) (fun _ => ?_) (by with_unfolding_all rfl) (by intro _; with_unfolding_all rfl)
    repeat' ((fail_if_success (with_reducible show wpAny _ _ (call (Value.type "int") _) _ _ _)); first | (k_unfold; (try dsimp only)) | walk1 | (dsimp only; walk1))
    · have hop : openable x := ⟨by assumption, by assumption, by assumption⟩
      obtain ⟨n0, n1, ns⟩ := hn hop
      refine' KIN.call_text (n := n) (by rw [ns]; exact KIN.num_reads n0 n1) (by rw [ns]; exact Nat.le_trans (KT.len_num n0 n1) (by decide)) ?_
      repeat' (first | (k_unfold; (try dsimp only)) | walk1 | (dsimp only; walk1))
      rename Fr _ _ _ _ => F
      rename News _ _ _ _ => N
      exact hyes hop _ _ _ _ _ (N _ (.head _)).2.2 (N _ (.head _)).1 F.keep
    · rename Fr _ _ _ _ => F
      rename News _ _ _ _ => N
      have hop : ¬ openable x := fun h => by rw [h.2.2] at *; contradiction
      exact hno hop _ _ _ (N _ (.head _)).2.2 (N _ (.head _)).1 F.keep
    · rename Fr _ _ _ _ => F
      rename News _ _ _ _ => N
      have hop : ¬ openable x := fun h => by rw [h.2.1] at *; contradiction
      exact hno hop _ _ _ (N _ (.head _)).2.2 (N _ (.head _)).1 F.keep
  · rename Fr _ _ _ _ => F
    rename News _ _ _ _ => N
    have hop : ¬ openable x := fun h => absurd h.1 (by assumption)
    exact hno hop _ _ _ (N _ (.head _)).2.2 (N _ (.head _)).1 F.keep
end Mine
end TW8
section TSc
open PySem PySem.W PySem.Calls PyProof.Rows
set_option maxRecDepth 100000
set_option maxHeartbeats 8000000
namespace Mine
section
variable {w : World} {A : Around} {h₀ : Heap} {L : Addr} {m : Str → Option Value} {env : Env} {elt : Expr} {x : Str} {scope : Scope} {cl : List (Str × Addr)} {s : Shared} {S : List (Addr × Obj) → Prop} {Fin : List Value → List (Addr × Obj) → Prop} {news : List (Addr × Obj)}
theorem texts_rest {vs : List Value} {xs : List Str} (g : Str → Str) (hv : StrsAre vs xs)
    (turn : ∀ k t I oI C oC D m₂ ys h tk (E' : Value → Shared → Prop), k ∈ xs → LCg.NsObj oC m₂ → m₂ x = some (.str k t) → Fr h₀ L h m → News h₀ L h ((I, oI) :: (C, oC) :: (D, LCg.lst ys) :: news) → LCg.Off3 I C D news → ((@Ne Nat I C) ∧ (@Ne Nat I D) ∧ (@Ne Nat C D)) → KPfMark →
      wpAny (model prog w) A (eval elt (compEnvC scope cl C env)) (LCg.CompEnd h₀ L m { s with heap := h, toks := tk } I oI C oC D (LCg.lst ys) S (fun y news' => KCtEl news (g k) y news')) E' { s with heap := h, toks := tk })
    (fin : ∀ ys, StrsAre ys (xs.map g) → Fin ys news) : LCg.CompRest prog w A h₀ L m env elt x scope cl s S (fun i v => vs.toArray[i]? = some v) Fin vs.toArray.size 0 [] news := by
  have hvl := hv.areOf.length
  have key : ∀ (j i : Nat) (ys : List Value), i + j = xs.length → StrsAre ys ((xs.take i).map g) → LCg.CompRest prog w A h₀ L m env elt x scope cl s S (fun i v => vs.toArray[i]? = some v) Fin j i ys news := by
    intro j
    induction j with
    | zero =>
      intro i ys hi hy
      have e : i = xs.length := by omega
      subst e
      rw [List.take_length] at hy
      exact LCg.CompRest.zero (fin ys hy)
    | succ j ih =>
      intro i ys hi hy
      refine LCg.CompRest.succ ?_
      intro v I oI C oC D m₂ h tk E' hv' hC hx F N off ne
      obtain ⟨hlt, t, e⟩ := strs_get hv (by rw [← List.getElem?_toArray]; exact hv')
      rw [e] at hx
      refine wpAny_mono (turn (xs.getD i default) t I oI C oC D m₂ ys h tk E' (getD_mem hlt) hC hx F N off ne True.intro) (fun y s₂ hq => ?_) fun _ _ e => e
      obtain ⟨h', tk', nw, e, F', N', off', hS, hn, t', hy'⟩ := hq
      rw [hn] at N' off' hS
      refine ⟨h', tk', news, e, F', N', off', hS, ?_⟩
      rw [hy']
      refine ih (i + 1) _ (by omega) ?_
      rw [List.take_add_one, List.getElem?_eq_getElem hlt]
      have e2 : xs.getD i default = xs[i] := by rw [List.getD_eq_getElem?_getD, List.getElem?_eq_getElem hlt]; rfl
      rw [e2]
      rw [show (xs.take i ++ (some xs[i]).toList).map g = (xs.take i).map g ++ [g xs[i]] from by rw [List.map_append]; rfl]
      exact kct_snoc hy
  rw [List.size_toArray, hvl]
  exact key xs.length 0 [] (by omega) (by simp only [List.take_zero, List.map_nil]; exact .nil)
end
theorem strs_rep (k : Nat) (y : Str) (t : Tok) : StrsAre (List.replicate k [Value.str y t]).flatten (List.replicate k y) := by
  induction k with
  | zero => exact .nil
  | succ k ih => exact .cons _ _ ih
theorem all_eq_strs (xs ys : List Str) (h : xs.length = ys.length) : (List.range xs.length).all (fun j => xs.getD j default == ys.getD j default) = decide (xs = ys) := by
  rw [Bool.eq_iff_iff, List.all_eq_true, decide_eq_true_iff]
  constructor
  · intro H
    apply List.ext_getElem h
    intro j h1 h2
    have := H j (List.mem_range.mpr h1)
    rw [List.getD_eq_getElem?_getD, List.getD_eq_getElem?_getD, List.getElem?_eq_getElem h1, List.getElem?_eq_getElem h2] at this
    exact eq_of_beq this
  · rintro rfl j _
    exact beq_self_eq_true _
theorem strs_eqAt {w : World} {A : Around} {E : Value → Shared → Prop} {s : Shared} {Q : Value → Shared → Prop} {l b : Addr} {vs us : List Value} {xs ys : List Str} (hl : s.heap.IsList l vs.toArray) (hb : s.heap.IsList b us.toArray) (hv : StrsAre vs xs) (hu : StrsAre us ys)
    (hsz : xs.length = ys.length) (hun : A.units < cLine) (h : Q (.bool (decide (xs = ys))) s) : wpAny (model prog w) A (compareOp .Eq (.ref l) (.ref b)) Q E s := by
  have h1 := hv.areOf.length
  have h2 := hu.areOf.length
  refine SeqAt.eq_listAt (e := fun j => xs.getD j default == ys.getD j default) hl hb (by rw [List.size_toArray, List.size_toArray]; omega) hun ?_ ?_
  · intro j j1 j2
    obtain ⟨_, t, e1⟩ := strs_get hv (i := j) (v := vs.toArray[j]) (by rw [← List.getElem?_toArray]; exact Array.getElem?_eq_getElem j1)
    obtain ⟨_, u, e2⟩ := strs_get hu (i := j) (v := us.toArray[j]) (by rw [← List.getElem?_toArray]; exact Array.getElem?_eq_getElem j2)
    rw [e1, e2]
    exact SeqAt.EqAt.str_str _ _ _ _
  · rw [List.size_toArray, h1, all_eq_strs xs ys hsz]
    exact h
end Mine
end TSc
section TW9
open PySem PySem.W PySem.Calls PyProof.Rows
set_option maxRecDepth 100000
set_option maxHeartbeats 8000000
namespace Mine
theorem fillW9 (P : Params) : PySem.Challenge.rw_sr0100_01 = PySem.Challenge.rw_sr0100_01 ∧ hd.heap_39 P = hd.heap_39 P := by
  w_top off
  k_fill
  exact ⟨rfl, rfl⟩
theorem bindM_set1 {m : Str → Option Value} {x y : Str} {v v' : Value} {u : Option Value} (h : x ≠ y) : (fun z => if z = x then some v else bindM (bindM m x (some v')) y u z) = bindM (bindM m x (some v)) y u := by
  funext z
  unfold bindM
  by_cases h1 : z = x
  · subst h1; rw [if_pos rfl, if_neg h, if_pos rfl]
  · rw [if_neg h1]
    by_cases h2 : z = y
    · rw [if_pos h2, if_pos h2]
    · rw [if_neg h2, if_neg h2, if_neg h1, if_neg h1]
noncomputable def agree (xs : List Str) (k : Nat) : Prop := ∀ x ∈ xs, (cs x).take k = (cs (xs.getD 0 default)).take k
theorem agree_mono {xs : List Str} {j k : Nat} (h : j ≤ k) (a : agree xs k) : agree xs j := by
  intro x hx
  have := congrArg (List.take j) (a x hx)
  rwa [List.take_take, List.take_take, Nat.min_eq_left h] at this
theorem same_agree {xs : List Str} {m : Int} (h0 : 0 ≤ m) : decide (xs.map (fun x => Txt.slice x none (some m)) = List.replicate xs.length (Txt.slice (xs.getD 0 default) none (some m))) = true ↔ agree xs m.toNat := by
  rw [decide_eq_true_iff, List.eq_replicate_iff]
  constructor
  · intro h x hx
    have := h.2 _ (List.mem_map.mpr ⟨x, hx, rfl⟩)
    rw [← slice_to x h0, ← slice_to _ h0, this]
  · intro h
    refine ⟨List.length_map _, ?_⟩
    intro b hb
    obtain ⟨x, hx, rfl⟩ := List.mem_map.mp hb
    apply str_ext
    rw [slice_to x h0, slice_to _ h0]
    exact h x hx
theorem law_shared_ok {w : World} {s : Shared} {Q : Value → Shared → Prop}
   (O : Ok w s.heap) (a : Addr) (vs : List Value) (n : Nat) (xs : List Str) (hO : s.heap.get? a = some (lstO vs n)) (hv : StrsAre vs xs) (hne : xs ≠ []) (hlen : ∀ x ∈ xs, x.length ≤ 10000) (hn : xs.length ≤ 100)
   (hret : ∀ h' tk (v : Nat) t, v ≤ (xs.getD 0 default).length → agree xs v → (∀ k, v < k → k ≤ (xs.getD 0 default).length → ¬ agree xs k) → Ext s.heap h' → Q (.int (v : Int) t) { s with heap := h', toks := tk }) :
   wpAny (model prog w) (lv 800 2500) (call (.ref 88) [.ref a]) Q (fun _ _ => False) s := by
  have hvl := hv.areOf.length
  have hget : ∀ (i : Nat) (v : Value), vs[i]? = some v → ∃ t, v = Value.str (xs.getD i default) t := fun i v e => (strs_get hv e).2
  have hvK : (∀ P : Prop, (StrsAre vs xs → P) → P) := fun P h => h hv
  obtain ⟨X, loose, mean, mg, mb, T⟩ := O.top
  refine' enterC [("writings", .ref a)] X T.nolimit (Nat.le_of_ble_eq_true rfl) ?k1 ?k3 ?k4 ?k5 ?k5b ?k6 ?k7 ?k8 ?k9
  case k1 => k_is
  case k3 => k_is
  case k4 => exact rfl
  case k5 => exact rfl
  case k5b => decide
  case k7 => rfl
  case k8 => rfl
  case k9 => rfl
  intro h₁ tk cells F N Y
  obtain ⟨oc, rfl, hoc⟩ := CellsAre.one Y
  clear Y
  have F' : Fr s.heap s.heap.objs.size h₁ (bindM (fun _ => none) (Str.ofString "writings") (some (.ref a))) := F
  clear F
  have hL : s.heap.IsList a vs.toArray := islist_of hO
  have hpos : 0 < xs.length := Nat.pos_of_ne_zero fun e => hne (List.eq_nil_of_length_eq_zero e)
  have hl0 : (xs.getD (Int.toNat 0) Str.empty).length ≤ 10000 := hlen _ (getD_mem hpos)
  repeat' ((fail_if_success (with_reducible show wpAny _ _ (exec (Stmt.While _ _ _ _) _) _ _ _)); first | (k_unfold; (try dsimp only)) | walk1 | (dsimp only; walk1))
  rename Fr _ _ _ _ => F
  rename News _ _ _ _ => N
  have N2 : News s.heap s.heap.objs.size _ [(s.heap.objs.size + 1, oc)] := fun p hp => N p (.tail _ hp)
  clear N
  refine' While_inv (fun n m news => ∃ (lo hi : Nat) (tl th : Tok) (oc : Obj) (vc : Option Value), hi = lo + n ∧ hi ≤ (xs.getD 0 default).length ∧ agree xs lo ∧ (∀ k, hi < k → k ≤ (xs.getD 0 default).length → ¬ agree xs k) ∧
     m = bindM (bindM (bindM (fun _ => none) (Str.ofString "writings") (some (.ref a))) (Str.ofString "high") (some (.int (hi : Int) th))) (Str.ofString "low") (some (.int (lo : Int) tl)) ∧ news = [(s.heap.objs.size + 1, oc)] ∧ oc.data = .cell vc) (n₀ := (xs.getD 0 default).length) ?wF ?wN ?wJ ?wT
  case wF => exact F
  case wN => exact N2
  case wJ => exact ⟨0, _, _, _, oc, _, (Nat.zero_add _).symm, Nat.le_refl _, (fun x _ => by rw [List.take_zero, List.take_zero]), (fun k h1 h2 => absurd h1 (Nat.not_lt.mpr h2)), rfl, rfl, hoc⟩
  case wT =>
    clear F N2 hoc oc
    rintro n m₁ news₁ h₁ tk₁ F N ⟨lo, hi, tl, th, oc, vc, hhi, hhl, hag, hno, rfl, rfl, hoc⟩
    repeat' ((fail_if_success (with_reducible show wpAny _ _ (eval (Expr.ListComp _ _ _ _) _) _ _ _)); first | (k_unfold; (try dsimp only)) | walk1 | (dsimp only; walk1))
    · repeat' ((fail_if_success (with_reducible show LCg.CompSrc _ _ _ _ _ _ _ _ _ _ _ _ _ _)); first | (k_unfold; (try dsimp only)) | walk1 | (dsimp only; walk1))
      rename Fr _ _ _ _ => F
      rename News _ _ _ _ => N
      refine' LCg.CompSrc.base (its := vs.toArray) rfl ?sF ?sN ?sL ?ss ?_
      case sF => exact F
      case sN => exact N
      case sL => exact hL
      case ss => rw [List.size_toArray, sizeLine_eq]; lia
      intro g'
      refine' hvK _ fun hv => texts_rest (fun x => Txt.slice x none (some (Int.fdiv (lo + hi + 1) 2))) hv ?tt ?tf
      case tt =>
        intro k t I oI C oC D m₂ ys h tk E' hk hC hx F8 N8 off ne mk
        clear F N
        repeat' ((fail_if_success (with_reducible show LCg.CompEnd _ _ _ _ _ _ _ _ _ _ _ _ _ _)); first | (k_unfold; (try dsimp only)) | walk1 | (dsimp only; walk1))
        rename Fr _ _ _ _ => F
        rename News _ _ _ _ => N
        exact LCg.CompEnd.intro F N _ (fun p hp => hp) off (.inl hL) ⟨rfl, _, rfl⟩
      case tf =>
        intro ys hys
        have hyK : ∀ P : Prop, (StrsAre ys (xs.map (fun x => Txt.slice x none (some (Int.fdiv (lo + hi + 1) 2)))) → P) → P := fun P h => h hys
        repeat' ((fail_if_success (with_reducible show wpAny _ _ (compareOp _ _ _) _ _ _)); first | (k_unfold; (try dsimp only)) | walk1 | (dsimp only; walk1))
        rename Fr _ _ _ _ => F
        rename News _ _ _ _ => N
        rename Heap.IsList _ _ _ => hR
        refine' hyK _ fun hys => strs_eqAt (vs := ys) ?ql ?qb hys ?qu ?qz (Nat.le_of_ble_eq_true rfl) ?_
        case ql => exact ⟨_, (N _ (.tail _ (.head _))).1, rfl, _, rfl⟩
        case qb => exact hR
        case qu => exact strs_rep _ _ _
        case qz => rw [List.length_map, List.length_replicate]; exact rfl
        have hm : Int.toNat (Int.fdiv (lo + hi + 1) 2) = (lo + hi + 1) / 2 := by
          rw [Int.fdiv_eq_ediv_of_nonneg _ (by decide)]; lia
        have hsame := same_agree (xs := xs) (m := Int.fdiv (lo + hi + 1) 2) (by rw [Int.fdiv_eq_ediv_of_nonneg _ (by decide)]; lia)
        rw [hm] at hsame
        have hsame' : decide (List.map (fun x => Txt.slice x none (some (Int.fdiv (lo + hi + 1) 2))) xs = List.replicate (Int.toNat (xs.length : Int)) (Txt.slice (xs.getD (Int.toNat 0) Str.empty) none (some (Int.fdiv (lo + hi + 1) 2)))) = true ↔ agree xs ((lo + hi + 1) / 2) := hsame
        clear hsame
        generalize decide (List.map (fun x => Txt.slice x none (some (Int.fdiv (lo + hi + 1) 2))) xs = List.replicate (Int.toNat (xs.length : Int)) (Txt.slice (xs.getD (Int.toNat 0) Str.empty) none (some (Int.fdiv (lo + hi + 1) 2)))) = b at hsame'
        have hmi : Int.fdiv (lo + hi + 1) 2 = (((lo + hi + 1) / 2 : Nat) : Int) := by
          rw [Int.fdiv_eq_ediv_of_nonneg _ (by decide)]; lia
        cases b
        · repeat' ((fail_if_success (with_reducible show WhileStep _ _ _ _ _ _ _)); first | (k_unfold; (try dsimp only)) | walk1 | (dsimp only; walk1))
          rename Fr _ _ _ _ => F
          rename News _ _ _ _ => N
          have hbad : ¬ agree xs ((lo + hi + 1) / 2) := fun q => absurd (hsame'.mpr q) (by decide)
          have hlt : lo < hi := by lia
          refine WhileStep.intro (n' := (lo + hi + 1) / 2 - 1 - lo) F (fun p hp => N p (.tail _ (.tail _ hp))) (by lia) ⟨lo, (lo + hi + 1) / 2 - 1, tl, ?ta, _, _, ?a1, ?a2, hag, ?a3, ?a4, rfl, (by assumption)⟩
          case a4 =>
            rw [show (((lo + hi + 1) / 2 - 1 : Nat) : Int) = Int.fdiv (lo + hi + 1) 2 - 1 from by rw [hmi]; lia]
            exact bindM_set1 (x := Str.ofString "high") (y := Str.ofString "low") (by decide)
          case a1 => lia
          case a2 => lia
          case a3 =>
            intro k h1 h2 q
            exact hbad (agree_mono (by lia) q)
        · repeat' ((fail_if_success (with_reducible show WhileStep _ _ _ _ _ _ _)); first | (k_unfold; (try dsimp only)) | walk1 | (dsimp only; walk1))
          rename Fr _ _ _ _ => F
          rename News _ _ _ _ => N
          have hgood : agree xs ((lo + hi + 1) / 2) := hsame'.mp rfl
          have hlt : lo < hi := by lia
          refine WhileStep.intro (n' := hi - (lo + hi + 1) / 2) F (fun p hp => N p (.tail _ (.tail _ hp))) (by lia) ⟨(lo + hi + 1) / 2, hi, ?tb, th, _, _, ?b1, hhl, hgood, hno, ?b4, rfl, (by assumption)⟩
          case b4 =>
            rw [← hmi]
            exact bind_again
          case b1 => lia
    · (try dsimp only)
      have he : hi = lo := by lia
      subst he
      exact hret _ _ _ _ hhl hag hno (by rename Fr _ _ _ _ => F9; exact F9.keep)
end Mine
end TW9
section TMp
open PySem PySem.W PySem.Calls PyProof.Rows
set_option maxRecDepth 100000
set_option maxHeartbeats 8000000
open PySem.F
namespace Mine
theorem slot_map_init : Slot "map" "__init__" "object.__init__" :=
  .of (owner := "object") (n := "__init__") (by rw [typeLookup_type, builtinLookup_eq_fast]; kernel_rfl) (by decide +kernel) (by decide +kernel) (by decide +kernel)
    (by first | exact .inl (by decide +kernel) | exact .inr (by decide +kernel)) (by rw [isSubtype_type]; kernel_rfl)
theorem slot_map_next : Slot "map" "__next__" "map.__next__" :=
  .of (owner := "map") (n := "__next__") (by rw [typeLookup_type, builtinLookup_eq_fast]; kernel_rfl) (by decide +kernel) (by decide +kernel) (by decide +kernel)
    (by first | exact .inl (by decide +kernel) | exact .inr (by decide +kernel)) (by rw [isSubtype_type]; kernel_rfl)
theorem slot_map_iter : Slot "map" "__iter__" "map.__iter__" :=
  .of (owner := "map") (n := "__iter__") (by rw [typeLookup_type, builtinLookup_eq_fast]; kernel_rfl) (by decide +kernel) (by decide +kernel) (by decide +kernel)
    (by first | exact .inl (by decide +kernel) | exact .inr (by decide +kernel)) (by rw [isSubtype_type]; kernel_rfl)
theorem owner_map : Manifest.owners.lookup (String.ofList ['p', 'a', 'm'].reverse) = some Manifest.sig_map := by kernel_rfl
theorem entry_map_next : entryFor table "map.__next__" = some Builtin.«map.__next__» := entryFor_of_tree (by kernel_rfl)
theorem args_map_next_1 (a : Value) : argsOk "map.__next__" ⟨[a], []⟩ := by
  unfold argsOk; rw [signature?_of (id := "map.__next__") (n := ['_', '_', 't', 'x', 'e', 'n', '_', '_']) (o := ['p', 'a', 'm']) (by kernel_rfl) owner_map]; kernel_rfl
theorem args_map_iter_1 (a : Value) : argsOk "map.__iter__" ⟨[a], []⟩ := by
  unfold argsOk; rw [signature?_of (id := "map.__iter__") (n := ['_', '_', 'r', 'e', 't', 'i', '_', '_']) (o := ['p', 'a', 'm']) (by kernel_rfl) owner_map]; kernel_rfl
theorem entry_map_iter : entryFor table "map.__iter__" = some Builtin.«dict_keyiterator.__iter__» :=
  entryFor_alias (id' := "dict_keyiterator.__iter__") (by kernel_rfl) (by first | rfl | decide +kernel | (unfold String.splitOn; simp +decide [String.splitOnAux])) (by decide +kernel) (by kernel_rfl)
theorem mro_map : mroOf (.type "map") = pure [.type "map", .type "object"] := by rw [mroOf_type]; kernel_rfl
theorem lookup_map_new : typeLookup (.type "map") "__new__" = pure (some (.builtin "map.__new__")) := by rw [typeLookup_type, builtinLookup_eq_fast]; kernel_rfl
theorem called_map : TypeCalled "map" "map.__new__" "object.__init__" :=
  ⟨by decide +kernel, by decide +kernel, ⟨_, _, mro_map⟩, madeBy_type mro_map lookup_map_new (by decide +kernel), by decide +kernel, by rw [isSubtype_type]; kernel_rfl, slot_map_init⟩
theorem typeCall_map_2 (a b : Value) : checkTypeCall "map" ⟨[a, b], []⟩ = pure () := by kernel_rfl
theorem newCall_map_2 (a b : Value) : checkBuiltinCall "map.__new__" ⟨[.type "map", a, b], []⟩ = pure () := by kernel_rfl
theorem entry_map_new : entryFor table "map.__new__" = some Builtin.«map.__new__» := entryFor_of_tree (by kernel_rfl)
theorem sub_map : isSubtype (.type "map") (.type "map") = pure true := by rw [isSubtype_type]; kernel_rfl
theorem nolen_map : typeLookup (.type "map") "__len__" = pure none := by rw [typeLookup_type, builtinLookup_eq_fast]; kernel_rfl
theorem nohint_map : typeLookup (.type "map") "__length_hint__" = pure none := by rw [typeLookup_type, builtinLookup_eq_fast]; kernel_rfl
end Mine
end TMp
section TMq
open PySem PySem.W PySem.Calls PyProof.Rows
set_option maxRecDepth 100000
set_option maxHeartbeats 8000000
open PySem.F
namespace Mine
noncomputable abbrev IsMap (h : Heap) (z T : Addr) (f : Value) : Prop := h.get? z = some { cls := .type "map", dict := none, data := .fields #[.ref T, f], slots := #[] }
noncomputable abbrev IsOne (h : Heap) (T : Addr) (a : Value) : Prop := h.get? T = some { cls := .type "tuple", data := .seq #[a] }
section
variable {prog : Program} {w : World} {A : Around} {E : Value → Shared → Prop} {s : Shared}
theorem nextOf_tuple_item {it l : Addr} {i : Nat} {items} {x : Value} {Q : Value → Shared → Prop} (hit : s.heap.IsTupleIter it l i)
    (hl : s.heap.IsTuple l items) (hx : items[i]? = some x)
    (hQ : ∀ h', h'.IsTupleIter it l (i + 1) → Heap.SameBut it s.heap h' → Q x { s with heap := h' }) :
    wpAny (model prog w) A (Builtin.SmallTypes.nextOf (.ref it)) Q E s := by
  obtain ⟨o, ho, hc, hd⟩ := id hit
  obtain ⟨ol, hol, _, nl, hdl⟩ := hl
  unfold Builtin.SmallTypes.nextOf
  refine wpAny_bind (wpAny_callSpecial?_slot (name := Str.ofString "__next__") hit.typeIs F.slot_tuple_iterator_next
    (wpAny_call_entry F.slot_tuple_iterator_next hit.typeIs F.entry_tuple_iterator_next ?_ (F.args_tuple_iterator_next_1 _)))
  show wpAny _ _ (field (.ref it) 0 >>= _) _ _ s
  refine wpAny_bind (wpAny_field ho hd (x := .ref l) rfl ?_)
  show wpAny _ _ (if (Value.ref l == Value.none) = true then _ else _) _ _ s
  rw [if_neg (show ¬ ((Value.ref l == Value.none) = true) from Bool.false_ne_true)]
  show wpAny _ _ (field (.ref it) 1 >>= _) _ _ s
  refine wpAny_bind (wpAny_field ho hd (x := .int i 0) rfl ?_)
  show wpAny _ _ (seqItems? (.ref l) >>= _) _ _ s
  refine wpAny_bind (wpAny_seqItems hol hdl ?_)
  simp only [Int.toNat_natCast, hx]
  refine wpAny_bind (wpAny_setField ho hd (by simp) (wpAny_pure ⟨x, rfl, wpAny_pure (hQ _ ?_ (Heap.SameBut.update ..))⟩))
  exact ⟨_, Heap.get?_update_self _ ho (Obj.isFreed_of_fields (Obj.data_mapFields hd _)), (Obj.cls_mapFields ..).trans hc, by
    rw [Obj.data_mapFields hd]; simp [rawInt]⟩
theorem nextOf_tuple_end {it l : Addr} {i : Nat} {items} {Q : Value → Shared → Prop} (hh : A.handled = none)
    (hit : s.heap.IsTupleIter it l i) (hl : s.heap.IsTuple l items) (hx : items[i]? = none)
    (hE : ∀ h' e, Heap.ExtBut it s.heap h' → (∃ o, h'.get? e = some o ∧ o.cls = .type "StopIteration") → E (.ref e) { s with heap := h' }) :
    wpAny (model prog w) A (Builtin.SmallTypes.nextOf (.ref it)) Q E s := by
  obtain ⟨o, ho, hc, hd⟩ := id hit
  obtain ⟨ol, hol, _, nl, hdl⟩ := hl
  unfold Builtin.SmallTypes.nextOf
  refine wpAny_bind (wpAny_callSpecial?_slot (name := Str.ofString "__next__") hit.typeIs F.slot_tuple_iterator_next
    (wpAny_call_entry F.slot_tuple_iterator_next hit.typeIs F.entry_tuple_iterator_next ?_ (F.args_tuple_iterator_next_1 _)))
  show wpAny _ _ (field (.ref it) 0 >>= _) _ _ s
  refine wpAny_bind (wpAny_field ho hd (x := .ref l) rfl ?_)
  show wpAny _ _ (if (Value.ref l == Value.none) = true then _ else _) _ _ s
  rw [if_neg (show ¬ ((Value.ref l == Value.none) = true) from Bool.false_ne_true)]
  show wpAny _ _ (field (.ref it) 1 >>= _) _ _ s
  refine wpAny_bind (wpAny_field ho hd (x := .int i 0) rfl ?_)
  show wpAny _ _ (seqItems? (.ref l) >>= _) _ _ s
  refine wpAny_bind (wpAny_seqItems hol hdl ?_)
  simp only [Int.toNat_natCast, hx]
  refine wpAny_bind (wpAny_rule (wpAny_bind (wpAny_setField ho hd (by simp) ?_)))
  show wpAny _ _ (newExc (.type "StopIteration") [] >>= _) _ _ _
  refine wpAny_bind ?_
  simp only [newExc, newTuple]
  refine wpAny_bind (wpAny_newObj_type ?_ (by size_fits))
  refine wpAny_bind (m := firstArgMember _ _) (wpAny_of_eq (a := Value.none) (by first | rfl | (simp only [firstArgMember]; rfl)) ?_)
  refine wpAny_newObj_type ?_ (by size_fits)
  simp only [raiseNew]
  refine wpAny_bind (wpAny_handled ?_)
  first | rw [show A.in1.handled = none from hh] | rw [hh]
  refine wpAny_bind (wpAny_pure (wpAny_throw ?_))
  exact hE _ _ (((Heap.SameBut.update ..).extBut.push _).push _) ⟨_, Heap.get?_push_size _ rfl, rfl⟩
theorem map_next_item {z T it t : Addr} {f : Value} {i : Nat} {items : Array Value} {x : Value} {Q : Value → Shared → Prop}
    (hz : IsMap s.heap z T f) (hT : IsOne s.heap T (.ref it)) (hit : s.heap.IsTupleIter it t i) (ht : s.heap.IsTuple t items) (hx : items[i]? = some x) (hzi : z ≠ it)
    (hQ : ∀ h', h'.IsTupleIter it t (i + 1) → Heap.SameBut it s.heap h' → wpAny (model prog w) A (call f [x]) Q E { s with heap := h' }) :
    wpAny (model prog w) A (Builtin.«map.__next__» ⟨[.ref z], []⟩) (fun fin s' => ∃ v, fin = .done (.ret v) ∧ Q v s') E s := by
  show wpAny _ _ (field (.ref z) 0 >>= _) _ _ _
  refine wpAny_bind (wpAny_field hz rfl (x := .ref T) rfl ?_)
  refine wpAny_bind (wpAny_seqItems hT rfl ?_)
  simp only [← Array.forIn_toList, List.forIn_cons, List.forIn_nil]
  refine wpAny_bind (wpAny_bind (wpAny_bind (wpAny_holding (nextOf_tuple_item hit ht hx fun h₁ hit₁ hs₁ => ?_))))
  refine wpAny_pure (wpAny_pure ?_)
  have hz₁ : IsMap h₁ z T f := hs₁.extBut _ _ hzi hz
  refine wpAny_bind (wpAny_field hz₁ rfl (x := f) rfl ?_)
  refine wpAny_bind (wpAny_holding (wpAny_mono (hQ h₁ hit₁ hs₁) (fun v s' hv => ?_) fun _ _ e => e))
  refine wpAny_bind (wpAny_letGo ?_)
  exact wpAny_pure ⟨v, rfl, hv⟩
theorem map_next_end {z T it t : Addr} {f : Value} {i : Nat} {items : Array Value} {Q : Fin → Shared → Prop} (hh : A.handled = none)
    (hz : IsMap s.heap z T f) (hT : IsOne s.heap T (.ref it)) (hit : s.heap.IsTupleIter it t i) (ht : s.heap.IsTuple t items) (hx : items[i]? = none)
    (hE : ∀ h' e, Heap.ExtBut it s.heap h' → (∃ o, h'.get? e = some o ∧ o.cls = .type "StopIteration") → E (.ref e) { s with heap := h' }) :
    wpAny (model prog w) A (Builtin.«map.__next__» ⟨[.ref z], []⟩) Q E s := by
  show wpAny _ _ (field (.ref z) 0 >>= _) _ _ _
  refine wpAny_bind (wpAny_field hz rfl (x := .ref T) rfl ?_)
  refine wpAny_bind (wpAny_seqItems hT rfl ?_)
  simp only [← Array.forIn_toList, List.forIn_cons, List.forIn_nil]
  exact wpAny_bind (wpAny_bind (wpAny_bind (wpAny_holding (nextOf_tuple_end hh hit ht hx hE))))
end
end Mine
end TMq
section TMr
open PySem PySem.W PySem.Calls PyProof.Rows
set_option maxRecDepth 100000
set_option maxHeartbeats 8000000
open PySem.F
namespace Mine
section
variable {w : World} {A : Around} {E : Value → Shared → Prop} {s : Shared}
theorem pyIter_map {z T : Addr} {f : Value} {Q : Value → Shared → Prop} (hz : IsMap s.heap z T f) (h : Q (.ref z) s) : wpAny (model prog w) A (pyIter (.ref z)) Q E s := by
  have hT : s.TypeIs (.ref z) "map" := ⟨_, hz, rfl⟩
  refine wpAny_pyIter_slot hT slot_map_iter (wpAny_call_entry slot_map_iter hT entry_map_iter ?_ (args_map_iter_1 _))
  show wpAny _ _ (ret (.ref z)) _ _ s
  exact wpAny_pure ⟨_, rfl, "map", _, hT, slot_map_next.lookup, h⟩
theorem pyNext_map_item {z T it t : Addr} {f : Value} {i : Nat} {items : Array Value} {x : Value} {Q : Option Value → Shared → Prop}
    (hz : IsMap s.heap z T f) (hT : IsOne s.heap T (.ref it)) (hit : s.heap.IsTupleIter it t i) (ht : s.heap.IsTuple t items) (hx : items[i]? = some x) (hzi : z ≠ it)
    (hQ : ∀ h', h'.IsTupleIter it t (i + 1) → Heap.SameBut it s.heap h' → wpAny (model prog w) A.in1 (call f [x]) (fun y s' => Q (some y) s') (fun _ _ => False) { s with heap := h' }) :
    wpAny (model prog w) A (pyNext (.ref z)) Q E s := by
  have hTy : s.TypeIs (.ref z) "map" := ⟨_, hz, rfl⟩
  unfold pyNext
  refine wpAny_bind (wpAny_attempt (wpAny_callSpecial?_slot (name := Str.ofString "__next__") hTy slot_map_next
    (wpAny_call_entry slot_map_next hTy entry_map_next (wpAny_mono (map_next_item (Q := fun v s' => Q (some v) s') hz hT hit ht hx hzi fun h' a b => wpAny_mono (hQ h' a b) (fun _ _ e => e) fun _ _ e => e.elim) (fun fin s' hv => ?_) fun _ _ e => e) (args_map_next_1 _))))
  obtain ⟨v, rfl, hv⟩ := hv
  exact ⟨v, rfl, wpAny_pure hv⟩
theorem pyNext_map_end {z T it t : Addr} {f : Value} {i : Nat} {items : Array Value} {Q : Option Value → Shared → Prop} (hh : A.handled = none)
    (hz : IsMap s.heap z T f) (hT : IsOne s.heap T (.ref it)) (hit : s.heap.IsTupleIter it t i) (ht : s.heap.IsTuple t items) (hx : items[i]? = none)
    (hQ : ∀ h', Heap.ExtBut it s.heap h' → Q none { s with heap := h' }) : wpAny (model prog w) A (pyNext (.ref z)) Q E s := by
  have hTy : s.TypeIs (.ref z) "map" := ⟨_, hz, rfl⟩
  unfold pyNext
  refine wpAny_bind (wpAny_attempt (wpAny_callSpecial?_slot (name := Str.ofString "__next__") hTy slot_map_next
    (wpAny_call_entry slot_map_next hTy entry_map_next (map_next_end hh hz hT hit ht hx fun h' e hk he => ?_) (args_map_next_1 _))))
  obtain ⟨o, ho, hc⟩ := he
  refine wpAny_bind (wpAny_isInstance (T := "StopIteration") (b := true) ⟨o, ho, hc⟩ isSubtype_stop ?_)
  exact wpAny_pure (hQ _ hk)
theorem walks_map (hh : A.handled = none) {H : Heap} {z T it t : Addr} {f : Value} {items : Array Value} (hz : IsMap H z T f) (hT : IsOne H T (.ref it)) (h0 : H.IsTupleIter it t 0) (ht : H.IsTuple t items)
    (hzi : z ≠ it) (hTi : T ≠ it) (hti : t ≠ it) (P : Nat → Value → Prop)
    (hf : ∀ i x (s : Shared) (Q : Value → Shared → Prop), items[i]? = some x → Heap.ExtBut it H s.heap → (∀ y h' tk, P i y → Ext s.heap h' → Q y { s with heap := h', toks := tk }) → wpAny (model prog w) A.in1 (call f [x]) Q (fun _ _ => False) s) :
    Walks prog w A z (List.range H.objs.size) [it] items.size P (fun i h => Heap.ExtBut it H h ∧ h.IsTupleIter it t i) where
  sub := fun b hb => by
    rw [List.mem_singleton.mp hb]
    obtain ⟨o, ho, _⟩ := h0
    exact List.mem_range.mpr (Heap.lt_size ho)
  frame := fun i h h' st hk => by
    refine ⟨fun b o hb e => hk b (List.mem_range.mpr (Heap.lt_size e)) o (st.1 b o hb e), st.2.at fun o e => hk it ?_ o e⟩
    obtain ⟨o, ho, _⟩ := h0
    exact List.mem_range.mpr (Heap.lt_size ho)
  item := fun i s Q E hi st hQ => by
    refine pyNext_map_item (st.1 _ _ hzi hz) (st.1 _ _ hTi hT) st.2 (x := items[i]) (ht.extBut st.1 hti) (Array.getElem?_eq_getElem hi) hzi fun h₁ hit₁ hs₁ => ?_
    have e1 : Heap.ExtBut it H h₁ := fun b o hb e => hs₁.extBut b o hb (st.1 b o hb e)
    refine hf i _ { s with heap := h₁ } _ (Array.getElem?_eq_getElem hi) e1 fun y h' tk hP e2 => ?_
    refine hQ y h' tk hP ⟨fun b o hb e => e2 b o (e1 b o hb e), hit₁.at fun o e => e2 _ o e⟩ fun b o hb e => e2 b o (hs₁.extBut b o (fun q => hb (List.mem_singleton.mpr q)) e)
  done := fun s Q E st hQ => by
    refine pyNext_map_end hh (st.1 _ _ hzi hz) (st.1 _ _ hTi hT) st.2 (ht.extBut st.1 hti) (Array.getElem?_eq_none (Nat.le_refl _)) fun h' hk => ?_
    exact hQ h' s.toks fun b o hb e => hk b o (fun q => hb (List.mem_singleton.mpr q)) e
  self := fun i s Q E st hQ => pyIter_map (st.1 _ _ hzi hz) hQ
noncomputable abbrev mapH1 (h : Heap) (t : Addr) : Heap := h.push { cls := .type "tuple_iterator", data := .fields #[.ref t, .int 0 0] }
noncomputable abbrev mapH2 (h : Heap) (t : Addr) : Heap := (mapH1 h t).push { cls := .type "tuple", data := .seq #[.ref h.objs.size] }
noncomputable abbrev mapH3 (h : Heap) (t : Addr) (f : Value) : Heap := (mapH2 h t).push { cls := .type "map", data := .fields #[.ref (mapH1 h t).objs.size, f] }
theorem meets_map_new (f : Value) (t : Addr) (xs : Array Value) :
    Meets (Builtin.«map.__new__» ⟨[.type "map", f, .ref t], []⟩) (fun _ R s => s.heap.IsTuple t xs ∧ R (.ok (.ret (.ref (mapH2 s.heap t).objs.size))) { s with heap := mapH3 s.heap t f }) :=
  .of_wp fun prog w A R s h => by
    obtain ⟨hp, g, d, tk, os⟩ := s; obtain ⟨hl1, h⟩ := h
    have hsub := sub_map
    have hL1 : Heap.IsTuple (Shared.heap ⟨hp, g, d, tk, os⟩) t xs := hl1
    wp_walk using wpAny_pyIter_tuple hL1
    exact ⟨_, rfl, h⟩
theorem call_map_2 {f : Value} {t : Addr} {xs : Array Value} {Q : Value → Shared → Prop} (ht : s.heap.IsTuple t xs)
    (h : ∀ h' z T it, IsMap h' z T f → IsOne h' T (.ref it) → h'.IsTupleIter it t 0 → h'.IsTuple t xs → z ≠ it → T ≠ it → t ≠ it → s.heap.get? it = none → Ext s.heap h' → Q (.ref z) { s with heap := h' }) :
    wpAny (model prog w) A (call (.type "map") [f, .ref t]) Q E s := by
  refine callType_new called_map (by decide) (typeCall_map_2 _ _) (newCall_map_2 _ _) (fun obj => F.args_object_init_3 obj _ _) entry_map_new
    (meets_map_new f t xs) ⟨ht, ?_⟩
  obtain ⟨ot, hot, _⟩ := id ht
  have hlt := Heap.lt_size hot
  have z1 : (mapH1 s.heap t).objs.size = s.heap.objs.size + 1 := Heap.size_push ..
  have z2 : (mapH2 s.heap t).objs.size = s.heap.objs.size + 2 := by rw [Heap.size_push, z1]
  have g3 : (mapH3 s.heap t f).get? (mapH2 s.heap t).objs.size = some _ := Heap.get?_push_size _ rfl
  have g2 : (mapH3 s.heap t f).get? (mapH1 s.heap t).objs.size = some _ := Heap.get?_push_of_some _ (Heap.get?_push_size _ rfl)
  have g1 : (mapH3 s.heap t f).get? s.heap.objs.size = some _ := Heap.get?_push_of_some _ (Heap.get?_push_of_some _ (Heap.get?_push_size _ rfl))
  have e : Ext s.heap (mapH3 s.heap t f) := fun c o x => Heap.get?_push_of_some _ (Heap.get?_push_of_some _ (Heap.get?_push_of_some _ x))
  have n1 : (mapH2 s.heap t).objs.size ≠ s.heap.objs.size := fun q => by rw [z2] at q; exact absurd q (Nat.ne_of_gt (Nat.lt_add_of_pos_right (by decide)))
  have n2 : (mapH1 s.heap t).objs.size ≠ s.heap.objs.size := fun q => by rw [z1] at q; exact absurd q (Nat.ne_of_gt (Nat.lt_add_of_pos_right (by decide)))
  refine ⟨⟨_, g3, rfl⟩, h _ _ _ _ g3 g2 ⟨_, g1, rfl, rfl⟩ (ht.at fun o x => e _ o x) n1 n2 (Nat.ne_of_lt hlt) (Heap.get?_none_of_le (Nat.le_refl _)) e⟩
end
end Mine
end TMr
section TMs
open PySem PySem.W PySem.Calls PyProof.Rows
set_option maxRecDepth 100000
set_option maxHeartbeats 8000000
open PySem.F
namespace Mine
section
variable {w : World} {A : Around} {E : Value → Shared → Prop} {s : Shared} {I : Addr} {fp wr : List Addr} {G : Array GenState → Array GenState → Prop} {n : Nat} {P : Nat → Value → Prop} {St : Nat → Shared → Prop}
theorem collect_map {Q : List Value → Shared → Prop} (W : WalksS prog w A.in1 I fp wr G n P St) (hT : ∀ i s, St i s → s.TypeIs (.ref I) "map") (hst : St 0 s) (hfp : ∀ b ∈ fp, b < s.heap.objs.size) (hI : I ∈ fp)
    (hQ : ∀ s' acc, Moved wr G s s' → ItemsOf P acc n → Q acc.toList s') (hn : n ≤ sizeLine) : wpAny (model prog w) A (collect (.ref I)) Q E s := by
  have hSf : s.heap.objs.size ∉ fp := fun hm => Nat.lt_irrefl _ (hfp _ hm)
  have hSI : s.heap.objs.size ≠ I := fun e => hSf (e ▸ hI)
  unfold collect
  refine wpAny_bind (wpAny_runValue (codeAny_builtin F.entry_proto_collect ?_))
  rw [Around.under_plainId F.plain_proto_collect _]
  show wpAny _ A.in1 (newList [] >>= fun l => again (.builtin "list.__iadd__" ⟨[l, .ref I], []⟩)) _ _ s
  refine wpAny_bind (wpAny_newObj_type ?_)
  refine wpAny_pure ⟨plainId_quiet F.plain_list_iadd _, codeAny_builtin F.entry_list_iadd ?_⟩
  rw [Around.under_plainId F.plain_list_iadd _]
  have hst₁ := W.frame 0 s (s.heap.push { cls := .type "list", data := .seq ([] : List Value).toArray }) s.toks hst (Nat.le_refl _) fun b _ o e => Heap.get?_push_of_some _ e
  show wpAny _ A.in1 (Builtin.List.listExtendWith (.ref s.heap.objs.size) (.ref I) (.ref s.heap.objs.size)) _ _ _
  unfold Builtin.List.listExtendWith
  refine wpAny_bind (wpAny_typeOf (hT 0 _ hst₁) ?_)
  have h1 : Builtin.List.listSameRef (.ref s.heap.objs.size) (.ref I) = false := by simp [Builtin.List.listSameRef, hSI]
  have h2 : (Value.type "map" == Value.type "list") = false := by decide
  have h3 : (Value.type "map" == Value.type "tuple") = false := by decide
  simp only [h1, h2, h3, Bool.or_false, Bool.false_eq_true, if_false]
  refine wpAny_bind (W.self 0 _ _ _ hst₁ ?_)
  refine wpAny_bind (wpAny_holding ?_)
  unfold Builtin.List.listLengthHint
  refine wpAny_bind (wpAny_specialOf (hT 0 _ hst₁) nolen_map ?_)
  show wpAny _ A.in1 (specialOf (Value.ref I) (Str.ofString "__length_hint__") >>= _) _ _ _
  refine wpAny_bind (wpAny_specialOf (hT 0 _ hst₁) nohint_map ?_)
  refine wpAny_pure ?_
  show wpAny _ A.in1 (rule "list.extend.makes-room" >>= fun _ => Builtin.List.listTouch (.ref s.heap.objs.size) >>= fun _ =>
    again (.builtin "list.extend.loop" ⟨[.ref s.heap.objs.size, .ref I, .ref s.heap.objs.size], []⟩)) _ _ _
  refine wpAny_bind (wpAny_rule ?_)
  have hS₁ : (s.heap.push { cls := .type "list", data := .seq ([] : List Value).toArray }).get? s.heap.objs.size = some { cls := .type "list", data := .seq ([] : List Value).toArray } := Heap.get?_push_size _ rfl
  refine wpAny_bind ?_
  show wpAny _ A.in1 (updateSeq s.heap.objs.size (·.push .none) >>= fun _ => updateSeq s.heap.objs.size (·.pop)) _ _ _
  refine wpAny_bind (wpAny_updateSeq hS₁ rfl ?_)
  have hS₂ := Heap.get?_update_self (Obj.mapSeq (·.push Value.none)) hS₁ rfl
  refine wpAny_updateSeq hS₂ rfl ?_
  have hS₃ := Heap.get?_update_self (Obj.mapSeq (·.pop)) hS₂ rfl
  have oth : ∀ b o, b ≠ s.heap.objs.size → (s.heap.push { cls := .type "list", data := .seq ([] : List Value).toArray }).get? b = some o →
      (((s.heap.push { cls := .type "list", data := .seq ([] : List Value).toArray }).update s.heap.objs.size (Obj.mapSeq (·.push Value.none))).update s.heap.objs.size (Obj.mapSeq (·.pop))).get? b = some o :=
    fun b o hb e => (Heap.get?_update_other _ _ (Ne.symm hb)).trans ((Heap.get?_update_other _ _ (Ne.symm hb)).trans e)
  refine wpAny_pure ⟨plainId_quiet F.plain_extend_loop _, codeAny_extend_loopS W hn _ hSf _ n 0 _ _ _ rfl (Nat.zero_le _)
    (W.frame 0 ({ s with heap := s.heap.push { cls := .type "list", data := .seq ([] : List Value).toArray } } : Shared) _ s.toks hst₁ (Nat.le_refl _) fun b hb o e => oth b o (fun h => hSf (h ▸ hb)) e) hS₃ (ItemsOf.nil P) fun s' acc' c' hm hS' hacc => ?_⟩
  show wpAny _ A (load s.heap.objs.size >>= _) _ _ s'
  refine wpAny_bind (wpAny_load hS' ?_)
  refine wpAny_pure (hQ s' acc' (Moved.drop_new (o := { cls := .type "list", data := .seq ([] : List Value).toArray }) (tk := s.toks) (Moved.trans W.gtrans ((Moved.refl W.grefl).then_heap (by first | exact Nat.le_refl _ | exact Nat.le_succ _ | omega) fun b o hb e => ?_) hm) (Nat.le_refl _)) hacc)
  exact oth b o (fun h => hb (h ▸ List.mem_cons_self)) e
theorem code_tuple_new_map {Q₁ : Value → Shared → Prop} (W : WalksS prog w A.in1.in1 I fp wr G n P St) (hT : ∀ i s, St i s → s.TypeIs (.ref I) "map") (hst : St 0 s) (hfp : ∀ b ∈ fp, b < s.heap.objs.size) (hI : I ∈ fp)
    (hsz : n ≤ sizeLine) (h : ∀ s' acc, Moved wr G s s' → ItemsOf P acc n → Q₁ (.ref s'.heap.objs.size) { s' with heap := s'.heap.push { cls := .type "tuple", data := .seq acc } }) :
    codeAny (model prog w) A (.call (.builtin "tuple.__new__") ⟨[.type "tuple", .ref I], []⟩) (wants Q₁ E) s := by
  refine codeAny_of_tree ?_
  show wpAny _ A.in1 (do checkBuiltinCall "tuple.__new__" ⟨[.type "tuple", .ref I], []⟩; again (.builtin "tuple.__new__" ⟨[.type "tuple", .ref I], []⟩)) _ _ s
  refine wpAny_bind (wpAny_of_eq (F.newCall_tuple_1 _) (wpAny_pure ⟨plainId_quiet F.plain_tuple_new _, codeAny_builtin F.entry_tuple_new ?_⟩))
  rw [Around.under_plainId F.plain_tuple_new _]
  have hsub := sub_tuple_self
  have hinit := init_tuple_lookup
  have hmh := madeHere_tuple
  have hTI := hT 0 s hst
  wp_walk using wpAny_typeOf hTI, collect_map (hn := hsz) W hT hst hfp hI
  intro s' acc hm hacc
  show wpAny _ _ (Builtin.Tuple.tupleExact acc.toList.toArray >>= fun v => ret v) _ _ _
  unfold Builtin.Tuple.tupleExact
  refine wpAny_bind (wpAny_newObj_type ?_ (by show acc.toList.toArray.size ≤ sizeLine; simp only [Array.toArray_toList]; rw [hacc.1]; exact hsz))
  refine wpAny_pure ?_
  have e : acc.toList.toArray = acc := by simp
  rw [e]
  exact h s' acc hm hacc
theorem call_tuple_map {Q : Value → Shared → Prop} (W : WalksS prog w A.in1.in1.in1 I fp wr G n P St) (hT : ∀ i s, St i s → s.TypeIs (.ref I) "map") (hst : St 0 s) (hfp : ∀ b ∈ fp, b < s.heap.objs.size) (hI : I ∈ fp)
    (hsz : n ≤ sizeLine) (hQ : ∀ s' acc, Moved wr G s s' → ItemsOf P acc n → Q (.ref s'.heap.objs.size) { s' with heap := s'.heap.push { cls := .type "tuple", data := .seq acc } }) :
    wpAny (model prog w) A (call (.type "tuple") [.ref I]) Q E s := by
  refine callType_codes (Q₁ := fun obj s₁ => s₁.TypeIs obj "tuple" ∧ Q obj s₁) F.called_tuple (F.typeCall_tuple_1 _) F.entry_object_init
    (code_tuple_new_map W hT hst hfp hI hsz fun s' acc hm hacc => ⟨⟨_, Heap.get?_push_size _ rfl, rfl⟩, hQ s' acc hm hacc⟩) fun obj s₁ h₁ => ?_
  exact ⟨h₁.1, F.args_object_init_2 obj _, object_init_meets F.called_tuple.init.lookup F.called_tuple.made (by decide) prog w A.in1 _ s₁ ⟨h₁.1, rfl, h₁.2⟩⟩
end
section
variable {w : World} {A : Around} {s : Shared}
theorem tuple_of_map {Q : Value → Shared → Prop} {z T it t : Addr} {f : Value} {items : Array Value} (hh : A.handled = none) (hz : IsMap s.heap z T f) (hT : IsOne s.heap T (.ref it)) (h0 : s.heap.IsTupleIter it t 0) (ht : s.heap.IsTuple t items)
    (hzi : z ≠ it) (hTi : T ≠ it) (hti : t ≠ it) (hsz : items.size ≤ sizeLine) (P : Nat → Value → Prop)
    (hf : ∀ i x (s' : Shared) (Q : Value → Shared → Prop), items[i]? = some x → Heap.ExtBut it s.heap s'.heap → (∀ y h' tk, P i y → Ext s'.heap h' → Q y { s' with heap := h', toks := tk }) → wpAny (model prog w) A.in1.in1.in1.in1 (call f [x]) Q (fun _ _ => False) s')
    (hQ : ∀ h' tk ys, ItemsOf P ys items.size → Heap.ExtBut it s.heap h' → Q (.ref h'.objs.size) { s with heap := h'.push { cls := .type "tuple", data := .seq ys }, toks := tk }) :
    wpAny (model prog w) A (call (.type "tuple") [.ref z]) Q (fun _ _ => False) s := by
  have W := walks_map (A := A.in1.in1.in1) hh hz hT h0 ht hzi hTi hti P hf
  refine call_tuple_map W.toS (fun i s' st => ⟨_, st.1 _ _ hzi hz, rfl⟩) ⟨fun _ _ _ e => e, h0⟩ (fun b hb => List.mem_range.mp hb) (List.mem_range.mpr (Heap.lt_size hz)) hsz fun s' acc hm hacc => ?_
  have e : s' = { s with heap := s'.heap, toks := s'.toks } := by
    obtain ⟨h1, g1, d1, t1, o1⟩ := s'
    have e1 : g1 = s.gens := hm.gens
    have e2 : d1 = s.drawn := hm.drawn
    have e3 : o1 = s.os := hm.os
    subst e1; subst e2; subst e3; rfl
  rw [e]
  exact hQ s'.heap s'.toks acc hacc fun b o hb e => hm.heap b o (fun q => hb (List.mem_singleton.mp q)) e
theorem max_of_map {Q : Value → Shared → Prop} {z T it t : Addr} {f : Value} {items : Array Value} (hh : A.handled = none) (hz : IsMap s.heap z T f) (hT : IsOne s.heap T (.ref it)) (h0 : s.heap.IsTupleIter it t 0) (ht : s.heap.IsTuple t items)
    (hzi : z ≠ it) (hTi : T ≠ it) (hti : t ≠ it) (hpos : 0 < items.size) (g : Nat → Int)
    (hf : ∀ i x (s' : Shared) (Q : Value → Shared → Prop), items[i]? = some x → Heap.ExtBut it s.heap s'.heap → (∀ y h' tk, (∃ t, y = .int (g i) t) → Ext s'.heap h' → Q y { s' with heap := h', toks := tk }) → wpAny (model prog w) A.in1.in1 (call f [x]) Q (fun _ _ => False) s')
    (hQ : ∀ h' tk i t, i < items.size → (∀ j, j < items.size → g j ≤ g i) → Heap.ExtBut it s.heap h' → Q (.int (g i) t) { s with heap := h', toks := tk }) :
    wpAny (model prog w) A (call (.builtin "max") [.ref z]) Q (fun _ _ => False) s := by
  have W := walks_map (A := A.in1) hh hz hT h0 ht hzi hTi hti (fun i y => ∃ t, y = .int (g i) t) hf
  refine call_max_walk (pyIter_map hz ?_)
  refine ⟨_, _, _, _, _, _, (fun i j => decide (g j < g i)), rfl, W, ⟨fun _ _ _ e => e, h0⟩, (fun b hb => List.mem_range.mp hb), hpos, ?_, ?_⟩
  · intro i j vi vj s' Q' E' hi hj hQ'
    obtain ⟨t, rfl⟩ := hi
    obtain ⟨u, rfl⟩ := hj
    exact PyProof.Rows.gt_int hQ'
  · intro v h' tk hP hk
    obtain ⟨t, rfl⟩ := hP
    refine hQ h' tk _ t (Nat.lt_of_le_of_lt (argBest_le _ _) (Nat.sub_lt hpos (by decide))) (fun j hj => ?_) fun b o hb e => hk b o (fun q => hb (List.mem_singleton.mp q)) e
    have := argBest_no (fun i j => decide (g j < g i)) (fun i j l h1 h2 => decide_eq_true (Int.lt_trans (of_decide_eq_true h2) (of_decide_eq_true h1))) (fun i => decide_eq_false (Int.lt_irrefl _)) (items.size - 1) j (by omega)
    exact Int.not_lt.mp (of_decide_eq_false this)
end
end Mine
end TMs
section TRg
open PySem PySem.W PySem.Calls PyProof.Rows
set_option maxRecDepth 100000
set_option maxHeartbeats 8000000
namespace Mine
theorem fillRg (P : Params) : PySem.Challenge.rw_sr0100_01 = PySem.Challenge.rw_sr0100_01 ∧ hd.heap_39 P = hd.heap_39 P := by
  w_top off
  k_fill
  exact ⟨rfl, rfl⟩
theorem classed (P : Params) : kb_classed (hd.heap_39 P) = true := by kernel_rfl
noncomputable def Reg (h h' : Heap) : Prop := ∃ P ps ps', h.TableAt 60 P ps ∧ Heap.ExtBut P h h' ∧ h'.IsCode 60 P ps' ∧ h'.TableAt 60 P ps' ∧ ∃ more, ps' = ps ++ more
theorem ns_reg {h h' : Heap} {P a : Addr} {ps : Array Value} {m : Str → Option Value} (t : h.get? P = some { cls := .none, data := .fields ps }) (e : Heap.ExtBut P h h') (G : h.Ns a m) : h'.Ns a m := by
  obtain ⟨o, es, ep, ho, hd, r⟩ := G
  refine ⟨o, es, ep, e _ _ (fun q => ?_) ho, hd, r⟩
  subst q
  rw [t] at ho
  cases ho
  cases hd
theorem obj_reg {h h' : Heap} {P b : Addr} {ps : Array Value} {o : Obj} (t : h.get? P = some { cls := .none, data := .fields ps }) (e : Heap.ExtBut P h h') (ho : h.get? b = some o) (hc : o.cls ≠ .none) : h'.get? b = some o :=
  e _ _ (fun q => by subst q; rw [t] at ho; cases ho; exact hc rfl) ho
theorem table_same {h : Heap} {P P' : Addr} {ps ps' : Array Value} (a : h.TableAt 60 P ps) (b : h.TableAt 60 P' ps') : P = P' ∧ ps = ps' := by
  obtain ⟨⟨o, vs, h1, h2, h3, h4⟩, h5⟩ := a
  obtain ⟨⟨o', vs', g1, g2, g3, g4⟩, g5⟩ := b
  rw [h1] at g1
  cases g1
  rw [h3] at g3
  cases g3
  rw [h4] at g4
  cases g4
  rw [h5] at g5
  cases g5
  exact ⟨rfl, rfl⟩
theorem Reg.obj {h h' : Heap} {b : Addr} {o : Obj} (r : Reg h h') (ho : h.get? b = some o) (hc : o.cls ≠ .none) : h'.get? b = some o := by
  obtain ⟨P, ps, ps', t, e, _⟩ := r
  exact obj_reg t.2 e ho hc
theorem Ok.reg {w : World} {h h' : Heap} (O : Ok w h) (r : Reg h h') : Ok w h' := by
  obtain ⟨P, ps, ps', t, e, c', t', _⟩ := r
  obtain ⟨X, ⟨loose, mean, mg, mb, T⟩, _⟩ := O
  obtain ⟨mc, l1, l2⟩ := T.nolimit
  refine ⟨?_, ⟨loose, mean, mg, mb, ⟨ns_reg t.2 e T.g, ns_reg t.2 e T.b, ⟨mc, ns_reg t.2 e l1, l2⟩, ?_, fun d hd => (nomatch hd), fun o ho => (nomatch ho), T.const, T.free, T.builtins, fun d hd => (nomatch hd), ?_, fun hi => ?_⟩⟩, P, ps', c', t'⟩
  · intro a o ho
    have ha := X a o ho
    have q := List.all_eq_true.mp (classed w.params) (a, o) (kb_mem ho)
    simp only [Bool.or_eq_true, decide_eq_true_eq, beq_iff_eq] at q
    refine e _ _ (fun z => ?_) ha
    subst z
    rcases q with (q | q) | q
    · rw [t.2] at ha; cases ha; exact q rfl
    · subst q
      obtain ⟨o', es, ep, ho', hd', _⟩ := l1
      have h5 := t.2
      rw [h5] at ho'; cases ho'; cases hd'
    · subst q
      obtain ⟨o', es, ep, ho', hd', _⟩ := T.g
      have h5 := t.2
      rw [h5] at ho'; cases ho'; cases hd'
  · obtain ⟨mc, h1, h2⟩ := T.nodigits
    exact ⟨mc, ns_reg t.2 e h1, h2⟩
  · obtain ⟨bm, ob, b1, b2, b3, b4, b5⟩ := T.bmain
    exact ⟨bm, ob, b1, b2, obj_reg t.2 e b3 (by rw [b4]; exact fun q => (nomatch q)), b4, b5⟩
  · have : importsNone p0 = false := by decide
    rw [this] at hi
    cases hi
theorem Reg.of_ext {w : World} {h h' : Heap} (O : Ok w h) (e : Ext h h') : Reg h h' := by
  obtain ⟨P, ps, c, t⟩ := O.C
  exact ⟨P, ps, ps, t, fun b o _ x => e b o x, c.keeps e, t.keeps e, #[], (Array.append_empty).symm⟩
theorem Reg.trans {h h' h'' : Heap} (a : Reg h h') (b : Reg h' h'') : Reg h h'' := by
  obtain ⟨P, ps, ps', t, e, c', t', m1, q1⟩ := a
  obtain ⟨P2, qs, qs', u, e2, c2, u2, m2, q2⟩ := b
  obtain ⟨z1, z2⟩ := table_same t' u
  subst z1
  exact ⟨P, ps, qs', t, fun b o hb x => e2 b o hb (e b o hb x), c2, u2, m1 ++ m2, by rw [q2, ← z2, q1, Array.append_assoc]⟩
theorem reg_frame {w : World} {h₀ h h' : Heap} {L : Addr} {m : Str → Option Value} (O : Ok w h₀) (F : Fr h₀ L h m) (r : Reg h h') :
    ∃ g₀, Ok w g₀ ∧ Reg h₀ g₀ ∧ Fr g₀ L h' m ∧ (∀ news : List (Addr × Obj), (∀ p ∈ news, p.2.cls ≠ .none) → News h₀ L h news → News g₀ L h' news) ∧ (∀ b, h₀.get? b = none → g₀.get? b = none) := by
  obtain ⟨P, ps, ps', t, e, c', t', more, em⟩ := r
  obtain ⟨P0, ps0, c0, t0⟩ := O.C
  obtain ⟨rfl, rfl⟩ := table_same (t0.keeps F.keep) t
  have hP0 := t0.2
  have hget : (h₀.update P0 fun _ => { cls := .none, data := .fields ps' }).get? P0 = some { cls := .none, data := .fields ps' } := Heap.get?_update_self _ hP0 rfl
  have hoth : ∀ b, b ≠ P0 → (h₀.update P0 fun _ => { cls := .none, data := .fields ps' }).get? b = h₀.get? b := fun b hb => Heap.get?_update_other _ _ (Ne.symm hb)
  have hE : Heap.ExtBut P0 h₀ (h₀.update P0 fun _ => { cls := .none, data := .fields ps' }) := fun b o hb x => (hoth b hb).trans x
  obtain ⟨o60, vs60, k1, k2, k3, k4⟩ := t0.1
  have h60 : (60 : Addr) ≠ P0 := by
    obtain ⟨_, _, _, _, _, _, _, _, _, _, _, _, _, _, _, _, _, _, _, _, hne⟩ := c0
    exact hne
  have hT : (h₀.update P0 fun _ => { cls := .none, data := .fields ps' }).TableAt 60 P0 ps' := ⟨⟨o60, vs60, (hoth _ h60).trans k1, k2, k3, k4⟩, hget⟩
  have hC : (h₀.update P0 fun _ => { cls := .none, data := .fields ps' }).IsCode 60 P0 ps' := by
    obtain ⟨o, vs, file, tf, flags, tg, inF, text, tt, op, a1, a2, a3, a4, a5, a6, a7, a8, a9, a10, a11⟩ := c0
    obtain ⟨o', vs', file', tf', flags', tg', inF', text', tt', op', b1, b2, b3, b4, b5, b6, b7, b8, b9, b10, b11⟩ := c'
    exact ⟨o, vs, file, tf, flags, tg, inF, text, tt, _, (hoth _ h60).trans a1, a2, a3, a4, a5, a6, a7, hget, rfl, b10, h60⟩
  have R0 : Reg h₀ (h₀.update P0 fun _ => { cls := .none, data := .fields ps' }) := ⟨P0, ps0, ps', t0, hE, hC, hT, more, em⟩
  refine ⟨_, O.reg R0, R0, ⟨ns_reg t.2 e F.ns, fun b o hb => ?_, ?_⟩, fun news hc N p hp => ⟨?_, (N p hp).2.1, ?_⟩, fun b hb => ?_⟩
  · by_cases hq : b = P0
    · subst hq
      rw [hget] at hb
      cases hb
      exact t'.2
    · rw [hoth b hq] at hb
      exact e b o hq (F.keep b o hb)
  · rw [Heap.size_after_update]
    exact F.above
  · exact obj_reg t.2 e (N p hp).1 (hc p hp)
  · have hne : p.1 ≠ P0 := fun q => by
      have := (N p hp).2.2
      rw [q, hP0] at this
      cases this
    rw [hoth _ hne]
    exact (N p hp).2.2
  · have hne : b ≠ P0 := fun q => by
      rw [q, hP0] at hb
      cases hb
    rw [hoth _ hne]
    exact hb
end Mine
end TRg
section TGx
open PySem PySem.W PySem.Calls PyProof.Rows
set_option maxRecDepth 100000
set_option maxHeartbeats 8000000
namespace Mine
theorem code_step {w : World} {A : Around} {E : Value → Shared → Prop} {s : Shared} {env : Env} {pos : Pos} {q : Str} {scope : Scope} {Q : Value → Shared → Prop} (O : Ok w s.heap) (hc : env.code = .ref 60)
    (h : ∀ code h' tk, Reg s.heap h' → s.heap.objs.size ≤ h'.objs.size → Q code { s with heap := h', toks := tk }) : wpAny (model prog w) A (genexprCode env pos q scope) Q E s := by
  obtain ⟨P, ps, c, t⟩ := O.C
  cases hf : codeAmong pos ps.toList with
  | none => exact wpAny_genexprCodeX hc c t hf fun c' h' tk hk hge hlt hcode _ htab _ => h _ _ _ ⟨P, ps, _, t, hk, hcode, htab, _, rfl⟩ (Nat.le_trans hge (Nat.le_of_lt hlt))
  | some cv => exact wpAny_genexprCode_hit hc c hf (h cv s.heap s.toks ⟨P, ps, ps, t, fun _ _ _ e => e, c, t, #[], (Array.append_empty).symm⟩ (Nat.le_refl _))
noncomputable def GenT (w : World) (A : Around) (K a' : Addr) (n : Nat) (F : Nat → Value → Prop) (s : Shared) : Prop :=
  ∃ fp wr g St, WalksS prog w A.in4 a' fp wr (GenOnlyQ g) n F St ∧ St 0 s ∧ (∀ i s', St i s' → s'.TypeIs (.ref a') "generator") ∧ a' ∈ fp ∧ (∀ b ∈ fp, b < s.heap.objs.size) ∧ ∀ b ∈ wr, K ≤ b
theorem reg_back {h h₁ h₂ : Heap} (r : Reg h h₁) (k : ∀ b o, b < h.objs.size → h₁.get? b = some o → h₂.get? b = some o) : Reg h h₂ := by
  obtain ⟨P, ps, ps', t, e, c', t', gm⟩ := r
  have hP : P < h.objs.size := Heap.lt_size t.2
  obtain ⟨o60, vs60, k1, k2, k3, k4⟩ := t.1
  have h60 : (60 : Addr) < h.objs.size := Heap.lt_size k1
  refine ⟨P, ps, ps', t, fun b o hb x => k b o (Heap.lt_size x) (e b o hb x), ?_, ?_, gm⟩
  · obtain ⟨o', vs', file', tf', flags', tg', inF', text', tt', op', b1, b2, b3, b4, b5, b6, b7, b8, b9, b10, b11⟩ := c'
    exact ⟨o', vs', file', tf', flags', tg', inF', text', tt', op', k _ _ h60 b1, b2, b3, b4, b5, b6, b7, k _ _ hP b8, b9, b10, b11⟩
  · obtain ⟨⟨o', vs', g1, g2⟩, g3⟩ := t'
    exact ⟨⟨o', vs', k _ _ h60 g1, g2⟩, k _ _ hP g3⟩
theorem reg_ground {w : World} {h₀ h' : Heap} {L : Addr} {m : Str → Option Value} (O : Ok w h₀) (r : Reg h₀ h') (ns : h'.Ns L m) (hL : h₀.objs.size ≤ L) :
    ∃ g₀, Ok w g₀ ∧ Reg h₀ g₀ ∧ Fr g₀ L h' m ∧ (∀ b, h₀.get? b = none → g₀.get? b = none) := by
  obtain ⟨P, ps, ps', t, e, c', t', more, em⟩ := r
  obtain ⟨P0, ps0, c0, t0⟩ := O.C
  obtain ⟨rfl, rfl⟩ := table_same t0 t
  have hP0 := t0.2
  have hget : (h₀.update P0 fun _ => { cls := .none, data := .fields ps' }).get? P0 = some { cls := .none, data := .fields ps' } := Heap.get?_update_self _ hP0 rfl
  have hoth : ∀ b, b ≠ P0 → (h₀.update P0 fun _ => { cls := .none, data := .fields ps' }).get? b = h₀.get? b := fun b hb => Heap.get?_update_other _ _ (Ne.symm hb)
  have hE : Heap.ExtBut P0 h₀ (h₀.update P0 fun _ => { cls := .none, data := .fields ps' }) := fun b o hb x => (hoth b hb).trans x
  obtain ⟨o60, vs60, k1, k2, k3, k4⟩ := t0.1
  have h60 : (60 : Addr) ≠ P0 := by
    obtain ⟨_, _, _, _, _, _, _, _, _, _, _, _, _, _, _, _, _, _, _, _, hne⟩ := c0
    exact hne
  have hT : (h₀.update P0 fun _ => { cls := .none, data := .fields ps' }).TableAt 60 P0 ps' := ⟨⟨o60, vs60, (hoth _ h60).trans k1, k2, k3, k4⟩, hget⟩
  have hC : (h₀.update P0 fun _ => { cls := .none, data := .fields ps' }).IsCode 60 P0 ps' := by
    obtain ⟨o, vs, file, tf, flags, tg, inF, text, tt, op, a1, a2, a3, a4, a5, a6, a7, a8, a9, a10, a11⟩ := c0
    obtain ⟨o', vs', file', tf', flags', tg', inF', text', tt', op', b1, b2, b3, b4, b5, b6, b7, b8, b9, b10, b11⟩ := c'
    exact ⟨o, vs, file, tf, flags, tg, inF, text, tt, _, (hoth _ h60).trans a1, a2, a3, a4, a5, a6, a7, hget, rfl, b10, h60⟩
  have R0 : Reg h₀ (h₀.update P0 fun _ => { cls := .none, data := .fields ps' }) := ⟨P0, ps0, ps', t0, hE, hC, hT, more, em⟩
  refine ⟨_, O.reg R0, R0, ⟨ns, fun b o hb => ?_, ?_⟩, fun b hb => ?_⟩
  · by_cases hq : b = P0
    · subst hq
      rw [hget] at hb
      cases hb
      exact t'.2
    · rw [hoth b hq] at hb
      exact e b o hq hb
  · rw [Heap.size_after_update]
    exact hL
  · have hne : b ≠ P0 := fun q => by
      rw [q, hP0] at hb
      cases hb
    rw [hoth _ hne]
    exact hb
theorem Reg.cell {h h' : Heap} {c : Addr} {v : Option Value} (r : Reg h h') (x : h.IsCell c v) : h'.IsCell c v := by
  obtain ⟨P, ps, ps', t, e, _⟩ := r
  obtain ⟨o, ho, hd⟩ := x
  refine ⟨o, e _ _ (fun q => ?_) ho, hd⟩
  subst q
  rw [t.2] at ho
  cases ho
  cases hd
section
variable {M : Model} {A : Around} {E : Value → Shared → Prop} {s : Shared} {env : Env} {scope : Scope} {cl : List (Str × Addr)} {C c : Addr} {code v : Value} {bi : Addr} {x : Str} {pos : Pos} {Q : Value → Shared → Prop} {m : Str → Option Value}
theorem gen_free (hk : scope.kind = .function) (hl : scope.names.lookup x = some .free) (hc : cl.lookup x = some c) (hv : s.heap.IsCell c (some v)) (hd : (x == ("__debug__" : Str)) = false) (hn : (x == ("__classdict__" : Str)) = false) (h : Q v s) :
    wpAny M A (eval (.Name x pos) (genEnv scope cl C code bi env)) Q E s := wpAny_Name (wpAny_loadName_free hk hl hc hv h hn) hd
theorem gen_local (hk : scope.kind = .function) (hl : scope.names.lookup x = some .local) (hn : s.heap.Ns C m) (hv : m x = some v) (hd : (x == ("__debug__" : Str)) = false) (h : Q v s) :
    wpAny M A (eval (.Name x pos) (genEnv scope cl C code bi env)) Q E s := wpAny_Name (wpAny_loadName_local hk hl hn hv h) hd
theorem gen_glob {mg : Str → Option Value} (hk : scope.kind = .function) (hl : scope.names.lookup x = some .globalImplicit) (hg : env.globals = mainGlobals) (hn : s.heap.Ns mainGlobals mg) (hv : mg x = some v) (hd : (x == ("__debug__" : Str)) = false) (h : Q v s) :
    wpAny M A (eval (.Name x pos) (genEnv scope cl C code bi env)) Q E s := Name_function_global hk hl (loadGlobal_global (env := genEnv scope cl C code bi env) (show s.heap.Ns env.globals mg from hg ▸ hn) hv h) hd
end
theorem genexp_over {w : World} {A : Around} {E : Value → Shared → Prop} {s : Shared} {env : Env} {elt iter : Expr} {x : Str} {px pos : Pos} {scope : Scope} {cl : List (Str × Addr)} {Q : Value → Shared → Prop} {a : Addr} {vs : List Value} (G : Value → Value → Prop)
    (O : Ok w s.heap) (hc : env.code = .ref 60) (hg : env.globals = mainGlobals) (hO : s.heap.get? a = some (tupO vs))
    (hit : ∀ Q' : Value → Shared → Prop, Q' (.ref a) s → wpAny (model prog w) A (eval iter env) Q' E s)
    (hh : A.handled = none) (hco : scope.isCoroutine = false) (hclos : closureFor scope env = pure cl) (hcell : ∀ y ∈ scope.names, y.2 ≠ .cell) (h0 : scope.names.lookup (".0" : Str) = some NameKind.local)
    (hx : scope.names.lookup x = some .local) (hkind : scope.kind = .function) (hroom : A.depth < recursionLimit) (hs : ∀ x, genFold iter env x = pure x)
    (helt : ∀ (C : Addr) (code : Value) (A' : Around) (i : Nat) (v : Value) (u : Shared) m₂, A'.handled = none → A'.depth ≤ A.depth + 1 → A'.units ≤ A.units + 8 → vs[i]? = some v → s.heap.objs.size ≤ C → u.heap.Ns C m₂ → m₂ x = some v → Reg s.heap u.heap →
      wpAny (model prog w) A' (eval elt (genEnv scope cl C code builtinsNs env)) (fun y s₃ => G v y ∧ Keeps u s₃) (fun _ _ => False) u)
    (hQ : ∀ a' h' tk gs, gs.bare = true → Reg s.heap h' → GenT w A s.heap.objs.size a' vs.length (fun j y => ∃ v, vs[j]? = some v ∧ G v y) { s with heap := h', gens := s.gens.push gs, toks := tk } →
      Q (.ref a') { s with heap := h', gens := s.gens.push gs, toks := tk }) :
    wpAny (model prog w) A (eval (.GeneratorExp elt [⟨.Name x px, iter, [], 0⟩] scope pos) env) Q E s := by
  have hlt : a < s.heap.objs.size := Heap.lt_size hO
  have hT : s.heap.IsTuple a vs.toArray := istup_of hO
  refine wpAny_GeneratorExp_walksQD hh hco hclos hcell h0 hx hkind hroom (hit _ (wpAny_pyIter_tuple hT ⟨O.nolimit.push _, ?_⟩)) hs
  have e2 : Ext s.heap (s.heap.push { cls := .type "tuple_iterator", data := .fields #[.ref a, .int 0 0] }) := fun _ _ e => Heap.get?_push_of_some _ e
  refine code_step (s := { s with heap := s.heap.push { cls := .type "tuple_iterator", data := .fields #[.ref a, .int 0 0] } }) (O.keeps e2) hc fun code h₃ tk₃ r₃ hsz => ?_
  have O₃ : Ok w h₃ := (O.keeps e2).reg r₃
  have R₃ : Reg s.heap h₃ := (Reg.of_ext O e2).trans r₃
  obtain ⟨loose, mean, mg, mb, T⟩ := O₃.T
  obtain ⟨bm, ob, m1, m2, m3, m4, m5, m6⟩ := T.bmain
  have hI : h₃.get? s.heap.objs.size = some { cls := .type "tuple_iterator", data := .fields #[.ref a, .int 0 0] } := r₃.obj (Heap.get?_push_size _ rfl) (fun q => nomatch q)
  have hA : h₃.get? a = some (tupO vs) := R₃.obj hO (fun q => nomatch q)
  have hlt3 : s.heap.objs.size < h₃.objs.size := Heap.lt_size hI
  have hcs : cStatics < s.heap.objs.size := let ⟨_, hn, _⟩ := O.nolimit; hn.lt
  refine wpAny_builtinsFor (by rw [hg]; exact T.g) m1 m2 m3 m4 m5 m6 ?_
  have hpass : passing (fun _ => true) vs.toArray.size 0 = List.range vs.length := by
    simp [passing]
  refine ⟨s.heap.objs.size, [s.heap.objs.size, a], [s.heap.objs.size], vs.toArray.size, fun i v => vs.toArray[i]? = some v, _, fun _ => true, fun i y => ∃ v, vs[i]? = some v ∧ G v y, rfl,
    (fun A' hA' => Walks.tuple hA' s.heap.objs.size a (Nat.ne_of_lt hlt) vs.toArray), ⟨⟨_, hI, rfl, rfl⟩, istup_of hA⟩, ?_, O₃.nolimit, ?_, ?_, ?_⟩
  · intro b hb
    rcases List.mem_cons.mp hb with rfl | hb
    · exact hlt3
    · rw [List.mem_singleton.mp hb]; exact Nat.lt_trans hlt hlt3
  · intro hm
    rw [List.mem_singleton.mp hm] at hcs
    exact Nat.lt_irrefl _ hcs
  · intro href hhref
    refine ⟨fun A' E' i v u m₂ _ _ _ _ _ _ _ => wpAny_pure ⟨rfl, u.heap, u.toks, rfl, fun _ _ e => e⟩, fun A' E' i v u m₂ hA' hD hU hP _ hns hm hk => ?_⟩
    have hP' : vs[i]? = some v := by rw [← List.getElem?_toArray]; exact hP
    refine wpAny_mono (helt h₃.objs.size code A' i v u m₂ hA' hD hU hP' (Nat.le_of_lt hlt3) hns hm (reg_back R₃ fun b o hb e => ?_)) (fun y s₃ hy => ⟨⟨v, hP', hy.1⟩, hy.2⟩) fun _ _ e => e.elim
    exact hk b (List.mem_range.mpr (Heap.lt_size e)) (fun q => Nat.lt_irrefl _ (List.mem_singleton.mp q ▸ hb)) o (hhref b o e)
  · intro a' h₅ tk gs hgb hag hsz₅ hk₅ W hat
    have hfin := hQ a' h₅ tk gs hgb (reg_back R₃ fun b o _ e => hk₅ b o e)
    refine hfin ?_
    rw [hpass] at W
    have e5 : (List.range vs.length).length = vs.length := List.length_range
    rw [e5] at W
    have W' := WalksS.imp (P' := fun j y => ∃ v, vs[j]? = some v ∧ G v y) W fun j y hy => by
      obtain ⟨i, hij, v, hv, hG⟩ := hy
      rw [List.getElem?_range (by
        have := (List.getElem?_eq_some_iff.mp hij).1
        rwa [List.length_range] at this)] at hij
      cases hij
      exact ⟨v, hv, hG⟩
    refine ⟨_, _, _, _, W', hat, (fun i s' st => st.1.typeIs), List.mem_cons_self, ?_, ?_⟩
    · intro b hb
      show b < h₅.objs.size
      rw [hsz₅]
      rcases List.mem_cons.mp hb with rfl | hb
      · exact Nat.lt_succ_self _
      · rcases List.mem_cons.mp hb with rfl | hb
        · exact Nat.lt_succ_of_lt hag
        · exact Nat.lt_succ_of_lt (Nat.lt_trans (List.mem_range.mp hb) hag)
    · intro b hb
      rcases List.mem_cons.mp hb with rfl | hb
      · exact Nat.le_of_lt hlt3
      · rw [List.mem_singleton.mp hb]; exact Nat.le_refl _
theorem tuple_of_gen {w : World} {A : Around} {E : Value → Shared → Prop} {s : Shared} {h : Heap} {a' : Addr} {n : Nat} {F : Nat → Value → Prop} {Q : Value → Shared → Prop} (r : Reg h s.heap) (gen : GenT w A h.objs.size a' n F s) (hb : AllBare s.gens) (hn : n ≤ sizeLine)
    (hQ : ∀ h' tk g' D ys, h'.get? D = some (tupO ys) → h.get? D = none → AllBare g' → Reg h h' → ItemsOf F ys.toArray n → Q (.ref D) { s with heap := h', gens := g', toks := tk }) :
    wpAny (model prog w) A (call (.type "tuple") [.ref a']) Q E s := by
  obtain ⟨fp, wr, g, St, W, hst, hT, hI, hfp, hwr⟩ := gen
  refine call_tuple_gen (hsz := hn) W.in4_3 hT hst hfp hI fun s' acc hm hacc => ?_
  have G₁ : AllBare s'.gens := hb.movedS hm
  have R : Reg h s'.heap := reg_back r fun b o hb e => hm.heap b o (fun q => Nat.lt_irrefl _ (Nat.lt_of_lt_of_le hb (hwr b q))) e
  have e : s' = { s with heap := s'.heap, gens := s'.gens, toks := s'.toks } := by
    obtain ⟨h1, g1, d1, t1, o1⟩ := s'
    have e2 : d1 = s.drawn := hm.drawn
    have e3 : o1 = s.os := hm.os
    subst e2; subst e3; rfl
  have hp : (s'.heap.push { cls := .type "tuple", data := .seq acc }).get? s'.heap.objs.size = some (tupO acc.toList) := by
    rw [Heap.get?_push_size _ rfl]
  have hD : h.get? s'.heap.objs.size = none := by
    cases q : h.get? s'.heap.objs.size with
    | none => rfl
    | some o =>
      exfalso
      obtain ⟨P, ps, ps', t, e', c', t'⟩ := R
      by_cases hP : s'.heap.objs.size = P
      · exact absurd (Heap.lt_size t'.1.2) (hP ▸ Nat.lt_irrefl _)
      · exact absurd (Heap.lt_size (e' _ _ hP q)) (Nat.lt_irrefl _)
  have := hQ (s'.heap.push { cls := .type "tuple", data := .seq acc }) s'.toks s'.gens s'.heap.objs.size acc.toList hp hD G₁ (reg_back R fun b o _ e => Heap.get?_push_of_some _ e) (by rw [Array.toArray_toList]; exact hacc)
  rw [e]
  exact this
end Mine
end TGx
section TWn
open PySem PySem.W PySem.Calls PyProof.Rows
set_option maxRecDepth 100000
set_option maxHeartbeats 8000000
namespace Mine
theorem fillWn (P : Params) : PySem.Challenge.rw_sr0100_01 = PySem.Challenge.rw_sr0100_01 ∧ hd.heap_39 P = hd.heap_39 P := by
  w_top off
  k_fill
  exact ⟨rfl, rfl⟩
noncomputable abbrev lvn (d u : Nat) : Around := { handled := none, depth := d, frames := none, guards := none, units := u }
theorem at_lvn {α : Type} {M : Model} {d u : Nat} {A : Around} {t : Sem α} {Q : α → Shared → Prop} {E : Value → Shared → Prop} {s : Shared} (h : wpAny M (lvn d u) t Q E s)
    (hh : A.handled = none) (hd : A.depth ≤ d) (hu : A.units ≤ u) : wpAny M A t Q E s :=
  fun Γ p hΓ => h Γ p ⟨hΓ.1.trans hh, Nat.le_trans hΓ.2.1 hd, (fun _ e => nomatch e), (fun _ e => nomatch e), Nat.le_trans hΓ.2.2.2.2 hu⟩
theorem shortenN_ok {w : World} {s : Shared} {Q : Value → Shared → Prop}
   (O : Ok w s.heap) (x : Str) (p q : Int) (t1 t2 t3 : Tok)
   (hx : x.length ≤ 10000) (hp0 : 0 ≤ p) (hp1 : p ≤ 10000) (hq0 : 0 ≤ q) (hq1 : q ≤ 10000)
   (hret : ∀ h' tk y t, y = shortenS x p q → Ext s.heap h' → Q (.str y t) { s with heap := h', toks := tk }) :
   wpAny (model prog w) (lvn 700 2000) (call (.ref 28) [.str x t1, .int p t2, .int q t3]) Q (fun _ _ => False) s := by
  obtain ⟨X, loose, mean, mg, mb, T⟩ := O.top
  refine' enter [("s", .str x t1), ("prefixlen", .int p t2), ("suffixlen", .int q t3)] X T.nolimit (by decide) ?k1 ?k3 ?k4 ?k5 ?k6 ?k7 ?k8 ?k9 ?k10
  case k1 => k_is
  case k3 => k_is
  case k4 => exact rfl
  case k5 => exact rfl
  case k7 => rfl
  case k8 => rfl
  case k9 => rfl
  case k10 => decide
  intro h₁ tk F N
  repeat' ((fail_if_success (with_reducible show wpAny _ _ (binaryOp Operator.Mod _ _) _ _ _)); first | (k_unfold; (try dsimp only)) | walk1 | (dsimp only; walk1))
  · refine' mod_fmt (by k_asm) (by k_mem) ?ma ?mc ?m0 ?m1 ?_
    case ma => lia
    case mc => lia
    case m0 => lia
    case m1 => lia
    intro t9 k9
    repeat' (first | (k_unfold; (try dsimp only)) | walk1 | (dsimp only; walk1))
    (try dsimp only)
    refine hret _ _ _ _ ?_ (by rename Fr _ _ _ _ => F9; exact F9.keep)
    exact (if_pos (by assumption)).symm
  · (try dsimp only)
    refine hret _ _ _ _ ?_ (by rename Fr _ _ _ _ => F9; exact F9.keep)
    exact (if_neg (by assumption)).symm
end Mine
end TWn
section TW10
open PySem PySem.W PySem.Calls PyProof.Rows
set_option maxRecDepth 100000
set_option maxHeartbeats 8000000
namespace Mine
theorem fillW10 (P : Params) : PySem.Challenge.rw_sr0100_01 = PySem.Challenge.rw_sr0100_01 ∧ hd.heap_39 P = hd.heap_39 P := by
  w_top off
  k_fill
  exact ⟨rfl, rfl⟩
theorem enterV {w : World} {K : Frag} {A : Around} {s : Shared} {Q : Value → Shared → Prop} {f : Addr} {oc pm cd doc : Value} {od : Option Addr} {osl : Array (Option Value)} {name : Str} {params : Arguments} {body : List Stmt} {scope : Scope} {args : List Value} (x : Str)
   (X : K.In s.heap) (hlim : s.heap.NoLimit) (hr : A.depth < recursionLimit)
   (hl : K.lookup f = some ⟨oc, od, .func (docDef name params body scope pm cd doc), osl⟩) (hcd : codeIn K cd name = true)
   (hbind : bindArgs (docDef name params body scope pm cd doc) ⟨args, []⟩ = (newTuple args >>= fun t => pure [(x, t)])) (hsz : args.length ≤ sizeLine)
   (hloc : scope.names.lookup x = some .local)
   (hnd : ((cellsFrom 0 scope.names []).map (·.1)).Nodup)
   (h : ∀ H D h₁ tk cells, H.get? D = some (tupO args) → s.heap.get? D = none → Ext s.heap H → Fr H H.objs.size h₁ (bindL (envOfC name scope H.objs.size f cd).kindOf [(x, .ref D)] fun _ => none) → News H H.objs.size h₁ cells →
      CellsAre (bindC (envOfC name scope H.objs.size f cd).kindOf [(x, .ref D)] fun _ => none) (cellsFrom (H.objs.size + 1) scope.names []) cells →
      wpAny (model prog w) (A.deeper (envOfC name scope H.objs.size f cd)) (execs body (envOfC name scope H.objs.size f cd))
        (fun fl s' => Q (match fl with | .ret v => v | _ => .none) s') (fun _ _ => False) { s with heap := h₁, toks := tk })
   (hco : scope.isCoroutine = false) (hgen : scope.isGenerator = false) (hk : scope.kind = .function) : wpAny (model prog w) A (call (.ref f) args) Q (fun _ _ => False) s := by
  refine wpAny_call (codeAny_call_function (fd := docDef name params body scope pm cd doc) (body := body) hr (X _ _ hl) rfl hco hgen rfl (codeRec_of X hcd) ?_)
  rw [hbind]
  refine wpAny_bind (wpAny_newTuple (wpAny_pure ?_) hsz)
  have e : Ext s.heap (s.heap.push (tupO args)) := fun _ _ e => Heap.get?_push_of_some _ e
  refine wpAny_newFunctionEnv_cells (s := { s with heap := s.heap.push (tupO args) }) (binds := [(x, .ref s.heap.objs.size)]) hk (fun y hy => ?_) fun env he s' X' => ?_
  · rw [List.mem_singleton.mp hy]; exact .inl hloc
  subst he
  obtain ⟨h₁, tk, rfl, _⟩ := X'.done
  refine ⟨(hlim.keeps e).keeps X'.toInCall.keep, codeAny_func ?_⟩
  obtain ⟨cells, N, Y⟩ := Cl.news (h₀ := s.heap.push (tupO args)) (h := h₁) (L := (s.heap.push (tupO args)).objs.size) (cs := cellsFrom ((s.heap.push (tupO args)).objs.size + 1) scope.names []) (cm := bindC (envOfC name scope (s.heap.push (tupO args)).objs.size f cd).kindOf [(x, .ref s.heap.objs.size)] fun _ => none) (Nat.le_refl _) fun n c hm =>
    ⟨X'.cell n c (lookup_of_mem_nodup (cellsFrom_names scope.names 0 ((s.heap.push (tupO args)).objs.size + 1) [] [] rfl ▸ hnd) hm), X'.above n c hm⟩
  exact wpAny_mono (h (s.heap.push (tupO args)) s.heap.objs.size h₁ tk cells (Heap.get?_push_size _ rfl) (Heap.get?_none_of_le (Nat.le_refl _)) e ⟨X'.toInCall.ns, X'.toInCall.keep, X'.toInCall.fresh⟩ N Y) (fun _ _ e => e) fun _ _ e => e.elim
end Mine
end TW10
section TW11
open PySem PySem.W PySem.Calls PyProof.Rows
set_option maxRecDepth 100000
set_option maxHeartbeats 8000000
open PySem.F
namespace Mine
theorem fillW11 (P : Params) : PySem.Challenge.rw_sr0100_01 = PySem.Challenge.rw_sr0100_01 ∧ hd.heap_39 P = hd.heap_39 P := by
  w_top off
  k_fill
  exact ⟨rfl, rfl⟩
noncomputable def maxLen (xs : List Str) : Nat := (xs.map Str.length).foldr max 0
theorem maxLen_ge {xs : List Str} {x : Str} (h : x ∈ xs) : x.length ≤ maxLen xs := by
  induction xs with
  | nil => cases h
  | cons y ys ih =>
    rcases List.mem_cons.mp h with rfl | h
    · exact Nat.le_max_left _ _
    · exact Nat.le_trans (ih h) (Nat.le_max_right _ _)
theorem maxLen_le {xs : List Str} {n : Nat} (h : ∀ x ∈ xs, x.length ≤ n) : maxLen xs ≤ n := by
  induction xs with
  | nil => exact Nat.zero_le _
  | cons y ys ih => exact Nat.max_le.mpr ⟨h y (.head _), ih fun x hx => h x (.tail _ hx)⟩
noncomputable def csrS (xs : List Str) : List Str :=
  if maxLen xs ≤ 80 then xs
  else if 5 < 80 - ((maxLen xs : Int) - (prefixS xs).length + 5 + 12) then
    xs.map fun s => shortenS (prefixS xs) 5 (80 - ((maxLen xs : Int) - (prefixS xs).length + 5 + 12)) ++ Txt.slice s (some (prefixS xs).length) none
  else xs.map fun s => shortenS (prefixS xs) 5 5 ++ shortenS (Txt.slice s (some (prefixS xs).length) none) 41 5
theorem strs_of_items {xs : List Str} {ys : Array Value} (h : ItemsOf (fun i y => ∃ t, y = Value.str (xs.getD i default) t) ys xs.length) : StrsAre ys.toList xs := by
  obtain ⟨hs, hP⟩ := h
  have key : ∀ (l : List Value) (xs : List Str), l.length = xs.length → (∀ j v, l[j]? = some v → ∃ t, v = Value.str (xs.getD j default) t) → StrsAre l xs := by
    intro l
    induction l with
    | nil => intro xs hl _; rw [List.eq_nil_of_length_eq_zero hl.symm]; exact .nil
    | cons v l ih =>
      intro xs hl hg
      cases xs with
      | nil => cases hl
      | cons x xs =>
        obtain ⟨t, e⟩ := hg 0 v rfl
        have e' : v = Value.str x t := e
        subst e'
        exact .cons x t (ih xs (Nat.succ.inj hl) fun j v hv => hg (j + 1) v hv)
  refine key ys.toList xs (by simpa using hs) fun j v hv => ?_
  exact hP j v (by simpa using hv)
theorem none_back {a b : Heap} (e : Ext a b) {x : Addr} (h : b.get? x = none) : a.get? x = none := by
  cases q : a.get? x with
  | none => rfl
  | some o => rw [e _ _ q] at h; cases h
theorem lcpL_len : ∀ (a b : List Nat), (lcpL a b).length ≤ a.length
  | [], _ => by unfold lcpL; exact Nat.le_refl _
  | _ :: _, [] => by unfold lcpL; exact Nat.zero_le _
  | a :: x, b :: y => by
    unfold lcpL
    split
    · exact Nat.succ_le_succ (lcpL_len x y)
    · exact Nat.zero_le _
theorem prefixS_len {xs : List Str} (_h : xs ≠ []) : (prefixS xs).length ≤ (bestMin xs).length := by
  rw [← cs_len, ← cs_len]
  show (cs ⟨_⟩).length ≤ _
  rw [cs_mk]
  exact lcpL_len _ _
theorem slice_len (x : Str) (lo hi : Option Int) : (Txt.slice x lo hi).length ≤ x.length := Txt.slice_le x lo hi
theorem app_len (x y : Str) : (x ++ y).length = x.length + y.length := by
  rw [← cs_len, ← cs_len, ← cs_len, cs_app, List.length_append]
theorem shortenS_len {x : Str} {p q : Int} (h : x.length ≤ 10000) (hp : 0 ≤ p) (hq : 0 ≤ q) : (shortenS x p q).length ≤ 30000 := by
  unfold shortenS
  split
  · unfold fmt3
    rw [app_len, app_len, app_len, app_len]
    have h1 := slice_len x none (some p)
    have h2 := slice_len x (some ((x.length : Int) - q)) none
    have h3 := KT.len_num (n := (x.length : Int) - p - q) (by lia) (by lia)
    have h4 : (Str.ofString "[").length = 1 := by decide
    have h5 : (Str.ofString " chars]").length = 7 := by decide
    lia
  · lia
theorem items_map {us : List Value} {xs : List Str} {zs : List Value} (f : Str → Str) (hl : us.length = xs.length) (hget : ∀ (i : Nat) (v : Value), us[i]? = some v → i < xs.length ∧ ∃ t, v = Value.str (xs.getD i default) t)
    (h : ItemsOf (fun j y => ∃ v, us[j]? = some v ∧ ∀ x t, v = Value.str x t → ∃ u, y = Value.str (f x) u) zs.toArray us.length) : StrsAre zs (xs.map f) := by
  have : StrsAre zs.toArray.toList (xs.map f) := by
    refine strs_of_items ⟨by rw [h.1, List.length_map, hl], fun j y hy => ?_⟩
    obtain ⟨v, hv, hG⟩ := h.2 j y hy
    obtain ⟨hj, t, rfl⟩ := hget j v hv
    obtain ⟨u, rfl⟩ := hG _ _ rfl
    refine ⟨u, ?_⟩
    rw [List.getD_eq_getElem?_getD (l := xs.map f), List.getElem?_map, List.getD_eq_getElem?_getD, List.getElem?_eq_getElem hj]
    rfl
  exact this
theorem getD_shown {ds : List PyData} {i : Nat} (h : i < ds.length) : (ds.map PyData.shown).getD i default = (ds.getD i .none).shown := by
  rw [List.getD_eq_getElem?_getD, List.getD_eq_getElem?_getD, List.getElem?_map, List.getElem?_eq_getElem h]; rfl
theorem le3 {α : Type} {l : List α} (h : l.length ≤ 3) : l = [] ∨ (∃ a, l = [a]) ∨ (∃ a b, l = [a, b]) ∨ ∃ a b c, l = [a, b, c] := by
  match l, h with
  | [], _ => exact .inl rfl
  | [a], _ => exact .inr (.inl ⟨a, rfl⟩)
  | [a, b], _ => exact .inr (.inr (.inl ⟨a, b, rfl⟩))
  | [a, b, c], _ => exact .inr (.inr (.inr ⟨a, b, c, rfl⟩))
theorem csr_ok {w : World} {s : Shared} {Q : Value → Shared → Prop}
   (O : Ok w s.heap) (vals : List Value) (ds : List PyData) (hl : vals.length = ds.length) (hpos : 0 < vals.length) (hle : vals.length ≤ 3)
   (hr : ∀ i v, vals[i]? = some v → ∃ a as, v = .ref a ∧ Reads s.heap (.ref a) (ds.getD i .none) as ∧ (ds.getD i .none).showable = true ∧ ((ds.getD i .none).hasDict = true → sysModules ∉ as) ∧ (ds.getD i .none).shown.length ≤ 10000 ∧ (ds.getD i .none).depth ≤ 20)
   (hb : AllBare s.gens)
   (hret : ∀ h' tk g' D ys, h'.get? D = some (tupO ys) → s.heap.get? D = none → StrsAre ys (csrS (ds.map PyData.shown)) → AllBare g' → Reg s.heap h' → Q (.ref D) { s with heap := h', gens := g', toks := tk }) :
   wpAny (model prog w) (lv 450 1700) (call (.ref 61) vals) Q (fun _ _ => False) s := by
  obtain ⟨X, loose, mean, mg, mb, T⟩ := O.top
  refine' enterV (Str.ofString "args") X T.nolimit (Nat.le_of_ble_eq_true rfl) ?k1 ?k3 ?k4 ?k5 ?k6 ?k6b ?k7 ?k8 ?k9 ?k10
  case k1 => k_is
  case k3 => k_is
  case k4 => 
    rcases le3 hle with h | ⟨a, h⟩ | ⟨a, b, h⟩ | ⟨a, b, c, h⟩ <;> (rw [h]; rfl)
  case k5 => rw [sizeLine_eq]; lia
  case k6 => rfl
  case k6b => decide
  case k8 => rfl
  case k9 => rfl
  case k10 => rfl
  intro H D h₁ tk cells hD hD0 eH F N Y
  obtain ⟨o1, o2, rfl, hc1, hc2⟩ := CellsAre.two Y
  clear Y
  have F' : Fr H H.objs.size h₁ (bindM (fun _ => none) (Str.ofString "args") (some (.ref D))) := F
  clear F
  have OH : Ok w H := O.keeps eH
  clear X T
  obtain ⟨X, loose, mean, mg, mb, T⟩ := OH.top
  repeat' ((fail_if_success (with_reducible show wpAny _ _ (call (Value.type "map") _) _ _ _)); first | (k_unfold; (try dsimp only)) | walk1 | (dsimp only; walk1))
  rename Fr _ _ _ _ => F
  rename News _ _ _ _ => N
  have hDb := F.keep _ _ hD
  refine' call_map_2 (istup_of hDb) ?_
  intro h1 z T1 it hz hT1 hit0 ht hzi hTi hti hnone e1
  have hne : ∀ b o, h₁.get? b = some o → b ≠ it := fun b o e q => by rw [q] at e; rw [hnone] at e; cases e
  repeat' ((fail_if_success (with_reducible show wpAny _ _ (call (Value.type "tuple") _) _ _ _)); first | (k_unfold; (try dsimp only)) | walk1 | (dsimp only; walk1))
  refine' tuple_of_map rfl hz hT1 hit0 ht hzi hTi hti ?ms (fun i y => ∃ t, y = Value.str ((ds.map PyData.shown).getD i default) t) ?mf ?_
  case ms => rw [List.size_toArray, sizeLine_eq]; lia
  case mf =>
    intro i x s' Q' hx hE hQ'
    have hx' : vals[i]? = some x := by rw [← List.getElem?_toArray]; exact hx
    obtain ⟨a, as, rfl, r, hsh, hsm, hlen, hdep⟩ := hr i x hx'
    have hil : i < ds.length := by rw [← hl]; exact (List.getElem?_eq_some_iff.mp hx').1
    have eS : Ext s.heap s'.heap := fun b o e => hE b o (hne b o (F.keep b o (eH b o e))) (e1 b o (F.keep b o (eH b o e)))
    refine' at_lv (safe_repr_ok (O.keeps eS) a _ as (PyProof.Rows.Reads.keeps eS r) hsh hsm hlen hdep ?_) rfl (Nat.le_of_ble_eq_true rfl) rfl (Nat.le_of_ble_eq_true rfl)
    intro h' tk t e
    exact hQ' _ h' tk ⟨t, by rw [getD_shown hil]⟩ e
  intro h2 tk2 ys hys e2
  rw [show ({ cls := Value.type "tuple", data := Data.seq ys } : Obj) = tupO ys.toList from by show _ = ({ cls := Value.type "tuple", data := Data.seq ys.toList.toArray } : Obj); rw [Array.toArray_toList]]
  have e3 : Ext _ h2 := fun b o e => e2 b o (hne b o e) (e1 b o e)
  have F2 := Fr.push (fr_ext F e3) (tupO ys.toList)
  have N2 := News.push (fr_ext F e3) (news_ext N e3) (tupO ys.toList)
  clear F N
  have hD2 : _ = some (tupO ys.toList) := (N2 _ (.head _)).1
  have hfr2 := (N2 _ (.head _)).2.2
  generalize hxs : ds.map PyData.shown = xs at *
  have hxl : xs.length = vals.length := by rw [← hxs, List.length_map, hl]
  have hsz0 : vals.toArray.size = xs.length := by rw [List.size_toArray, hxl]
  rw [hsz0] at hys
  have hstr : StrsAre ys.toList xs := strs_of_items hys
  clear hys
  generalize ys.toList = us at *
  have hget : ∀ (i : Nat) (v : Value), us[i]? = some v → i < xs.length ∧ ∃ t, v = Value.str (xs.getD i default) t := fun i v e => strs_get hstr e
  have hul := hstr.areOf.length
  have hlen : ∀ x ∈ xs, x.length ≤ 10000 := by
    intro x hx
    rw [← hxs] at hx
    obtain ⟨d, hd, rfl⟩ := List.mem_map.mp hx
    obtain ⟨i, hi, rfl⟩ := List.getElem_of_mem hd
    have hiv : i < vals.length := by rw [hl]; exact hi
    obtain ⟨a, as, _, _, _, _, hlen, _⟩ := hr i vals[i] (List.getElem?_eq_getElem hiv)
    rw [List.getD_eq_getElem?_getD, List.getElem?_eq_getElem hi] at hlen
    exact hlen
  have hvK : (∀ P : Prop, (StrsAre us xs → P) → P) := fun P h => h hstr
  clear hstr
  repeat' ((fail_if_success (with_reducible show wpAny _ _ (call (Value.type "map") _) _ _ _)); first | (k_unfold; (try dsimp only)) | walk1 | (dsimp only; walk1))
  rename Fr _ _ _ _ => F
  rename News _ _ _ _ => N
  clear hz hT1 hit0 ht hzi hTi hti hnone e1 hne e2 e3
  have hDb2 := (N _ (.head _)).1
  refine' call_map_2 (istup_of hDb2) ?_
  intro h4 z4 T4 it4 hz hT1 hit0 ht hzi hTi hti hnone e1
  repeat' ((fail_if_success (with_reducible show wpAny _ _ (call (Value.builtin "max") _) _ _ _)); first | (k_unfold; (try dsimp only)) | walk1 | (dsimp only; walk1))
  refine' max_of_map rfl hz hT1 hit0 ht hzi hTi hti ?mp (fun i => ((xs.getD i default).length : Int)) ?mf2 ?_
  case mp => rw [List.size_toArray]; lia
  case mf2 =>
    intro i x s' Q' hx hE hQ'
    obtain ⟨hi, t, rfl⟩ := hget i x (by rw [← List.getElem?_toArray]; exact hx)
    have := hlen _ (getD_mem hi)
    refine PySem.P.len_str (by lia) ?_
    exact hQ' _ s'.heap _ ⟨_, rfl⟩ (ext_refl _)
  intro h5 tk5 i t hi hmax hE5
  have e5 : Ext _ h5 := fun b o e => hE5 b o (fun q => by rw [q] at e; rw [hnone] at e; cases e) (e1 b o e)
  have F' := fr_ext F e5
  have N' := news_ext N e5
  clear F N e5 hE5 hz hT1 hit0 ht hzi hTi hti hnone e1 hDb2
  rw [List.size_toArray, hul] at hi
  have hM : (xs.getD i default).length = maxLen xs := by
    refine Nat.le_antisymm (maxLen_ge (getD_mem hi)) (maxLen_le fun x hx => ?_)
    obtain ⟨j, hj, rfl⟩ := List.getElem_of_mem hx
    have := hmax j (by rw [List.size_toArray, hul]; exact hj)
    rw [List.getD_eq_getElem?_getD (l := xs) (i := j), List.getElem?_eq_getElem hj] at this
    exact Int.ofNat_le.mp this
  rw [hM]
  clear hM hmax
  have hML : maxLen xs ≤ 10000 := maxLen_le hlen
  repeat' ((fail_if_success (with_reducible show wpAny _ _ (call (Value.ref 54) _) _ _ _)); first | (k_unfold; (try dsimp only)) | walk1 | (dsimp only; walk1))
  · (try dsimp only)
    rename Fr _ _ _ _ => F
    rename News _ _ _ _ => N
    have h80 : maxLen xs ≤ 80 := by lia
    exact hret _ _ _ _ us (N _ (.head _)).1 (none_back eH (N _ (.head _)).2.2) (by unfold csrS; rw [if_pos h80]; exact hvK _ id) hb (Reg.of_ext O (ext_trans eH F.keep))
  have h80 : ¬ maxLen xs ≤ 80 := by lia
  have hne : xs ≠ [] := fun q => by rw [q] at hxl; rw [← hxl] at hpos; exact absurd hpos (by decide)
  rename Fr _ _ _ _ => F
  rename News _ _ _ _ => N
  refine' hvK _ fun hv => at_lv (commonprefix_ok ?kO _ us xs ?kU hv hne hlen ?kN ?_) rfl (Nat.le_of_ble_eq_true rfl) rfl (Nat.le_of_ble_eq_true rfl)
  case kO => exact ok_fr OH F
  case kU => exact (N _ (.head _)).1
  case kN => lia
  intro h' tk' t' y hy e'
  have F' := fr_ext F e'
  have N' := news_ext N e'
  clear F N e'
  have hyM : y.length ≤ maxLen xs := by rw [hy]; exact Nat.le_trans (prefixS_len hne) (maxLen_ge (bestMin_mem hne))
  have hyl : y.length ≤ 10000 := by rw [hy]; exact Nat.le_trans (prefixS_len hne) (hlen _ (bestMin_mem hne))
  repeat' ((fail_if_success (with_reducible show wpAny _ _ (call (Value.ref 28) _) _ _ _)); first | (k_unfold; (try dsimp only)) | walk1 | (dsimp only; walk1))
  · rename Fr _ _ _ _ => F
    rename News _ _ _ _ => N
    refine' at_lvn (shortenN_ok ?kO y _ _ _ _ _ hyl ?c1 ?c2 ?c3 ?c4 ?_) rfl (Nat.le_of_ble_eq_true rfl) (Nat.le_of_ble_eq_true rfl)
    case kO => exact ok_fr OH F
    case c1 => lia
    case c2 => lia
    case c3 => lia
    case c4 => lia
    intro h' tk' y2 t2 hy2 e'
    have F' := fr_ext F e'
    have N' := news_ext N e'
    clear F N e'
    have hy2l : y2.length ≤ 30000 := by rw [hy2]; exact shortenS_len hyl (by lia) (by lia)
    repeat' ((fail_if_success (with_reducible show wpAny _ _ (eval (Expr.GeneratorExp _ _ _ _) _) _ _ _)); first | (k_unfold; (try dsimp only)) | walk1 | (dsimp only; walk1))
    rename Fr _ _ _ _ => F
    rename News _ _ _ _ => N
    have hc1 : Heap.IsCell _ (H.objs.size + 1) (some (.str y2 t2)) := ⟨_, (N _ (.tail _ (.tail _ (.head _)))).1, by assumption⟩
    have hc2 : Heap.IsCell _ (H.objs.size + 1 + 1) (some (.int (y.length : Int) _)) := ⟨_, (N _ (.tail _ (.head _))).1, by assumption⟩
    refine' genexp_over (a := h2.objs.size) (vs := us) (fun v z => ∀ x t, v = Value.str x t → ∃ u, z = Value.str (y2 ++ Txt.slice x (some (y.length : Int)) none) u) ?gO rfl rfl ?gA ?git rfl rfl ?gcl (by decide) rfl rfl rfl (Nat.le_of_ble_eq_true rfl) (fun _ => rfl) ?gelt ?gQ
    case gcl => with_unfolding_all rfl
    case gO => exact ok_fr OH F
    case gA => exact (N _ (.head _)).1
    case git => exact fun Q' h' => ldLoc F rfl h'
    case gelt =>
      intro C code A' i v u m₂ hA hDp hU hv' hC hns hm R
      obtain ⟨hi', tx, rfl⟩ := hget i v hv'
      have hxl' := hlen _ (getD_mem hi')
      have RH : Reg H u.heap := (Reg.of_ext OH F.keep).trans R
      obtain ⟨g₀, Og, Rg, Fg, _⟩ := reg_ground OH RH hns (Nat.le_trans (Nat.le_of_lt F.ns.lt) hC)
      have k1 := R.cell hc1
      have k2 := R.cell hc2
      have Ng : News g₀ C u.heap [] := News.nil
      clear X T F N
      obtain ⟨X, loose, mean, mg, mb, T⟩ := Og.top
      repeat' ((fail_if_success (with_reducible show wpAny _ _ (eval (Expr.Name _ _) _) _ _ _)); first | (k_unfold; (try dsimp only)) | walk1 | (dsimp only; walk1))
      refine gen_free rfl rfl rfl k1 (by decide) (by decide) ?_
      repeat' ((fail_if_success (with_reducible show wpAny _ _ (eval (Expr.Name _ _) _) _ _ _)); first | (k_unfold; (try dsimp only)) | walk1 | (dsimp only; walk1))
      refine gen_local rfl rfl hns hm (by decide) ?_
      repeat' ((fail_if_success (with_reducible show wpAny _ _ (eval (Expr.Name _ _) _) _ _ _)); first | (k_unfold; (try dsimp only)) | walk1 | (dsimp only; walk1))
      refine gen_free rfl rfl rfl k2 (by decide) (by decide) ?_
      repeat' ((fail_if_success (with_reducible show wpAny _ _ (subscriptTail _ _ (Value.str _ _) (Value.ref _)) _ _ _)); first | (k_unfold; (try dsimp only)) | walk1 | (dsimp only; walk1))
      have hsl := slice_len (xs.getD i default) (some (y.length : Int)) none
      refine tail_of_ItemOn (SBH.sliceItem_sn (P := fun h => Ext u.heap h) (fun h ob a => ext_trans a (fun _ _ e => Heap.get?_push_of_some _ e)) (ext_refl _) (fun h8 t8 k8 e8 => ?_) ?sz) (by with_unfolding_all rfl) (by intro _; with_unfolding_all rfl)
      case sz => rw [sizeLine_eq]; lia
      repeat' ((fail_if_success (with_reducible show And _ _)); first | (k_unfold; (try dsimp only)) | walk1 | (dsimp only; walk1))
      refine ⟨fun x t e => by cases e; exact ⟨_, rfl⟩, h8, _, rfl, e8⟩
    case gQ =>
      intro a' h6 tk6 gs hgs R6 gen
      repeat' ((fail_if_success (with_reducible show wpAny _ _ (call (Value.type "tuple") _) _ _ _)); first | (k_unfold; (try dsimp only)) | walk1 | (dsimp only; walk1))
      refine tuple_of_gen (R6) gen (hb.push hgs) (by rw [sizeLine_eq]; lia) ?_
      intro h7 tk7 g7 D7 zs hD7 hD7' hb7 R7 hit
      refine hret _ _ _ _ zs hD7 (none_back eH (none_back F.keep hD7')) ?_ hb7 ((Reg.of_ext O (ext_trans eH F.keep)).trans R7)
      have hz := items_map (fun x => y2 ++ Txt.slice x (some (y.length : Int)) none) hul hget hit
      unfold csrS
      rw [if_neg h80, if_pos (by rw [← hy]; assumption), ← hy, ← hy2]
      exact hz
  · rename Fr _ _ _ _ => F
    rename News _ _ _ _ => N
    refine' at_lvn (shortenN_ok ?kO y _ _ _ _ _ hyl ?c1 ?c2 ?c3 ?c4 ?_) rfl (Nat.le_of_ble_eq_true rfl) (Nat.le_of_ble_eq_true rfl)
    case kO => exact ok_fr OH F
    case c1 => lia
    case c2 => lia
    case c3 => lia
    case c4 => lia
    intro h' tk' y2 t2 hy2 e'
    have F' := fr_ext F e'
    have N' := news_ext N e'
    clear F N e'
    have hy2l : y2.length ≤ 30000 := by rw [hy2]; exact shortenS_len hyl (by lia) (by lia)
    repeat' ((fail_if_success (with_reducible show wpAny _ _ (eval (Expr.GeneratorExp _ _ _ _) _) _ _ _)); first | (k_unfold; (try dsimp only)) | walk1 | (dsimp only; walk1))
    rename Fr _ _ _ _ => F
    rename News _ _ _ _ => N
    have hc1 : Heap.IsCell _ (H.objs.size + 1) (some (.str y2 t2)) := ⟨_, (N _ (.tail _ (.tail _ (.head _)))).1, by assumption⟩
    have hc2 : Heap.IsCell _ (H.objs.size + 1 + 1) (some (.int (y.length : Int) _)) := ⟨_, (N _ (.tail _ (.head _))).1, by assumption⟩
    refine' genexp_over (a := h2.objs.size) (vs := us) (fun v z => ∀ x t, v = Value.str x t → ∃ u, z = Value.str (y2 ++ shortenS (Txt.slice x (some (y.length : Int)) none) 41 5) u) ?gO rfl rfl ?gA ?git rfl rfl ?gcl (by decide) rfl rfl rfl (Nat.le_of_ble_eq_true rfl) (fun _ => rfl) ?gelt ?gQ
    case gcl => with_unfolding_all rfl
    case gO => exact ok_fr OH F
    case gA => exact (N _ (.head _)).1
    case git => exact fun Q' h' => ldLoc F rfl h'
    case gelt =>
      intro C code A' i v u m₂ hA hDp hU hv' hC hns hm R
      obtain ⟨hi', tx, rfl⟩ := hget i v hv'
      have hxl' := hlen _ (getD_mem hi')
      have RH : Reg H u.heap := (Reg.of_ext OH F.keep).trans R
      obtain ⟨g₀, Og, Rg, Fg, _⟩ := reg_ground OH RH hns (Nat.le_trans (Nat.le_of_lt F.ns.lt) hC)
      have k1 := R.cell hc1
      have k2 := R.cell hc2
      have Ng : News g₀ C u.heap [] := News.nil
      clear X T F N
      obtain ⟨X, loose, mean, mg, mb, T⟩ := Og.top
      repeat' ((fail_if_success (with_reducible show wpAny _ _ (eval (Expr.Name _ _) _) _ _ _)); first | (k_unfold; (try dsimp only)) | walk1 | (dsimp only; walk1))
      refine gen_free rfl rfl rfl k1 (by decide) (by decide) ?_
      repeat' ((fail_if_success (with_reducible show wpAny _ _ (eval (Expr.Name _ _) _) _ _ _)); first | (k_unfold; (try dsimp only)) | walk1 | (dsimp only; walk1))
      refine gen_glob rfl rfl rfl (T.g.keeps Fg.keep) (mg_of X T.g (by k_is)) (by decide) ?_
      repeat' ((fail_if_success (with_reducible show wpAny _ _ (eval (Expr.Name _ _) _) _ _ _)); first | (k_unfold; (try dsimp only)) | walk1 | (dsimp only; walk1))
      refine gen_local rfl rfl hns hm (by decide) ?_
      repeat' ((fail_if_success (with_reducible show wpAny _ _ (eval (Expr.Name _ _) _) _ _ _)); first | (k_unfold; (try dsimp only)) | walk1 | (dsimp only; walk1))
      refine gen_free rfl rfl rfl k2 (by decide) (by decide) ?_
      repeat' ((fail_if_success (with_reducible show wpAny _ _ (subscriptTail _ _ (Value.str _ _) (Value.ref _)) _ _ _)); first | (k_unfold; (try dsimp only)) | walk1 | (dsimp only; walk1))
      have hsl := slice_len (xs.getD i default) (some (y.length : Int)) none
      refine tail_of_ItemOn (SBH.sliceItem_sn (P := fun h => Ext u.heap h) (fun h ob a => ext_trans a (fun _ _ e => Heap.get?_push_of_some _ e)) (ext_refl _) (fun h8 t8 k8 e8 => ?_) ?sz) (by with_unfolding_all rfl) (by intro _; with_unfolding_all rfl)
      case sz => rw [sizeLine_eq]; lia
      have F8 := fr_ext Fg e8
      have X8 := (X.keeps Fg.keep).keeps e8
      repeat' ((fail_if_success (with_reducible show wpAny _ _ (eval (Expr.Name _ _) _) _ _ _)); first | (k_unfold; (try dsimp only)) | walk1 | (dsimp only; walk1))
      refine gen_glob rfl rfl rfl ((T.g.keeps Fg.keep).keeps e8) (mg_of X T.g (by k_is)) (by decide) ?_
      repeat' ((fail_if_success (with_reducible show wpAny _ _ (eval (Expr.Name _ _) _) _ _ _)); first | (k_unfold; (try dsimp only)) | walk1 | (dsimp only; walk1))
      refine gen_glob rfl rfl rfl ((T.g.keeps Fg.keep).keeps e8) (mg_of X T.g (by k_is)) (by decide) ?_
      repeat' ((fail_if_success (with_reducible show wpAny _ _ (call (Value.ref 28) _) _ _ _)); first | (k_unfold; (try dsimp only)) | walk1 | (dsimp only; walk1))
      refine' at_lvn (shortenN_ok ?kO _ _ _ _ _ _ ?z1 ?z2 ?z3 ?z4 ?z5 ?_) hA (Nat.le_trans hDp (Nat.le_of_ble_eq_true rfl)) (Nat.le_trans hU (Nat.le_of_ble_eq_true rfl))
      case kO => exact Og.keeps (ext_trans Fg.keep e8)
      case z1 => lia
      case z2 => decide
      case z3 => decide
      case z4 => decide
      case z5 => decide
      intro h9 tk9 y3 t9 hy3 e9
      have hy3l : y3.length ≤ 30000 := by rw [hy3]; exact shortenS_len (by lia) (by decide) (by decide)
      repeat' ((fail_if_success (with_reducible show And _ _)); first | (k_unfold; (try dsimp only)) | walk1 | (dsimp only; walk1))
      refine ⟨fun x t e => by cases e; subst hy3; exact ⟨_, rfl⟩, h9, _, rfl, ext_trans e8 e9⟩
    case gQ =>
      intro a' h6 tk6 gs hgs R6 gen
      repeat' ((fail_if_success (with_reducible show wpAny _ _ (call (Value.type "tuple") _) _ _ _)); first | (k_unfold; (try dsimp only)) | walk1 | (dsimp only; walk1))
      refine tuple_of_gen (R6) gen (hb.push hgs) (by rw [sizeLine_eq]; lia) ?_
      intro h7 tk7 g7 D7 zs hD7 hD7' hb7 R7 hit
      refine hret _ _ _ _ zs hD7 (none_back eH (none_back F.keep hD7')) ?_ hb7 ((Reg.of_ext O (ext_trans eH F.keep)).trans R7)
      have hz := items_map (fun x => y2 ++ shortenS (Txt.slice x (some (y.length : Int)) none) 41 5) hul hget hit
      unfold csrS
      rw [if_neg h80, if_neg (by rw [← hy]; assumption), ← hy, ← hy2]
      exact hz
end Mine
end TW11
section TDt
open PySem PySem.W PySem.Calls PyProof.Rows
set_option maxRecDepth 100000
set_option maxHeartbeats 8000000
namespace Mine
set_option genSizeOf false in
inductive Dt where
  | str (x : Str)
  | int (i : Int)
  | lst (ds : List Dt)
  | tup (ds : List Dt)
  | dct (k : Int) (v : Dt)
mutual
noncomputable def Dt.data : Dt → PyData
  | .str x => .str x
  | .int i => .int i
  | .lst ds => .list (Dt.dataL ds)
  | .tup ds => .tuple (Dt.dataL ds)
  | .dct k v => .dict [(.int k, Dt.data v)]
noncomputable def Dt.dataL : List Dt → List PyData
  | [] => []
  | d :: r => Dt.data d :: Dt.dataL r
end
mutual
noncomputable def Dt.dep : Dt → Nat
  | .str _ | .int _ => 0
  | .lst ds | .tup ds => Dt.depL ds + 1
  | .dct _ v => Dt.dep v + 1
noncomputable def Dt.depL : List Dt → Nat
  | [] => 0
  | d :: r => max (Dt.dep d) (Dt.depL r)
end
mutual
inductive Rep (w : World) (h : Heap) : Value → Dt → Prop
  | str (x t) : Rep w h (.str x t) (.str x)
  | int (i t) : Rep w h (.int i t) (.int i)
  | lst {a n vs ds} : a ≠ sysModules → h.get? a = some (lstO vs n) → RepL w h vs ds → Rep w h (.ref a) (.lst ds)
  | tup {a vs ds} : h.get? a = some (tupO vs) → RepL w h vs ds → Rep w h (.ref a) (.tup ds)
  | dct {a k v d} : a ≠ sysModules → h.DictOf (intKind prog w) a [(k, v)] → Rep w h v d → Rep w h (.ref a) (.dct k d)
inductive RepL (w : World) (h : Heap) : List Value → List Dt → Prop
  | nil : RepL w h [] []
  | cons {v vs d ds} : Rep w h v d → RepL w h vs ds → RepL w h (v :: vs) (d :: ds)
end
noncomputable def ExtN (h h' : Heap) : Prop := ∀ b o, h.get? b = some o → o.cls ≠ .none → h'.get? b = some o
theorem Reg.extN {h h' : Heap} (r : Reg h h') : ExtN h h' := fun _ _ => r.obj
theorem extN_of {h h' : Heap} (e : Ext h h') : ExtN h h' := fun b o x _ => e b o x
theorem dictOf_extN {w : World} {h h' : Heap} (e : ExtN h h') {a : Addr} {kvs : List (Int × Value)} (r : h.DictOf (intKind prog w) a kvs) : h'.DictOf (intKind prog w) a kvs := by
  obtain ⟨o, es, ep, ho, hx, r⟩ := r
  exact ⟨o, es, ep, e _ _ ho (by rw [hx.1]; exact fun q => (nomatch q)), hx, r⟩
mutual
theorem Rep.ext {w : World} {h h' : Heap} (e : ExtN h h') : ∀ {v : Value} {d : Dt}, Rep w h v d → Rep w h' v d
  | _, _, .str x t => .str x t
  | _, _, .int i t => .int i t
  | _, _, .lst a b c => .lst a (e _ _ b (fun q => nomatch q)) (RepL.ext e c)
  | _, _, .tup a b => .tup (e _ _ a (fun q => nomatch q)) (RepL.ext e b)
  | _, _, .dct a b c => .dct a (dictOf_extN e b) (Rep.ext e c)
theorem RepL.ext {w : World} {h h' : Heap} (e : ExtN h h') : ∀ {vs : List Value} {ds : List Dt}, RepL w h vs ds → RepL w h' vs ds
  | _, _, .nil => .nil
  | _, _, .cons a b => .cons (Rep.ext e a) (RepL.ext e b)
end
noncomputable def RpIn (w : World) (tl : List (Addr × Obj)) (v : Value) (d : Dt) : Prop := ∀ h : Heap, (∀ p ∈ tl, h.get? p.1 = some p.2) → Rep w h v d
noncomputable def RpInL (w : World) (tl : List (Addr × Obj)) (vs : List Value) (ds : List Dt) : Prop := ∀ h : Heap, (∀ p ∈ tl, h.get? p.1 = some p.2) → RepL w h vs ds
theorem RepL.length {w : World} {h : Heap} : ∀ {vs : List Value} {ds : List Dt}, RepL w h vs ds → vs.length = ds.length
  | _, _, .nil => rfl
  | _, _, .cons _ b => congrArg Nat.succ (RepL.length b)
theorem RepL.app {w : World} {h : Heap} {v : Value} {d : Dt} : ∀ {vs : List Value} {ds : List Dt}, RepL w h vs ds → Rep w h v d → RepL w h (vs ++ [v]) (ds ++ [d])
  | _, _, .nil, r => .cons r .nil
  | _, _, .cons a b, r => .cons a (RepL.app b r)
mutual
theorem Rep.reads {w : World} {h : Heap} : ∀ {v : Value} {d : Dt}, Rep w h v d → ∃ as, Reads h v d.data as ∧ sysModules ∉ as
  | _, _, .str x t => ⟨[], .str x t, fun q => nomatch q⟩
  | _, _, .int i t => ⟨[], .int i t, fun q => nomatch q⟩
  | _, _, .lst a b c => by
    obtain ⟨as, r, hn⟩ := RepL.reads c
    exact ⟨_, .list b rfl rfl (by rw [List.toList_toArray]; exact r), fun q => by
      rcases List.mem_cons.mp q with e | q
      · exact a e.symm
      · exact hn q⟩
  | _, _, .tup a b => by
    obtain ⟨as, r, hn⟩ := RepL.reads b
    exact ⟨_, .tuple a rfl rfl (by rw [List.toList_toArray]; exact r), hn⟩
  | _, _, .dct a b c => by
    obtain ⟨as, r, hn⟩ := Rep.reads c
    obtain ⟨o, es, ep, ho, hx, hd, _, hp, _⟩ := b
    obtain ⟨l, hl⟩ : ∃ l, es.toList = l := ⟨_, rfl⟩
    rw [hl] at hp
    cases hp with
    | cons hk hv hp =>
      cases hp
      obtain ⟨t, ht⟩ := Value.isInt_shape hk
      refine ⟨_, .dict (kvs := [(.int _, Dt.data _)]) ho hx.1 hd (as := []) (bs := as ++ []) ?_ ?_, fun q => ?_⟩
      · rw [hl]
        simp only [List.map_cons, List.map_nil]
        rw [ht]
        exact .cons (as := []) (bs := []) (.int _ t) .nil
      · rw [hl]
        simp only [List.map_cons, List.map_nil]
        rw [hv]
        exact .cons r .nil
      · rcases List.mem_cons.mp q with e | q
        · exact a e.symm
        · simp at q; exact hn q
theorem RepL.reads {w : World} {h : Heap} : ∀ {vs : List Value} {ds : List Dt}, RepL w h vs ds → ∃ as, ReadsAll h vs (Dt.dataL ds) as ∧ sysModules ∉ as
  | _, _, .nil => ⟨[], .nil, fun q => nomatch q⟩
  | _, _, .cons a b => by
    obtain ⟨as, r, hn⟩ := Rep.reads a
    obtain ⟨bs, r', hn'⟩ := RepL.reads b
    exact ⟨_, .cons r r', fun q => (List.mem_append.mp q).elim hn hn'⟩
end
end Mine
end TDt
section TDs
open PySem PySem.W PySem.Calls PyProof.Rows
set_option maxRecDepth 100000
set_option maxHeartbeats 8000000
open PySem.Builtin.Str
namespace Mine
noncomputable def plains : List Nat := [97, 39, 34, 44, 32, 91, 41, 55, 40, 48]
noncomputable def quoteD (x : Str) : Nat := if 39 ∈ cs x ∧ 34 ∉ cs x then 34 else 39
noncomputable def numL (i : Int) : List Nat := cs (Str.ofString (toString i))
noncomputable def joinL : List (List Nat) → List Nat
  | [] => []
  | [x] => x
  | x :: y :: r => x ++ [44, 32] ++ joinL (y :: r)
mutual
noncomputable def shownD : Dt → List Nat
  | .str x => quoteD x :: (cs x ++ [quoteD x])
  | .int i => numL i
  | .lst ds => 91 :: (joinL (shownL ds) ++ [93])
  | .tup ds => 40 :: (joinL (shownL ds) ++ (if ds.length = 1 then [44, 41] else [41]))
  | .dct k v => 123 :: ((numL k ++ [58, 32] ++ shownD v) ++ [125])
noncomputable def shownL : List Dt → List (List Nat)
  | [] => []
  | d :: r => shownD d :: shownL r
end
mutual
noncomputable def Good : Dt → Prop
  | .str x => (∀ c ∈ cs x, c ∈ plains) ∧ ¬ (39 ∈ cs x ∧ 34 ∈ cs x)
  | .int i => i.natAbs < 10 ^ 13
  | .lst ds | .tup ds => GoodL ds
  | .dct k v => k.natAbs < 10 ^ 13 ∧ Good v
noncomputable def GoodL : List Dt → Prop
  | [] => True
  | d :: r => Good d ∧ GoodL r
end
theorem cs_lit (s : String) : cs (Str.ofString s) = s.toList.map Char.toNat := signs_ofString s
theorem join_cs : ∀ ts : List Str, cs (Str.join (Str.ofString ", ") ts) = joinL (ts.map cs)
  | [] => by rw [join_nil]; rfl
  | [x] => by rw [join_one]; rfl
  | x :: y :: r => by
    rw [join_cons_cons, cs_app, cs_app, join_cs (y :: r)]
    rfl
theorem shownAll_len : ∀ ds : List Dt, (PyData.shownAll (Dt.dataL ds)).length = ds.length
  | [] => rfl
  | d :: r => by
    show (_ :: PyData.shownAll (Dt.dataL r)).length = _
    rw [List.length_cons, shownAll_len r]; rfl
theorem chars_plain : ∀ c ∈ plains, ∀ q ∈ [34, 39], c ≠ q → reprChar q c = [c] := by decide +kernel
theorem fold_plain (q : Nat) (hq : q ∈ [34, 39]) : ∀ (l : List Nat) (acc : Array Nat), (∀ c ∈ l, c ∈ plains) → q ∉ l → (l.foldl (fun out c => out ++ (reprChar q c).toArray) acc).toList = acc.toList ++ l
  | [], acc, _, _ => by simp
  | c :: r, acc, h, hn => by
    rw [List.foldl_cons, fold_plain q hq r _ (fun x hx => h x (.tail _ hx)) (fun hx => hn (.tail _ hx)), chars_plain c (h c (.head _)) q hq (fun e => hn (e ▸ .head _))]
    simp
theorem quote_eq (x : Str) : reprQuote x = quoteD x := by
  have h1 : (x.cps.contains 39 = true) ↔ 39 ∈ cs x := by simp [cs]
  have h2 : (x.cps.contains 34 = true) ↔ 34 ∈ cs x := by simp [cs]
  have key : (x.cps.contains 39 && !x.cps.contains 34) = true ↔ (39 ∈ cs x ∧ 34 ∉ cs x) := by
    rw [Bool.and_eq_true, Bool.not_eq_true', ← h1, ← h2, Bool.not_eq_true]
  unfold reprQuote quoteD
  by_cases a : 39 ∈ cs x ∧ 34 ∉ cs x
  · rw [if_pos a, if_pos (key.mpr a)]
  · rw [if_neg a, if_neg (fun q => a (key.mp q))]
theorem quote_two (x : Str) : quoteD x ∈ [34, 39] := by
  unfold quoteD
  split <;> decide
theorem quote_out {x : Str} (h : ¬ (39 ∈ cs x ∧ 34 ∈ cs x)) : quoteD x ∉ cs x := by
  unfold quoteD
  split
  · rename_i q; exact q.2
  · rename_i q
    intro a
    by_cases b : 34 ∈ cs x
    · exact h ⟨a, b⟩
    · exact q ⟨a, b⟩
theorem shown_str {x : Str} (h : (∀ c ∈ cs x, c ∈ plains) ∧ ¬ (39 ∈ cs x ∧ 34 ∈ cs x)) : cs (reprText x) = shownD (.str x) := by
  unfold reprText
  rw [quote_eq]
  unfold cs
  dsimp only
  rw [Array.toList_push, ← Array.foldl_toList, fold_plain _ (quote_two x) _ _ h.1 (quote_out h.2)]
  rfl
mutual
theorem shown_eq : ∀ d : Dt, Good d → cs d.data.shown = shownD d
  | .str x, h => shown_str h
  | .int i, _ => rfl
  | .lst ds, h => by
    show cs (listText (PyData.shownAll (Dt.dataL ds))) = _
    rw [listText_eq_join, cs_app, cs_app]
    have := join_cs (PyData.shownAll (Dt.dataL ds))
    rw [shownAll_eq ds h] at this
    show [91] ++ cs (Str.join (Str.ofString ", ") (PyData.shownAll (Dt.dataL ds))) ++ [93] = _
    rw [this]
    rfl
  | .tup ds, h => by
    show cs (tupleText (PyData.shownAll (Dt.dataL ds))) = _
    unfold tupleText
    rw [cs_app, cs_app]
    have := join_cs (PyData.shownAll (Dt.dataL ds))
    rw [shownAll_eq ds h] at this
    show [40] ++ cs (Str.join (Str.ofString ", ") (PyData.shownAll (Dt.dataL ds))) ++ _ = _
    rw [this, shownAll_len]
    by_cases hl : ds.length = 1
    · rw [hl]
      show _ = 40 :: (joinL (shownL ds) ++ (if ds.length = 1 then [44, 41] else [41]))
      rw [if_pos hl]
      rfl
    · show _ = 40 :: (joinL (shownL ds) ++ (if ds.length = 1 then [44, 41] else [41]))
      rw [if_neg hl, if_neg (by simpa using hl)]
      rfl
  | .dct k v, h => by
    show cs (dictText (PyData.shownKv [(.int k, Dt.data v)])) = _
    unfold dictText
    show cs (Str.ofString "{" ++ Str.join (Str.ofString ", ") [Str.ofString (toString k) ++ Str.ofString ": " ++ (Dt.data v).shown] ++ Str.ofString "}") = _
    rw [cs_app, cs_app, join_one, cs_app, cs_app, shown_eq v h.2]
    rfl
theorem shownAll_eq : ∀ ds : List Dt, GoodL ds → (PyData.shownAll (Dt.dataL ds)).map cs = shownL ds
  | [], _ => rfl
  | d :: r, h => by
    show cs (Dt.data d).shown :: (PyData.shownAll (Dt.dataL r)).map cs = _
    rw [shown_eq d h.1, shownAll_eq r h.2]
    rfl
end
theorem int_showable {i : Int} (h' : i.natAbs < 10 ^ 13) : (PyData.int i).showable = true := by
  show decide (i.natAbs.log2 < 1920) = true
  refine decide_eq_true ?_
  by_cases hz : i.natAbs = 0
  · rw [hz]; decide
  · exact Nat.lt_trans ((Nat.log2_lt (k := 44) hz).mpr (Nat.lt_of_lt_of_le h' (by decide))) (by decide)
mutual
theorem good_showable : ∀ d : Dt, Good d → d.data.showable = true
  | .str x, _ => rfl
  | .int i, h => int_showable h
  | .lst ds, h => good_showableL ds h
  | .tup ds, h => good_showableL ds h
  | .dct k v, h => by
    show (PyData.showable (.int k) && PyData.showable (Dt.data v) && true) = true
    rw [int_showable h.1, good_showable v h.2]; rfl
theorem good_showableL : ∀ ds : List Dt, GoodL ds → PyData.showableAll (Dt.dataL ds) = true
  | [], _ => rfl
  | d :: r, h => by
    show (PyData.showable (Dt.data d) && PyData.showableAll (Dt.dataL r)) = true
    rw [good_showable d h.1, good_showableL r h.2]; rfl
end
end Mine
end TDs
section TW12
open PySem PySem.W PySem.Calls PyProof.Rows
set_option maxRecDepth 100000
set_option maxHeartbeats 8000000
namespace Mine
theorem fillW12 (P : Params) : PySem.Challenge.rw_sr0100_01 = PySem.Challenge.rw_sr0100_01 ∧ hd.heap_39 P = hd.heap_39 P := by
  w_top off
  k_fill
  exact ⟨rfl, rfl⟩
theorem item_at {x : Str} {p c : Nat} {l : List Nat} (h : (cs x).drop p = c :: l) : Txt.item x (p : Int) = ⟨#[c]⟩ := by
  refine item_meets (Int.natCast_nonneg _) ?_
  have : (cs x)[p]? = some c := by
    have := congrArg (fun l => l[0]?) h
    simpa using this
  simpa [cs] using this
theorem drop_lt {x : Str} {p c : Nat} {l : List Nat} (h : (cs x).drop p = c :: l) : p < x.length := by
  rw [← cs_len]
  rcases Nat.lt_or_ge p (cs x).length with q | q
  · exact q
  · rw [List.drop_of_length_le q] at h; cases h
theorem drop_app {x : Str} {p : Nat} {a l : List Nat} (h : (cs x).drop p = a ++ l) : (cs x).drop (p + a.length) = l := by
  rw [← List.drop_drop, h, List.drop_append_of_le_length (Nat.le_refl _), List.drop_length, List.nil_append]
theorem find3_at {x : Str} {p q : Nat} {a l : List Nat} (h : (cs x).drop p = a ++ q :: l) (hn : q ∉ a) : Txt.find3 x ⟨#[q]⟩ (p : Int) = ((p + a.length : Nat) : Int) := by
  have hlt : p + a.length < x.length := drop_lt (c := q) (l := l) (drop_app h)
  have hfi : fromIndex x.length (p : Int) = p := by
    unfold fromIndex
    lia
  have hg : ∀ v : Nat, (cs x)[v]? = x.cps[v]? := fun v => Array.getElem?_toList ..
  have hin : ∀ v, p ≤ v → (cs x)[v]? = (a ++ q :: l)[v - p]? := fun v hv => by
    rw [← h, List.getElem?_drop]
    congr 1
    lia
  rcases StrLaws.find3_spec x q (p : Int) with ⟨_, hall⟩ | ⟨k, hk, h1, h2, h3, h4⟩
  · exfalso
    refine hall (p + a.length) (by rw [hfi]; lia) hlt ?_
    have := hin (p + a.length) (by lia)
    rw [hg] at this
    rw [Array.getD_eq_getD_getElem?, this]
    simp
  · rw [hk]
    rw [hfi] at h1 h4
    rcases Nat.lt_trichotomy k (p + a.length) with q1 | q1 | q1
    · exfalso
      have := hin k h1
      rw [hg, List.getElem?_append_left (by lia)] at this
      rw [Array.getD_eq_getD_getElem?, this, List.getElem?_eq_getElem (by lia)] at h3
      exact hn (h3 ▸ List.getElem_mem _)
    · rw [q1]
    · exfalso
      refine h4 (p + a.length) (by lia) q1 ?_
      have := hin (p + a.length) (by lia)
      rw [hg] at this
      rw [Array.getD_eq_getD_getElem?, this]
      simp
theorem slice_mid {x : Str} {p : Nat} {a l : List Nat} (h : (cs x).drop p = a ++ l) {e : Int} (he : e = ((p + a.length : Nat) : Int)) : cs (Txt.slice x (some (p : Int)) (some e)) = a := by
  subst he
  rw [slice_both x (Int.natCast_nonneg _) (Int.natCast_nonneg _)]
  show ((cs x).drop p).take (p + a.length - p) = a
  rw [h, Nat.add_sub_cancel_left, List.take_append_of_le_length (Nat.le_refl _), List.take_length]
theorem read_str {w : World} {s : Shared} {Q : Value → Shared → Prop} {D U : Nat} (hD : D ≤ 800) (hU : U ≤ 2500)
   (O : Ok w s.heap) (text x : Str) (p : Nat) (rest : List Nat) (t1 t2 : Tok) (hlen : text.length ≤ 10000) (hg : Good (.str x)) (hdrop : (cs text).drop p = shownD (.str x) ++ rest)
   (hret : ∀ h' tk T v t, Made s.heap h' [(T, tupO [v, .int ((p + (shownD (.str x)).length : Nat) : Int) t])] → RpIn w [] v (.str x) → Ext s.heap h' → Q (.ref T) { s with heap := h', toks := tk }) :
   wpAny (model prog w) (lv D U) (call (.ref 83) [.str text t1, .int (p : Int) t2]) Q (fun _ _ => False) s := by
  have hd0 : (cs text).drop p = quoteD x :: (cs x ++ quoteD x :: rest) := by rw [hdrop]; show quoteD x :: (cs x ++ [quoteD x]) ++ rest = _; simp
  have hlt := drop_lt hd0
  have hd1 : (cs text).drop (p + 1) = cs x ++ quoteD x :: rest := drop_app (a := [_]) hd0
  have hf := find3_at hd1 (quote_out hg.2)
  have hsz : (shownD (.str x)).length = x.length + 2 := by
    show (quoteD x :: (cs x ++ [quoteD x])).length = _
    rw [List.length_cons, List.length_append, cs_len]; rfl
  have hfit : p + 1 + (cs x).length < text.length := drop_lt (c := quoteD x) (l := rest) (drop_app hd1)
  have hitem := item_at hd0
  have hfin : ∀ h' tk T t t', Made s.heap h' [(T, tupO [.str (Txt.slice text (some ((p : Int) + 1)) (some (Txt.find3 text ⟨#[quoteD x]⟩ ((p : Int) + 1)))) t, .int (Txt.find3 text ⟨#[quoteD x]⟩ ((p : Int) + 1) + 1) t'])] → Ext s.heap h' → Q (.ref T) { s with heap := h', toks := tk } := by
    intro h' tk T t t' hm e
    have e1 : ((p : Int) + 1) = ((p + 1 : Nat) : Int) := by lia
    rw [e1, hf] at hm
    have e2 := slice_mid hd1 rfl
    refine hret h' tk T _ t' ?_ (fun h _ => Rep.str x t) e
    rw [hsz]
    have e3 : Txt.slice text (some ((p + 1 : Nat) : Int)) (some ((p + 1 + (cs x).length : Nat) : Int)) = x := str_ext e2
    rw [e3, cs_len] at hm
    have e4 : (((p + 1 + x.length : Nat) : Int) + 1) = ((p + (x.length + 2) : Nat) : Int) := by lia
    rw [e4] at hm
    exact hm
  have hf' : Txt.find3 text ⟨#[quoteD x]⟩ ((p : Int) + 1) = ((p + 1 + (cs x).length : Nat) : Int) := by
    rw [← hf]; rfl
  rw [cs_len] at hfit hf'
  clear hd0 hd1 hf hdrop
  have hq := quote_two x
  generalize quoteD x = q at *
  rcases List.mem_cons.mp hq with rfl | hq
  · skip
    have hitem' : Txt.item text (p : Int) = Str.ofString "\"" := hitem.trans (by decide)
    obtain ⟨X, loose, mean, mg, mb, T⟩ := O.top
    refine' enter [("text", .str text t1), ("at", .int (p : Int) t2)] X T.nolimit (Nat.lt_of_le_of_lt hD (Nat.le_of_ble_eq_true rfl)) ?k1 ?k3 ?k4 ?k5 ?k6 ?k7 ?k8 ?k9 ?k10
    case k1 => k_is
    case k3 => k_is
    case k4 => exact rfl
    case k5 => exact rfl
    case k7 => rfl
    case k8 => rfl
    case k9 => rfl
    case k10 => decide
    intro h₁ tk F N
    repeat' ((fail_if_success (with_reducible show wpAny _ _ (subscriptTail _ _ (Value.str _ _) (Value.int _ _)) _ _ _)); first | (k_unfold; (try dsimp only)) | walk1 | (dsimp only; walk1))
    refine' item_str (fitsSsize_of (N := 9223372036854775808) (by lia) (by lia) (Int.le_refl _)) (by lia) (by lia) (fun _ => ?_) (by with_unfolding_all rfl) (by intro _; with_unfolding_all rfl)
    rw [hitem']
    repeat' (first | (k_unfold; (try dsimp only)) | walk1 | (dsimp only; walk1))
    rename Fr _ _ _ _ => F
    rename News _ _ _ _ => N
    exact hfin _ _ _ _ _ (made_of_news N) F.keep
  · obtain rfl := List.mem_singleton.mp hq
    have hitem' : Txt.item text (p : Int) = Str.ofString "'" := hitem.trans (by decide)
    obtain ⟨X, loose, mean, mg, mb, T⟩ := O.top
    refine' enter [("text", .str text t1), ("at", .int (p : Int) t2)] X T.nolimit (Nat.lt_of_le_of_lt hD (Nat.le_of_ble_eq_true rfl)) ?j1 ?j3 ?j4 ?j5 ?j6 ?j7 ?j8 ?j9 ?j10
    case j1 => k_is
    case j3 => k_is
    case j4 => exact rfl
    case j5 => exact rfl
    case j7 => rfl
    case j8 => rfl
    case j9 => rfl
    case j10 => decide
    intro h₁ tk F N
    repeat' ((fail_if_success (with_reducible show wpAny _ _ (subscriptTail _ _ (Value.str _ _) (Value.int _ _)) _ _ _)); first | (k_unfold; (try dsimp only)) | walk1 | (dsimp only; walk1))
    refine' item_str (fitsSsize_of (N := 9223372036854775808) (by lia) (by lia) (Int.le_refl _)) (by lia) (by lia) (fun _ => ?_) (by with_unfolding_all rfl) (by intro _; with_unfolding_all rfl)
    rw [hitem']
    repeat' (first | (k_unfold; (try dsimp only)) | walk1 | (dsimp only; walk1))
    rename Fr _ _ _ _ => F
    rename News _ _ _ _ => N
    exact hfin _ _ _ _ _ (made_of_news N) F.keep
end Mine
end TW12
section TW13
open PySem PySem.W PySem.Calls PyProof.Rows
set_option maxRecDepth 100000
set_option maxHeartbeats 8000000
open PySem.NumText
namespace Mine
theorem fillW13 (P : Params) : PySem.Challenge.rw_sr0100_01 = PySem.Challenge.rw_sr0100_01 ∧ hd.heap_39 P = hd.heap_39 P := by
  w_top off
  k_fill
  exact ⟨rfl, rfl⟩
noncomputable def isNumC (c : Nat) : Bool := c == 45 || (48 ≤ c && c ≤ 57)
theorem has_open : ∀ c, c < 128 → Txt.contains (Str.ofString "([{") ⟨#[c]⟩ = (c == 40 || c == 91 || c == 123) := by decide +kernel
theorem has_close : ∀ c, c < 128 → Txt.contains (Str.ofString ")]}") ⟨#[c]⟩ = (c == 41 || c == 93 || c == 125) := by decide +kernel
theorem has_num : ∀ c, c < 128 → Txt.contains (Str.ofString "-0123456789") ⟨#[c]⟩ = isNumC c := by decide +kernel
theorem has_sep : ∀ c, c < 128 → Txt.contains (Str.ofString ",:") ⟨#[c]⟩ = (c == 44 || c == 58) := by decide +kernel
theorem num_shape (i : Int) : (∃ m : Nat, i = m ∧ numL i = (Nat.toDigits 10 m).map Char.toNat) ∨ (∃ m : Nat, i = -(m : Int) ∧ numL i = 45 :: (Nat.toDigits 10 m).map Char.toNat) := by
  cases i with
  | ofNat m => exact .inl ⟨m, rfl, KIN.signs_num m⟩
  | negSucc m =>
    refine .inr ⟨m + 1, rfl, ?_⟩
    unfold numL
    rw [cs_lit]
    show ("-" ++ Nat.repr (m + 1)).toList.map Char.toNat = _
    rw [String.toList_append, List.map_append, Nat.toList_repr]
    rfl
theorem digits_all (m : Nat) : AllDigits ((Nat.toDigits 10 m).map Char.toNat) := by
  intro c hc
  obtain ⟨ch, hch, e⟩ := List.mem_map.mp hc
  have r := digit_range (Nat.isDigit_of_mem_toDigits (by decide) (by decide) hch)
  rw [← e]
  exact r
theorem digits_ne (m : Nat) : (Nat.toDigits 10 m).map Char.toNat ≠ [] := by
  intro e
  have h := toDigits_len_ge 10 m
  rw [List.map_eq_nil_iff.mp e] at h
  exact absurd h (by decide)
theorem num_chars (i : Int) : ∀ c ∈ numL i, isNumC c = true := by
  have hd : ∀ m : Nat, ∀ c ∈ (Nat.toDigits 10 m).map Char.toNat, isNumC c = true := fun m c hc => by
    have := digits_all m c hc
    unfold isNumC
    simp [this.1, this.2]
  intro c hc
  rcases num_shape i with ⟨m, _, e⟩ | ⟨m, _, e⟩
  · rw [e] at hc; exact hd m c hc
  · rw [e] at hc
    rcases List.mem_cons.mp hc with rfl | hc
    · rfl
    · exact hd m c hc
theorem num_ne (i : Int) : numL i ≠ [] := by
  rcases num_shape i with ⟨m, _, e⟩ | ⟨m, _, e⟩
  · rw [e]; exact digits_ne m
  · rw [e]; exact fun q => nomatch q
theorem num_back {i : Int} {x : Str} (h : cs x = numL i) (hl : x.length ≤ 640) : PySem.intText? x = some i := by
  rcases num_shape i with ⟨m, e0, e⟩ | ⟨m, e0, e⟩
  · have hx : x.cps.toList = (Nat.toDigits 10 m).map Char.toNat := h.trans e
    have := intText_digits (x := x) (by rw [hx]; exact digits_all m) (by rw [hx]; exact digits_ne m) (Nat.le_trans hl (by decide))
    rw [this, hx, KIN.val_back, e0]
  · have hx : x.cps.toList = 45 :: (Nat.toDigits 10 m).map Char.toNat := h.trans e
    have := intText_neg (x := x) hx (digits_all m) (digits_ne m) (Nat.le_trans hl (by decide))
    rw [this, KIN.val_back, e0]
theorem isNum_lt {c : Nat} (h : isNumC c = true) : c < 128 := by
  unfold isNumC at h
  simp at h
  lia
theorem toDigits_lt : ∀ (k m : Nat), m < 10 ^ (k + 1) → (Nat.toDigits 10 m).length ≤ k + 1
  | 0, m, h => by
    rw [Nat.toDigits_of_lt_base h]; exact Nat.le_refl _
  | k + 1, m, h => by
    by_cases hm : m < 10
    · rw [Nat.toDigits_of_lt_base hm]; simp
    · have t : Nat.toDigits 10 (m / 10) ++ Nat.toDigits 10 (m % 10) = Nat.toDigits 10 (10 * (m / 10) + m % 10) := Nat.toDigits_append_toDigits (by decide) (by lia) (Nat.mod_lt m (by decide))
      rw [Nat.div_add_mod] at t
      rw [← t, List.length_append, Nat.toDigits_of_lt_base (Nat.mod_lt m (by decide))]
      have := toDigits_lt k (m / 10) (by rw [Nat.pow_succ] at h; lia)
      show _ + 1 ≤ _
      lia
theorem num_len {i : Int} (h : i.natAbs < 10 ^ 13) : (numL i).length ≤ 14 := by
  rcases num_shape i with ⟨m, e0, e⟩ | ⟨m, e0, e⟩
  · rw [e, List.length_map]
    have := toDigits_lt 12 m (by lia)
    lia
  · rw [e, List.length_cons, List.length_map]
    have := toDigits_lt 12 m (by lia)
    lia
theorem look_two (a b : Str) (va vb : Value) : (fun x => [(a, va), (b, vb)].reverse.lookup x) = bindM (bindM (fun _ => none) a (some va)) b (some vb) := by
  funext z
  unfold bindM
  simp only [List.reverse_cons, List.reverse_nil, List.nil_append, List.cons_append, List.lookup]
  by_cases h1 : z = b
  · rw [if_pos h1, beq_iff_eq.mpr h1]
  · rw [if_neg h1, beq_eq_false_iff_ne.mpr h1]
    by_cases h2 : z = a
    · rw [if_pos h2, beq_iff_eq.mpr h2]
    · rw [if_neg h2, beq_eq_false_iff_ne.mpr h2]
theorem read_int {w : World} {s : Shared} {Q : Value → Shared → Prop} {D U : Nat} (hD : D ≤ 800) (hU : U ≤ 2500)
   (O : Ok w s.heap) (text : Str) (i : Int) (p c : Nat) (rest : List Nat) (t1 t2 : Tok) (hlen : text.length ≤ 10000) (hg : Good (.int i)) (hdrop : (cs text).drop p = numL i ++ c :: rest) (hc : isNumC c = false) (hc2 : c < 128)
   (hret : ∀ h' tk T v t, Made s.heap h' [(T, tupO [v, .int ((p + (numL i).length : Nat) : Int) t])] → RpIn w [] v (.int i) → Ext s.heap h' → Q (.ref T) { s with heap := h', toks := tk }) :
   wpAny (model prog w) (lv D U) (call (.ref 83) [.str text t1, .int (p : Int) t2]) Q (fun _ _ => False) s := by
  have hnl : (numL i).length ≤ 14 := num_len hg
  have hfit : p + (numL i).length < text.length := drop_lt (c := c) (l := rest) (drop_app hdrop)
  have hat : ∀ j, j ≤ (numL i).length → ∃ cj rj, (cs text).drop (p + j) = cj :: rj ∧ cj < 128 ∧ isNumC cj = decide (j < (numL i).length) := by
    intro j hj
    rw [← List.drop_drop, hdrop, List.drop_append]
    rcases Nat.lt_or_ge j (numL i).length with q | q
    · refine ⟨(numL i)[j], (numL i).drop (j + 1) ++ (c :: rest).drop (j - (numL i).length), ?_, ?_, ?_⟩
      · rw [List.drop_eq_getElem_cons q]; rfl
      · exact isNum_lt (num_chars i _ (List.getElem_mem _))
      · rw [num_chars i _ (List.getElem_mem _), decide_eq_true q]
    · have e : j = (numL i).length := by lia
      subst e
      refine ⟨c, rest, ?_, hc2, ?_⟩
      · rw [List.drop_length, Nat.sub_self]; rfl
      · rw [hc, decide_eq_false (Nat.lt_irrefl _)]
  have hpos : 0 < (numL i).length := Nat.pos_of_ne_zero fun q => num_ne i (List.eq_nil_of_length_eq_zero q)
  obtain ⟨c0, r0, hd0, hc0, hn0⟩ := hat 0 (Nat.zero_le _)
  rw [decide_eq_true hpos] at hn0
  have hi0 : Txt.item text (p : Int) = ⟨#[c0]⟩ := item_at hd0
  have hlt : p < text.length := by lia
  have hq1 : ∀ c, c < 128 → isNumC c = true → ((⟨#[c]⟩ : Str) == Str.ofString "'") = false := by decide +kernel
  have hq2 : ∀ c, c < 128 → isNumC c = true → ((⟨#[c]⟩ : Str) == Str.ofString "\"") = false := by decide +kernel
  have hq3 : ∀ c, c < 128 → isNumC c = true → Txt.contains (Str.ofString "([{") ⟨#[c]⟩ = false := by decide +kernel
  have he1 : (Txt.item text (p : Int) == Str.ofString "'") = false := by rw [hi0]; exact hq1 c0 hc0 hn0
  have he2 : (Txt.item text (p : Int) == Str.ofString "\"") = false := by rw [hi0]; exact hq2 c0 hc0 hn0
  have he3 : Txt.contains (Str.ofString "([{") (Txt.item text (p : Int)) = false := by rw [hi0]; exact hq3 c0 hc0 hn0
  clear hq1 hq2 hq3
  have hsl := slice_mid hdrop (e := ((p + (numL i).length : Nat) : Int)) rfl
  obtain ⟨X, loose, mean, mg, mb, T⟩ := O.top
  refine' enter [("text", .str text t1), ("at", .int (p : Int) t2)] X T.nolimit (Nat.lt_of_le_of_lt hD (Nat.le_of_ble_eq_true rfl)) ?k1 ?k3 ?k4 ?k5 ?k6 ?k7 ?k8 ?k9 ?k10
  case k1 => k_is
  case k3 => k_is
  case k4 => exact rfl
  case k5 => exact rfl
  case k7 => rfl
  case k8 => rfl
  case k9 => rfl
  case k10 => decide
  intro h₁ tk F N
  have F' : Fr s.heap s.heap.objs.size h₁ (bindM (bindM (fun _ => none) (Str.ofString "text") (some (.str text t1))) (Str.ofString "at") (some (.int (p : Int) t2))) := by
    rw [← look_two]
    exact F
  clear F
  repeat' ((fail_if_success (with_reducible show wpAny _ _ (subscriptTail _ _ (Value.str _ _) (Value.int _ _)) _ _ _)); first | (k_unfold; (try dsimp only)) | walk1 | (dsimp only; walk1))
  refine' item_str (fitsSsize_of (N := 9223372036854775808) (by lia) (by lia) (Int.le_refl _)) (by lia) (by lia) (fun _ => ?_) (by with_unfolding_all rfl) (by intro _; with_unfolding_all rfl)
  repeat' ((fail_if_success (with_reducible show wpAny _ _ (compareOp CmpOp.NotIn _ _) _ _ _)); (fail_if_success (with_reducible show wpAny _ _ (call (Value.builtin "str.find") _) _ _ _)); first | (k_unfold; (try dsimp only)) | walk1 | (dsimp only; walk1))
  all_goals (try (exfalso; simp_all; done))
  refine SB.notContains ?_
  rw [he3]
  repeat' ((fail_if_success (with_reducible show wpAny _ _ (exec (Stmt.While _ _ _ _) _) _ _ _)); first | (k_unfold; (try dsimp only)) | walk1 | (dsimp only; walk1))
  rename Fr _ _ _ _ => F
  rename News _ _ _ _ => N
  refine' While_inv (fun n m news => ∃ (j : Nat) (te tm : Tok), j + n = (numL i).length ∧
     m = bindM (bindM (bindM (bindM (fun _ => none) (Str.ofString "text") (some (.str text t1))) (Str.ofString "at") (some (.int (p : Int) t2))) (Str.ofString "mark") (some (.str (Txt.item text (p : Int)) tm))) (Str.ofString "end") (some (.int ((p + j : Nat) : Int) te)) ∧ news = []) (n₀ := (numL i).length) ?wF ?wN ?wJ ?wT
  case wF => exact F
  case wN => exact N
  case wJ => exact ⟨0, _, _, Nat.zero_add _, rfl, rfl⟩
  case wT =>
    clear F N
    rintro n m₁ news₁ h₁ tk₁ F N ⟨j, te, tm, hj, rfl, rfl⟩
    obtain ⟨cj, rj, hdj, hcj, hnj⟩ := hat j (by lia)
    have hij := item_at hdj
    have hej := has_num cj hcj
    rw [← hij, hnj] at hej
    clear hdj hcj hnj hij
    repeat' ((fail_if_success (with_reducible show wpAny _ _ (subscriptTail _ _ (Value.str _ _) (Value.int _ _)) _ _ _)); first | (k_unfold; (try dsimp only)) | walk1 | (dsimp only; walk1))
    refine' item_str (fitsSsize_of (N := 9223372036854775808) (by lia) (by lia) (Int.le_refl _)) (by lia) (by lia) (fun _ => ?_) (by with_unfolding_all rfl) (by intro _; with_unfolding_all rfl)
    repeat' ((fail_if_success (with_reducible show wpAny _ _ (compareOp CmpOp.In _ _) _ _ _)); first | (k_unfold; (try dsimp only)) | walk1 | (dsimp only; walk1))
    refine SB.contains ?_
    rw [hej]
    rcases Nat.lt_or_ge j (numL i).length with hjl | hjl
    · rw [decide_eq_true hjl]
      repeat' ((fail_if_success (with_reducible show WhileStep _ _ _ _ _ _ _)); first | (k_unfold; (try dsimp only)) | walk1 | (dsimp only; walk1))
      rename Fr _ _ _ _ => F
      rename News _ _ _ _ => N
      refine WhileStep.intro (n' := n - 1) F N (by lia) ⟨j + 1, ?ta, tm, by lia, ?tb, rfl⟩
      case tb =>
        rw [show ((p + (j + 1) : Nat) : Int) = ((p + j : Nat) : Int) + 1 from by lia]
        exact bind_again
    · rw [decide_eq_false (Nat.not_lt.mpr hjl)]
      have hjn : j = (numL i).length := by lia
      subst hjn
      repeat' ((fail_if_success (with_reducible show wpAny _ _ (call (Value.type "int") _) _ _ _)); first | (k_unfold; (try dsimp only)) | walk1 | (dsimp only; walk1))
      refine' KIN.call_text (n := i) (num_back hsl (by rw [← cs_len, hsl]; lia)) (by rw [← cs_len, hsl]; lia) ?_
      repeat' (first | (k_unfold; (try dsimp only)) | walk1 | (dsimp only; walk1))
      rename Fr _ _ _ _ => F
      rename News _ _ _ _ => N
      exact hret _ _ _ _ _ (made_of_news N) (fun h _ => Rep.int i _) F.keep
end Mine
end TW13
section TDr
open PySem PySem.W PySem.Calls PyProof.Rows
set_option maxRecDepth 100000
set_option maxHeartbeats 8000000
namespace Mine
theorem eq_strs {w : World} {A : Around} {E : Value → Shared → Prop} {s : Shared} {Q : Value → Shared → Prop} {x y : Str} {t u : Tok} (h : Q (.bool (x == y)) s) : wpAny (model prog w) A (compareOp .Eq (.str x t) (.str y u)) Q E s := by
  have : (x.cps.toList == y.cps.toList) = (x == y) := by
    rw [Bool.eq_iff_iff, beq_iff_eq, beq_iff_eq]
    exact ⟨fun e => str_ext e, fun e => by rw [e]⟩
  exact PySem.P.eq_str (by rw [this]; exact h)
noncomputable def isCl (c : Nat) : Bool := c == 41 || c == 93 || c == 125
inductive Tail : List Dt → List Nat → List Nat → Prop
  | nil {c rest} : isCl c = true → Tail [] (c :: rest) rest
  | two {d ds c t rest} : (c = 44 ∨ c = 58) → Tail ds t rest → Tail (d :: ds) (shownD d ++ c :: 32 :: t) rest
  | one {d ds c t rest} : isCl c = true → Tail ds (c :: t) rest → Tail (d :: ds) (shownD d ++ 44 :: c :: t) rest
  | zero {d ds c t rest} : isCl c = true → Tail ds (c :: t) rest → Tail (d :: ds) (shownD d ++ c :: t) rest
theorem tail_join (e : Nat) (he : isCl e = true) (rest : List Nat) : ∀ ds : List Dt, Tail ds (joinL (shownL ds) ++ e :: rest) rest
  | [] => .nil he
  | [d] => .zero he (.nil he)
  | d :: e' :: r => by
    show Tail _ ((shownD d ++ [44, 32] ++ joinL (shownL (e' :: r))) ++ e :: rest) rest
    rw [List.append_assoc, List.append_assoc]
    exact .two (.inl rfl) (tail_join e he rest (e' :: r))
theorem tail_tup (rest : List Nat) (ds : List Dt) : Tail ds (joinL (shownL ds) ++ (if ds.length = 1 then [44, 41] else [41]) ++ rest) rest := by
  match ds with
  | [] => exact .nil rfl
  | [d] =>
    show Tail [d] ((shownD d ++ [44, 41]) ++ rest) rest
    rw [List.append_assoc]
    exact .one rfl (.nil rfl)
  | d :: e' :: r =>
    rw [if_neg (by simp), List.append_assoc]
    exact tail_join 41 rfl rest (d :: e' :: r)
theorem tail_dct (k : Int) (v : Dt) (rest : List Nat) : Tail [.int k, v] ((numL k ++ [58, 32] ++ shownD v) ++ [125] ++ rest) rest := by
  rw [List.append_assoc, List.append_assoc, List.append_assoc]
  exact .two (d := .int k) (.inr rfl) (.zero rfl (.nil rfl))
theorem first_open : ∀ (d : Dt), ∃ c r, shownD d = c :: r ∧ c < 128 ∧ isCl c = false
  | .str x => ⟨_, _, rfl, by
      have := quote_two x
      rcases List.mem_cons.mp this with e | e
      · rw [e]; decide
      · rw [List.mem_singleton.mp e]; decide⟩
  | .int i => by
    cases e : numL i with
    | nil => exact absurd e (num_ne i)
    | cons c r =>
      refine ⟨c, r, e, ?_, ?_⟩
      · exact isNum_lt (num_chars i c (e ▸ .head _))
      · have h := num_chars i c (e ▸ .head _)
        have : ∀ c, c < 128 → isNumC c = true → isCl c = false := by decide +kernel
        exact this c (isNum_lt h) h
  | .lst ds => ⟨_, _, rfl, by decide, by decide⟩
  | .tup ds => ⟨_, _, rfl, by decide, by decide⟩
  | .dct k v => ⟨_, _, rfl, by decide, by decide⟩
theorem tail_nil {u rest : List Nat} (h : Tail [] u rest) : ∃ c, u = c :: rest ∧ Txt.contains (Str.ofString ")]}") ⟨#[c]⟩ = true := by
  cases h with
  | @nil c _ hc =>
    refine ⟨c, rfl, ?_⟩
    have : c < 128 := by unfold isCl at hc; simp at hc; omega
    rw [has_close c this]
    exact hc
theorem cl_num {c : Nat} (h : isCl c = true) : isNumC c = false ∧ c < 128 ∧ c ≠ 44 ∧ c ≠ 58 ∧ c ≠ 32 := by
  unfold isCl at h
  simp at h
  rcases h with (rfl | rfl) | rfl <;> decide
noncomputable def EndOk (d : Dt) (rest : List Nat) : Prop := ∀ i, d = .int i → ∃ c r, rest = c :: r ∧ isNumC c = false ∧ c < 128
theorem endOk_of {d : Dt} {c : Nat} {r : List Nat} (h : isNumC c = false) (h' : c < 128) : EndOk d (c :: r) := fun _ _ => ⟨c, r, rfl, h, h'⟩
theorem tail_cons {d : Dt} {ds : List Dt} {u rest : List Nat} (h : Tail (d :: ds) u rest) : ∃ c1 r1, u = shownD d ++ c1 :: r1 ∧ EndOk d (c1 :: r1) ∧ c1 < 128 ∧ ∃ c2 r2,
    (if c1 = 44 ∨ c1 = 58 then r1 = c2 :: r2 else c1 :: r1 = c2 :: r2) ∧ Tail ds (if c2 = 32 then r2 else c2 :: r2) rest := by
  cases h with
  | @two _ _ c t _ hc ht =>
    have h1 : isNumC c = false ∧ c < 128 := by rcases hc with rfl | rfl <;> decide
    refine ⟨c, 32 :: t, rfl, endOk_of h1.1 h1.2, h1.2, 32, t, ?_, ?_⟩
    · rw [if_pos hc]
    · rw [if_pos rfl]; exact ht
  | @one _ _ c t _ hc ht =>
    refine ⟨44, c :: t, rfl, endOk_of (by decide) (by decide), by decide, c, t, ?_, ?_⟩
    · rw [if_pos (.inl rfl)]
    · rw [if_neg (cl_num hc).2.2.2.2]; exact ht
  | @zero _ _ c t _ hc ht =>
    have h1 := cl_num hc
    refine ⟨c, t, rfl, endOk_of h1.1 h1.2.1, h1.2.1, c, t, ?_, ?_⟩
    · rw [if_neg (fun q => q.elim h1.2.2.1 h1.2.2.2.1)]
    · rw [if_neg h1.2.2.2.2]; exact ht
noncomputable def ReadAt (w : World) (D U : Nat) (text : Str) (d : Dt) : Prop :=
  ∀ (s : Shared) (Q : Value → Shared → Prop) (q : Nat) (rest : List Nat) (t1 t2 : Tok), Ok w s.heap → (cs text).drop q = shownD d ++ rest → EndOk d rest →
    (∀ h' tk T tl v t, Made s.heap h' ((T, tupO [v, .int ((q + (shownD d).length : Nat) : Int) t]) :: tl) → RpIn w tl v d → Ext s.heap h' → Q (.ref T) { s with heap := h', toks := tk }) →
    wpAny (model prog w) (lv D U) (call (.ref 83) [.str text t1, .int (q : Int) t2]) Q (fun _ _ => False) s
theorem bind_turn {m : Str → Option Value} {x y : Str} {a b c d : Option Value} (h : x ≠ y) : bindM (bindM (bindM (bindM m x a) y b) x c) y d = bindM (bindM m x c) y d := by
  funext z
  unfold bindM
  by_cases h1 : z = y
  · rw [if_pos h1, if_pos h1]
  · rw [if_neg h1, if_neg h1]
    by_cases h2 : z = x
    · subst h2; simp [h]
    · simp [h1, h2]
theorem bind_unb {m : Str → Option Value} {x y : Str} {b : Option Value} (h : m x = none) : bindM (bindM m x none) y b = bindM m y b := by
  funext z
  unfold bindM
  by_cases h1 : z = y
  · rw [if_pos h1, if_pos h1]
  · rw [if_neg h1, if_neg h1]
    by_cases h2 : z = x
    · rw [if_pos h2, h2, h]
    · rw [if_neg h2]
theorem bind_twice {m : Str → Option Value} {y : Str} {a b : Option Value} : bindM (bindM m y a) y b = bindM m y b := by
  funext z
  unfold bindM
  by_cases h1 : z = y
  · rw [if_pos h1, if_pos h1]
  · rw [if_neg h1, if_neg h1, if_neg h1]
end Mine
end TDr
section TW14
open PySem PySem.W PySem.Calls PyProof.Rows
set_option maxRecDepth 100000
set_option maxHeartbeats 8000000
namespace Mine
theorem fillW14 (P : Params) : PySem.Challenge.rw_sr0100_01 = PySem.Challenge.rw_sr0100_01 ∧ hd.heap_39 P = hd.heap_39 P := by
  w_top off
  k_fill
  exact ⟨rfl, rfl⟩
theorem made_tl {w : World} {tl tl' : List (Addr × Obj)} {v : Value} {d : Dt} (r : RpIn w tl v d) : RpIn w (tl ++ tl') v d := fun h H => r h fun p hp => H p (List.mem_append_left _ hp)
theorem one_ne {c : Nat} (h : c ≠ 32) : ((⟨#[c]⟩ : Str) == Str.ofString " ") = false := by
  cases q : ((⟨#[c]⟩ : Str) == Str.ofString " ") with
  | false => rfl
  | true =>
    have e := eq_of_beq q
    have e2 := congrArg cs e
    have : [c] = [32] := e2
    cases this
    exact absurd rfl h
theorem rpL_tl {w : World} {tl tl' : List (Addr × Obj)} {vs : List Value} {ds : List Dt} (r : RpInL w tl vs ds) : RpInL w (tl' ++ tl) vs ds := fun h H => r h fun p hp => H p (List.mem_append_right _ hp)
noncomputable def KindOf (D0 : Dt) (ds : List Dt) (o : Nat) : Prop := (o = 91 ∧ D0 = .lst ds) ∨ (o = 40 ∧ D0 = .tup ds) ∨ (o = 123 ∧ ∃ k vd, D0 = .dct k vd ∧ ds = [.int k, vd])
theorem kind_tail {D0 : Dt} {ds : List Dt} {o p : Nat} {text : Str} {rest : List Nat} (h : KindOf D0 ds o) (hdrop : (cs text).drop p = shownD D0 ++ rest) : ∃ u, (cs text).drop p = o :: u ∧ Tail ds u rest := by
  rcases h with ⟨rfl, rfl⟩ | ⟨rfl, rfl⟩ | ⟨rfl, k, vd, rfl, rfl⟩
  · exact ⟨_, hdrop, by show Tail ds ((joinL (shownL ds) ++ [93]) ++ rest) rest; rw [List.append_assoc]; exact tail_join 93 rfl rest ds⟩
  · exact ⟨_, hdrop, by show Tail ds ((joinL (shownL ds) ++ (if ds.length = 1 then [44, 41] else [41])) ++ rest) rest; exact tail_tup rest ds⟩
  · exact ⟨_, hdrop, by show Tail [.int k, vd] (((numL k ++ [58, 32] ++ shownD vd) ++ [125]) ++ rest) rest; exact tail_dct k vd rest⟩
theorem kind_o {D0 : Dt} {ds : List Dt} {o : Nat} (h : KindOf D0 ds o) : ((⟨#[o]⟩ : Str) == Str.ofString "'") = false ∧ ((⟨#[o]⟩ : Str) == Str.ofString "\"") = false ∧ Txt.contains (Str.ofString "([{") (⟨#[o]⟩ : Str) = true := by
  rcases h with ⟨rfl, _⟩ | ⟨rfl, _⟩ | ⟨rfl, _⟩ <;> decide +kernel
theorem repL_snd {w : World} {h : Heap} {v0 v1 : Value} {d0 d1 : Dt} (r : RepL w h [v0, v1] [d0, d1]) : Rep w h v1 d1 := by
  cases r with
  | cons a b =>
    cases b with
    | cons c e => exact c
theorem repL_two {w : World} {h : Heap} {vs : List Value} {k : Int} {d : Dt} (r : RepL w h vs [.int k, d]) : ∃ v0 v1, vs = [v0, v1] ∧ ∃ t, v0 = .int k t := by
  cases r with
  | cons a b =>
    cases b with
    | cons c e =>
      cases e
      cases a
      exact ⟨_, _, rfl, _, rfl⟩
theorem read_open {w : World} {s : Shared} {Q : Value → Shared → Prop} {D U D' U' : Nat} (hD : D ≤ 799) (hU : U ≤ 2450) (hD' : D + 1 ≤ D') (hU' : U + 40 ≤ U')
   (O : Ok w s.heap) (text : Str) (D0 : Dt) (ds : List Dt) (o : Nat) (hko : KindOf D0 ds o) (p : Nat) (rest : List Nat) (t1 t2 : Tok) (hlen : text.length ≤ 10000) (hds : (ds).length ≤ 100) (hdrop : (cs text).drop p = shownD D0 ++ rest)
   (ih : ∀ d ∈ ds, ReadAt w D' U' text d)
   (hret : ∀ h' tk T tl v t, Made s.heap h' ((T, tupO [v, .int ((p + (shownD D0).length : Nat) : Int) t]) :: tl) → RpIn w tl v D0 → Ext s.heap h' → Q (.ref T) { s with heap := h', toks := tk }) :
   wpAny (model prog w) (lv D U) (call (.ref 83) [.str text t1, .int (p : Int) t2]) Q (fun _ _ => False) s := by
  have hd0 : ∃ u, (cs text).drop p = o :: u ∧ Tail ds u rest := kind_tail hko hdrop
  have hko2 := kind_o hko
  obtain ⟨u, hd0, hT⟩ := hd0
  have hend : (cs text).drop (p + (shownD D0).length) = rest := drop_app hdrop
  have hin : p + (shownD D0).length ≤ text.length := by
    have h1 := drop_lt hd0
    have h2 := congrArg List.length hdrop
    rw [List.length_drop, List.length_append, cs_len] at h2
    lia
  have hrl : (cs text).length = p + (shownD D0).length + rest.length := by
    have h2 := congrArg List.length hend
    rw [List.length_drop] at h2
    rw [cs_len] at h2 ⊢
    lia
  have hlt := drop_lt hd0
  have hitem : Txt.item text (p : Int) = ⟨#[o]⟩ := item_at hd0
  have hd1 : (cs text).drop (p + 1) = u := drop_app (a := [_]) hd0
  clear hd0 hdrop hend
  obtain ⟨X, loose, mean, mg, mb, T⟩ := O.top
  refine' enter [("text", .str text t1), ("at", .int (p : Int) t2)] X T.nolimit (Nat.lt_of_le_of_lt hD (Nat.le_of_ble_eq_true rfl)) ?k1 ?k3 ?k4 ?k5 ?k6 ?k7 ?k8 ?k9 ?k10
  case k1 => k_is
  case k3 => k_is
  case k4 => exact rfl
  case k5 => exact rfl
  case k7 => rfl
  case k8 => rfl
  case k9 => rfl
  case k10 => decide
  intro h₁ tk F N
  have F' : Fr s.heap s.heap.objs.size h₁ (bindM (bindM (fun _ => none) (Str.ofString "text") (some (.str text t1))) (Str.ofString "at") (some (.int (p : Int) t2))) := by
    rw [← look_two]
    exact F
  clear F
  repeat' ((fail_if_success (with_reducible show wpAny _ _ (subscriptTail _ _ (Value.str _ _) (Value.int _ _)) _ _ _)); first | (k_unfold; (try dsimp only)) | walk1 | (dsimp only; walk1))
  refine' item_str (fitsSsize_of (N := 9223372036854775808) (by lia) (by lia) (Int.le_refl _)) (by lia) (by lia) (fun _ => ?_) (by with_unfolding_all rfl) (by intro _; with_unfolding_all rfl)
  rw [hitem]
  repeat' ((fail_if_success (with_reducible show wpAny _ _ (compareOp CmpOp.Eq _ _) _ _ _)); first | (k_unfold; (try dsimp only)) | walk1 | (dsimp only; walk1))
  refine eq_strs ?_
  rw [hko2.1]
  repeat' ((fail_if_success (with_reducible show wpAny _ _ (compareOp CmpOp.Eq _ _) _ _ _)); first | (k_unfold; (try dsimp only)) | walk1 | (dsimp only; walk1))
  refine eq_strs ?_
  rw [hko2.2.1]
  repeat' ((fail_if_success (with_reducible show wpAny _ _ (compareOp CmpOp.NotIn _ _) _ _ _)); first | (k_unfold; (try dsimp only)) | walk1 | (dsimp only; walk1))
  refine SB.notContains ?_
  rw [hko2.2.2]
  repeat' ((fail_if_success (with_reducible show wpAny _ _ (newList _) _ _ _)); first | (k_unfold; (try dsimp only)) | walk1 | (dsimp only; walk1))
  rename Fr _ _ _ _ => F
  rename News _ _ _ _ => N
  have lo := Fr.notModules F (modules_low T.nolimit)
  refine' newList_N F N (fun h' F' N' => ?_)
  clear F N
  revert F' N' lo
  generalize Array.size _ = A0
  intro lo F' N'
  repeat' ((fail_if_success (with_reducible show wpAny _ _ (exec (Stmt.While _ _ _ _) _) _ _ _)); first | (k_unfold; (try dsimp only)) | walk1 | (dsimp only; walk1))
  rename Fr _ _ _ _ => F
  rename News _ _ _ _ => N
  refine' While_inv (fun n m news => ∃ (q : Nat) (ds2 dn : List Dt) (u2 : List Nat) (vs : List Value) (c0 : Nat) (tl : List (Addr × Obj)) (tm tq : Tok) (vp : Option Value), n = ds2.length ∧ ds = dn ++ ds2 ∧ (cs text).drop q = u2 ∧ Tail ds2 u2 rest ∧ RpInL w tl vs dn ∧ (∀ p ∈ tl, p.1 ≠ A0) ∧
     m = bindM (bindM (bindM (bindM (bindM (bindM (fun _ => none) (Str.ofString "text") (some (.str text t1))) (Str.ofString "at") (some (.int (p : Int) t2))) (Str.ofString "mark") (some (.str ⟨#[o]⟩ tm))) (Str.ofString "parts") (some (.ref A0))) (Str.ofString "part") vp) (Str.ofString "at") (some (.int (q : Int) tq)) ∧
     news = (A0, listOf vs.toArray c0) :: tl) (n₀ := (ds).length) ?wF ?wN ?wJ ?wT
  case wF => exact F
  case wN => exact N
  case wJ =>
    refine ⟨p + 1, ds, [], u, [], 0, [], ?ja, ?jb, none, rfl, rfl, hd1, hT, fun h _ => .nil, (fun p hp => nomatch hp), ?jc, rfl⟩
    case jc =>
      refine Eq.symm (Eq.trans (bind_unb ?h0) ?h1)
      case h1 => rfl
      case h0 => rfl
  case wT =>
    clear F N hT hd1 u hitem
    rintro n m₁ news₁ h₁ tk₁ F N ⟨q, ds2, dn, u2, vs, c0, tl, tm, tq, vp, rfl, hsp, hdq, hT, hvs, hoff, rfl, rfl⟩
    cases ds2 with
    | nil =>
      obtain ⟨c, hu, hc⟩ := tail_nil hT
      rw [hu] at hdq
      have hlq := drop_lt hdq
      have hcl : Txt.contains (Str.ofString ")]}") (Txt.item text (q : Int)) = true := by rw [item_at hdq]; exact hc
      repeat' ((fail_if_success (with_reducible show wpAny _ _ (subscriptTail _ _ (Value.str _ _) (Value.int _ _)) _ _ _)); first | (k_unfold; (try dsimp only)) | walk1 | (dsimp only; walk1))
      refine' item_str (fitsSsize_of (N := 9223372036854775808) (by lia) (by lia) (Int.le_refl _)) (by lia) (by lia) (fun _ => ?_) (by with_unfolding_all rfl) (by intro _; with_unfolding_all rfl)
      repeat' ((fail_if_success (with_reducible show wpAny _ _ (compareOp CmpOp.NotIn _ _) _ _ _)); first | (k_unfold; (try dsimp only)) | walk1 | (dsimp only; walk1))
      refine SB.notContains ?_
      rw [hcl]
      have hdn : ds = dn := by rw [hsp, List.append_nil]
      have hq1 : (cs text).length = q + 1 + rest.length := by
        have h2 := congrArg List.length hdq
        rw [List.length_drop, List.length_cons] at h2
        rw [cs_len] at h2 ⊢
        lia
      have hqe : ((q : Int) + 1) = ((p + (shownD D0).length : Nat) : Int) := by lia
      have hA0 : A0 ≠ sysModules := by simpa using lo
      rcases hko with ⟨rfl, rfl⟩ | ⟨rfl, rfl⟩ | ⟨rfl, kd, vd, rfl, rfl⟩
      · try clear hko2
        rw [show (⟨#[91]⟩ : Str) = Str.ofString "[" from by decide] at F
        repeat' (first | (k_unfold; (try dsimp only)) | walk1 | (dsimp only; walk1))
        rename Fr _ _ _ _ => F
        rename News _ _ _ _ => N
        rw [hqe] at N
        refine hret _ _ _ _ (.ref A0) _ (made_of_news N) (fun h H => ?_) F.keep
        rw [hdn]
        exact Rep.lst hA0 (H _ (.head _)) (hvs h fun p hp => H p (.tail _ hp))
      · try clear hko2
        rw [show (⟨#[40]⟩ : Str) = Str.ofString "(" from by decide] at F
        have hvl := (hvs _ fun p hp => (N p (.tail _ hp)).1).length
        have hdl : dn.length ≤ 100 := by rw [← hdn]; exact hds
        repeat' ((fail_if_success (with_reducible show wpAny _ _ (call (Value.type "tuple") _) _ _ _)); first | (k_unfold; (try dsimp only)) | walk1 | (dsimp only; walk1))
        rename Fr _ _ _ _ => F
        rename News _ _ _ _ => N
        refine' call_tuple_list (islist_of (N _ (.head _)).1) ?_ ?ts
        case ts => rw [List.size_toArray, sizeLine_eq]; lia
        intro h9 e9
        have F1 := Fr.push (fr_ext F e9) (tupO vs)
        have N1 := News.push (fr_ext F e9) (news_ext N e9) (tupO vs)
        clear F N
        repeat' (first | (k_unfold; (try dsimp only)) | walk1 | (dsimp only; walk1))
        rename Fr _ _ _ _ => F
        rename News _ _ _ _ => N
        rw [hqe] at N
        refine hret _ _ _ _ (.ref _) _ (made_of_news N) (fun h H => ?_) F.keep
        rw [hdn]
        exact Rep.tup (H _ (.head _)) (hvs h fun p hp => H p (.tail _ (.tail _ hp)))
      · try clear hko2
        rw [show (⟨#[123]⟩ : Str) = Str.ofString "{" from by decide] at F
        have hr := hvs _ fun p hp => (N p (.tail _ hp)).1
        rw [← hdn] at hr hvs
        obtain ⟨v0, v1, hvv, ht0⟩ := repL_two hr
        obtain ⟨t0, rfl⟩ := ht0
        subst hvv
        repeat' ((fail_if_success (with_reducible show wpAny _ _ (eval (Expr.Dict _ _ _) _) _ _ _)); first | (k_unfold; (try dsimp only)) | walk1 | (dsimp only; walk1))
        rename Fr _ _ _ _ => F
        rename News _ _ _ _ => N
        refine' kdn_eval (knd := intKind prog w) F N T.nolimit rfl rfl (List.cons_ne_nil _ _) (Nat.le_of_ble_eq_true rfl) ?_
        intro d' h' o' F' N' l1 lo' hd'
        clear F N
        repeat' ((fail_if_success (with_reducible show KdnMade _ _ _ _ _ _ _)); first | (k_unfold; (try dsimp only)) | walk1 | (dsimp only; walk1))
        rename Fr _ _ _ _ => F
        rename News _ _ _ _ => N
        refine' kdn_made_int ?dF ?dN ?dU ?dd rfl ?dn ?_
        case dF => exact F
        case dN => exact N
        case dU => exact .head fun p hp => Nat.ne_of_lt (l1 p hp)
        case dd => exact hd'
        case dn => exact List.nodup_cons.mpr ⟨fun h => (nomatch h), List.nodup_nil⟩
        intro h2 o2 F2 N2 hd2
        clear F N
        repeat' (first | (k_unfold; (try dsimp only)) | walk1 | (dsimp only; walk1))
        rename Fr _ _ _ _ => F
        rename News _ _ _ _ => N
        rw [hqe] at N
        refine hret _ _ _ _ (.ref d') _ (made_of_news N) (fun h H => ?_) F.keep
        exact Rep.dct (by simpa using lo') (Heap.dictOf_iff.mpr ⟨o2, H _ (.head _), hd2⟩) (repL_snd (hvs h fun p hp => H p (.tail _ (.tail _ hp))))
    | cons d ds3 =>
      obtain ⟨c1, r1, hu, hend1, hc1, c2, r2, hb1, hT3⟩ := tail_cons hT
      obtain ⟨cf, rf, hf1, hf2, hf3⟩ := first_open d
      have hdf : (cs text).drop q = cf :: (rf ++ c1 :: r1) := by rw [hdq, hu, hf1]; rfl
      have hlq := drop_lt hdf
      have hcl : Txt.contains (Str.ofString ")]}") (Txt.item text (q : Int)) = false := by rw [item_at hdf, has_close cf hf2]; exact hf3
      clear hdf hf1 hf2 hf3
      repeat' ((fail_if_success (with_reducible show wpAny _ _ (subscriptTail _ _ (Value.str _ _) (Value.int _ _)) _ _ _)); first | (k_unfold; (try dsimp only)) | walk1 | (dsimp only; walk1))
      refine' item_str (fitsSsize_of (N := 9223372036854775808) (by lia) (by lia) (Int.le_refl _)) (by lia) (by lia) (fun _ => ?_) (by with_unfolding_all rfl) (by intro _; with_unfolding_all rfl)
      repeat' ((fail_if_success (with_reducible show wpAny _ _ (compareOp CmpOp.NotIn _ _) _ _ _)); first | (k_unfold; (try dsimp only)) | walk1 | (dsimp only; walk1))
      refine SB.notContains ?_
      rw [hcl]
      repeat' ((fail_if_success (with_reducible show wpAny _ _ (call (Value.ref 83) _) _ _ _)); first | (k_unfold; (try dsimp only)) | walk1 | (dsimp only; walk1))
      rename Fr _ _ _ _ => F
      rename News _ _ _ _ => N
      have hd1 : (cs text).drop (q + (shownD d).length) = c1 :: r1 := drop_app (by rw [hdq, hu])
      refine' at_lv (ih d (by rw [hsp]; exact List.mem_append_right _ (.head _)) _ _ q (c1 :: r1) _ _ ?kO ?kd hend1 ?_) rfl ?kD rfl ?kU
      case kO => exact ok_fr O F
      case kd => rw [hdq, hu]
      case kD => exact hD'
      case kU => exact Nat.le_trans (Nat.add_le_add_left (Nat.le_of_ble_eq_true rfl) U) hU'
      intro h' tk' T0 tl' v tt hm hrp e'
      have F' := fr_ext F e'
      have hA := (N _ (.head _)).1
      have hTA : T0 ≠ A0 := fun q => by
        have h0 := (hm _ (.head _)).1
        rw [q, hA] at h0
        cases h0
      have hoff' : ∀ p ∈ tl' ++ tl, p.1 ≠ A0 := fun p hp q => by
        rcases List.mem_append.mp hp with hp | hp
        · have h0 := (hm p (.tail _ hp)).1
          rw [q, hA] at h0
          cases h0
        · exact hoff p hp q
      have N' : News s.heap s.heap.objs.size h' ((T0, tupO [v, .int ((q + (shownD d).length : Nat) : Int) tt]) :: (A0, listOf vs.toArray c0) :: (tl' ++ tl)) := fun p hp => news_made F N e' hm p (by
        simp only [List.mem_cons, List.mem_append] at hp ⊢
        rcases hp with h | h | h | h
        · exact .inl (.inl h)
        · exact .inr (.inl h)
        · exact .inl (.inr h)
        · exact .inr (.inr h))
      have hvs' : RpInL w (tl' ++ tl) (vs ++ [v]) (dn ++ [d]) := fun h H => RepL.app (hvs h fun p hp => H p (List.mem_append_right _ hp)) (hrp h fun p hp => H p (List.mem_append_left _ hp))
      have hvl := (hvs _ fun p hp => (N p (.tail _ hp)).1).length
      have hdl : dn.length ≤ 100 := by rw [hsp, List.length_append] at hds; lia
      clear F N hm e' hrp hvs hoff hA hT hdq hu hcl hlq
      generalize q + (shownD d).length = q1 at *
      have hlq1 := drop_lt hd1
      repeat' ((fail_if_success (with_reducible show wpAny _ _ (call (Value.builtin "list.append") _) _ _ _)); first | (k_unfold; (try dsimp only)) | walk1 | (dsimp only; walk1))
      rename Fr _ _ _ _ => F
      rename News _ _ _ _ => N
      refine' append_K (its := vs.toArray) (n := c0) ?a1 ?a2 ?a4 ?_ ?a3
      case a1 => exact F
      case a2 => exact N
      case a4 => exact .tail hTA (.head hoff')
      case a3 => rw [List.size_toArray, sizeLine_eq, hvl]; lia
      intro h8 F8 N8
      clear F N
      repeat' ((fail_if_success (with_reducible show wpAny _ _ (subscriptTail _ _ (Value.str _ _) (Value.int _ _)) _ _ _)); first | (k_unfold; (try dsimp only)) | walk1 | (dsimp only; walk1))
      refine' item_str (fitsSsize_of (N := 9223372036854775808) (by lia) (by lia) (Int.le_refl _)) (by lia) (by lia) (fun _ => ?_) (by with_unfolding_all rfl) (by intro _; with_unfolding_all rfl)
      repeat' ((fail_if_success (with_reducible show wpAny _ _ (compareOp CmpOp.In _ _) _ _ _)); first | (k_unfold; (try dsimp only)) | walk1 | (dsimp only; walk1))
      refine SB.contains ?_
      rw [item_at hd1, has_sep c1 hc1]
      by_cases hb : c1 = 44 ∨ c1 = 58
      · rw [if_pos hb] at hb1
        rw [hb1] at hd1
        have hd2 : (cs text).drop (q1 + 1) = c2 :: r2 := drop_app (a := [_]) hd1
        have hlq2 := drop_lt hd2
        have hi2 : Txt.item text ((q1 : Int) + 1) = ⟨#[c2]⟩ := item_at hd2
        rw [show (c1 == 44 || c1 == 58) = true from by simpa using hb]
        repeat' ((fail_if_success (with_reducible show wpAny _ _ (subscriptTail _ _ (Value.str _ _) (Value.int _ _)) _ _ _)); first | (k_unfold; (try dsimp only)) | walk1 | (dsimp only; walk1))
        refine' item_str (fitsSsize_of (N := 9223372036854775808) (by lia) (by lia) (Int.le_refl _)) (by lia) (by lia) (fun _ => ?_) (by with_unfolding_all rfl) (by intro _; with_unfolding_all rfl)
        by_cases hb2 : c2 = 32
        · rw [if_pos hb2] at hT3
          rw [hi2, hb2, show (⟨#[32]⟩ : Str) = Str.ofString " " from by decide]
          have hd3 : (cs text).drop (q1 + 1 + 1) = r2 := drop_app (a := [_]) hd2
          repeat' ((fail_if_success (with_reducible show WhileStep _ _ _ _ _ _ _)); first | (k_unfold; (try dsimp only)) | walk1 | (dsimp only; walk1))
          all_goals (try (exfalso; simp_all; done))
          rename Fr _ _ _ _ => F
          rename News _ _ _ _ => N
          refine WhileStep.intro (n' := ds3.length) F (fun p hp => N p (.tail _ hp)) (Nat.lt_succ_self _) ⟨q1 + 1 + 1, ds3, dn ++ [d], _, vs ++ [v], c0 + 1, tl' ++ tl, tm, ?z1x1, ?z2x1, rfl, by rw [hsp, List.append_assoc]; rfl, hd3, hT3, hvs', hoff', ?z3x1, by rw [← List.push_toArray]⟩
          case z3x1 =>
            refine Eq.trans (b := bindM (bindM (bindM (bindM (bindM (bindM _ (Str.ofString "part") _) (Str.ofString "at") _) (Str.ofString "part") _) (Str.ofString "at") _) (Str.ofString "at") _) (Str.ofString "at") _) rfl ?_
            rw [bind_twice, bind_twice, bind_turn (by decide)]
            (try rfl)
        · rw [if_neg hb2] at hT3
          have hne : ((⟨#[c2]⟩ : Str) == Str.ofString " ") = false := one_ne hb2
          rw [hi2]
          have hd3 := hd2
          repeat' ((fail_if_success (with_reducible show WhileStep _ _ _ _ _ _ _)); first | (k_unfold; (try dsimp only)) | walk1 | (dsimp only; walk1))
          all_goals (try (exfalso; simp_all; done))
          rename Fr _ _ _ _ => F
          rename News _ _ _ _ => N
          refine WhileStep.intro (n' := ds3.length) F (fun p hp => N p (.tail _ hp)) (Nat.lt_succ_self _) ⟨q1 + 1, ds3, dn ++ [d], _, vs ++ [v], c0 + 1, tl' ++ tl, tm, ?z1x2, ?z2x2, rfl, by rw [hsp, List.append_assoc]; rfl, hd3, hT3, hvs', hoff', ?z3x2, by rw [← List.push_toArray]⟩
          case z3x2 =>
            refine Eq.trans (b := bindM (bindM (bindM (bindM (bindM _ (Str.ofString "part") _) (Str.ofString "at") _) (Str.ofString "part") _) (Str.ofString "at") _) (Str.ofString "at") _) rfl ?_
            rw [bind_twice, bind_turn (by decide)]
            (try rfl)
      · rw [if_neg hb] at hb1
        have hd2 : (cs text).drop q1 = c2 :: r2 := hd1.trans hb1
        have hi2 : Txt.item text (q1 : Int) = ⟨#[c2]⟩ := item_at hd2
        rw [show (c1 == 44 || c1 == 58) = false from by
          cases h : (c1 == 44 || c1 == 58) with
          | false => rfl
          | true => exact absurd (by simpa using h) hb]
        repeat' ((fail_if_success (with_reducible show wpAny _ _ (subscriptTail _ _ (Value.str _ _) (Value.int _ _)) _ _ _)); first | (k_unfold; (try dsimp only)) | walk1 | (dsimp only; walk1))
        refine' item_str (fitsSsize_of (N := 9223372036854775808) (by lia) (by lia) (Int.le_refl _)) (by lia) (by lia) (fun _ => ?_) (by with_unfolding_all rfl) (by intro _; with_unfolding_all rfl)
        by_cases hb2 : c2 = 32
        · rw [if_pos hb2] at hT3
          rw [hi2, hb2, show (⟨#[32]⟩ : Str) = Str.ofString " " from by decide]
          have hd3 : (cs text).drop (q1 + 1) = r2 := drop_app (a := [_]) hd2
          repeat' ((fail_if_success (with_reducible show WhileStep _ _ _ _ _ _ _)); first | (k_unfold; (try dsimp only)) | walk1 | (dsimp only; walk1))
          all_goals (try (exfalso; simp_all; done))
          rename Fr _ _ _ _ => F
          rename News _ _ _ _ => N
          refine WhileStep.intro (n' := ds3.length) F (fun p hp => N p (.tail _ hp)) (Nat.lt_succ_self _) ⟨q1 + 1, ds3, dn ++ [d], _, vs ++ [v], c0 + 1, tl' ++ tl, tm, ?z1x3, ?z2x3, rfl, by rw [hsp, List.append_assoc]; rfl, hd3, hT3, hvs', hoff', ?z3x3, by rw [← List.push_toArray]⟩
          case z3x3 =>
            refine Eq.trans (b := bindM (bindM (bindM (bindM (bindM _ (Str.ofString "part") _) (Str.ofString "at") _) (Str.ofString "part") _) (Str.ofString "at") _) (Str.ofString "at") _) rfl ?_
            rw [bind_twice, bind_turn (by decide)]
            (try rfl)
        · rw [if_neg hb2] at hT3
          have hne : ((⟨#[c2]⟩ : Str) == Str.ofString " ") = false := one_ne hb2
          rw [hi2]
          have hd3 := hd2
          repeat' ((fail_if_success (with_reducible show WhileStep _ _ _ _ _ _ _)); first | (k_unfold; (try dsimp only)) | walk1 | (dsimp only; walk1))
          all_goals (try (exfalso; simp_all; done))
          rename Fr _ _ _ _ => F
          rename News _ _ _ _ => N
          refine WhileStep.intro (n' := ds3.length) F (fun p hp => N p (.tail _ hp)) (Nat.lt_succ_self _) ⟨q1, ds3, dn ++ [d], _, vs ++ [v], c0 + 1, tl' ++ tl, tm, ?z1x4, ?z2x4, rfl, by rw [hsp, List.append_assoc]; rfl, hd3, hT3, hvs', hoff', ?z3x4, by rw [← List.push_toArray]⟩
          case z3x4 =>
            refine Eq.trans (b := bindM (bindM (bindM (bindM _ (Str.ofString "part") _) (Str.ofString "at") _) (Str.ofString "part") _) (Str.ofString "at") _) rfl ?_
            rw [bind_turn (by decide)]
            (try rfl)
end Mine
end TW14
section TW16
open PySem PySem.W PySem.Calls PyProof.Rows
set_option maxRecDepth 100000
set_option maxHeartbeats 8000000
namespace Mine
mutual
noncomputable def Slim : Dt → Prop
  | .str _ | .int _ => True
  | .lst ds | .tup ds => ds.length ≤ 100 ∧ SlimL ds
  | .dct _ v => Slim v
noncomputable def SlimL : List Dt → Prop
  | [] => True
  | d :: r => Slim d ∧ SlimL r
end
theorem depL_mem {d : Dt} : ∀ {ds : List Dt}, d ∈ ds → d.dep ≤ Dt.depL ds
  | _ :: r, .head _ => Nat.le_max_left _ _
  | _ :: r, .tail _ h => Nat.le_trans (depL_mem h) (Nat.le_max_right _ _)
theorem goodL_mem {d : Dt} : ∀ {ds : List Dt}, GoodL ds → d ∈ ds → Good d
  | _ :: _, h, .head _ => h.1
  | _ :: _, h, .tail _ m => goodL_mem h.2 m
theorem slimL_mem {d : Dt} : ∀ {ds : List Dt}, SlimL ds → d ∈ ds → Slim d
  | _ :: _, h, .head _ => h.1
  | _ :: _, h, .tail _ m => slimL_mem h.2 m
theorem read_all {w : World} {text : Str} (hlen : text.length ≤ 10000) : ∀ (j : Nat) (d : Dt), d.dep ≤ j → j ≤ 12 → Good d → Slim d → ReadAt w (799 - j) (2450 - 40 * j) text d := by
  intro j
  induction j with
  | zero =>
    intro d hdep _ hg hs s Q q rest t1 t2 O hd hend hret
    cases d with
    | str x => exact read_str (by lia) (by lia) O text x q rest t1 t2 hlen hg hd fun h' tk T v t hm hr e => hret h' tk T [] v t hm hr e
    | int i =>
      obtain ⟨c, r, rfl, hc, hc2⟩ := hend i rfl
      exact read_int (by lia) (by lia) O text i q c r t1 t2 hlen hg hd hc hc2 fun h' tk T v t hm hr e => hret h' tk T [] v t hm hr e
    | lst ds => exact absurd hdep (Nat.not_succ_le_zero _)
    | tup ds => exact absurd hdep (Nat.not_succ_le_zero _)
    | dct k v => exact absurd hdep (Nat.not_succ_le_zero _)
  | succ j ih =>
    intro d hdep hj hg hs s Q q rest t1 t2 O hd hend hret
    cases d with
    | str x => exact read_str (by lia) (by lia) O text x q rest t1 t2 hlen hg hd fun h' tk T v t hm hr e => hret h' tk T [] v t hm hr e
    | int i =>
      obtain ⟨c, r, rfl, hc, hc2⟩ := hend i rfl
      exact read_int (by lia) (by lia) O text i q c r t1 t2 hlen hg hd hc hc2 fun h' tk T v t hm hr e => hret h' tk T [] v t hm hr e
    | lst ds =>
      exact read_open (by lia) (by lia) (D' := 799 - j) (U' := 2450 - 40 * j) (by lia) (by lia) O text _ ds _ (.inl ⟨rfl, rfl⟩) q rest t1 t2 hlen hs.1 hd
        (fun d m => ih d (Nat.le_trans (depL_mem m) (Nat.le_of_succ_le_succ hdep)) (by lia) (goodL_mem hg m) (slimL_mem hs.2 m)) hret
    | tup ds =>
      exact read_open (by lia) (by lia) (D' := 799 - j) (U' := 2450 - 40 * j) (by lia) (by lia) O text _ ds _ (.inr (.inl ⟨rfl, rfl⟩)) q rest t1 t2 hlen hs.1 hd
        (fun d m => ih d (Nat.le_trans (depL_mem m) (Nat.le_of_succ_le_succ hdep)) (by lia) (goodL_mem hg m) (slimL_mem hs.2 m)) hret
    | dct k v =>
      refine read_open (by lia) (by lia) (D' := 799 - j) (U' := 2450 - 40 * j) (by lia) (by lia) O text _ _ _ (.inr (.inr ⟨rfl, k, v, rfl, rfl⟩)) q rest t1 t2 hlen (by simp) hd
        (fun d m => ?_) hret
      rcases List.mem_cons.mp m with rfl | m
      · exact ih _ (Nat.zero_le _) (by lia) hg.1 trivial
      · obtain rfl := List.mem_singleton.mp m
        exact ih _ (Nat.le_of_succ_le_succ hdep) (by lia) hg.2 hs
end Mine
end TW16
section TEq
open PySem PySem.W PySem.Calls PyProof.Rows
set_option maxRecDepth 100000
set_option maxHeartbeats 8000000
open PySem.SeqAt AutoSeq1
namespace Mine
noncomputable abbrev dO (es : Array DictEntry) (n : Nat) (dd : Option Addr) (sl : Array (Option Value)) : Obj := { cls := .type "dict", dict := dd, data := .dict es n, slots := sl }
noncomputable abbrev sO (T : String) (items : Array Value) (n : Nat) (dd : Option Addr) (sl : Array (Option Value)) : Obj := { cls := .type T, dict := dd, data := .seq items n, slots := sl }
theorem dict_no_int (l : Addr) (es : Array DictEntry) (n : Nat) (dd : Option Addr) (sl : Array (Option Value)) (b : Int) (u : Tok) :
    Meets (Builtin.«dict.__eq__» ⟨[.ref l, .int b u], []⟩) (fun _ R s => s.heap.get? l = some (dO es n dd sl) ∧ R (.ok (.ret .notImplemented)) s) :=
  .of_wp fun prog w A R s h => by obtain ⟨hp, g, d, tk, os⟩ := s; obtain ⟨hl, h⟩ := h; have f1 := F.sub_int_dict; wp_walk using wpAny_loadPart' hl, wpAny_load hl; exact ⟨_, rfl, h⟩
theorem int_no_dict (l : Addr) (es : Array DictEntry) (n : Nat) (dd : Option Addr) (sl : Array (Option Value)) (b : Int) (u : Tok) :
    Meets (Builtin.«int.__eq__» ⟨[.int b u, .ref l], []⟩) (fun _ R s => s.heap.get? l = some (dO es n dd sl) ∧ R (.ok (.ret .notImplemented)) s) :=
  .of_wp fun prog w A R s h => by obtain ⟨hp, g, d, tk, os⟩ := s; obtain ⟨hl, h⟩ := h; wp_walk using wpAny_loadPart' hl, wpAny_load hl; exact ⟨_, rfl, h⟩
theorem rc_dict_int {A : Around} {s : Shared} {l : Addr} {es : Array DictEntry} {n : Nat} {dd : Option Addr} {sl : Array (Option Value)} (b : Int) (u : Tok) (ho : s.heap.get? l = some (dO es n dd sl)) (hu : A.units < cLine) : RcAt A s (.ref l) (.int b u) false := fun prog w E Q h =>
  rc_eq_decline_or (k := false) ⟨_, ho, rfl⟩ (typeIs_int s b u) (by decide) F.sub_int_dict F.slot_dict_eq F.slot_int_eq_refl
    (fun _ hq => call_meets F.slot_dict_eq ⟨_, ho, rfl⟩ F.entry_dict_eq (F.args_dict_eq_2 _ _) (dict_no_int l es n dd sl b u) ⟨ho, hq⟩)
    (fun _ hq => call_meets F.slot_int_eq_refl (typeIs_int s b u) F.entry_int_eq (F.args_int_eq_2 _ _) (int_no_dict l es n dd sl b u) ⟨ho, hq⟩)
    (fun _ hq => wpAny_of_eq (rfl : isSame (.ref l) (.int b u) = pure false) hq) (.inr hu) h
theorem rc_int_dict {A : Around} {s : Shared} {l : Addr} {es : Array DictEntry} {n : Nat} {dd : Option Addr} {sl : Array (Option Value)} (b : Int) (u : Tok) (ho : s.heap.get? l = some (dO es n dd sl)) (hu : A.units < cLine) : RcAt A s (.int b u) (.ref l) false := fun prog w E Q h =>
  rc_eq_decline_or (k := false) (typeIs_int s b u) ⟨_, ho, rfl⟩ (by decide) F.sub_dict_int F.slot_int_eq F.slot_dict_eq_refl
    (fun _ hq => call_meets F.slot_int_eq (typeIs_int s b u) F.entry_int_eq (F.args_int_eq_2 _ _) (int_no_dict l es n dd sl b u) ⟨ho, hq⟩)
    (fun _ hq => call_meets F.slot_dict_eq_refl ⟨_, ho, rfl⟩ F.entry_dict_eq (F.args_dict_eq_2 _ _) (dict_no_int l es n dd sl b u) ⟨ho, hq⟩)
    (fun _ hq => wpAny_of_eq (rfl : isSame (.int b u) (.ref l) = pure false) hq) (.inr hu) h
theorem eq_dict_int {A : Around} {s : Shared} {l : Addr} {es : Array DictEntry} {n : Nat} {dd : Option Addr} {sl : Array (Option Value)} (b : Int) (u : Tok) (ho : s.heap.get? l = some (dO es n dd sl)) (hu : A.units < cLine) : EqAt A s (.ref l) (.int b u) false := fun prog w E Q h => by
  unfold eqBool
  refine wpAny_holding ?_
  refine wpAny_ite_split (fun hab => absurd (eq_of_beq hab) nofun) (fun _ => ?_)
  exact wpAny_bind (rc_dict_int b u ho hu prog w E _ (wpAny_truthy_bool h))
theorem eq_int_dict {A : Around} {s : Shared} {l : Addr} {es : Array DictEntry} {n : Nat} {dd : Option Addr} {sl : Array (Option Value)} (b : Int) (u : Tok) (ho : s.heap.get? l = some (dO es n dd sl)) (hu : A.units < cLine) : EqAt A s (.int b u) (.ref l) false := fun prog w E Q h => by
  unfold eqBool
  refine wpAny_holding ?_
  refine wpAny_ite_split (fun hab => absurd (eq_of_beq hab) nofun) (fun _ => ?_)
  exact wpAny_bind (rc_int_dict b u ho hu prog w E _ (wpAny_truthy_bool h))
theorem dict_no_str (l : Addr) (es : Array DictEntry) (n : Nat) (dd : Option Addr) (sl : Array (Option Value)) (b : Str) (u : Tok) :
    Meets (Builtin.«dict.__eq__» ⟨[.ref l, .str b u], []⟩) (fun _ R s => s.heap.get? l = some (dO es n dd sl) ∧ R (.ok (.ret .notImplemented)) s) :=
  .of_wp fun prog w A R s h => by obtain ⟨hp, g, d, tk, os⟩ := s; obtain ⟨hl, h⟩ := h; have f1 := F.sub_str_dict; wp_walk using wpAny_loadPart' hl, wpAny_load hl; exact ⟨_, rfl, h⟩
theorem str_no_dict (l : Addr) (es : Array DictEntry) (n : Nat) (dd : Option Addr) (sl : Array (Option Value)) (b : Str) (u : Tok) :
    Meets (Builtin.«str.__eq__» ⟨[.str b u, .ref l], []⟩) (fun _ R s => s.heap.get? l = some (dO es n dd sl) ∧ R (.ok (.ret .notImplemented)) s) :=
  .of_wp fun prog w A R s h => by obtain ⟨hp, g, d, tk, os⟩ := s; obtain ⟨hl, h⟩ := h; wp_walk using wpAny_loadPart' hl, wpAny_load hl; exact ⟨_, rfl, h⟩
theorem rc_dict_str {A : Around} {s : Shared} {l : Addr} {es : Array DictEntry} {n : Nat} {dd : Option Addr} {sl : Array (Option Value)} (b : Str) (u : Tok) (ho : s.heap.get? l = some (dO es n dd sl)) (hu : A.units < cLine) : RcAt A s (.ref l) (.str b u) false := fun prog w E Q h =>
  rc_eq_decline_or (k := false) ⟨_, ho, rfl⟩ (typeIs_str s b u) (by decide) F.sub_str_dict F.slot_dict_eq F.slot_str_eq_refl
    (fun _ hq => call_meets F.slot_dict_eq ⟨_, ho, rfl⟩ F.entry_dict_eq (F.args_dict_eq_2 _ _) (dict_no_str l es n dd sl b u) ⟨ho, hq⟩)
    (fun _ hq => call_meets F.slot_str_eq_refl (typeIs_str s b u) F.entry_str_eq (F.args_str_eq_2 _ _) (str_no_dict l es n dd sl b u) ⟨ho, hq⟩)
    (fun _ hq => wpAny_of_eq (rfl : isSame (.ref l) (.str b u) = pure false) hq) (.inr hu) h
theorem rc_str_dict {A : Around} {s : Shared} {l : Addr} {es : Array DictEntry} {n : Nat} {dd : Option Addr} {sl : Array (Option Value)} (b : Str) (u : Tok) (ho : s.heap.get? l = some (dO es n dd sl)) (hu : A.units < cLine) : RcAt A s (.str b u) (.ref l) false := fun prog w E Q h =>
  rc_eq_decline_or (k := false) (typeIs_str s b u) ⟨_, ho, rfl⟩ (by decide) F.sub_dict_str F.slot_str_eq F.slot_dict_eq_refl
    (fun _ hq => call_meets F.slot_str_eq (typeIs_str s b u) F.entry_str_eq (F.args_str_eq_2 _ _) (str_no_dict l es n dd sl b u) ⟨ho, hq⟩)
    (fun _ hq => call_meets F.slot_dict_eq_refl ⟨_, ho, rfl⟩ F.entry_dict_eq (F.args_dict_eq_2 _ _) (dict_no_str l es n dd sl b u) ⟨ho, hq⟩)
    (fun _ hq => wpAny_of_eq (rfl : isSame (.str b u) (.ref l) = pure false) hq) (.inr hu) h
theorem eq_dict_str {A : Around} {s : Shared} {l : Addr} {es : Array DictEntry} {n : Nat} {dd : Option Addr} {sl : Array (Option Value)} (b : Str) (u : Tok) (ho : s.heap.get? l = some (dO es n dd sl)) (hu : A.units < cLine) : EqAt A s (.ref l) (.str b u) false := fun prog w E Q h => by
  unfold eqBool
  refine wpAny_holding ?_
  refine wpAny_ite_split (fun hab => absurd (eq_of_beq hab) nofun) (fun _ => ?_)
  exact wpAny_bind (rc_dict_str b u ho hu prog w E _ (wpAny_truthy_bool h))
theorem eq_str_dict {A : Around} {s : Shared} {l : Addr} {es : Array DictEntry} {n : Nat} {dd : Option Addr} {sl : Array (Option Value)} (b : Str) (u : Tok) (ho : s.heap.get? l = some (dO es n dd sl)) (hu : A.units < cLine) : EqAt A s (.str b u) (.ref l) false := fun prog w E Q h => by
  unfold eqBool
  refine wpAny_holding ?_
  refine wpAny_ite_split (fun hab => absurd (eq_of_beq hab) nofun) (fun _ => ?_)
  exact wpAny_bind (rc_str_dict b u ho hu prog w E _ (wpAny_truthy_bool h))
theorem dict_no_list (l b : Addr) (es : Array DictEntry) (n : Nat) (dd : Option Addr) (sl : Array (Option Value)) (items : Array Value) (n2 : Nat) (dd2 : Option Addr) (sl2 : Array (Option Value)) :
    Meets (Builtin.«dict.__eq__» ⟨[.ref l, .ref b], []⟩) (fun _ R s => s.heap.get? l = some (dO es n dd sl) ∧ s.heap.get? b = some (sO "list" items n2 dd2 sl2) ∧ R (.ok (.ret .notImplemented)) s) :=
  .of_wp fun prog w A R s h => by obtain ⟨hp, g, d, tk, os⟩ := s; obtain ⟨hl, hb, h⟩ := h; have f1 := F.sub_list_dict; wp_walk using wpAny_loadPart' hl, wpAny_loadPart' hb; exact ⟨_, rfl, h⟩
theorem list_no_dict (l b : Addr) (es : Array DictEntry) (n : Nat) (dd : Option Addr) (sl : Array (Option Value)) (items : Array Value) (n2 : Nat) (dd2 : Option Addr) (sl2 : Array (Option Value)) :
    Meets (Builtin.«list.__eq__» ⟨[.ref b, .ref l], []⟩) (fun _ R s => s.heap.get? b = some (sO "list" items n2 dd2 sl2) ∧ s.heap.get? l = some (dO es n dd sl) ∧ R (.ok (.ret .notImplemented)) s) :=
  .of_wp fun prog w A R s h => by obtain ⟨hp, g, d, tk, os⟩ := s; obtain ⟨hl, hb, h⟩ := h; have f1 := F.sub_dict_list; wp_walk using wpAny_loadPart' hl, wpAny_loadPart' hb; exact ⟨_, rfl, h⟩
theorem ne_dict_list {h : Heap} {l b : Addr} {es : Array DictEntry} {n : Nat} {dd : Option Addr} {sl : Array (Option Value)} {items : Array Value} {n2 : Nat} {dd2 : Option Addr} {sl2 : Array (Option Value)} (ho : h.get? l = some (dO es n dd sl)) (hb : h.get? b = some (sO "list" items n2 dd2 sl2)) : l ≠ b := fun e => by
  rw [e, hb] at ho
  exact absurd (show Value.type "list" = Value.type "dict" from congrArg Obj.cls (Option.some.inj ho)) (by decide)
theorem eq_dict_list {A : Around} {s : Shared} {l b : Addr} {es : Array DictEntry} {n : Nat} {dd : Option Addr} {sl : Array (Option Value)} {items : Array Value} {n2 : Nat} {dd2 : Option Addr} {sl2 : Array (Option Value)} (ho : s.heap.get? l = some (dO es n dd sl)) (hb : s.heap.get? b = some (sO "list" items n2 dd2 sl2)) (hu : A.units < cLine) : EqAt A s (.ref l) (.ref b) false :=
  .of_refs (ne_dict_list ho hb) fun prog w E Q h => rc_eq_decline_or (k := false) ⟨_, ho, rfl⟩ ⟨_, hb, rfl⟩ (by decide) F.sub_list_dict F.slot_dict_eq F.slot_list_eq_refl
    (fun _ hq => call_meets F.slot_dict_eq ⟨_, ho, rfl⟩ F.entry_dict_eq (F.args_dict_eq_2 _ _) (dict_no_list l b es n dd sl items n2 dd2 sl2) ⟨ho, hb, hq⟩)
    (fun _ hq => call_meets F.slot_list_eq_refl ⟨_, hb, rfl⟩ F.entry_list_eq (F.args_list_eq_2 _ _) (list_no_dict l b es n dd sl items n2 dd2 sl2) ⟨hb, ho, hq⟩)
    (fun _ hq => wpAny_isSame_ref_other' (ne_dict_list ho hb) ho hb (by simp) hq) (.inr hu) h
theorem eq_list_dict {A : Around} {s : Shared} {l b : Addr} {es : Array DictEntry} {n : Nat} {dd : Option Addr} {sl : Array (Option Value)} {items : Array Value} {n2 : Nat} {dd2 : Option Addr} {sl2 : Array (Option Value)} (ho : s.heap.get? l = some (dO es n dd sl)) (hb : s.heap.get? b = some (sO "list" items n2 dd2 sl2)) (hu : A.units < cLine) : EqAt A s (.ref b) (.ref l) false :=
  .of_refs (Ne.symm (ne_dict_list ho hb)) fun prog w E Q h => rc_eq_decline_or (k := false) ⟨_, hb, rfl⟩ ⟨_, ho, rfl⟩ (by decide) F.sub_dict_list F.slot_list_eq F.slot_dict_eq_refl
    (fun _ hq => call_meets F.slot_list_eq ⟨_, hb, rfl⟩ F.entry_list_eq (F.args_list_eq_2 _ _) (list_no_dict l b es n dd sl items n2 dd2 sl2) ⟨hb, ho, hq⟩)
    (fun _ hq => call_meets F.slot_dict_eq_refl ⟨_, ho, rfl⟩ F.entry_dict_eq (F.args_dict_eq_2 _ _) (dict_no_list l b es n dd sl items n2 dd2 sl2) ⟨ho, hb, hq⟩)
    (fun _ hq => wpAny_isSame_ref_other' (Ne.symm (ne_dict_list ho hb)) hb ho (by simp) hq) (.inr hu) h
theorem dict_no_tuple (l b : Addr) (es : Array DictEntry) (n : Nat) (dd : Option Addr) (sl : Array (Option Value)) (items : Array Value) (n2 : Nat) (dd2 : Option Addr) (sl2 : Array (Option Value)) :
    Meets (Builtin.«dict.__eq__» ⟨[.ref l, .ref b], []⟩) (fun _ R s => s.heap.get? l = some (dO es n dd sl) ∧ s.heap.get? b = some (sO "tuple" items n2 dd2 sl2) ∧ R (.ok (.ret .notImplemented)) s) :=
  .of_wp fun prog w A R s h => by obtain ⟨hp, g, d, tk, os⟩ := s; obtain ⟨hl, hb, h⟩ := h; have f1 := F.sub_tuple_dict; wp_walk using wpAny_loadPart' hl, wpAny_loadPart' hb; exact ⟨_, rfl, h⟩
theorem tuple_no_dict (l b : Addr) (es : Array DictEntry) (n : Nat) (dd : Option Addr) (sl : Array (Option Value)) (items : Array Value) (n2 : Nat) (dd2 : Option Addr) (sl2 : Array (Option Value)) :
    Meets (Builtin.«tuple.__eq__» ⟨[.ref b, .ref l], []⟩) (fun _ R s => s.heap.get? b = some (sO "tuple" items n2 dd2 sl2) ∧ s.heap.get? l = some (dO es n dd sl) ∧ R (.ok (.ret .notImplemented)) s) :=
  .of_wp fun prog w A R s h => by obtain ⟨hp, g, d, tk, os⟩ := s; obtain ⟨hl, hb, h⟩ := h; have f1 := F.sub_dict_tuple; wp_walk using wpAny_loadPart' hl, wpAny_loadPart' hb; exact ⟨_, rfl, h⟩
theorem ne_dict_tuple {h : Heap} {l b : Addr} {es : Array DictEntry} {n : Nat} {dd : Option Addr} {sl : Array (Option Value)} {items : Array Value} {n2 : Nat} {dd2 : Option Addr} {sl2 : Array (Option Value)} (ho : h.get? l = some (dO es n dd sl)) (hb : h.get? b = some (sO "tuple" items n2 dd2 sl2)) : l ≠ b := fun e => by
  rw [e, hb] at ho
  exact absurd (show Value.type "tuple" = Value.type "dict" from congrArg Obj.cls (Option.some.inj ho)) (by decide)
theorem eq_dict_tuple {A : Around} {s : Shared} {l b : Addr} {es : Array DictEntry} {n : Nat} {dd : Option Addr} {sl : Array (Option Value)} {items : Array Value} {n2 : Nat} {dd2 : Option Addr} {sl2 : Array (Option Value)} (ho : s.heap.get? l = some (dO es n dd sl)) (hb : s.heap.get? b = some (sO "tuple" items n2 dd2 sl2)) (hu : A.units < cLine) : EqAt A s (.ref l) (.ref b) false :=
  .of_refs (ne_dict_tuple ho hb) fun prog w E Q h => rc_eq_decline_or (k := false) ⟨_, ho, rfl⟩ ⟨_, hb, rfl⟩ (by decide) F.sub_tuple_dict F.slot_dict_eq F.slot_tuple_eq_refl
    (fun _ hq => call_meets F.slot_dict_eq ⟨_, ho, rfl⟩ F.entry_dict_eq (F.args_dict_eq_2 _ _) (dict_no_tuple l b es n dd sl items n2 dd2 sl2) ⟨ho, hb, hq⟩)
    (fun _ hq => call_meets F.slot_tuple_eq_refl ⟨_, hb, rfl⟩ F.entry_tuple_eq (F.args_tuple_eq_2 _ _) (tuple_no_dict l b es n dd sl items n2 dd2 sl2) ⟨hb, ho, hq⟩)
    (fun _ hq => wpAny_isSame_ref_other (ne_dict_tuple ho hb) ho hb (by simp) hq) (.inr hu) h
theorem eq_tuple_dict {A : Around} {s : Shared} {l b : Addr} {es : Array DictEntry} {n : Nat} {dd : Option Addr} {sl : Array (Option Value)} {items : Array Value} {n2 : Nat} {dd2 : Option Addr} {sl2 : Array (Option Value)} (ho : s.heap.get? l = some (dO es n dd sl)) (hb : s.heap.get? b = some (sO "tuple" items n2 dd2 sl2)) (hu : A.units < cLine) : EqAt A s (.ref b) (.ref l) false :=
  .of_refs (Ne.symm (ne_dict_tuple ho hb)) fun prog w E Q h => rc_eq_decline_or (k := false) ⟨_, hb, rfl⟩ ⟨_, ho, rfl⟩ (by decide) F.sub_dict_tuple F.slot_tuple_eq F.slot_dict_eq_refl
    (fun _ hq => call_meets F.slot_tuple_eq ⟨_, hb, rfl⟩ F.entry_tuple_eq (F.args_tuple_eq_2 _ _) (tuple_no_dict l b es n dd sl items n2 dd2 sl2) ⟨hb, ho, hq⟩)
    (fun _ hq => call_meets F.slot_dict_eq_refl ⟨_, ho, rfl⟩ F.entry_dict_eq (F.args_dict_eq_2 _ _) (dict_no_tuple l b es n dd sl items n2 dd2 sl2) ⟨ho, hb, hq⟩)
    (fun _ hq => wpAny_isSame_ref_other' (Ne.symm (ne_dict_tuple ho hb)) hb ho (by simp) hq) (.inr hu) h
end Mine
end TEq
section TEr
open PySem PySem.W PySem.Calls PyProof.Rows
set_option maxRecDepth 100000
set_option maxHeartbeats 8000000
open PySem.SeqAt
namespace Mine
noncomputable def eqD (a b : Dt) : Bool := @decide (a = b) (Classical.propDecidable _)
noncomputable def eqL (a b : List Dt) : Bool := @decide (a = b) (Classical.propDecidable _)
theorem eqD_iff (a b : Dt) : eqD a b = true ↔ a = b := @decide_eq_true_iff _ (Classical.propDecidable _)
theorem eqL_iff (a b : List Dt) : eqL a b = true ↔ a = b := @decide_eq_true_iff _ (Classical.propDecidable _)
theorem eqD_no {a b : Dt} (h : a ≠ b) : eqD a b = false := Bool.eq_false_iff.mpr fun q => h ((eqD_iff a b).mp q)
theorem eqD_str (x y : Str) : eqD (.str x) (.str y) = (x == y) := by rw [Bool.eq_iff_iff, eqD_iff, Dt.str.injEq, beq_iff_eq]
theorem eqD_int (x y : Int) : eqD (.int x) (.int y) = (x == y) := by rw [Bool.eq_iff_iff, eqD_iff, Dt.int.injEq, beq_iff_eq]
theorem eqD_lst (a b : List Dt) : eqD (.lst a) (.lst b) = eqL a b := by rw [Bool.eq_iff_iff, eqD_iff, eqL_iff, Dt.lst.injEq]
theorem eqD_tup (a b : List Dt) : eqD (.tup a) (.tup b) = eqL a b := by rw [Bool.eq_iff_iff, eqD_iff, eqL_iff, Dt.tup.injEq]
theorem eqD_dct (k k' : Int) (v v' : Dt) : eqD (.dct k v) (.dct k' v') = ((k == k') && eqD v v') := by rw [Bool.eq_iff_iff, eqD_iff, Dt.dct.injEq, Bool.and_eq_true, beq_iff_eq, eqD_iff]
theorem eqL_cons (a b : Dt) (r t : List Dt) : eqL (a :: r) (b :: t) = (eqD a b && eqL r t) := by rw [Bool.eq_iff_iff, eqL_iff, List.cons.injEq, Bool.and_eq_true, eqD_iff, eqL_iff]
theorem eqL_all : ∀ (ds es : List Dt), ds.length = es.length → (List.range ds.length).all (fun j => match ds[j]?, es[j]? with | some d, some e => eqD d e | _, _ => false) = eqL ds es
  | [], [], _ => ((eqL_iff _ _).mpr rfl).symm
  | d :: ds, e :: es, h => by
    rw [List.length_cons, List.range_succ_eq_map, List.all_cons, List.all_map]
    have := eqL_all ds es (Nat.succ.inj h)
    show (eqD d e && _) = _
    rw [eqL_cons, ← this]
    rfl
theorem eqL_len (ds es : List Dt) (h : ds.length ≠ es.length) : eqL ds es = false := Bool.eq_false_iff.mpr fun q => h (congrArg List.length ((eqL_iff ds es).mp q))
theorem eqL_min : ∀ (ds es : List Dt), ((List.range (min ds.length es.length)).all (fun j => match ds[j]?, es[j]? with | some d, some e => eqD d e | _, _ => false) && (ds.length == es.length)) = eqL ds es := by
  intro ds es
  by_cases h : ds.length = es.length
  · rw [h, Nat.min_self, beq_self_eq_true, Bool.and_true, ← h]
    exact eqL_all ds es h
  · rw [beq_eq_false_iff_ne.mpr h, Bool.and_false, eqL_len ds es h]
theorem repL_at {w : World} {h : Heap} : ∀ {vs : List Value} {ds : List Dt} {j : Nat} {v : Value}, RepL w h vs ds → vs[j]? = some v → ∃ d, ds[j]? = some d ∧ Rep w h v d
  | _, _, _, _, .nil, e => nomatch e
  | _, _, 0, _, .cons a b, e => by cases e; exact ⟨_, rfl, a⟩
  | _, _, j + 1, _, .cons a b, e => repL_at b (j := j) e
theorem is_int_uniq {w : World} {v : Value} {k k' : Int} (a : (intKind prog w).is k v = true) (b : (intKind prog w).is k' v = true) : k = k' := Value.isInt_inj v k k' a b
mutual
theorem rep_uniq {w : World} {h : Heap} : ∀ {v : Value} {d e : Dt}, Rep w h v d → Rep w h v e → d = e
  | _, _, _, .str x t, r => by cases r; rfl
  | _, _, _, .int i t, r => by cases r; rfl
  | _, _, _, .lst a b c, r => by
    cases r with
    | lst a' b' c' =>
      rw [b] at b'
      have e1 := congrArg Obj.data (Option.some.inj b')
      injection e1 with e2 _
      rw [List.toArray_inj e2] at c
      rw [repL_uniq c c']
    | tup b' c' =>
      rw [b] at b'
      exact absurd (show Value.type "list" = Value.type "tuple" from congrArg Obj.cls (Option.some.inj b')) (by decide)
    | dct a' b' c' =>
      obtain ⟨o, es, ep, ho, hx, _⟩ := b'
      rw [b] at ho
      cases ho
      exact absurd (show Value.type "list" = Value.type "dict" from hx.1) (by decide)
  | _, _, _, .tup b c, r => by
    cases r with
    | lst a' b' c' =>
      rw [b] at b'
      exact absurd (show Value.type "tuple" = Value.type "list" from congrArg Obj.cls (Option.some.inj b')) (by decide)
    | tup b' c' =>
      rw [b] at b'
      have e1 := congrArg Obj.data (Option.some.inj b')
      injection e1 with e2 _
      rw [List.toArray_inj e2] at c
      rw [repL_uniq c c']
    | dct a' b' c' =>
      obtain ⟨o, es, ep, ho, hx, _⟩ := b'
      rw [b] at ho
      cases ho
      exact absurd (show Value.type "tuple" = Value.type "dict" from hx.1) (by decide)
  | _, _, _, .dct a b c, r => by
    cases r with
    | lst a' b' c' =>
      obtain ⟨o, es, ep, ho, hx, _⟩ := b
      rw [b'] at ho
      cases ho
      exact absurd (show Value.type "list" = Value.type "dict" from hx.1) (by decide)
    | tup b' c' =>
      obtain ⟨o, es, ep, ho, hx, _⟩ := b
      rw [b'] at ho
      cases ho
      exact absurd (show Value.type "tuple" = Value.type "dict" from hx.1) (by decide)
    | dct a' b' c' =>
      obtain ⟨o, es, ep, ho, hx, hd, _, hp, _⟩ := b
      obtain ⟨o', es', ep', ho', hx', hd', _, hp', _⟩ := b'
      rw [ho] at ho'
      cases ho'
      rw [hd] at hd'
      cases hd'
      obtain ⟨l, hl⟩ : ∃ l, es.toList = l := ⟨_, rfl⟩
      rw [hl] at hp hp'
      cases hp with
      | cons i1 i2 i3 =>
        cases i3
        cases hp' with
        | cons j1 j2 j3 =>
          cases is_int_uniq i1 j1
          have e9 : _ = _ := i2.symm.trans j2
          dsimp only at e9
          subst e9
          rw [rep_uniq c c']
theorem repL_uniq {w : World} {h : Heap} : ∀ {vs : List Value} {ds es : List Dt}, RepL w h vs ds → RepL w h vs es → ds = es
  | _, _, _, .nil, r => by cases r; rfl
  | _, _, _, .cons a b, r => by
    cases r with
    | cons a' b' => rw [rep_uniq a a', repL_uniq b b']
end
theorem dict_any {w w' : World} {p' : Program} {h : Heap} {a : Addr} {k : Int} {v : Value} (r : h.DictOf (intKind prog w) a [(k, v)]) : h.DictOf (intKind p' w') a [(k, v)] := by
  obtain ⟨o, es, ep, ho, hx, hd, hk, hp, hn⟩ := r
  refine ⟨o, es, ep, ho, hx, hd, hk, ?_, hn⟩
  obtain ⟨l, hl⟩ : ∃ l, es.toList = l := ⟨_, rfl⟩
  rw [hl] at hp ⊢
  cases hp with
  | cons i1 i2 i3 => cases i3; exact .cons i1 i2 .nil
theorem eqAt_no {A : Around} {s : Shared} {a b : Value} {d e : Dt} (h : d ≠ e) (k : EqAt A s a b false) : EqAt A s a b (eqD d e) := by
  rw [eqD_no h]; exact k
theorem eq_str_any {w : World} {A : Around} {s : Shared} {x : Str} {t : Tok} {b : Value} {e : Dt} (rb : Rep w s.heap b e) (hu : A.units < cLine) : EqAt A s (.str x t) b (eqD (.str x) e) := by
  cases rb with
  | str y u => rw [eqD_str]; exact EqAt.str_str x t y u
  | int y u => exact eqAt_no (fun h => nomatch h) (EqAt.str_int x t y u)
  | lst _ k _ => exact eqAt_no (fun h => nomatch h) (EqAt.str_list x t (islist_of k) (by lia))
  | tup k _ => exact eqAt_no (fun h => nomatch h) (EqAt.str_tuple x t (istup_of k) (by lia))
  | dct _ k _ =>
    obtain ⟨o, es, ep, ho, hx, hdt, _⟩ := k
    obtain ⟨c, dd, data, sl⟩ := o
    cases hx.1; cases hdt
    exact eqAt_no (fun h => nomatch h) (eq_str_dict x t ho (by lia))
theorem eq_int_any {w : World} {A : Around} {s : Shared} {x : Int} {t : Tok} {b : Value} {e : Dt} (rb : Rep w s.heap b e) (hu : A.units < cLine) : EqAt A s (.int x t) b (eqD (.int x) e) := by
  cases rb with
  | str y u => exact eqAt_no (fun h => nomatch h) (EqAt.int_str x t y u)
  | int y u => rw [eqD_int]; exact EqAt.int_int x t y u
  | lst _ k _ => exact eqAt_no (fun h => nomatch h) (EqAt.int_list x t (islist_of k) (by lia))
  | tup k _ => exact eqAt_no (fun h => nomatch h) (EqAt.int_tuple x t (istup_of k) (by lia))
  | dct _ k _ =>
    obtain ⟨o, es, ep, ho, hx, hdt, _⟩ := k
    obtain ⟨c, dd, data, sl⟩ := o
    cases hx.1; cases hdt
    exact eqAt_no (fun h => nomatch h) (eq_int_dict x t ho (by lia))
theorem eq_rep {w : World} : ∀ (n : Nat) (A : Around) (s : Shared) (a b : Value) (d e : Dt), d.dep ≤ n → Rep w s.heap a d → Rep w s.heap b e → A.units + n < cLine → EqAt A s a b (eqD d e) := by
  intro n
  induction n with
  | zero =>
    intro A s a b d e hd ra rb hu
    cases ra with
    | str x t => exact eq_str_any rb (by lia)
    | int x t => exact eq_int_any rb (by lia)
    | lst _ _ _ => exact absurd hd (Nat.not_succ_le_zero _)
    | tup _ _ => exact absurd hd (Nat.not_succ_le_zero _)
    | dct _ _ _ => exact absurd hd (Nat.not_succ_le_zero _)
  | succ n ih =>
    intro A s a b d e hd ra rb hu
    cases ra with
    | str x t => exact eq_str_any rb (by lia)
    | int x t => exact eq_int_any rb (by lia)
    | @lst a1 n1 vs ds h1 k1 r1 =>
      cases rb with
      | str y u => exact eqAt_no (fun h => nomatch h) (EqAt.list_str y u (islist_of k1) (by lia))
      | int y u => exact eqAt_no (fun h => nomatch h) (EqAt.list_int y u (islist_of k1) (by lia))
      | tup k _ => exact eqAt_no (fun h => nomatch h) (EqAt.list_tuple (islist_of k1) (istup_of k) (by lia))
      | dct _ k _ =>
        obtain ⟨o, es, ep, ho, hx, hdt, _⟩ := k
        obtain ⟨c, dd, data, sl⟩ := o
        cases hx.1; cases hdt
        exact eqAt_no (fun h => nomatch h) (eq_list_dict ho k1 (by lia))
      | @lst b1 n2 us es h2 k2 r2 =>
        by_cases hab : a1 = b1
        · subst hab
          have e1 := rep_uniq (Rep.lst h1 k1 r1) (Rep.lst h2 k2 r2)
          rw [← e1, (eqD_iff (.lst ds) (.lst ds)).mpr rfl]
          exact EqAt.same _
        · rw [eqD_lst]
          have l1 := r1.length
          have l2 := r2.length
          by_cases hlen : ds.length = es.length
          · have := RcAt.lists (A := A) (e := fun j => match ds[j]?, es[j]? with | some d, some e => eqD d e | _, _ => false) (islist_of k1) (islist_of k2) (by rw [List.size_toArray, List.size_toArray]; lia) (by lia) (fun j j1 j2 => by
              obtain ⟨d1, g1, q1⟩ := repL_at r1 (j := j) (v := vs.toArray[j]) (by rw [← List.getElem?_toArray]; exact Array.getElem?_eq_getElem j1)
              obtain ⟨d2, g2, q2⟩ := repL_at r2 (j := j) (v := us.toArray[j]) (by rw [← List.getElem?_toArray]; exact Array.getElem?_eq_getElem j2)
              rw [g1, g2]
              exact ih A.in1 s _ _ d1 d2 (Nat.le_trans (depL_mem (List.mem_of_getElem? g1)) (Nat.le_of_succ_le_succ hd)) q1 q2 (by show A.units + 1 + n < cLine; lia))
            rw [List.size_toArray, l1, eqL_all ds es hlen] at this
            exact .of_refs hab this
          · have := RcAt.lists_lengths (A := A) (islist_of k1) (islist_of k2) (by rw [List.size_toArray, List.size_toArray, l1, l2]; simpa using hlen) (by lia)
            rw [eqL_len ds es hlen]
            exact .of_refs hab this
    | @tup a1 vs ds k1 r1 =>
      cases rb with
      | str y u => exact eqAt_no (fun h => nomatch h) (EqAt.tuple_str y u (istup_of k1) (by lia))
      | int y u => exact eqAt_no (fun h => nomatch h) (EqAt.tuple_int y u (istup_of k1) (by lia))
      | lst _ k _ => exact eqAt_no (fun h => nomatch h) (EqAt.tuple_list (istup_of k1) (islist_of k) (by lia))
      | dct _ k _ =>
        obtain ⟨o, es, ep, ho, hx, hdt, _⟩ := k
        obtain ⟨c, dd, data, sl⟩ := o
        cases hx.1; cases hdt
        exact eqAt_no (fun h => nomatch h) (eq_tuple_dict ho k1 (by lia))
      | @tup b1 us es k2 r2 =>
        by_cases hab : a1 = b1
        · subst hab
          have e1 := rep_uniq (Rep.tup k1 r1) (Rep.tup k2 r2)
          rw [← e1, (eqD_iff (.tup ds) (.tup ds)).mpr rfl]
          exact EqAt.same _
        · rw [eqD_tup]
          have l1 := r1.length
          have l2 := r2.length
          have := RcAt.tuples (A := A) (e := fun j => match ds[j]?, es[j]? with | some d, some e => eqD d e | _, _ => false) (istup_of k1) (istup_of k2) (by lia) (fun j j1 j2 => by
              obtain ⟨d1, g1, q1⟩ := repL_at r1 (j := j) (v := vs.toArray[j]) (by rw [← List.getElem?_toArray]; exact Array.getElem?_eq_getElem j1)
              obtain ⟨d2, g2, q2⟩ := repL_at r2 (j := j) (v := us.toArray[j]) (by rw [← List.getElem?_toArray]; exact Array.getElem?_eq_getElem j2)
              rw [g1, g2]
              exact ih A.in1 s _ _ d1 d2 (Nat.le_trans (depL_mem (List.mem_of_getElem? g1)) (Nat.le_of_succ_le_succ hd)) q1 q2 (by show A.units + 1 + n < cLine; lia))
          rw [List.size_toArray, List.size_toArray, l1, l2, eqL_min ds es] at this
          exact .of_refs hab this
    | @dct a1 k v d h1 k1 r1 =>
      obtain ⟨o, es, ep, ho, hx, hdt, hrest⟩ := id k1
      obtain ⟨c, dd, data, sl⟩ := o
      cases hx.1; cases hdt
      cases rb with
      | str y u => exact eqAt_no (fun h => nomatch h) (eq_dict_str y u ho (by lia))
      | int y u => exact eqAt_no (fun h => nomatch h) (eq_dict_int y u ho (by lia))
      | lst _ k _ => exact eqAt_no (fun h => nomatch h) (eq_dict_list ho k (by lia))
      | tup k _ => exact eqAt_no (fun h => nomatch h) (eq_dict_tuple ho k (by lia))
      | @dct b1 k' v' d' h2 k2 r2 =>
        by_cases hab : a1 = b1
        · subst hab
          have e1 := rep_uniq (Rep.dct h1 k1 r1) (Rep.dct h2 k2 r2)
          rw [← e1, (eqD_iff (.dct k d) (.dct k d)).mpr rfl]
          exact EqAt.same _
        · refine .of_refs hab fun p' w' E Q hq => ?_
          have hin := ih A.in1 s v v' d d' (Nat.le_of_succ_le_succ hd) r1 r2 (by show A.units + 1 + n < cLine; lia)
          refine keq_eq (r := eqD (.dct k d) (.dct k' d')) (by simpa using h1) (by simpa using h2) (dict_any (p' := p') (w' := w') k1) (dict_any k2) (by lia) (fun _ => ?_) ?_
          · rw [eqD_dct]
            by_cases hk : k = k'
            · subst hk
              have hh := KeqHits.hit (kb := [(k, v')]) (k := k) (v := v) (r := []) (y := v') (by simp [valueAt]) hin .nil
              rw [Bool.and_true] at hh
              rw [beq_self_eq_true, Bool.true_and]
              exact hh
            · rw [beq_eq_false_iff_ne.mpr hk, Bool.false_and]
              exact .miss (by simp [valueAt, hk, Ne.symm hk])
          · exact hq
end Mine
end TEr
section TZp
open PySem PySem.W PySem.Calls PyProof.Rows
set_option maxRecDepth 100000
set_option maxHeartbeats 8000000
open PySem.F
namespace Mine
theorem typeCall_zip_3 (a b c : Value) : checkTypeCall "zip" ⟨[a, b, c], []⟩ = pure () := by kernel_rfl
theorem newCall_zip_3 (a b c : Value) : checkBuiltinCall "zip.__new__" ⟨[.type "zip", a, b, c], []⟩ = pure () := by kernel_rfl
theorem args_object_init_4 (a b c d : Value) : argsOk "object.__init__" ⟨[a, b, c, d], []⟩ := by
  unfold argsOk; rw [signature?_of (id := "object.__init__") (n := ['_', '_', 't', 'i', 'n', 'i', '_', '_']) (o := ['t', 'c', 'e', 'j', 'b', 'o']) (by kernel_rfl) owner_object]; kernel_rfl
noncomputable abbrev IsTrip (h : Heap) (T : Addr) (a b c : Value) : Prop := h.get? T = some { cls := .type "tuple", data := .seq #[a, b, c] }
structure Z3 (h : Heap) (n : Nat) (f0 : Value) (l1 l2 l3 : Nat) (k : Nat) : Prop where
  z : IsZip h (n + 5) (n + 3) (n + 4) f0
  ti : IsTrip h (n + 3) (.ref n) (.ref (n + 1)) (.ref (n + 2))
  to : ∃ a b c, IsTrip h (n + 4) a b c
  i1 : h.IsListIter n l1 k
  i2 : h.IsListIter (n + 1) l2 k
  i3 : h.IsTupleIter (n + 2) l3 k
noncomputable abbrev z3wr (n : Nat) : List Nat := [n, n + 1, n + 2, n + 4, n + 5]
section
variable {w : World} {A : Around} {E : Value → Shared → Prop} {s : Shared}
theorem updateSeq_trip {prog : Program} {T : Addr} {a b c x : Value} {k : Nat} {Q : Unit → Shared → Prop} (hT : IsTrip s.heap T a b c)
    (h : ∀ h', h'.get? T = some { cls := .type "tuple", data := .seq ((#[a, b, c] : Array Value).setIfInBounds k x) } → Heap.SameBut T s.heap h' → Q () { s with heap := h' }) :
    wpAny (model prog w) A (updateSeq T (·.setIfInBounds k x)) Q E s := by
  refine wpAny_updateSeq hT rfl (h _ ?_ (Heap.SameBut.update ..))
  rw [Heap.get?_update_self _ hT rfl]
  simp [Obj.mapSeq]
theorem zip3_next_item {prog : Program} {n l1 l2 l3 : Nat} {k : Nat} {xs ys zs : Array Value} {x y v : Value} {Q : Value → Shared → Prop} (Z : Z3 s.heap n .none l1 l2 l3 k) (h1 : l1 < n) (h2 : l2 < n) (h3 : l3 < n)
    (hl1 : s.heap.IsList l1 xs) (hl2 : s.heap.IsList l2 ys) (hl3 : s.heap.IsTuple l3 zs) (hx : xs[k]? = some x) (hy : ys[k]? = some y) (hz : zs[k]? = some v)
    (hQ : ∀ h', Z3 h' n (rawInt s.heap.objs.size) l1 l2 l3 (k + 1) → IsTrip h' s.heap.objs.size x y v → h'.objs.size = s.heap.objs.size + 1 →
      (∀ c o, c ∉ z3wr n → s.heap.get? c = some o → h'.get? c = some o) → Q (.ref s.heap.objs.size) { s with heap := h' }) :
    wpAny (model prog w) A (Builtin.«zip.__next__» ⟨[.ref (n + 5)], []⟩) (fun fin s' => ∃ v, fin = .done (.ret v) ∧ Q v s') E s := by
  have e54 : n + 5 ≠ n + 4 := by lia
  have e53 : n + 5 ≠ n + 3 := by lia
  have e52 : n + 5 ≠ n + 2 := by lia
  have e51 : n + 5 ≠ n + 1 := by lia
  have e50 : n + 5 ≠ n := by lia
  have e43 : n + 4 ≠ n + 3 := by lia
  have e42 : n + 4 ≠ n + 2 := by lia
  have e41 : n + 4 ≠ n + 1 := by lia
  have e40 : n + 4 ≠ n := by lia
  have e32 : n + 3 ≠ n + 2 := by lia
  have e31 : n + 3 ≠ n + 1 := by lia
  have e30 : n + 3 ≠ n := by lia
  have e21 : n + 2 ≠ n + 1 := by lia
  have e20 : n + 2 ≠ n := by lia
  have e10 : n + 1 ≠ n := by lia
  have f1 : ∀ j : Nat, l1 ≠ n + j := fun j => by lia
  have f2 : ∀ j : Nat, l2 ≠ n + j := fun j => by lia
  have f3 : ∀ j : Nat, l3 ≠ n + j := fun j => by lia
  have f20 : l2 ≠ n := f2 0
  have f30 : l3 ≠ n := f3 0
  obtain ⟨a, b, c, hTO⟩ := Z.to
  show wpAny _ _ (field (.ref (n + 5)) 2 >>= _) _ _ _
  refine wpAny_bind (wpAny_field Z.z rfl (x := .bool false) rfl ?_)
  show wpAny _ _ (field (.ref (n + 5)) 3 >>= _) _ _ _
  refine wpAny_bind (wpAny_field Z.z rfl (x := .ref (n + 3)) rfl ?_)
  refine wpAny_bind (wpAny_seqItems Z.ti rfl ?_)
  show wpAny _ _ (Builtin.SmallTypes.ownedTupleIsFree (.ref (n + 5)) >>= _) _ _ _
  refine wpAny_bind ?_
  unfold Builtin.SmallTypes.ownedTupleIsFree
  refine wpAny_bind (wpAny_field Z.z rfl (x := .none) rfl (wpAny_pure ?_))
  simp only [if_true]
  refine wpAny_bind (wpAny_rule ?_)
  refine wpAny_bind (wpAny_field Z.z rfl (x := .ref (n + 4)) rfl ?_)
  refine wpAny_bind (wpAny_setField_rec Z.z (by simp) fun h₁ hz₁ hs₁ => ?_)
  replace hz₁ : IsZip h₁ (n + 5) (n + 3) (n + 4) .ellipsis := hz₁
  refine wpAny_bind ?_
  simp only [List.zipIdx_cons, List.zipIdx_nil, List.forIn_cons, List.forIn_nil]
  refine wpAny_bind (wpAny_bind (wpAny_onRaise ?_))
  show wpAny _ _ (Builtin.SmallTypes.nextOf (.ref n) >>= _) _ _ _
  refine wpAny_bind (wpAny_nextOf_list_item (Z.i1.extBut hs₁.extBut e50.symm) (hl1.extBut hs₁.extBut (f1 5)) hx fun h₂ h1₂ hs₂ => wpAny_pure ?_)
  have hTO₂ : IsTrip h₂ (n + 4) a b c := hs₂.extBut _ _ e40 (hs₁.extBut _ _ e54.symm hTO)
  refine wpAny_bind (wpAny_seqItems hTO₂ rfl ?_)
  refine wpAny_bind (updateSeq_trip hTO₂ fun h₃ hTO₃ hs₃ => ?_)
  replace hTO₃ : IsTrip h₃ (n + 4) x b c := hTO₃
  refine wpAny_bind (wpAny_letGo (wpAny_pure ?_))
  refine wpAny_bind (wpAny_bind (wpAny_onRaise ?_))
  show wpAny _ _ (Builtin.SmallTypes.nextOf (.ref (n + 1)) >>= _) _ _ _
  refine wpAny_bind (wpAny_nextOf_list_item (((Z.i2.extBut hs₁.extBut e51.symm).extBut hs₂.extBut e10).extBut hs₃.extBut e41.symm)
    (((hl2.extBut hs₁.extBut (f2 5)).extBut hs₂.extBut f20).extBut hs₃.extBut (f2 4)) hy fun h₄ h2₄ hs₄ => wpAny_pure ?_)
  have hTO₄ : IsTrip h₄ (n + 4) x b c := hs₄.extBut _ _ e41 hTO₃
  refine wpAny_bind (wpAny_seqItems hTO₄ rfl ?_)
  refine wpAny_bind (updateSeq_trip hTO₄ fun h₅ hTO₅ hs₅ => ?_)
  replace hTO₅ : IsTrip h₅ (n + 4) x y c := hTO₅
  refine wpAny_bind (wpAny_letGo (wpAny_pure ?_))
  refine wpAny_bind (wpAny_bind (wpAny_onRaise ?_))
  show wpAny _ _ (Builtin.SmallTypes.nextOf (.ref (n + 2)) >>= _) _ _ _
  refine wpAny_bind (nextOf_tuple_item (((((Z.i3.extBut hs₁.extBut e52.symm).extBut hs₂.extBut e20).extBut hs₃.extBut e42.symm).extBut hs₄.extBut e21).extBut hs₅.extBut e42.symm)
    (((((hl3.extBut hs₁.extBut (f3 5)).extBut hs₂.extBut f30).extBut hs₃.extBut (f3 4)).extBut hs₄.extBut (f3 1)).extBut hs₅.extBut (f3 4)) hz fun h₆ h3₆ hs₆ => wpAny_pure ?_)
  have hTO₆ : IsTrip h₆ (n + 4) x y c := hs₆.extBut _ _ e42 hTO₅
  refine wpAny_bind (wpAny_seqItems hTO₆ rfl ?_)
  refine wpAny_bind (updateSeq_trip hTO₆ fun h₇ hTO₇ hs₇ => ?_)
  replace hTO₇ : IsTrip h₇ (n + 4) x y v := hTO₇
  refine wpAny_bind (wpAny_letGo (wpAny_pure (wpAny_pure ?_)))
  refine wpAny_bind (wpAny_seqItems hTO₇ rfl ?_)
  refine wpAny_bind (wpAny_newTuple ?_)
  have hsz : h₇.objs.size = s.heap.objs.size := by rw [hs₇.1, hs₆.1, hs₅.1, hs₄.1, hs₃.1, hs₂.1, hs₁.1]
  have hk₇ : ∀ c o, c ∉ z3wr n → s.heap.get? c = some o → h₇.get? c = some o := fun c o hc e => by
    simp only [z3wr, List.mem_cons, List.not_mem_nil, not_or, or_false] at hc
    exact hs₇.extBut _ _ hc.2.2.2.1 (hs₆.extBut _ _ hc.2.2.1 (hs₅.extBut _ _ hc.2.2.2.1 (hs₄.extBut _ _ hc.2.1 (hs₃.extBut _ _ hc.2.2.2.1 (hs₂.extBut _ _ hc.1 (hs₁.extBut _ _ hc.2.2.2.2 e))))))
  have hz₇ : IsZip h₇ (n + 5) (n + 3) (n + 4) .ellipsis := hs₇.extBut _ _ e54 (hs₆.extBut _ _ e52 (hs₅.extBut _ _ e54 (hs₄.extBut _ _ e51 (hs₃.extBut _ _ e54 (hs₂.extBut _ _ e50 hz₁)))))
  have hti₇ : IsTrip h₇ (n + 3) (.ref n) (.ref (n + 1)) (.ref (n + 2)) := hk₇ _ _ (by simp [z3wr]) Z.ti
  have h1₇ : h₇.IsListIter n l1 (k + 1) := ((((h1₂.extBut hs₃.extBut e40.symm).extBut hs₄.extBut e10.symm).extBut hs₅.extBut e40.symm).extBut hs₆.extBut e20.symm).extBut hs₇.extBut e40.symm
  have h2₇ : h₇.IsListIter (n + 1) l2 (k + 1) := ((h2₄.extBut hs₅.extBut e41.symm).extBut hs₆.extBut e21.symm).extBut hs₇.extBut e41.symm
  have h3₇ : h₇.IsTupleIter (n + 2) l3 (k + 1) := h3₆.extBut hs₇.extBut e42.symm
  have hzlt : n + 5 < h₇.objs.size := Heap.lt_size hz₇
  show wpAny _ _ (Builtin.SmallTypes.ownedTupleHandOut (.ref (n + 5)) (.ref h₇.objs.size) >>= _) _ _ _
  refine wpAny_bind ?_
  unfold Builtin.SmallTypes.ownedTupleHandOut
  have hz₈ : IsZip (h₇.push { cls := .type "tuple", data := .seq #[x, y, v] }) (n + 5) (n + 3) (n + 4) .ellipsis := Heap.get?_push_of_some _ hz₇
  refine wpAny_bind (wpAny_setField_rec hz₈ (by simp) fun h₉ hz₉ hs₉ => ?_)
  replace hz₉ : IsZip h₉ (n + 5) (n + 3) (n + 4) (rawInt h₇.objs.size) := hz₉
  refine wpAny_setField_rec hz₉ (by simp) fun h₁₀ hz₁₀ hs₁₀ => ?_
  replace hz₁₀ : IsZip h₁₀ (n + 5) (n + 3) (n + 4) (rawInt h₇.objs.size) := hz₁₀
  have up : ∀ c o, c ≠ n + 5 → h₇.get? c = some o → h₁₀.get? c = some o := fun c o c1 e => hs₁₀.extBut _ _ c1 (hs₉.extBut _ _ c1 (Heap.get?_push_of_some _ e))
  have hT₁₀ : IsTrip h₁₀ h₇.objs.size x y v := hs₁₀.extBut _ _ (Nat.ne_of_gt hzlt) (hs₉.extBut _ _ (Nat.ne_of_gt hzlt) (Heap.get?_push_size _ rfl))
  have hz10 : h₁₀.objs.size = h₇.objs.size + 1 := by rw [hs₁₀.1, hs₉.1, Heap.size_push]
  rw [hsz] at hz₁₀ hT₁₀ hz10
  refine wpAny_pure ⟨_, rfl, ?_⟩
  show Q (.ref h₇.objs.size) _
  rw [hsz]
  refine hQ h₁₀ ⟨hz₁₀, up _ _ e53.symm hti₇, ⟨_, _, _, up _ _ e54.symm hTO₇⟩, h1₇.at fun o e => up _ o e50.symm e, h2₇.at fun o e => up _ o e51.symm e, h3₇.at fun o e => up _ o e52.symm e⟩ hT₁₀ hz10 fun c o hc e => up c o ?_ (hk₇ c o hc e)
  simp only [z3wr, List.mem_cons, List.not_mem_nil, not_or, or_false] at hc
  exact hc.2.2.2.2
end
end Mine
end TZp
section TZq
open PySem PySem.W PySem.Calls PyProof.Rows
set_option maxRecDepth 100000
set_option maxHeartbeats 8000000
open PySem.F
namespace Mine
section
variable {w : World} {A : Around} {E : Value → Shared → Prop} {s : Shared}
theorem zip3_next_end {prog : Program} {n l1 l2 l3 : Nat} {k : Nat} {xs : Array Value} {Q : Fin → Shared → Prop} (hh : A.handled = none) (Z : Z3 s.heap n .none l1 l2 l3 k) (h1 : l1 < n)
    (hl1 : s.heap.IsList l1 xs) (hx : xs[k]? = none)
    (hE : ∀ h' e, (∀ c o, c ∉ z3wr n → s.heap.get? c = some o → h'.get? c = some o) → (∃ o, h'.get? e = some o ∧ o.cls = .type "StopIteration") → E (.ref e) { s with heap := h' }) :
    wpAny (model prog w) A (Builtin.«zip.__next__» ⟨[.ref (n + 5)], []⟩) Q E s := by
  have e50 : n + 5 ≠ n := by lia
  have f1 : ∀ j : Nat, l1 ≠ n + j := fun j => by lia
  show wpAny _ _ (field (.ref (n + 5)) 2 >>= _) _ _ _
  refine wpAny_bind (wpAny_field Z.z rfl (x := .bool false) rfl ?_)
  show wpAny _ _ (field (.ref (n + 5)) 3 >>= _) _ _ _
  refine wpAny_bind (wpAny_field Z.z rfl (x := .ref (n + 3)) rfl ?_)
  refine wpAny_bind (wpAny_seqItems Z.ti rfl ?_)
  show wpAny _ _ (Builtin.SmallTypes.ownedTupleIsFree (.ref (n + 5)) >>= _) _ _ _
  refine wpAny_bind ?_
  unfold Builtin.SmallTypes.ownedTupleIsFree
  refine wpAny_bind (wpAny_field Z.z rfl (x := .none) rfl (wpAny_pure ?_))
  simp only [if_true]
  refine wpAny_bind (wpAny_rule ?_)
  refine wpAny_bind (wpAny_field Z.z rfl (x := .ref (n + 4)) rfl ?_)
  refine wpAny_bind (wpAny_setField_rec Z.z (by simp) fun h₁ hz₁ hs₁ => ?_)
  replace hz₁ : IsZip h₁ (n + 5) (n + 3) (n + 4) .ellipsis := hz₁
  refine wpAny_bind ?_
  simp only [List.zipIdx_cons, List.zipIdx_nil, List.forIn_cons, List.forIn_nil]
  refine wpAny_bind (wpAny_bind (wpAny_onRaise ?_))
  show wpAny _ _ (Builtin.SmallTypes.nextOf (.ref n) >>= _) _ _ _
  refine wpAny_bind (wpAny_nextOf_list_end hh (Z.i1.extBut hs₁.extBut e50.symm) (hl1.extBut hs₁.extBut (f1 5)) hx fun h₂ e hs₂ he => ?_)
  obtain ⟨oe, hoe, hce⟩ := he
  have hz₂ : IsZip h₂ (n + 5) (n + 3) (n + 4) .ellipsis := hs₂ _ _ e50 hz₁
  have hez : e ≠ n + 5 := fun x => by subst x; rw [hz₂] at hoe; cases hoe; simp at hce
  refine wpAny_setField_rec hz₂ (by simp) fun h₃ _ hs₃ => hE h₃ e (fun c o hc x => ?_) ⟨oe, hs₃.extBut _ _ hez hoe, hce⟩
  simp only [z3wr, List.mem_cons, List.not_mem_nil, not_or, or_false] at hc
  exact hs₃.extBut _ _ hc.2.2.2.2 (hs₂ _ _ hc.1 (hs₁.extBut _ _ hc.2.2.2.2 x))
noncomputable abbrev z3fp (n l1 l2 l3 : Nat) : List Nat := [n, n + 1, n + 2, n + 3, n + 4, n + 5, l1, l2, l3]
theorem zip3_walks {prog : Program} (hh : A.handled = none) {n l1 l2 l3 N : Nat} {xs ys zs : Array Value} (h1 : l1 < n) (h2 : l2 < n) (h3 : l3 < n) (hx : xs.size = N) (hy : ys.size = N) (hz : zs.size = N) :
    WalksT prog w A (n + 5) (z3fp n l1 l2 l3) (z3wr n) N
      (fun i vals => ∃ x y z, xs[i]? = some x ∧ ys[i]? = some y ∧ zs[i]? = some z ∧ vals = #[x, y, z])
      (fun i h => Z3 h n .none l1 l2 l3 i ∧ h.IsList l1 xs ∧ h.IsList l2 ys ∧ h.IsTuple l3 zs)
      (fun i T h => Z3 h n (rawInt T) l1 l2 l3 (i + 1) ∧ h.IsList l1 xs ∧ h.IsList l2 ys ∧ h.IsTuple l3 zs ∧ T ∉ z3wr n) where
  sub := fun c hc => by
    simp only [z3wr, z3fp, List.mem_cons, List.not_mem_nil, or_false] at hc ⊢
    rcases hc with h | h | h | h | h <;> simp [h]
  frame := fun i h h' hst hk => by
    obtain ⟨Zi, a1, a2, a3⟩ := hst
    obtain ⟨a, b, c, hto⟩ := Zi.to
    refine ⟨⟨hk _ (by simp [z3fp]) _ Zi.z, hk _ (by simp [z3fp]) _ Zi.ti, ⟨a, b, c, hk _ (by simp [z3fp]) _ hto⟩,
      Zi.i1.at fun o e => hk _ (by simp [z3fp]) o e, Zi.i2.at fun o e => hk _ (by simp [z3fp]) o e, Zi.i3.at fun o e => hk _ (by simp [z3fp]) o e⟩,
      a1.at fun o e => hk _ (by simp [z3fp]) o e, a2.at fun o e => hk _ (by simp [z3fp]) o e, a3.at fun o e => hk _ (by simp [z3fp]) o e⟩
  item := fun i s Q E hi hst hQ => by
    obtain ⟨Zi, a1, a2, a3⟩ := hst
    have g1 : ∀ l : Nat, l < n → l ∉ z3wr n := fun l hl hm => by
      simp only [z3wr, List.mem_cons, List.not_mem_nil, or_false] at hm
      lia
    have b1 := Array.getElem?_eq_getElem (xs := xs) (i := i) (by lia)
    have b2 := Array.getElem?_eq_getElem (xs := ys) (i := i) (by lia)
    have b3 := Array.getElem?_eq_getElem (xs := zs) (i := i) (by lia)
    have hT : s.TypeIs (.ref (n + 5)) "zip" := ⟨_, Zi.z, rfl⟩
    unfold pyNext
    refine wpAny_bind (wpAny_attempt (wpAny_callSpecial?_slot (name := Str.ofString "__next__") hT F.slot_zip_next
      (wpAny_call_entry F.slot_zip_next hT F.entry_zip_next
        (zip3_next_item Zi h1 h2 h3 a1 a2 a3 b1 b2 b3 fun h' z' t' sz' hk' => wpAny_pure ?_) (F.args_zip_next_1 _))))
    refine hQ s.heap.objs.size #[_, _, _] h' s.toks ⟨_, _, _, b1, b2, b3, rfl⟩ (Nat.le_refl _) ⟨_, t', rfl, _, rfl⟩ ⟨z', a1.at fun o e => hk' _ o (g1 _ h1) e, a2.at fun o e => hk' _ o (g1 _ h2) e, a3.at fun o e => hk' _ o (g1 _ h3) e, fun hm => ?_⟩ hk'
    have hlt := Heap.lt_size Zi.z
    simp only [z3wr, List.mem_cons, List.not_mem_nil, or_false] at hm
    rcases hm with e | e | e | e | e <;> (rw [e] at hlt; exact absurd hlt (Nat.not_lt.mpr (by lia)))
  go := fun elts k pos i T s Q E hm hQ => by
    obtain ⟨Zi, a1, a2, a3, hT⟩ := hm
    have g1 : ∀ l : Nat, l < n → l ≠ n + 5 := fun l hl => by lia
    refine wpAny_letOwnedTupleGo_zip Zi.z fun h' hz' hs' => ?_
    obtain ⟨a, b, c, hto⟩ := Zi.to
    have q : ∀ j : Nat, j < 5 → n + j ≠ n + 5 := fun j hj => by lia
    refine hQ h' ⟨⟨hz', hs'.extBut _ _ (q 3 (by decide)) Zi.ti, ⟨a, b, c, hs'.extBut _ _ (q 4 (by decide)) hto⟩,
      Zi.i1.extBut hs'.extBut (q 0 (by decide)), Zi.i2.extBut hs'.extBut (q 1 (by decide)), Zi.i3.extBut hs'.extBut (q 2 (by decide))⟩,
      a1.extBut hs'.extBut (g1 _ h1), a2.extBut hs'.extBut (g1 _ h2), a3.extBut hs'.extBut (g1 _ h3)⟩ fun c o hc e => hs'.extBut _ _ (fun x => hc (by simp [z3wr, x])) e
  apart := fun i T h hm => hm.2.2.2.2
  done := fun s Q E hst hQ => by
    obtain ⟨Zi, a1, a2, a3⟩ := hst
    have hT : s.TypeIs (.ref (n + 5)) "zip" := ⟨_, Zi.z, rfl⟩
    unfold pyNext
    refine wpAny_bind (wpAny_attempt (wpAny_callSpecial?_slot (name := Str.ofString "__next__") hT F.slot_zip_next
      (wpAny_call_entry F.slot_zip_next hT F.entry_zip_next (zip3_next_end hh Zi h1 a1 (Array.getElem?_eq_none (by lia)) fun h' e hk he => ?_) (F.args_zip_next_1 _))))
    obtain ⟨o, ho, hc⟩ := he
    refine wpAny_bind (wpAny_isInstance (T := "StopIteration") (b := true) ⟨o, ho, hc⟩ isSubtype_stop ?_)
    exact wpAny_pure (hQ _ s.toks hk)
  self := fun i s Q E hst hQ => wpAny_pyIter_zip hst.1.z hQ
end
end Mine
end TZq
section TZr
open PySem PySem.W PySem.Calls PyProof.Rows
set_option maxRecDepth 100000
set_option maxHeartbeats 8000000
open PySem.F
namespace Mine
noncomputable abbrev z3H1 (h : Heap) (l1 : Addr) : Heap := h.push { cls := .type "list_iterator", data := .fields #[.ref l1, .int 0 0] }
noncomputable abbrev z3H2 (h : Heap) (l1 l2 : Addr) : Heap := (z3H1 h l1).push { cls := .type "list_iterator", data := .fields #[.ref l2, .int 0 0] }
noncomputable abbrev z3H3 (h : Heap) (l1 l2 l3 : Addr) : Heap := (z3H2 h l1 l2).push { cls := .type "tuple_iterator", data := .fields #[.ref l3, .int 0 0] }
noncomputable abbrev z3H4 (h : Heap) (l1 l2 l3 : Addr) : Heap := (z3H3 h l1 l2 l3).push { cls := .type "tuple", data := .seq #[.ref h.objs.size, .ref (z3H1 h l1).objs.size, .ref (z3H2 h l1 l2).objs.size] }
noncomputable abbrev z3H5 (h : Heap) (l1 l2 l3 : Addr) : Heap := (z3H4 h l1 l2 l3).push { cls := .type "tuple", data := .seq #[.none, .none, .none] }
noncomputable abbrev z3H6 (h : Heap) (l1 l2 l3 : Addr) : Heap := (z3H5 h l1 l2 l3).push { cls := .type "zip", data := .fields #[.none, .bool false, .bool false, .ref (z3H3 h l1 l2 l3).objs.size, .ref (z3H4 h l1 l2 l3).objs.size] }
theorem meets_zip_3 (l1 l2 l3 : Addr) (xs ys zs : Array Value) :
    Meets (Builtin.«zip.__new__» ⟨[.type "zip", .ref l1, .ref l2, .ref l3], []⟩) (fun _ R s => s.heap.IsList l1 xs ∧ s.heap.IsList l2 ys ∧ s.heap.IsTuple l3 zs ∧
      R (.ok (.ret (.ref (z3H5 s.heap l1 l2 l3).objs.size))) { s with heap := z3H6 s.heap l1 l2 l3 }) :=
  .of_wp fun prog w A R s h => by
    obtain ⟨hp, g, d, tk, os⟩ := s; obtain ⟨hl1, hl2, hl3, h⟩ := h
    have hsub := sub_zip
    have hL1 : Heap.IsList (Shared.heap ⟨hp, g, d, tk, os⟩) l1 xs := hl1
    have hL2 : Heap.IsList (Shared.heap ⟨hp.push { cls := .type "list_iterator", data := .fields #[.ref l1, .int 0 0] }, g, d, tk, os⟩) l2 ys := Heap.IsList.push hl2 _
    have hL3 : Heap.IsTuple (Shared.heap ⟨(hp.push { cls := .type "list_iterator", data := .fields #[.ref l1, .int 0 0] }).push { cls := .type "list_iterator", data := .fields #[.ref l2, .int 0 0] }, g, d, tk, os⟩) l3 zs := hl3.at fun o e => Heap.get?_push_of_some _ (Heap.get?_push_of_some _ e)
    wp_walk using wpAny_pyIter_list hL1, wpAny_pyIter_list hL2, wpAny_pyIter_tuple hL3
    exact ⟨_, rfl, h⟩
section
variable {w : World} {A : Around} {E : Value → Shared → Prop} {s : Shared}
theorem call_zip_3 {l1 l2 l3 : Addr} {xs ys zs : Array Value} {Q : Value → Shared → Prop} (hl1 : s.heap.IsList l1 xs) (hl2 : s.heap.IsList l2 ys) (hl3 : s.heap.IsTuple l3 zs)
    (h : ∀ (h' : Heap) (n : Nat), n = s.heap.objs.size → Z3 h' n .none l1 l2 l3 0 → h'.IsList l1 xs → h'.IsList l2 ys → h'.IsTuple l3 zs → Ext s.heap h' → Q (.ref (n + 5)) { s with heap := h' }) :
    wpAny (model prog w) A (call (.type "zip") [.ref l1, .ref l2, .ref l3]) Q E s := by
  refine callType_new F.called_zip (by decide) (typeCall_zip_3 _ _ _) (newCall_zip_3 _ _ _) (fun obj => args_object_init_4 obj _ _ _) F.entry_zip_new
    (meets_zip_3 l1 l2 l3 xs ys zs) ⟨hl1, hl2, hl3, ?_⟩
  have z1 : (z3H1 s.heap l1).objs.size = s.heap.objs.size + 1 := Heap.size_push ..
  have z2 : (z3H2 s.heap l1 l2).objs.size = s.heap.objs.size + 2 := by rw [Heap.size_push, z1]
  have z3 : (z3H3 s.heap l1 l2 l3).objs.size = s.heap.objs.size + 3 := by rw [Heap.size_push, z2]
  have z4 : (z3H4 s.heap l1 l2 l3).objs.size = s.heap.objs.size + 4 := by rw [Heap.size_push, z3]
  have z5 : (z3H5 s.heap l1 l2 l3).objs.size = s.heap.objs.size + 5 := by rw [Heap.size_push, z4]
  have g6 : (z3H6 s.heap l1 l2 l3).get? (z3H5 s.heap l1 l2 l3).objs.size = some _ := Heap.get?_push_size _ rfl
  have g5 : (z3H6 s.heap l1 l2 l3).get? (z3H4 s.heap l1 l2 l3).objs.size = some _ := Heap.get?_push_of_some _ (Heap.get?_push_size _ rfl)
  have g4 : (z3H6 s.heap l1 l2 l3).get? (z3H3 s.heap l1 l2 l3).objs.size = some _ := Heap.get?_push_of_some _ (Heap.get?_push_of_some _ (Heap.get?_push_size _ rfl))
  have g3 : (z3H6 s.heap l1 l2 l3).get? (z3H2 s.heap l1 l2).objs.size = some _ := Heap.get?_push_of_some _ (Heap.get?_push_of_some _ (Heap.get?_push_of_some _ (Heap.get?_push_size _ rfl)))
  have g2 : (z3H6 s.heap l1 l2 l3).get? (z3H1 s.heap l1).objs.size = some _ := Heap.get?_push_of_some _ (Heap.get?_push_of_some _ (Heap.get?_push_of_some _ (Heap.get?_push_of_some _ (Heap.get?_push_size _ rfl))))
  have g1 : (z3H6 s.heap l1 l2 l3).get? s.heap.objs.size = some _ := Heap.get?_push_of_some _ (Heap.get?_push_of_some _ (Heap.get?_push_of_some _ (Heap.get?_push_of_some _ (Heap.get?_push_of_some _ (Heap.get?_push_size _ rfl)))))
  have e : Ext s.heap (z3H6 s.heap l1 l2 l3) := fun c o x => Heap.get?_push_of_some _ (Heap.get?_push_of_some _ (Heap.get?_push_of_some _ (Heap.get?_push_of_some _ (Heap.get?_push_of_some _ (Heap.get?_push_of_some _ x)))))
  show _ ∧ _
  rw [z3, z4, z5] at g6
  rw [z4] at g5
  rw [z1, z2, z3] at g4
  rw [z2] at g3
  rw [z1] at g2
  rw [z5]
  exact ⟨⟨_, g6, rfl⟩, h _ s.heap.objs.size rfl ⟨g6, g4, ⟨_, _, _, g5⟩, ⟨_, g1, rfl, rfl⟩, ⟨_, g2, rfl, rfl⟩, ⟨_, g3, rfl, rfl⟩⟩ (hl1.at fun o x => e _ o x) (hl2.at fun o x => e _ o x) (hl3.at fun o x => e _ o x) e⟩
end
end Mine
end TZr
section TZs
open PySem PySem.W PySem.Calls PyProof.Rows
set_option maxRecDepth 100000
set_option maxHeartbeats 8000000
namespace Mine
section
variable {w : World} {A : Around} {s : Shared} {env : Env} {h₀ : Heap}
theorem forLoop_trip {prog : Program} {R : Result → Shared → Prop} {xa xb xc : Str} {pa pb pk pt : Pos} {x1 : Nat} {body : List Stmt} {I : Addr} {fp wr : List Addr} {n : Nat} {Pt : Nat → Array Value → Prop} {St : Nat → Heap → Prop} {Mid : Nat → Addr → Heap → Prop}
    {P3 : Nat → Value → Value → Value → Prop} {m : Str → Option Value} {news : List (Addr × Obj)} (hh : A.handled = none) (W : WalksT prog w A I fp wr n Pt St Mid) (h3 : ∀ i vals, Pt i vals → ∃ v0 v1 v2, vals = #[v0, v1, v2] ∧ P3 i v0 v1 v2)
    (hxa : env.kindOf xa = some .local) (hxb : env.kindOf xb = some .local) (hxc : env.kindOf xc = some .local)
    (hp : (env.scope.kind == .class || (env.scope.kind == .module && env.locals != env.globals)) = false)
    (hLf : env.locals ∉ fp) (hwr : ∀ b ∈ wr, h₀.get? b = none) (hnw : ∀ p ∈ news, p.1 ∉ wr)
    (hst : St 0 s.heap) (F : Fr h₀ env.locals s.heap m) (N : News h₀ env.locals s.heap news)
    (J : Nat → (Str → Option Value) → Prop) (h0 : J 0 m)
    (step : ∀ i v0 v1 v2 m₁ h tk own, i < n → P3 i v0 v1 v2 → J i m₁ →
      Fr h₀ env.locals h (fun y => if y = xc then some v2 else if y = xb then some v1 else if y = xa then some v0 else m₁ y) → News h₀ env.locals h (own ++ news) →
      wpAny (model prog w) A (execs body env) (TurnEnd h₀ env.locals (own ++ news) (J (i + 1)) s fun f s' => R (.ok f) s') (notedBy (model prog w) A env fun e s' => R (.error e) s') { s with heap := h, toks := tk })
    (hR : ∀ h' tk m', Fr h₀ env.locals h' m' → News h₀ env.locals h' news → J n m' → R (.ok .next) { s with heap := h', toks := tk }) :
    codeAny (model prog w) A (.forLoop (.Tuple [.Name xa pa, .Name xb pb, .Name xc pk] x1 pt) (.ref I) body [] env) R s := by
  have hLw : env.locals ∉ wr := fun h => hLf (W.sub _ h)
  have old : ∀ b o, h₀.get? b = some o → b ∉ wr := fun b o e hb => by rw [hwr b hb] at e; cases e
  refine codeAny_forLoop_any
    (fun k s' => ∃ h' tk m' i, s' = { s with heap := h', toks := tk } ∧ St i h' ∧ Fr h₀ env.locals h' m' ∧ News h₀ env.locals h' news ∧ J i m' ∧ i ≤ n ∧ k = n + 1 - i) ?_ (n + 1)
    ⟨s.heap, s.toks, m, 0, rfl, hst, F, N, h0, Nat.zero_le _, rfl⟩
  rintro k s' ⟨H, tk, m', i, rfl, hst', F', N', hJ, hi, rfl⟩
  have next : ∀ h₁ : Heap, (∀ b o, b ∉ wr → H.get? b = some o → h₁.get? b = some o) → Fr h₀ env.locals h₁ m' ∧ News h₀ env.locals h₁ news := fun h₁ hk₁ =>
    ⟨⟨F'.ns.at' fun o e => hk₁ _ o hLw e, fun b o e => hk₁ b o (old b o e) (F'.keep b o e), F'.above⟩, fun p hp => ⟨hk₁ _ _ (hnw p hp) (N' p hp).1, (N' p hp).2⟩⟩
  by_cases hlt : i < n
  · refine W.item i _ _ _ hlt hst' fun T vals h₁ tk₁ hPt _ hT hMid hk₁ => ?_
    obtain ⟨v0, v1, v2, rfl, hP3⟩ := h3 i vals hPt
    refine W.go _ x1 pt i T _ _ _ hMid fun h₂ hst₂ hk₂ => ?_
    have ht₂ : h₂.IsTuple T #[v0, v1, v2] := hT.at fun o e => hk₂ T o (W.apart i T h₁ hMid) e
    refine wpAny_assign_Tuple hh ht₂ rfl rfl fun h₃ hx₃ => ?_
    replace hx₃ : Heap.ExtBut h₂.objs.size h₂ h₃ := hx₃
    have up₃ : ∀ b o, h₂.get? b = some o → h₃.get? b = some o := fun b o x => hx₃ b o (Nat.ne_of_lt (Heap.lt_size x)) x
    obtain ⟨F₃, N₃⟩ := next h₃ fun b o hb x => up₃ b o (hk₂ b o hb (hk₁ b o hb x))
    show wpAny _ A (do holding [v1, v2] (assign (.Name xa pa) env v0); do holding [v2] (assign (.Name xb pb) env v1); do holding [] (assign (.Name xc pk) env v2); pure ()) _ _ _
    refine wpAny_bind (wpAny_holding (wpAny_assign_Name (wpAny_storeName_local hxa F₃.ns (fun h₄ hn₄ hs₄ => ?_) hp)))
    replace hs₄ : Heap.SameBut env.locals h₃ h₄ := hs₄
    have F₄ := F₃.set hn₄ hs₄
    refine wpAny_bind (wpAny_holding (wpAny_assign_Name (wpAny_storeName_local hxb F₄.ns (fun h₅ hn₅ hs₅ => ?_) hp)))
    replace hs₅ : Heap.SameBut env.locals h₄ h₅ := hs₅
    have F₅ := F₄.set hn₅ hs₅
    refine wpAny_bind (wpAny_holding (wpAny_assign_Name (wpAny_storeName_local hxc F₅.ns (fun h₆ hn₆ hs₆ => wpAny_pure ?_) hp)))
    replace hs₆ : Heap.SameBut env.locals h₅ h₆ := hs₆
    have F₆ := F₅.set hn₆ hs₆
    have N₆ : News h₀ env.locals h₆ news := ((N₃.set hs₄).set hs₅).set hs₆
    have hst₆ : St (i + 1) h₆ := W.frame _ _ _ hst₂ fun b hb o e => hs₆.extBut b o (fun q => hLf (q ▸ hb)) (hs₅.extBut b o (fun q => hLf (q ▸ hb)) (hs₄.extBut b o (fun q => hLf (q ▸ hb)) (up₃ b o e)))
    refine wpAny_mono (step i v0 v1 v2 m' h₆ _ (ownOf h₀ fp h₆) hlt hP3 hJ F₆ ((news_ownOf hLf).append N₆)) (fun f s₃ h₇ => ?_) fun _ _ e => e
    have fin : ∀ h' tk' m₂, s₃ = { s with heap := h', toks := tk' } → Fr h₀ env.locals h' m₂ → News h₀ env.locals h' (ownOf h₀ fp h₆ ++ news) → J (i + 1) m₂ →
        ∃ j, j < n + 1 - i ∧ ∃ h' tk m' i, s₃ = { s with heap := h', toks := tk } ∧ St i h' ∧ Fr h₀ env.locals h' m' ∧ News h₀ env.locals h' news ∧ J i m' ∧ i ≤ n ∧ j = n + 1 - i := by
      rintro h' tk' m₂ rfl F₈ N₈ J₈
      refine ⟨n + 1 - (i + 1), by omega, h', tk', m₂, i + 1, rfl, ?_, F₈, N₈.right, J₈, hlt, rfl⟩
      refine W.frame _ _ _ hst₆ fun b hb o e => ?_
      cases hn : h₀.get? b with
      | some o₀ =>
        have : o₀ = o := by have q := F₆.keep b o₀ hn; rw [e] at q; exact (Option.some.inj q).symm
        exact this ▸ F₈.keep b o₀ hn
      | none => exact (N₈ _ (List.mem_append_left _ (mem_ownOf hb hn e))).1
    cases f with
    | ret v => exact h₇
    | brk => exact h₇
    | cont => obtain ⟨h', tk', m₂, e, F₈, N₈, J₈⟩ := h₇; exact fin h' tk' m₂ e F₈ N₈ J₈
    | next => obtain ⟨h', tk', m₂, e, F₈, N₈, J₈⟩ := h₇; exact fin h' tk' m₂ e F₈ N₈ J₈
  · have hin : i = n := by omega
    subst hin
    refine W.done _ _ _ hst' fun h₁ tk₁ hk₁ => wpAny_execs_nil ?_
    obtain ⟨F₁, N₁⟩ := next h₁ hk₁
    exact hR h₁ tk₁ m' F₁ N₁ hJ
end
end Mine
end TZs
section TLq
open PySem PySem.W PySem.Calls PyProof.Rows
set_option maxRecDepth 100000
set_option maxHeartbeats 8000000
namespace Mine
section
variable {w : World} {A : Around} {s : Shared} {env : Env} {h₀ : Heap} {m : Str → Option Value} {news : List (Addr × Obj)} {Q : Flow → Shared → Prop}
theorem assign_over {a : Addr} {vs : List Value} {x y : Str} {px py pos spos : Pos} {elt iter : Expr} {scope : Scope} (G : Value → Value → Prop) (F : Fr h₀ env.locals s.heap m) (N : News h₀ env.locals s.heap news)
    (hit : ∀ Q' : Value → Shared → Prop, Q' (.ref a) s → wpAny (model prog w) A (eval iter env) Q' (fun _ _ => False) s) (hO : s.heap.get? a = some (tupO vs) ∨ ∃ n, s.heap.get? a = some (lstO vs n)) (hh : A.handled = none)
    (hsw : swapsWith (.ListComp elt [⟨.Name x px, iter, [], 0⟩] scope pos) (some (.Name y py)) spos.line env = pure true)
    (hfree : ∀ z ∈ scope.names, z.2 ≠ .free) (hcell : ∀ z ∈ scope.names, z.2 ≠ .cell) (hkind : scope.kind = .function)
    (hnames : ∀ z ∈ scope.names, z.2 = .local → scope.names.lookup z.1 = some .local) (hx : scope.names.lookup x = some .local)
    (hy : env.kindOf y = some .local) (hp : (env.scope.kind == .class || (env.scope.kind == .module && env.locals != env.globals)) = false) (hs : ∀ x, foldedSetIterable iter env x = pure x) (hsz : vs.length ≤ 10000)
    (helt : ∀ (C : Addr) (i : Nat) (v : Value) (s₃ : Shared) (m₃ : Str → Option Value), vs[i]? = some v → s₃.heap.Ns C m₃ → m₃ x = some v → Ext s.heap s₃.heap → wpAny (model prog w) A (eval elt (compEnv scope C env)) (fun y s₄ => G v y ∧ Keeps s₃ s₄) (fun _ _ => False) s₃)
    (hQ : ∀ D h' tk ys n, Fr h₀ env.locals h' (fun z => if z = y then some (.ref D) else m z) → News h₀ env.locals h' ((D, lstO ys n) :: news) → Paired G vs ys → Q .next { s with heap := h', toks := tk }) :
    wpAny (model prog w) A (exec (.Assign [.Name y py] (.ListComp elt [⟨.Name x px, iter, [], 0⟩] scope pos) spos) env) Q (fun _ _ => False) s := by
  have hlt : a < s.heap.objs.size := hO.elim (fun e => Heap.lt_size e) fun ⟨_, e⟩ => Heap.lt_size e
  have hLlt : env.locals < s.heap.objs.size := F.ns.lt
  refine wpAny_Assign_ListComp_walk (fun _ => true) G hsw hfree hcell hkind hnames hx hy hp (hit _ ?_) hs
  have fin : ∀ (ob : Obj) (I : Addr) (St : Nat → Heap → Prop), I = s.heap.objs.size → Walks prog w A I [I, a] [I] vs.toArray.size (fun i v => vs.toArray[i]? = some v) St → St 0 (s.heap.push ob) →
      ∃ I fp wr n P St m', Value.ref s.heap.objs.size = .ref I ∧ Walks prog w A I fp wr n P St ∧ n ≤ sizeLine ∧ St 0 (s.heap.push ob) ∧ (∀ b ∈ fp, b < (s.heap.push ob).objs.size) ∧
      env.locals ∉ wr ∧ (s.heap.push ob).Ns env.locals m' ∧ QuietOn prog w A env scope x [] elt wr P (fun _ => true) G { s with heap := s.heap.push ob } ∧
      (∀ D h' tk ys (vs' : List Value), (s.heap.push ob).get? D = none → h'.IsList D ys → h'.PlainList D ys → vs'.length = n → (∀ j v, vs'[j]? = some v → P j v) → Paired G (vs'.filter fun _ => true) ys.toList →
        h'.Ns env.locals (fun z => if z = y then some (.ref D) else m' z) → (∀ b o, b ≠ env.locals → b ∉ wr → (s.heap.push ob).get? b = some o → h'.get? b = some o) → Q .next { s with heap := h', toks := tk }) := by
    rintro ob I St rfl W hst
    have up : ∀ b o, s.heap.get? b = some o → b ∉ [s.heap.objs.size] := fun b o e hb => Nat.lt_irrefl _ ((List.mem_singleton.mp hb) ▸ Heap.lt_size e)
    refine ⟨_, _, _, _, _, St, m, rfl, W, ?_, hst, ?_, ?_, F.ns.push _, ⟨?_, ?_⟩, ?_⟩
    · rw [List.size_toArray, sizeLine_eq]; omega
    · intro b hb
      show b < (s.heap.push ob).objs.size
      rw [Heap.size_push]
      rcases List.mem_cons.mp hb with e | hb
      · exact e ▸ Nat.lt_succ_self _
      · exact (List.mem_singleton.mp hb) ▸ Nat.lt_succ_of_lt hlt
    · intro hb
      exact Nat.lt_irrefl _ ((List.mem_singleton.mp hb) ▸ hLlt)
    · intro C i v s₃ m₃ E' hP hn hm hk htk
      exact wpAny_pure ⟨rfl, s₃.heap, s₃.toks, rfl, fun _ _ e => e⟩
    · intro C i v s₃ m₃ E' hP _ hn hm hk htk
      exact wpAny_mono (helt C i v s₃ m₃ (by rw [← List.getElem?_toArray]; exact hP) hn hm fun b o e => hk b o (up b o e) (Heap.get?_push_of_some _ e)) (fun _ _ e => e) fun _ _ e => e.elim
    · intro D h' tk ys vs' hD _ hpl hlen hP hF hns hk
      obtain ⟨n, hpl⟩ := hpl
      have e : vs' = vs := by
        apply List.ext_getElem?
        intro j
        cases q : vs'[j]? with
        | some v => rw [← hP j v q]; simp
        | none =>
          have h1 := List.getElem?_eq_none_iff.mp q
          rw [hlen, List.size_toArray] at h1
          exact (List.getElem?_eq_none h1).symm
      subst e
      have e2 : vs'.filter (fun _ => true) = vs' := List.filter_eq_self.mpr fun _ _ => rfl
      rw [e2] at hF
      have hDs : s.heap.get? D = none := by
        cases q : s.heap.get? D with
        | none => rfl
        | some o => rw [Heap.get?_push_of_some _ q] at hD; cases hD
      have hDl : h'.get? D = some (lstO ys.toList n) := by
        show h'.get? D = some { cls := .type "list", data := .seq ys.toList.toArray n }
        rw [Array.toArray_toList]; exact hpl
      have keep : ∀ b o, b ≠ env.locals → s.heap.get? b = some o → h'.get? b = some o := fun b o hb e => hk b o hb (up b o e) (Heap.get?_push_of_some _ e)
      have F' : Fr h₀ env.locals h' (fun z => if z = y then some (.ref D) else m z) := ⟨hns, fun b o e => keep b o (fun q => by
        have h1 := Heap.lt_size e
        rw [q] at h1
        exact absurd h1 (Nat.not_lt.mpr F.above)) (F.keep b o e), F.above⟩
      refine hQ D h' tk ys.toList n F' (fun p hp => ?_) hF
      rcases List.mem_cons.mp hp with rfl | hp
      · refine ⟨hDl, fun q => ?_, ?_⟩
        · obtain ⟨o, _, _, ho, _⟩ := F.ns
          have q' : D = env.locals := q
          rw [q', ho] at hDs
          cases hDs
        · cases q : h₀.get? D with
          | none => rfl
          | some o => rw [F.keep _ _ q] at hDs; cases hDs
      · exact ⟨keep _ _ (N p hp).2.1 (N p hp).1, (N p hp).2⟩
  rcases hO with hO | ⟨n, hO⟩
  · have hT : s.heap.IsTuple a vs.toArray := ⟨_, hO, rfl, _, rfl⟩
    exact wpAny_pyIter_tuple hT (fin _ _ _ rfl (Walks.tuple (prog := prog) (w := w) hh s.heap.objs.size a (Nat.ne_of_lt hlt) vs.toArray) ⟨⟨_, Heap.get?_push_size _ rfl, rfl, rfl⟩, hT.at fun o e => Heap.get?_push_of_some _ e⟩)
  · have hT : s.heap.IsList a vs.toArray := ⟨_, hO, rfl, _, rfl⟩
    exact wpAny_pyIter_list hT (fin _ _ _ rfl (Walks.list (prog := prog) (w := w) hh s.heap.objs.size a (Nat.ne_of_lt hlt) vs.toArray) ⟨⟨_, Heap.get?_push_size _ rfl, rfl, rfl⟩, hT.at fun o e => Heap.get?_push_of_some _ e⟩)
end
end Mine
end TLq
section TPa
open PySem PySem.W PySem.Calls PyProof.Rows
set_option maxRecDepth 100000
set_option maxHeartbeats 8000000
open PySem.Builtin.Str
namespace Mine
theorem lcp_take1 : ∀ a b : List Nat, a.take (lcpL a b).length = lcpL a b
  | [], _ => by unfold lcpL; rfl
  | _ :: _, [] => by unfold lcpL; rfl
  | c :: a, d :: b => by
    unfold lcpL
    split
    · rw [List.length_cons, List.take_succ_cons, lcp_take1 a b]
    · rfl
theorem lcp_ge : ∀ (k : Nat) (a b : List Nat), a.take k = b.take k → k ≤ a.length → k ≤ b.length → k ≤ (lcpL a b).length
  | 0, _, _, _, _, _ => Nat.zero_le _
  | k + 1, [], _, _, h, _ => absurd h (by simp)
  | k + 1, _ :: _, [], _, _, h => absurd h (by simp)
  | k + 1, c :: a, d :: b, h, h1, h2 => by
    rw [List.take_succ_cons, List.take_succ_cons] at h
    obtain ⟨e, h⟩ := List.cons.inj h
    have := lcp_ge k a b h (by simpa using h1) (by simpa using h2)
    unfold lcpL
    rw [if_pos e, List.length_cons]
    lia
theorem sandwich : ∀ (a b x : List Nat), ¬ x < a → ¬ b < x → x.take (lcpL a b).length = lcpL a b
  | [], _, _, _, _ => by unfold lcpL; rfl
  | _ :: _, [], _, _, _ => by unfold lcpL; rfl
  | c :: a, d :: b, [], h, _ => absurd (List.nil_lt_cons c a) h
  | c :: a, d :: b, z :: x, h1, h2 => by
    unfold lcpL
    split
    · rename_i e
      subst e
      rw [List.cons_lt_cons_iff] at h1 h2
      have e : z = c := by lia
      subst e
      rw [List.length_cons, List.take_succ_cons, sandwich a b x (fun q => h1 (.inr ⟨rfl, q⟩)) (fun q => h2 (.inr ⟨rfl, q⟩))]
    · rfl
theorem prefix_facts {xs : List Str} {k : Nat} (hne : xs ≠ []) (h1 : k ≤ (xs.getD 0 default).length) (h2 : agree xs k) (h3 : ∀ j, k < j → j ≤ (xs.getD 0 default).length → ¬ agree xs j) :
    (prefixS xs).length = k ∧ ∀ x ∈ xs, k ≤ x.length ∧ cs (prefixS xs) = (cs x).take k := by
  have hl : ∀ x ∈ xs, ∀ j, j ≤ (xs.getD 0 default).length → (cs x).take j = (cs (xs.getD 0 default)).take j → j ≤ x.length := fun x _ j hj e => by
    have := congrArg List.length e
    rw [List.length_take, List.length_take, cs_len, cs_len] at this
    lia
  have hP : cs (prefixS xs) = lcpL (cs (bestMin xs)) (cs (bestMax xs)) := cs_mk _
  have hs : ∀ x ∈ xs, (cs x).take (prefixS xs).length = cs (prefixS xs) := fun x hx => by
    have := sandwich _ _ (cs x) (bestMin_le hx) (bestMax_ge hx)
    rw [← cs_len, hP]
    exact this
  have h0 : xs.getD 0 default ∈ xs := getD_mem (Nat.pos_of_ne_zero fun q => hne (List.eq_nil_of_length_eq_zero q))
  have hL : (prefixS xs).length ≤ (xs.getD 0 default).length := by
    have := congrArg List.length (hs _ h0)
    rw [List.length_take, cs_len, cs_len] at this
    lia
  have hag : agree xs (prefixS xs).length := fun x hx => (hs x hx).trans (hs _ h0).symm
  have q1 : (prefixS xs).length ≤ k := by
    rcases Nat.lt_or_ge k (prefixS xs).length with q | q
    · exact absurd hag (h3 _ q hL)
    · exact q
  have q2 : k ≤ (prefixS xs).length := by
    have m1 := bestMin_mem hne
    have m2 := bestMax_mem hne
    have := lcp_ge k (cs (bestMin xs)) (cs (bestMax xs)) ((h2 _ m1).trans (h2 _ m2).symm) (by rw [cs_len]; exact hl _ m1 k h1 (h2 _ m1)) (by rw [cs_len]; exact hl _ m2 k h1 (h2 _ m2))
    rw [← hP, cs_len] at this
    exact this
  have e : (prefixS xs).length = k := by lia
  exact ⟨e, fun x hx => ⟨hl x hx k h1 (h2 x hx), by rw [← hs x hx, e]⟩⟩
noncomputable def chL : List Nat := [32, 99, 104, 97, 114, 115, 93]
noncomputable abbrev chS : Str := Str.ofString " chars]"
theorem ch_cs : cs chS = chL := by rw [cs_lit]; decide
theorem ch_len : chS.length = 7 := by rw [← cs_len, ch_cs]; rfl
theorem occ_stays (s sub : Str) (hi : Nat) : ∀ (l : List Nat) (st : Array Nat × Nat), st.fst.size = 1 → (forIn l st (StrLaws.occBody s sub hi 1)).run.fst = st.fst
  | [], _, _ => rfl
  | a :: l, st, h => by
    rw [List.forIn_cons]
    unfold StrLaws.occBody
    rw [if_neg (fun q => by have := q.1.1.1; lia)]
    exact occ_stays s sub hi l _ h
theorem occ_first (s sub : Str) (hi p : Nat) (hp : p + sub.length ≤ hi ∧ subAt s sub p = true) : ∀ (n a free : Nat), free ≤ a → a ≤ p → p < a + n → (∀ j, a ≤ j → j < p → ¬ (j + sub.length ≤ hi ∧ subAt s sub j = true)) →
    (forIn (List.range' a n) ((#[] : Array Nat), free) (StrLaws.occBody s sub hi 1)).run.fst = #[p]
  | 0, a, free, _, h1, h2, _ => absurd h2 (by lia)
  | n + 1, a, free, hf, h1, h2, h3 => by
    rw [List.range'_succ, List.forIn_cons]
    unfold StrLaws.occBody
    by_cases q : a = p
    · subst q
      rw [if_pos ⟨⟨⟨by simp, hf⟩, hp.1⟩, hp.2⟩]
      exact occ_stays s sub hi _ _ rfl
    · have hh := h3 a (Nat.le_refl _) (by lia)
      rw [if_neg (fun z => hh ⟨z.1.2, z.2⟩)]
      exact occ_first s sub hi p hp n (a + 1) free (by lia) (by lia) (by lia) (fun j j1 j2 => h3 j (by lia) j2)
theorem hit_iff (x : Str) (i : Nat) : (i + chS.length ≤ x.length ∧ subAt x chS i = true) ↔ ((cs x).drop i).take 7 = chL := by
  rw [StrLaws.subAt_eq, ch_len]
  show (i + 7 ≤ x.length ∧ (((cs x).drop i).take 7 == cs chS) = true) ↔ _
  rw [ch_cs, beq_iff_eq]
  refine ⟨fun h => h.2, fun h => ⟨?_, h⟩⟩
  have := congrArg List.length h
  rw [List.length_take, List.length_drop, cs_len] at this
  have : chL.length = 7 := rfl
  lia
theorem hit_one {x : Str} {i : Nat} (h : ((cs x).drop i).take 7 = chL) : (cs x)[i + 1]? = some 99 := by
  have := congrArg (fun l => l[1]?) h
  simp only [List.getElem?_take, List.getElem?_drop] at this
  exact this
theorem find_none {x : Str} (h : 99 ∉ cs x) : Txt.find x chS = -1 := by
  unfold Txt.find
  rw [StrLaws.occ_eq, (StrLaws.occ_none x chS x.length _ 0 (fun _ _ => Nat.zero_le _)).mpr (fun i _ q => h (List.mem_of_getElem? (hit_one ((hit_iff x i).mp q))))]
theorem find_at {x : Str} {a b : List Nat} (h : cs x = a ++ (chL ++ b)) (hn : 99 ∉ a) : Txt.find x chS = (a.length : Int) := by
  have hl : a.length + 7 + b.length = x.length := by
    have := congrArg List.length h
    rw [List.length_append, List.length_append, cs_len, show chL.length = 7 from rfl] at this
    lia
  have hp : ((cs x).drop a.length).take 7 = chL := by
    rw [h, List.drop_append_of_le_length (Nat.le_refl _), List.drop_length, List.nil_append]
    rfl
  unfold Txt.find
  rw [StrLaws.occ_eq, occ_first x chS x.length a.length ((hit_iff x _).mpr hp) _ 0 0 (Nat.le_refl _) (Nat.zero_le _) (by lia) (fun j _ hj q => by
    have := hit_one ((hit_iff x j).mp q)
    rw [h] at this
    rcases Nat.lt_or_ge (j + 1) a.length with z | z
    · rw [List.getElem?_append_left z] at this
      exact hn (List.mem_of_getElem? this)
    · rw [List.getElem?_append_right z, show j + 1 - a.length = 0 from by lia] at this
      exact absurd (Option.some.inj this) (by decide : ¬ (32 : Nat) = 99))]
theorem inR_digit : ∀ c, c < 128 → (Unicode.isDigit c = true ↔ (48 ≤ c ∧ c ≤ 57)) := by decide +kernel
theorem isdigit_of {x : Str} (h0 : cs x ≠ []) (h : ∀ c ∈ cs x, 48 ≤ c ∧ c ≤ 57) : Txt.isdigit x = true := by
  unfold Txt.isdigit
  rw [Bool.and_eq_true, decide_eq_true_eq, Array.all_eq_true']
  refine ⟨?_, fun c hc => ?_⟩
  · rw [← cs_len]; exact List.length_pos_iff.mpr h0
  · have := h c (Array.mem_toList_iff.mpr hc)
    exact (inR_digit c (by lia)).mpr this
theorem isdigit_no {x : Str} {c : Nat} (hc : c ∈ cs x) (h : c < 128) (h' : ¬ (48 ≤ c ∧ c ≤ 57)) : Txt.isdigit x ≠ true := by
  unfold Txt.isdigit
  intro q
  rw [Bool.and_eq_true, Array.all_eq_true'] at q
  exact h' ((inR_digit c h).mp (q.2 c (Array.mem_toList_iff.mp hc)))
theorem numN_eq (n : Nat) : numL (n : Int) = (Nat.toDigits 10 n).map Char.toNat := KIN.signs_num n
theorem numN_digit (n : Nat) : ∀ c ∈ numL (n : Int), 48 ≤ c ∧ c ≤ 57 := by
  intro c hc
  rw [numN_eq] at hc
  exact digits_all n c hc
theorem numN_len {n : Nat} (h : n < 10 ^ 4) : (numL (n : Int)).length ≤ 4 := by
  rw [numN_eq, List.length_map]
  exact toDigits_lt 3 n h
end Mine
end TPa
section TPb
open PySem PySem.W PySem.Calls PyProof.Rows
set_option maxRecDepth 100000
set_option maxHeartbeats 8000000
open PySem.Builtin.Str
namespace Mine
noncomputable def cutL (p n : Nat) (x z : List Nat) : List Nat := x.take p ++ 91 :: (numL (n : Int) ++ (chL ++ z))
noncomputable def shortenL (x : List Nat) (p q : Nat) : List Nat := if 12 + p + q < x.length then cutL p (x.length - p - q) x (x.drop (x.length - q)) else x
theorem fmt3_cs (a c : Str) (n : Int) : cs (fmt3 a c n) = cs a ++ 91 :: (numL n ++ (chL ++ cs c)) := by
  unfold fmt3
  rw [cs_app, cs_app, cs_app, cs_app, ch_cs, show cs (Str.ofString "[") = [91] from by rw [cs_lit]; decide]
  simp [numL]
theorem shorten_cs (x : Str) (p q : Nat) : cs (shortenS x (p : Int) (q : Int)) = shortenL (cs x) p q := by
  unfold shortenS shortenL cutL
  have hl := cs_len x
  by_cases h : 12 + p + q < (cs x).length
  · rw [if_pos h, if_pos (by lia), fmt3_cs, slice_to x (by lia), slice_from x (by lia), show (x.length : Int) - p - q = (((cs x).length - p - q : Nat) : Int) from by lia,
      show ((x.length : Int) - q).toNat = (cs x).length - q from by lia, Int.toNat_natCast]
  · rw [if_neg h, if_neg (by lia)]
noncomputable def toldL (M k : Nat) (x : List Nat) : List Nat :=
  if M ≤ 80 then x
  else if M < k + 58 then cutL 5 (M - 68) x (x.drop (M - 63))
  else if 22 < k then cutL 5 (k - 10) x ((x.take k).drop (k - 5) ++ shortenL (x.drop k) 41 5)
  else x.take k ++ shortenL (x.drop k) 41 5
theorem cutL_app (p n : Nat) (x z y : List Nat) : cutL p n x z ++ y = cutL p n x (z ++ y) := by
  unfold cutL; simp
theorem told_cs {xs : List Str} {k : Nat} (hk : (prefixS xs).length = k) (hx : ∀ x ∈ xs, k ≤ x.length ∧ cs (prefixS xs) = (cs x).take k) :
    ∃ f : Str → Str, csrS xs = xs.map f ∧ ∀ x ∈ xs, cs (f x) = toldL (maxLen xs) k (cs x) := by
  unfold csrS toldL
  by_cases c1 : maxLen xs ≤ 80
  · rw [if_pos c1]
    exact ⟨id, (List.map_id _).symm, fun x _ => by rw [if_pos c1]; rfl⟩
  · rw [if_neg c1, hk]
    by_cases c2 : maxLen xs < k + 58
    · rw [if_pos (by lia)]
      refine ⟨_, rfl, fun x hxm => ?_⟩
      obtain ⟨h1, h2⟩ := hx x hxm
      have hg := maxLen_ge hxm
      have hl := cs_len x
      rw [if_neg c1, if_pos c2, cs_app, show 80 - ((maxLen xs : Int) - (k : Int) + 5 + 12) = ((63 + k - maxLen xs : Nat) : Int) from by lia]
      rw [show (5 : Int) = ((5 : Nat) : Int) from rfl, shorten_cs, h2, slice_from x (by lia), Int.toNat_natCast]
      unfold shortenL
      have e1 : ((cs x).take k).length = k := by rw [List.length_take]; lia
      rw [e1, if_pos (by lia), cutL_app, show k - 5 - (63 + k - maxLen xs) = maxLen xs - 68 from by lia, show k - (63 + k - maxLen xs) = maxLen xs - 63 from by lia]
      unfold cutL
      rw [List.take_take, Nat.min_eq_left (by lia)]
      congr 4
      rw [List.drop_take]
      have : (cs x).drop (maxLen xs - 63) = ((cs x).drop (maxLen xs - 63)).take (k - (maxLen xs - 63)) ++ ((cs x).drop (maxLen xs - 63)).drop (k - (maxLen xs - 63)) := (List.take_append_drop _ _).symm
      rw [List.drop_drop, show maxLen xs - 63 + (k - (maxLen xs - 63)) = k from by lia] at this
      exact this.symm
    · rw [if_neg (by lia)]
      refine ⟨_, rfl, fun x hxm => ?_⟩
      obtain ⟨h1, h2⟩ := hx x hxm
      have hl := cs_len x
      rw [if_neg c1, if_neg c2, cs_app]
      rw [show (5 : Int) = ((5 : Nat) : Int) from rfl, show (41 : Int) = ((41 : Nat) : Int) from rfl, shorten_cs, shorten_cs, h2, slice_from x (by lia), Int.toNat_natCast]
      have e1 : ((cs x).take k).length = k := by rw [List.length_take]; lia
      by_cases c3 : 22 < k
      · rw [if_pos c3]
        conv => lhs; arg 1; unfold shortenL
        rw [e1, if_pos (by lia), cutL_app, show k - 5 - 5 = k - 10 from by lia]
        unfold cutL
        rw [List.take_take, Nat.min_eq_left (by lia)]
      · rw [if_neg c3]
        conv => lhs; arg 1; unfold shortenL
        rw [e1, if_neg (by lia)]
noncomputable def opensTo (t x0 : Str) (hid : Option Nat) (O : Str) : Prop :=
  match hid with
  | none => ¬ openable t ∧ O = t
  | some n => openable t ∧ n < 10 ^ 10 ∧ Txt.slice t (some 6) (some (Txt.find t chS)) = Str.ofString (toString (n : Int)) ∧ openedS t x0 n = O
noncomputable def hidO (M k : Nat) : Option Nat := if 80 < M ∧ M < k + 58 then some (M - 68) else if 80 < M ∧ 22 < k then some (k - 10) else none
noncomputable def outS (M k : Nat) (x : Str) : Str :=
  if 80 < M ∧ k + 58 < x.length then Txt.slice x none (some ((k : Int) + 41)) ++ Str.ofString "[" ++ Str.ofString (toString ((x.length : Int) - (k : Int) - 46)) ++ Str.ofString " chars]" ++ Txt.slice x (some (-5)) none else x
theorem num99 (n : Nat) : 99 ∉ numL (n : Int) := fun h => by have := numN_digit n 99 h; lia
theorem item_five {x : Str} {c : Nat} {l : List Nat} (h : (cs x).drop 5 = c :: l) : Txt.item x 5 = ⟨#[c]⟩ := item_at h
theorem opened_fact {t : Str} {n : Nat} {a b : List Nat} (x0 : Str) (h : cs t = a ++ 91 :: (numL (n : Int) ++ (chL ++ b))) (ha : a.length = 5) (hn : 99 ∉ a) :
    openable t ∧ Txt.slice t (some 6) (some (Txt.find t chS)) = Str.ofString (toString (n : Int)) ∧ cs (openedS t x0 n) = a ++ (((cs x0).drop 5).take n ++ b) := by
  have h' : cs t = (a ++ 91 :: numL (n : Int)) ++ (chL ++ b) := by rw [h]; simp
  have hf : Txt.find t chS = ((6 + (numL (n : Int)).length : Nat) : Int) := by
    rw [find_at h' (fun q => by
      rcases List.mem_append.mp q with q | q
      · exact hn q
      · rcases List.mem_cons.mp q with q | q
        · exact absurd q (by decide)
        · exact num99 n q)]
    rw [List.length_append, List.length_cons, ha]
    lia
  have hl : (numL (n : Int)).length ≠ 0 := fun q => num_ne (n : Int) (List.eq_nil_of_length_eq_zero q)
  have hd5 : (cs t).drop 5 = 91 :: (numL (n : Int) ++ (chL ++ b)) := by rw [h, ← ha, List.drop_append_of_le_length (Nat.le_refl _), List.drop_length, List.nil_append]
  have hd6 : (cs t).drop 6 = numL (n : Int) ++ (chL ++ b) := by
    have := congrArg (List.drop 1) hd5
    rw [List.drop_drop] at this
    exact this
  have hs : Txt.slice t (some 6) (some (Txt.find t chS)) = Str.ofString (toString (n : Int)) := by
    refine str_ext ?_
    rw [hf]
    exact slice_mid (p := 6) hd6 rfl
  refine ⟨⟨?_, ?_, ?_⟩, hs, ?_⟩
  · rw [hf]; lia
  · rw [item_five hd5]; rfl
  · rw [hs]
    exact isdigit_of (num_ne (n : Int)) (numN_digit n)
  · unfold openedS
    rw [cs_app, cs_app, slice_to t (by decide), slice_both x0 (by decide) (by lia), hf, slice_from t (by lia)]
    rw [show (5 : Int).toNat = 5 from rfl, show ((5 : Int) + (n : Int)).toNat - 5 = n from by lia, show (((6 + (numL (n : Int)).length : Nat) : Int) + 7).toNat = 6 + ((numL (n : Int)).length + 7) from by lia]
    rw [← List.drop_drop, hd6, h]
    have e1 : (a ++ 91 :: (numL (n : Int) ++ (chL ++ b))).take 5 = a := by rw [← ha, List.take_append_of_le_length (Nat.le_refl _), List.take_length]
    have e2 : (numL (n : Int) ++ (chL ++ b)).drop ((numL (n : Int)).length + 7) = b := by
      rw [← List.drop_drop, List.drop_append_of_le_length (Nat.le_refl _), List.drop_length, List.nil_append]
      rfl
    rw [e1, e2, List.append_assoc]
theorem closed_fact {t : Str} {n : Nat} {a b : List Nat} (h : cs t = a ++ 91 :: (numL (n : Int) ++ (chL ++ b))) (ha : 6 ≤ a.length) (hn : 99 ∉ a) : ¬ openable t := by
  have h' : cs t = (a ++ 91 :: numL (n : Int)) ++ (chL ++ b) := by rw [h]; simp
  have hf : Txt.find t chS = ((a ++ 91 :: numL (n : Int)).length : Nat) := by
    rw [find_at h' (fun q => by
      rcases List.mem_append.mp q with q | q
      · exact hn q
      · rcases List.mem_cons.mp q with q | q
        · exact absurd q (by decide)
        · exact num99 n q)]
  rintro ⟨_, _, h3⟩
  refine isdigit_no (c := 91) ?_ (by decide) (by decide) h3
  rw [hf, slice_both t (by decide) (by lia), h']
  show 91 ∈ List.take _ (List.drop 6 _)
  rw [List.drop_append_of_le_length (by rw [List.length_append]; lia), List.drop_append_of_le_length ha]
  rw [List.take_append_of_le_length (by simp; lia)]
  rw [List.take_of_length_le (by simp; lia)]
  exact List.mem_append_right _ (.head _)
theorem nofind_fact {t : Str} (h : 99 ∉ cs t) : ¬ openable t := by
  rintro ⟨h1, _⟩
  rw [find_none h] at h1
  exact absurd h1 (by decide)
end Mine
end TPb
section TPc
open PySem PySem.W PySem.Calls PyProof.Rows
set_option maxRecDepth 100000
set_option maxHeartbeats 8000000
open PySem.Builtin.Str
namespace Mine
theorem out_cs (x : Str) (k : Nat) : cs (Txt.slice x none (some ((k : Int) + 41)) ++ Str.ofString "[" ++ Str.ofString (toString ((x.length : Int) - (k : Int) - 46)) ++ Str.ofString " chars]" ++ Txt.slice x (some (-5)) none)
    = (cs x).take (k + 41) ++ 91 :: (numL ((x.length : Int) - (k : Int) - 46) ++ (chL ++ (cs x).drop ((cs x).length - 5))) := by
  rw [cs_app, cs_app, cs_app, cs_app, ch_cs, show cs (Str.ofString "[") = [91] from by rw [cs_lit]; decide, slice_to x (by lia), show (-5 : Int) = (-((5 : Nat) : Int)) from rfl, slice_last x (by decide),
    show ((k : Int) + 41).toNat = k + 41 from by lia]
  simp [numL]
theorem short_app (x : List Nat) (k : Nat) : x.take k ++ shortenL (x.drop k) 41 5 = if k + 58 < x.length then x.take (k + 41) ++ 91 :: (numL ((x.length : Int) - (k : Int) - 46) ++ (chL ++ x.drop (x.length - 5))) else x := by
  unfold shortenL
  rw [List.length_drop]
  by_cases h : k + 58 < x.length
  · rw [if_pos h, if_pos (by lia)]
    unfold cutL
    rw [← List.append_assoc, ← List.take_add, show (((x.length - k - 41 - 5 : Nat) : Int)) = (x.length : Int) - (k : Int) - 46 from by lia, List.drop_drop, show k + (x.length - k - 5) = x.length - 5 from by lia]
  · rw [if_neg h, if_neg (by lia), List.take_append_drop]
theorem turn_law {xs : List Str} {k : Nat} (hne : xs ≠ []) (h5 : maxLen xs ≤ 5000) (h99 : ∀ x ∈ xs, 99 ∉ cs x) (h1 : k ≤ (xs.getD 0 default).length) (h2 : agree xs k)
    {x t : Str} (hxm : x ∈ xs) (hkx : k ≤ x.length) (ht : cs t = toldL (maxLen xs) k (cs x)) :
    t.length ≤ 80 ∧ opensTo t (xs.getD 0 default) (hidO (maxLen xs) k) (outS (maxLen xs) k x) := by
  have hl := cs_len x
  have hg := maxLen_ge hxm
  have hc := h99 x hxm
  have hct : ∀ j, 99 ∉ (cs x).take j := fun j q => hc (List.mem_of_mem_take q)
  have hcd : ∀ j, 99 ∉ (cs x).drop j := fun j q => hc (List.mem_of_mem_drop q)
  have hlt := cs_len t
  have ag : (cs x).take k = (cs (xs.getD 0 default)).take k := h2 x hxm
  generalize xs.getD 0 default = x0 at *
  generalize maxLen xs = M at *
  unfold toldL at ht
  unfold hidO outS
  by_cases c1 : M ≤ 80
  · rw [if_pos c1] at ht
    rw [if_neg (by lia), if_neg (by lia), if_neg (by lia)]
    refine ⟨by rw [← hlt, ht]; lia, nofind_fact (by rw [ht]; exact hc), (str_ext ht).symm⟩
  · rw [if_neg c1] at ht
    by_cases c2 : M < k + 58
    · rw [if_pos c2] at ht
      rw [if_pos ⟨by lia, c2⟩, if_neg (by lia)]
      unfold cutL at ht
      have e5 : ((cs x).take 5).length = 5 := by rw [List.length_take]; lia
      obtain ⟨o1, o2, o3⟩ := opened_fact x0 ht e5 (hct 5)
      have hn := numN_len (n := M - 68) (by lia)
      refine ⟨?_, o1, by lia, o2, str_ext ?_⟩
      · rw [← hlt, ht, List.length_append, e5, List.length_cons, List.length_append, List.length_append, List.length_drop, show chL.length = 7 from rfl]
        lia
      · rw [o3]
        have : ((cs x0).drop 5).take (M - 68) = ((cs x).drop 5).take (M - 68) := by
          have := congrArg (fun l => (l.drop 5).take (M - 68)) ag
          rw [List.drop_take, List.drop_take, List.take_take, List.take_take, Nat.min_eq_left (by lia)] at this
          exact this.symm
        rw [this, ← List.append_assoc, ← List.take_add, show 5 + (M - 68) = M - 63 from by lia, List.take_append_drop]
    · rw [if_neg c2] at ht
      have hsl : (shortenL ((cs x).drop k) 41 5).length ≤ 58 := by
        have hYl := List.length_drop (i := k) (l := cs x)
        generalize (cs x).drop k = Y at hYl
        unfold shortenL
        split
        · unfold cutL
          have := numN_len (n := Y.length - 41 - 5) (by lia)
          rw [List.length_append, List.length_take, List.length_cons, List.length_append, List.length_append, show chL.length = 7 from rfl, List.length_drop]
          lia
        · lia
      have hout : cs (outS M k x) = (cs x).take k ++ shortenL ((cs x).drop k) 41 5 := by
        rw [short_app]
        unfold outS
        by_cases c4 : k + 58 < x.length
        · rw [if_pos (⟨by lia, c4⟩ : 80 < M ∧ k + 58 < x.length), if_pos (by lia), out_cs x k, ← hl]
        · rw [if_neg (by lia), if_neg (by lia)]
      have hou : outS M k x = (if 80 < M ∧ k + 58 < x.length then Txt.slice x none (some ((k : Int) + 41)) ++ Str.ofString "[" ++ Str.ofString (toString ((x.length : Int) - (k : Int) - 46)) ++ Str.ofString " chars]" ++ Txt.slice x (some (-5)) none else x) := rfl
      rw [← hou]
      rw [if_neg (fun q => c2 q.2)]
      by_cases c3 : 22 < k
      · rw [if_pos c3] at ht
        rw [if_pos ⟨by lia, c3⟩]
        unfold cutL at ht
        have e5 : ((cs x).take 5).length = 5 := by rw [List.length_take]; lia
        obtain ⟨o1, o2, o3⟩ := opened_fact x0 ht e5 (hct 5)
        have hn := numN_len (n := k - 10) (by lia)
        refine ⟨?_, o1, by lia, o2, str_ext ?_⟩
        · rw [← hlt, ht, List.length_append, e5, List.length_cons, List.length_append, List.length_append, List.length_append, List.length_drop, List.length_take, show chL.length = 7 from rfl]
          lia
        · rw [o3, hout]
          have : ((cs x0).drop 5).take (k - 10) = ((cs x).drop 5).take (k - 10) := by
            have := congrArg (fun l => (l.drop 5).take (k - 10)) ag
            rw [List.drop_take, List.drop_take, List.take_take, List.take_take, Nat.min_eq_left (by lia)] at this
            exact this.symm
          rw [this, ← List.append_assoc, ← List.take_add, ← List.append_assoc, show 5 + (k - 10) = k - 5 from by lia]
          congr 1
          have := List.take_append_drop (k - 5) ((cs x).take k)
          rw [List.take_take, Nat.min_eq_left (by lia)] at this
          exact this
      · rw [if_neg c3] at ht
        rw [if_neg (by lia)]
        refine ⟨?_, ?_, str_ext (hout.trans ht.symm)⟩
        · rw [← hlt, ht, List.length_append, List.length_take]
          lia
        · by_cases c4 : k + 58 < (cs x).length
          · have hs := short_app (cs x) k
            rw [if_pos c4] at hs
            rw [hs] at ht
            rw [show ((cs x).length : Int) - (k : Int) - 46 = (((cs x).length - k - 46 : Nat) : Int) from by lia] at ht
            exact closed_fact ht (by rw [List.length_take]; lia) (hct _)
          · have hs := short_app (cs x) k
            rw [if_neg c4] at hs
            rw [hs] at ht
            exact nofind_fact (by rw [ht]; exact hc)
theorem head_cut {p n : Nat} {x z : List Nat} (hp : 0 < p) (hx : x ≠ []) : (cutL p n x z).head? = x.head? := by
  cases x with
  | nil => exact absurd rfl hx
  | cons c r =>
    cases p with
    | zero => exact absurd hp (by decide)
    | succ p => rfl
theorem head_shorten (x : List Nat) : (shortenL x 41 5).head? = x.head? := by
  unfold shortenL
  split
  · rename_i h
    exact head_cut (by decide) (fun q => by rw [q] at h; exact absurd h (by decide))
  · rfl
theorem told_inj {M k : Nat} {x y : List Nat} (hM : 80 < M → x.length ≤ M ∧ y.length ≤ M ∧ k ≤ x.length ∧ k ≤ y.length) (hk : x.take k = y.take k) (h : toldL M k x = toldL M k y) (hd : (x.drop k).head? = (y.drop k).head? → x = y) : x = y := by
  unfold toldL at h
  by_cases c1 : M ≤ 80
  · rw [if_pos c1, if_pos c1] at h
    exact h
  · obtain ⟨m1, m2, m3, m4⟩ := hM (by lia)
    rw [if_neg c1, if_neg c1] at h
    by_cases c2 : M < k + 58
    · rw [if_pos c2, if_pos c2] at h
      unfold cutL at h
      have e5 : (x.take 5).length = (y.take 5).length := by rw [List.length_take, List.length_take]; lia
      have h := (List.append_inj h e5).2
      have h := (List.cons.inj h).2
      have h := List.append_cancel_left h
      have h := List.append_cancel_left h
      have h := congrArg (List.drop (k - (M - 63))) h
      rw [List.drop_drop, List.drop_drop, show M - 63 + (k - (M - 63)) = k from by lia] at h
      exact hd (congrArg List.head? h)
    · rw [if_neg c2, if_neg c2] at h
      by_cases c3 : 22 < k
      · rw [if_pos c3, if_pos c3] at h
        unfold cutL at h
        have e5 : (x.take 5).length = (y.take 5).length := by rw [List.length_take, List.length_take]; lia
        have h := (List.append_inj h e5).2
        have h := (List.cons.inj h).2
        have h := List.append_cancel_left h
        have h := List.append_cancel_left h
        rw [hk] at h
        have h := List.append_cancel_left h
        have h := congrArg List.head? h
        rw [head_shorten, head_shorten] at h
        exact hd h
      · rw [if_neg c3, if_neg c3, hk] at h
        have h := List.append_cancel_left h
        have h := congrArg List.head? h
        rw [head_shorten, head_shorten] at h
        exact hd h
theorem two_law {x y t u : Str} {k : Nat} (h1 : k ≤ x.length) (h2 : agree [x, y] k) (h3 : ∀ j, k < j → j ≤ x.length → ¬ agree [x, y] j) (hky : k ≤ y.length)
    (ht : cs t = toldL (maxLen [x, y]) k (cs x)) (hu : cs u = toldL (maxLen [x, y]) k (cs y)) : t = u ↔ x = y := by
  constructor
  · intro e
    refine str_ext (told_inj (M := maxLen [x, y]) (k := k) (fun _ => ?_) ?_ (by rw [← ht, ← hu, e]) fun hd => ?_)
    · rw [cs_len, cs_len]
      exact ⟨maxLen_ge (.head _), maxLen_ge (.tail _ (.head _)), h1, hky⟩
    · exact (h2 y (.tail _ (.head _))).symm
    · have hk : (cs x).take k = (cs y).take k := (h2 y (.tail _ (.head _))).symm
      rcases Nat.lt_or_ge k x.length with q | q
      · exfalso
        refine h3 (k + 1) (Nat.lt_succ_self _) q ?_
        have : (cs y).take (k + 1) = (cs x).take (k + 1) := by
          rw [List.take_add_one, List.take_add_one, hk]
          rw [List.head?_drop, List.head?_drop] at hd
          rw [hd]
        intro z hz
        rcases List.mem_cons.mp hz with rfl | hz
        · rfl
        · exact List.mem_singleton.mp hz ▸ this
      · have hx := cs_len x
        have e1 : (cs x).drop k = [] := List.drop_of_length_le (by lia)
        have e2 : (cs y).drop k = [] := by
          rw [e1] at hd
          cases z : (cs y).drop k with
          | nil => rfl
          | cons c r => rw [z] at hd; cases hd
        rw [← List.take_append_drop k (cs x), ← List.take_append_drop k (cs y), e1, e2, hk]
  · intro e
    subst e
    exact str_ext (ht.trans hu.symm)
end Mine
end TPc
section TPd
open PySem PySem.W PySem.Calls PyProof.Rows
set_option maxRecDepth 100000
set_option maxHeartbeats 8000000
open PySem.Builtin.Str
namespace Mine
theorem num_lt58 {c : Nat} (h : isNumC c = true) : c < 58 ∧ c ≠ 34 ∧ c ≠ 39 ∧ c ≠ 40 := by
  unfold isNumC at h
  simp at h
  lia
theorem join99 : ∀ ls : List (List Nat), (∀ l ∈ ls, 99 ∉ l) → 99 ∉ joinL ls
  | [], _ => by unfold joinL; simp
  | [x], h => by unfold joinL; exact h x (.head _)
  | x :: y :: r, h => by
    have := join99 (y :: r) (fun l hl => h l (.tail _ hl))
    have := h x (.head _)
    unfold joinL
    simp only [List.mem_append, not_or]
    exact ⟨⟨this, by decide⟩, by assumption⟩
mutual
theorem mem99 : ∀ d : Dt, Good d → 99 ∉ shownD d
  | .str x, h => by
    intro q
    have hq : quoteD x ≠ 99 := by
      have := quote_two x
      rcases List.mem_cons.mp this with e | e
      · rw [e]; decide
      · rw [List.mem_singleton.mp e]; decide
    rcases List.mem_cons.mp q with e | q
    · exact hq e.symm
    · rcases List.mem_append.mp q with q | q
      · exact absurd (h.1 _ q) (by decide)
      · exact hq (List.mem_singleton.mp q).symm
  | .int i, _ => fun q => absurd (num_chars i 99 q) (by decide)
  | .lst ds, h => by
    have := join99 _ (mem99L ds h)
    show 99 ∉ 91 :: (joinL (shownL ds) ++ [93])
    simp only [List.mem_cons, List.mem_append, not_or]
    exact ⟨by decide, this, by decide, by simp⟩
  | .tup ds, h => by
    have := join99 _ (mem99L ds h)
    show 99 ∉ 40 :: (joinL (shownL ds) ++ (if ds.length = 1 then [44, 41] else [41]))
    simp only [List.mem_cons, List.mem_append, not_or]
    refine ⟨by decide, this, ?_⟩
    split <;> decide
  | .dct k v, h => by
    have h1 := mem99 v h.2
    have h2 : 99 ∉ numL k := fun q => absurd (num_chars k 99 q) (by decide)
    show 99 ∉ 123 :: ((numL k ++ [58, 32] ++ shownD v) ++ [125])
    simp only [List.mem_cons, List.mem_append, not_or]
    exact ⟨by decide, ⟨⟨h2, by decide, by decide, by simp⟩, h1⟩, by decide, by simp⟩
theorem mem99L : ∀ ds : List Dt, GoodL ds → ∀ l ∈ shownL ds, 99 ∉ l
  | [], _, _, hl => nomatch hl
  | d :: r, h, l, hl => by
    rcases List.mem_cons.mp hl with e | hl
    · exact e ▸ mem99 d h.1
    · exact mem99L r h.2 l hl
end
noncomputable def tagC (c : Nat) : Nat := if c = 34 ∨ c = 39 then 0 else if c = 91 then 2 else if c = 40 then 3 else if c = 123 then 4 else 1
noncomputable def tagD : Dt → Nat
  | .str _ => 0 | .int _ => 1 | .lst _ => 2 | .tup _ => 3 | .dct _ _ => 4
theorem tag_of (d : Dt) : ∃ c r, shownD d = c :: r ∧ tagC c = tagD d := by
  cases d with
  | str x =>
    refine ⟨_, _, rfl, ?_⟩
    have := quote_two x
    rcases List.mem_cons.mp this with e | e
    · rw [e]; rfl
    · rw [List.mem_singleton.mp e]; rfl
  | int i =>
    cases e : numL i with
    | nil => exact absurd e (num_ne i)
    | cons c r =>
      have h := num_lt58 (num_chars i c (e ▸ .head _))
      refine ⟨c, r, e, ?_⟩
      unfold tagC
      rw [if_neg (by lia), if_neg (by lia), if_neg (by lia), if_neg (by lia)]
      rfl
  | lst ds => exact ⟨_, _, rfl, rfl⟩
  | tup ds => exact ⟨_, _, rfl, rfl⟩
  | dct k v => exact ⟨_, _, rfl, rfl⟩
theorem tag_eq {d e : Dt} {r r' : List Nat} (h : shownD d ++ r = shownD e ++ r') : tagD d = tagD e := by
  obtain ⟨c, l, e1, t1⟩ := tag_of d
  obtain ⟨c', l', e2, t2⟩ := tag_of e
  rw [e1, e2] at h
  rw [← t1, ← t2, (List.cons.inj h).1]
theorem quote_inj : ∀ {q : Nat} {a b r r' : List Nat}, q ∉ a → q ∉ b → a ++ q :: r = b ++ q :: r' → a = b ∧ r = r'
  | _, [], [], _, _, _, _, h => ⟨rfl, (List.cons.inj h).2⟩
  | q, [], c :: b, _, _, _, h2, h => absurd ((List.cons.inj h).1 ▸ .head _) h2
  | q, c :: a, [], _, _, h1, _, h => absurd ((List.cons.inj h).1 ▸ .head _) h1
  | q, c :: a, d :: b, _, _, h1, h2, h => by
    obtain ⟨e, h⟩ := List.cons.inj h
    obtain ⟨e', h⟩ := quote_inj (fun z => h1 (.tail _ z)) (fun z => h2 (.tail _ z)) h
    exact ⟨by rw [e, e'], h⟩
theorem span_inj : ∀ {a b r r' : List Nat}, (∀ c ∈ a, isNumC c = true) → (∀ c ∈ b, isNumC c = true) → (∃ c l, r = c :: l ∧ isNumC c = false) → (∃ c l, r' = c :: l ∧ isNumC c = false) → a ++ r = b ++ r' → a = b ∧ r = r'
  | [], [], _, _, _, _, _, _, h => ⟨rfl, h⟩
  | [], c :: b, _, _, _, h2, ⟨d, l, e, n⟩, _, h => by
    rw [e] at h
    rw [(List.cons.inj h).1, h2 c (.head _)] at n
    cases n
  | c :: a, [], _, _, h1, _, _, ⟨d, l, e, n⟩, h => by
    rw [e] at h
    rw [← (List.cons.inj h).1, h1 c (.head _)] at n
    cases n
  | c :: a, d :: b, _, _, h1, h2, h3, h4, h => by
    obtain ⟨e, h⟩ := List.cons.inj h
    obtain ⟨e', h⟩ := span_inj (fun z hz => h1 z (.tail _ hz)) (fun z hz => h2 z (.tail _ hz)) h3 h4 h
    exact ⟨by rw [e, e'], h⟩
theorem cons_app {c c' : Nat} {l l' r r' : List Nat} (h : c :: l ++ r = c' :: l' ++ r') : c = c' ∧ l ++ r = l' ++ r' := List.cons.inj h
theorem num_inj {i j : Int} (hi : i.natAbs < 10 ^ 13) (h : numL i = numL j) : i = j := by
  have hl : (Str.ofString (toString i)).length ≤ 640 := by
    rw [← cs_len]
    exact Nat.le_trans (num_len hi) (by decide)
  have h1 := num_back (i := i) (x := Str.ofString (toString i)) rfl hl
  have h2 := num_back (i := j) (x := Str.ofString (toString i)) h hl
  rw [h1] at h2
  exact Option.some.inj h2
theorem end_head {d : Dt} {r : List Nat} (i : Int) (h : EndOk d r) (e : d = .int i) : ∃ c l, r = c :: l ∧ isNumC c = false := by
  obtain ⟨c, l, e, n, _⟩ := h i e
  exact ⟨c, l, e, n⟩
mutual
theorem shown_inj : ∀ (d e : Dt) (r r' : List Nat), Good d → Good e → EndOk d r → EndOk e r' → shownD d ++ r = shownD e ++ r' → d = e ∧ r = r'
  | .str x, e, r, r', g1, g2, _, _, h => by
    have ht := tag_eq h
    cases e with
    | str y =>
      have h : quoteD x :: (cs x ++ [quoteD x]) ++ r = quoteD y :: (cs y ++ [quoteD y]) ++ r' := h
      obtain ⟨q, h⟩ := cons_app h
      have o1 := quote_out g1.2
      have o2 := quote_out g2.2
      rw [← q] at h o2
      rw [List.append_assoc, List.append_assoc] at h
      obtain ⟨e1, e2⟩ := quote_inj o1 o2 h
      exact ⟨by rw [str_ext e1], e2⟩
    | _ => simp [tagD] at ht
  | .int i, e, r, r', g1, g2, n1, n2, h => by
    have ht := tag_eq h
    cases e with
    | int j =>
      obtain ⟨e1, e2⟩ := span_inj (num_chars i) (num_chars j) (end_head i n1 rfl) (end_head j n2 rfl) h
      exact ⟨by rw [num_inj g1 e1], e2⟩
    | _ => simp [tagD] at ht
  | .lst ds, e, r, r', g1, g2, _, _, h => by
    have ht := tag_eq h
    cases e with
    | lst es =>
      have h : 91 :: (joinL (shownL ds) ++ [93]) ++ r = 91 :: (joinL (shownL es) ++ [93]) ++ r' := h
      have h := (cons_app h).2
      rw [List.append_assoc, List.append_assoc] at h
      have t1 := tail_join 93 rfl r ds
      have t2 := tail_join 93 rfl r' es
      have h' : joinL (shownL ds) ++ 93 :: r = joinL (shownL es) ++ 93 :: r' := h
      rw [h'] at t1
      obtain ⟨e1, e2⟩ := tail_inj ds es _ r r' g1 g2 t1 t2
      exact ⟨by rw [e1], e2⟩
    | _ => simp [tagD] at ht
  | .tup ds, e, r, r', g1, g2, _, _, h => by
    have ht := tag_eq h
    cases e with
    | tup es =>
      have h : 40 :: (joinL (shownL ds) ++ (if ds.length = 1 then [44, 41] else [41])) ++ r = 40 :: (joinL (shownL es) ++ (if es.length = 1 then [44, 41] else [41])) ++ r' := h
      have h := (cons_app h).2
      have t1 := tail_tup r ds
      have t2 := tail_tup r' es
      rw [h] at t1
      obtain ⟨e1, e2⟩ := tail_inj ds es _ r r' g1 g2 t1 t2
      exact ⟨by rw [e1], e2⟩
    | _ => simp [tagD] at ht
  | .dct k v, e, r, r', g1, g2, _, _, h => by
    have ht := tag_eq h
    cases e with
    | dct k' v' =>
      have h : 123 :: ((numL k ++ [58, 32] ++ shownD v) ++ [125]) ++ r = 123 :: ((numL k' ++ [58, 32] ++ shownD v') ++ [125]) ++ r' := h
      have h := (cons_app h).2
      simp only [List.append_assoc] at h
      obtain ⟨e1, h⟩ := span_inj (num_chars k) (num_chars k') ⟨58, _, rfl, by decide⟩ ⟨58, _, rfl, by decide⟩ h
      have h := (List.cons.inj (List.cons.inj h).2).2
      have n1 : EndOk v ([125] ++ r) := endOk_of (by decide) (by decide)
      have n2 : EndOk v' ([125] ++ r') := endOk_of (by decide) (by decide)
      obtain ⟨e2, h⟩ := shown_inj v v' _ _ g1.2 g2.2 n1 n2 h
      exact ⟨by rw [num_inj g1.1 e1, e2], (List.cons.inj h).2⟩
    | _ => simp [tagD] at ht
theorem tail_inj : ∀ (ds es : List Dt) (u r r' : List Nat), GoodL ds → GoodL es → Tail ds u r → Tail es u r' → ds = es ∧ r = r'
  | [], es, u, r, r', _, _, t1, t2 => by
    cases t1 with
    | @nil c _ hc =>
      cases es with
      | nil => cases t2 with | nil _ => exact ⟨rfl, rfl⟩
      | cons e es =>
        obtain ⟨c1, r1, e1, _⟩ := tail_cons t2
        obtain ⟨c', l, e2, _, n⟩ := first_open e
        rw [e2] at e1
        rw [(List.cons.inj e1).1, n] at hc
        cases hc
  | d :: ds, es, u, r, r', g1, g2, t1, t2 => by
    obtain ⟨c1, r1, e1, n1, _, c2, r2, f1, t1⟩ := tail_cons t1
    cases es with
    | nil =>
      cases t2 with
      | @nil c _ hc =>
        obtain ⟨c', l, e2, _, n⟩ := first_open d
        rw [e2] at e1
        rw [(List.cons.inj e1).1, n] at hc
        cases hc
    | cons e es =>
      obtain ⟨c3, r3, e3, n3, _, c4, r4, f3, t3⟩ := tail_cons t2
      obtain ⟨q1, q2⟩ := shown_inj d e _ _ g1.1 g2.1 n1 n3 (e1.symm.trans e3)
      obtain ⟨q3, q4⟩ := List.cons.inj q2
      subst q3 q4
      have q5 : c2 :: r2 = c4 :: r4 := by
        by_cases q : c1 = 44 ∨ c1 = 58
        · rw [if_pos q] at f1 f3
          exact f1.symm.trans f3
        · rw [if_neg q] at f1 f3
          exact f1.symm.trans f3
      obtain ⟨q6, q7⟩ := List.cons.inj q5
      subst q6 q7
      obtain ⟨q8, q9⟩ := tail_inj ds es _ r r' g1.2 g2.2 t1 t3
      exact ⟨by rw [q1, q8], q9⟩
end
theorem shown_iff {d e : Dt} (g1 : Good d) (g2 : Good e) (h1 : ∃ es, d = .lst es) (h2 : ∃ es, e = .lst es) : d.data.shown = e.data.shown ↔ d = e := by
  constructor
  · intro h
    have := congrArg cs h
    rw [shown_eq d g1, shown_eq e g2] at this
    refine (shown_inj d e [] [] g1 g2 ?_ ?_ (by rw [this])).1
    · intro i q; obtain ⟨es, rfl⟩ := h1; cases q
    · intro i q; obtain ⟨es, rfl⟩ := h2; cases q
  · intro h; rw [h]
end Mine
end TPd
section TWo
open PySem PySem.W PySem.Calls PyProof.Rows
set_option maxRecDepth 100000
set_option maxHeartbeats 8000000
open PySem.SeqAt
namespace Mine
noncomputable def hidV (o : Option Nat) (v : Value) : Prop := match o with | none => v = .none | some n => ∃ t, v = .int (n : Int) t
theorem at_lvE {α : Type} {M : Model} {d u : Nat} {A : Around} {t : Sem α} {Q : α → Shared → Prop} {E : Value → Shared → Prop} {s : Shared} (h : wpAny M (lv d u) t Q (fun _ _ => False) s)
    (hh : A.handled = none) (hd : A.depth ≤ d) (hg : A.guards = some []) (hu : A.units ≤ u) : wpAny M A t Q E s :=
  wpAny_mono (at_lv h hh hd hg hu) (fun _ _ h => h) (fun _ _ h => h.elim)
theorem law_open2 {w : World} {s : Shared} {Q : Value → Shared → Prop}
   (O : Ok w s.heap) (x y : Str) (t1 t2 : Tok) (hx : x.length ≤ 10000) (hy : y.length ≤ 10000) (o : Option Nat) (R : Str) (ho : opensTo x y o R)
   (hret : ∀ h' tk D t v, hidV o v → s.heap.get? D = none → h'.get? D = some (tupO [.str R t, v]) → Ext s.heap h' → Q (.ref D) { s with heap := h', toks := tk }) :
   wpAny (model prog w) (lv 800 2500) (call (.ref 95) [.str x t1, .str y t2]) Q (fun _ _ => False) s := by
  cases o with
  | none =>
    obtain ⟨h1, h2⟩ := ho
    refine law_open_ok O x y t1 t2 hx hy 0 (fun q => absurd q h1) (fun _ h' tk D a b c => ?_) (fun q => absurd q h1)
    exact hret h' tk D t1 .none rfl a (by rw [h2]; exact b) c
  | some n =>
    obtain ⟨h1, h2, h3, h4⟩ := ho
    refine law_open_ok O x y t1 t2 hx hy (n : Int) (fun _ => ⟨Int.natCast_nonneg _, by lia, h3⟩) (fun q => absurd h1 q) (fun _ h' tk D t t' a b c => ?_)
    exact hret h' tk D t (.int (n : Int) t') ⟨t', rfl⟩ a (by rw [← h4]; exact b) c
theorem ne_hid {w : World} {A : Around} {E : Value → Shared → Prop} {s : Shared} {Q : Value → Shared → Prop} {o : Option Nat} {a b : Value} (ha : hidV o a) (hb : hidV o b) (h : Q (.bool false) s) : wpAny (model prog w) A (compareOp .NotEq a b) Q E s := by
  cases o with
  | none =>
    cases ha; cases hb
    exact EqBoolInt.of_rcne SeqAt.RcNeAt.none_none h
  | some n =>
    obtain ⟨t, rfl⟩ := ha
    obtain ⟨u, rfl⟩ := hb
    have := SeqAt.RcNeAt.int_int (A := A) (s := s) (n : Int) t (n : Int) u
    rw [beq_self_eq_true] at this
    exact EqBoolInt.of_rcne this h
theorem ne_same {w : World} {A : Around} {E : Value → Shared → Prop} {s : Shared} {Q : Value → Shared → Prop} {x y : Str} {t u : Tok} (e : x = y) (h : Q (.bool false) s) : wpAny (model prog w) A (compareOp .NotEq (.str x t) (.str y u)) Q E s := by
  subst e
  have := SeqAt.RcNeAt.str_str (A := A) (s := s) x t x u
  rw [beq_self_eq_true] at this
  exact EqBoolInt.of_rcne this h
theorem eq_lists {w : World} {A : Around} {E : Value → Shared → Prop} {s : Shared} {Q : Value → Shared → Prop} {a b : Addr} {ds es : List Dt} (ra : Rep w s.heap (.ref a) (.lst ds)) (rb : Rep w s.heap (.ref b) (.lst es))
   (hd : (Dt.lst ds).dep ≤ 12) (hu : A.units + 20 < cLine) (h : Q (.bool (eqD (.lst ds) (.lst es))) s) : wpAny (model prog w) A (compareOp .Eq (.ref a) (.ref b)) Q E s := by
  cases ra with
  | @lst _ n1 vs _ _ k1 r1 =>
    cases rb with
    | @lst _ n2 us _ _ k2 r2 =>
      have l1 := r1.length
      have l2 := r2.length
      have key : RcAt A s (.ref a) (.ref b) (eqD (.lst ds) (.lst es)) := by
        by_cases hl : ds.length = es.length
        · have := RcAt.lists (A := A) (e := fun j => match ds[j]?, es[j]? with | some d, some e => eqD d e | _, _ => false) (islist_of k1) (islist_of k2) (by rw [List.size_toArray, List.size_toArray]; lia) (by lia) (fun j j1 j2 => by
              obtain ⟨d1, g1, q1⟩ := repL_at r1 (j := j) (v := vs.toArray[j]) (by rw [← List.getElem?_toArray]; exact Array.getElem?_eq_getElem j1)
              obtain ⟨d2, g2, q2⟩ := repL_at r2 (j := j) (v := us.toArray[j]) (by rw [← List.getElem?_toArray]; exact Array.getElem?_eq_getElem j2)
              rw [g1, g2]
              exact eq_rep 12 A.in1 s _ _ d1 d2 (Nat.le_trans (depL_mem (List.mem_of_getElem? g1)) (Nat.le_trans (Nat.le_succ _) hd)) q1 q2 (by show A.units + 1 + 12 < cLine; lia))
          rw [List.size_toArray, l1] at this
          rw [eqD_lst, ← eqL_all ds es hl]
          exact this
        · have := RcAt.lists_lengths (A := A) (islist_of k1) (islist_of k2) (by rw [List.size_toArray, List.size_toArray, l1, l2]; exact bne_iff_ne.mpr hl) (by lia)
          have e : eqD (.lst ds) (.lst es) = false := by
            cases q : eqD (.lst ds) (.lst es) with
            | false => rfl
            | true => have := (eqD_iff _ _).mp q; injection this with this; exact absurd (congrArg List.length this) hl
          rw [e]
          exact this
      exact key prog w E Q h
theorem ne_read {w : World} {A : Around} {E : Value → Shared → Prop} {s : Shared} {Q : Value → Shared → Prop} {T1 T2 : Addr} {v v' : Value} {d : Dt} {n : Int} {t t' : Tok}
   (h1 : s.heap.get? T1 = some (tupO [v, .int n t])) (h2 : s.heap.get? T2 = some (tupO [v', .int n t'])) (r1 : Rep w s.heap v d) (r2 : Rep w s.heap v' d) (hd : d.dep ≤ 12) (hu : A.units + 20 < cLine) (h : Q (.bool false) s) :
   wpAny (model prog w) A (compareOp .NotEq (.ref T1) (.ref T2)) Q E s := by
  have key := SeqAt.RcNeAt.tuples (A := A) (e := fun j => true) (istup_of h1) (istup_of h2) (by lia) (fun j j1 j2 => by
    have hj : j = 0 ∨ j = 1 := by simp at j1; lia
    rcases hj with rfl | rfl
    · have := eq_rep 12 A.in1 s v v' d d hd r1 r2 (by show A.units + 1 + 12 < cLine; lia)
      rw [(eqD_iff d d).mpr rfl] at this
      exact this
    · have := EqAt.int_int (A := A.in1) (s := s) n t n t'
      rw [beq_self_eq_true] at this
      exact this)
  exact EqBoolInt.of_rcne key h
end Mine
end TWo
section TW17
open PySem PySem.W PySem.Calls PyProof.Rows
set_option maxRecDepth 100000
set_option maxHeartbeats 8000000
namespace Mine
theorem fillW17 (P : Params) : PySem.Challenge.rw_sr0100_01 = PySem.Challenge.rw_sr0100_01 ∧ hd.heap_39 P = hd.heap_39 P := by
  w_top off
  k_fill
  exact ⟨rfl, rfl⟩
theorem star_at {w : World} {A : Around} {E : Value → Shared → Prop} {s : Shared} {a : Addr} {vals : List Value} {n : Nat} {Q : List Value → Shared → Prop} (D : s.heap.get? a = some (lstO vals n)) (hz : vals.length ≤ 10000)
    (h : ∀ h', Ext s.heap h' → Q vals { s with heap := h' }) : StarOf (model prog w) A E (.ref a) Q s := by
  have hT' : s.TypeIs (.ref a) "list" := ⟨_, D, rfl⟩
  have z : wpAny (model prog w) A (collect (.ref a)) Q E s := by
    have := wpAny_collect_seq (A := A) (prog := prog) (w := w) (E := E) (Q := Q) a (.inl rfl) D rfl rfl (fun h' hk => ?_) (by rw [List.size_toArray, sizeLine_eq]; lia)
    · exact this
    · have := h h' hk
      rw [show vals.toArray.toList = vals from List.toList_toArray ..]
      exact this
  unfold StarOf notIterableAtAll
  exact wpAny_bind (wpAny_specialOf hT' PySem.F.slot_list_iter.lookup (wpAny_pure ⟨rfl, z⟩))
theorem dataL_map : ∀ ds : List Dt, Dt.dataL ds = ds.map Dt.data
  | [] => rfl
  | d :: r => by rw [List.map_cons, ← dataL_map r]; rfl
theorem dataL_get {ds : List Dt} {i : Nat} {d : Dt} (h : ds[i]? = some d) : (Dt.dataL ds).getD i .none = d.data := by
  rw [dataL_map, List.getD_eq_getElem?_getD, List.getElem?_map, h]; rfl
mutual
theorem dep_eq : ∀ d : Dt, d.data.depth = d.dep
  | .str _ => rfl
  | .int _ => rfl
  | .lst ds => by show PyData.depthAll (Dt.dataL ds) + 1 = _; rw [depL_eq ds]; rfl
  | .tup ds => by show PyData.depthAll (Dt.dataL ds) + 1 = _; rw [depL_eq ds]; rfl
  | .dct k v => by
    show max (max 0 (Dt.data v).depth) 0 + 1 = _
    rw [dep_eq v, Nat.max_eq_left (Nat.zero_le _), Nat.max_eq_right (Nat.zero_le _)]; rfl
theorem depL_eq : ∀ ds : List Dt, PyData.depthAll (Dt.dataL ds) = Dt.depL ds
  | [] => rfl
  | d :: r => by show max (Dt.data d).depth (PyData.depthAll (Dt.dataL r)) = _; rw [dep_eq d, depL_eq r]; rfl
end
theorem csrS_len (xs : List Str) : (csrS xs).length = xs.length := by
  unfold csrS
  split
  · rfl
  · split <;> rw [List.length_map]
theorem paired_shown {w : World} {h : Heap} {vals ys : List Value} (hp : Paired (fun v y => ∃ d t, Rep w h v d ∧ y = Value.str d.data.shown t) vals ys) : ∀ {ds : List Dt}, RepL w h vals ds → StrsAre ys ((Dt.dataL ds).map PyData.shown) := by
  induction hp with
  | nil => intro ds r; cases r; exact .nil
  | cons hd _ ih =>
    intro ds r
    cases r with
    | cons a b =>
      obtain ⟨d, t, rd, rfl⟩ := hd
      cases rep_uniq rd a
      exact .cons _ t (ih b)
theorem max_ints {w : World} {A : Around} {E : Value → Shared → Prop} {s : Shared} {a : Addr} {vs : List Value} {Q : Value → Shared → Prop} (g : Nat → Int)
   (hh : A.handled = none) (hT : s.heap.IsList a vs.toArray) (hv : ∀ (i : Nat) (v : Value), vs[i]? = some v → ∃ t, v = Value.int (g i) t) (hpos : 0 < vs.length)
   (h : ∀ h' tk t i, i < vs.length → (∀ j, j < vs.length → g j ≤ g i) → Ext s.heap h' → Q (.int (g i) t) { s with heap := h', toks := tk }) :
   wpAny (model prog w) A (call (.builtin "max") [.ref a]) Q E s := by
  obtain ⟨ot, hot, _⟩ := id hT
  have hlt : a < s.heap.objs.size := Heap.lt_size hot
  refine call_max_walk (wpAny_pyIter_list hT ?_)
  refine ⟨_, _, _, vs.toArray.size, _, _, (fun i j => decide (g j < g i)), rfl, Walks.list (A := A.in1) hh s.heap.objs.size a (Nat.ne_of_lt hlt) vs.toArray, ⟨⟨_, Heap.get?_push_size _ rfl, rfl, rfl⟩, hT.at fun o e => Heap.get?_push_of_some _ e⟩, ?_, ?_, ?_, ?_⟩
  · intro b hb
    show b < (s.heap.push _).objs.size
    rw [Heap.size_push]
    rcases List.mem_cons.mp hb with e | hb
    · exact e ▸ Nat.lt_succ_self _
    · exact (List.mem_singleton.mp hb) ▸ Nat.lt_succ_of_lt hlt
  · rw [List.size_toArray]; exact hpos
  · intro i j vi vj s' Q' E' hi hj hQ
    obtain ⟨t, rfl⟩ := hv i vi (by rw [← List.getElem?_toArray]; exact hi)
    obtain ⟨u, rfl⟩ := hv j vj (by rw [← List.getElem?_toArray]; exact hj)
    exact PyProof.Rows.gt_int hQ
  · intro v h' tk hP hk
    obtain ⟨t, rfl⟩ := hv _ v (by rw [← List.getElem?_toArray]; exact hP)
    refine h h' tk t _ (Nat.lt_of_le_of_lt (argBest_le _ _) (by rw [List.size_toArray]; exact Nat.sub_lt hpos (by decide))) (fun j hj => ?_) fun b o e => hk b o (by simp; exact Nat.ne_of_lt (Heap.lt_size e)) (Heap.get?_push_of_some _ e)
    have := argBest_no (fun i j => decide (g j < g i)) (fun i j l h1 h2 => decide_eq_true (Int.lt_trans (of_decide_eq_true h2) (of_decide_eq_true h1))) (fun i => decide_eq_false (Int.lt_irrefl _)) (vs.toArray.size - 1) j (by rw [List.size_toArray]; lia)
    exact Int.not_lt.mp (of_decide_eq_false this)
theorem paired_get {G : Value → Value → Prop} {vs us : List Value} (h : Paired G vs us) : vs.length = us.length ∧ ∀ (i : Nat) (u : Value), us[i]? = some u → ∃ v, vs[i]? = some v ∧ G v u := by
  induction h with
  | nil => exact ⟨rfl, fun i u e => nomatch e⟩
  | cons a _ ih =>
    refine ⟨congrArg Nat.succ ih.1, fun i u e => ?_⟩
    cases i with
    | zero => cases e; exact ⟨_, rfl, a⟩
    | succ i => exact ih.2 i u e
noncomputable abbrev impM (a D T : Addr) (k M : Int) (t1 t2 : Tok) (hid : Value) (f : Str → Option Value) : Str → Option Value :=
  bindM (bindM (bindM (bindM (bindM (bindM f (Str.ofString "things") (some (.ref a))) (Str.ofString "writings") (some (.ref D))) (Str.ofString "told") (some (.ref T))) (Str.ofString "shared") (some (.int k t1))) (Str.ofString "longest") (some (.int M t2))) (Str.ofString "hidden") (some hid)
theorem imp_of {a D T : Addr} {k M : Int} {t1 t2 : Tok} {hid : Value} {m : Str → Option Value} (h1 : m (Str.ofString "things") = some (.ref a)) (h2 : m (Str.ofString "writings") = some (.ref D)) (h3 : m (Str.ofString "told") = some (.ref T))
    (h4 : m (Str.ofString "shared") = some (.int k t1)) (h5 : m (Str.ofString "longest") = some (.int M t2)) (h6 : m (Str.ofString "hidden") = some hid) : m = impM a D T k M t1 t2 hid m := by
  funext z
  unfold impM bindM
  by_cases q6 : z = Str.ofString "hidden"
  · rw [if_pos q6, q6, h6]
  · rw [if_neg q6]
    by_cases q5 : z = Str.ofString "longest"
    · rw [if_pos q5, q5, h5]
    · rw [if_neg q5]
      by_cases q4 : z = Str.ofString "shared"
      · rw [if_pos q4, q4, h4]
      · rw [if_neg q4]
        by_cases q3 : z = Str.ofString "told"
        · rw [if_pos q3, q3, h3]
        · rw [if_neg q3]
          by_cases q2 : z = Str.ofString "writings"
          · rw [if_pos q2, q2, h2]
          · rw [if_neg q2]
            by_cases q1 : z = Str.ofString "things"
            · rw [if_pos q1, q1, h1]
            · rw [if_neg q1]
theorem fr_imp {a D T : Addr} {k M : Int} {t1 t2 : Tok} {hid : Value} {m : Str → Option Value} {h₀ h : Heap} {L : Addr} (F : Fr h₀ L h m) (h1 : m (Str.ofString "things") = some (.ref a)) (h2 : m (Str.ofString "writings") = some (.ref D)) (h3 : m (Str.ofString "told") = some (.ref T))
    (h4 : m (Str.ofString "shared") = some (.int k t1)) (h5 : m (Str.ofString "longest") = some (.int M t2)) (h6 : m (Str.ofString "hidden") = some hid) : Fr h₀ L h (impM a D T k M t1 t2 hid m) := imp_of h1 h2 h3 h4 h5 h6 ▸ F
noncomputable def HidEnd (h₀ : Heap) (L a D T : Addr) (k M : Nat) (t1 t2 : Tok) (news : List (Addr × Obj)) (s : Shared) (f : Flow) (s' : Shared) : Prop :=
  f = .next ∧ ∃ hid f2 h tk, hidV (hidO M k) hid ∧ s' = { s with heap := h, toks := tk } ∧ Fr h₀ L h (impM a D T (k : Int) (M : Int) t1 t2 hid f2) ∧ News h₀ L h news
theorem two_of {α : Type} {l : List α} (h : l.length = 2) : ∃ a b, l = [a, b] := by
  match l, h with
  | [a, b], _ => exact ⟨a, b, rfl⟩
theorem law_back_ok {w : World} {s : Shared} {Q : Value → Shared → Prop}
   (O : Ok w s.heap) (a : Addr) (vals : List Value) (n : Nat) (ds : List Dt) (hO : s.heap.get? a = some (lstO vals n)) (hr : RepL w s.heap vals ds) (hpos : 0 < vals.length) (hle : vals.length ≤ 3)
   (hlst : ∀ d ∈ ds, ∃ es, d = .lst es) (hg : ∀ d ∈ ds, Good d) (hs : ∀ d ∈ ds, Slim d) (hdep : ∀ d ∈ ds, d.dep ≤ 10) (hsh : ∀ d ∈ ds, (shownD d).length ≤ 5000)
   (hb : AllBare s.gens)
   (hret : ∀ h' tk g', AllBare g' → Reg s.heap h' → Q (.bool true) { s with heap := h', gens := g', toks := tk }) :
   wpAny (model prog w) (lv 400 1600) (call (.ref 100) [.ref a]) Q (fun _ _ => False) s := by
  obtain ⟨X, loose, mean, mg, mb, T⟩ := O.top
  refine' enter [("things", .ref a)] X T.nolimit (Nat.le_of_ble_eq_true rfl) ?k1 ?k3 ?k4 ?k5 ?k6 ?k7 ?k8 ?k9 ?k10
  case k1 => k_is
  case k3 => k_is
  case k4 => exact rfl
  case k5 => exact rfl
  case k7 => rfl
  case k8 => rfl
  case k9 => rfl
  case k10 => decide
  intro h₁ tk F N
  repeat' ((fail_if_success (with_reducible show wpAny _ _ (exec (Stmt.Assign _ (Expr.ListComp _ _ _ _) _) _) _ _ _)); first | (k_unfold; (try dsimp only)) | walk1 | (dsimp only; walk1))
  have hlen := hr.length
  have hshown : ∀ (i : Nat) (d : Dt), ds[i]? = some d → d.data.shown.length ≤ 5000 := fun i d hd => by
    have hm := List.mem_of_getElem? hd
    rw [← cs_len, shown_eq d (hg d hm)]
    exact hsh d hm
  refine' assign_over (a := a) (vs := vals) (fun v y => ∃ d t, Rep w s.heap v d ∧ y = Value.str d.data.shown t) F N ?chit ?chO rfl ?csw (by decide) (by decide) rfl (by decide) (by decide) rfl rfl (fun _ => rfl) ?csz ?celt ?cback
  case csw => with_unfolding_all rfl
  case chit => exact fun Q' h' => ld F rfl h'
  case chO => exact .inr ⟨_, F.keep _ _ hO⟩
  case csz => lia
  case celt =>
    intro C i v s₃ m₃ hv' hns hm hk
    obtain ⟨d, hd, rd⟩ := repL_at hr hv'
    have hdm := List.mem_of_getElem? hd
    obtain ⟨es, he⟩ := hlst d hdm
    obtain ⟨as, rr, hn⟩ := rd.reads
    have hgd := hg d hdm
    have hdd := hdep d hdm
    have hsd := hshown i d hd
    obtain ⟨av, rfl⟩ : ∃ av, v = Value.ref av := by
      rw [he] at rd
      cases rd
      exact ⟨_, rfl⟩
    have F3 := fr_ext F hk
    have N3 := news_ext N hk
    clear F N
    repeat' ((fail_if_success (with_reducible show wpAny _ _ (call (Value.ref 69) _) _ _ _)); first | (k_unfold; (try dsimp only)) | walk1 | (dsimp only; walk1))
    rename Fr _ _ _ _ => F
    refine' at_lv (safe_repr_ok ?kO av d.data as (PyProof.Rows.Reads.keeps F.keep rr) (good_showable d hgd) (fun _ => hn) (by lia) ?kd ?_) rfl (Nat.le_of_ble_eq_true rfl) rfl (Nat.le_of_ble_eq_true rfl)
    case kO => exact ok_fr O F
    case kd => rw [dep_eq]; lia
    intro h8 tk8 t8 e8
    exact ⟨⟨d, t8, rd, rfl⟩, h8, tk8, rfl, e8⟩
  case cback =>
    intro D h8 tk8 ys n2 F8 N8 hp
    clear F N
    repeat' ((fail_if_success (with_reducible show StarOf _ _ _ _ _ _)); first | (k_unfold; (try dsimp only)) | walk1 | (dsimp only; walk1))
    rename Fr _ _ _ _ => F
    rename News _ _ _ _ => N
    refine star_at (F.keep _ _ hO) (by lia) fun h9 e9 => ?_
    have F' := fr_ext F e9
    have N' := news_ext N e9
    clear F N
    refine ⟨O.X.keeps F'.keep, ?_⟩
    rw [List.nil_append]
    refine' at_lv (csr_ok ?kO2 vals (Dt.dataL ds) ?l1 hpos hle ?l3 hb ?_) rfl (Nat.le_of_ble_eq_true rfl) rfl (Nat.le_of_ble_eq_true rfl)
    case kO2 => exact ok_fr O F'
    case l1 => rw [dataL_map, List.length_map, hlen]
    case l3 =>
      intro i v hv
      obtain ⟨d, hd, rd⟩ := repL_at hr hv
      have hdm := List.mem_of_getElem? hd
      obtain ⟨es, he⟩ := hlst d hdm
      obtain ⟨as, rr, hn⟩ := rd.reads
      obtain ⟨av, rfl⟩ : ∃ av, v = Value.ref av := by
        rw [he] at rd
        cases rd
        exact ⟨_, rfl⟩
      have hdd := hdep d hdm
      have hsd := hshown i d hd
      rw [dataL_get hd]
      exact ⟨av, as, rfl, PyProof.Rows.Reads.keeps F'.keep rr, good_showable d (hg d hdm), fun _ => hn, by lia, by rw [dep_eq]; lia⟩
    intro h10 tk10 g10 T10 zs hT10 hT0 hstr hb10 R10
    have hL10 : T10 ≠ s.heap.objs.size := fun q => by
      obtain ⟨o, _, _, ho, _⟩ := F'.ns
      have ho' : h9.get? s.heap.objs.size = some o := ho
      rw [q] at hT0
      have := ho'.symm.trans hT0
      cases this
    have hs10 : s.heap.get? T10 = none := none_back F'.keep hT0
    obtain ⟨g₀, O0, R0, F0, N0, fresh0⟩ := reg_frame O F' R10
    have N1 : News g₀ s.heap.objs.size h10 [(T10, tupO zs), (D, lstO ys n2)] := fun p hp => by
      rcases List.mem_cons.mp hp with rfl | hp
      · exact ⟨hT10, hL10, fresh0 _ hs10⟩
      · exact N0 _ (fun p hp => by rw [List.mem_singleton.mp hp]; exact fun q => nomatch q) N' p hp
    have hr0 : RepL w g₀ vals ds := RepL.ext R0.extN hr
    clear X T F' N' N0
    obtain ⟨X, loose, mean, mg, mb, T⟩ := O0.top
    have hzl : zs.length = vals.length := by rw [hstr.areOf.length, csrS_len, List.length_map, dataL_map, List.length_map, hlen]
    repeat' ((fail_if_success (with_reducible show wpAny _ _ (call (Value.builtin "len") _) _ _ _)); first | (k_unfold; (try dsimp only)) | walk1 | (dsimp only; walk1))
    rename Fr _ _ _ _ => F
    rename News _ _ _ _ => N
    refine' PyProof.Rows.len_tuple (items := zs.toArray) ?q0 ?q1 ?_
    case q0 => exact istup_of (N _ (.head _)).1
    case q1 => rw [List.size_toArray]; lia
    repeat' ((fail_if_success (with_reducible show wpAny _ _ (call (Value.builtin "len") _) _ _ _)); first | (k_unfold; (try dsimp only)) | walk1 | (dsimp only; walk1))
    rename Fr _ _ _ _ => F
    rename News _ _ _ _ => N
    refine' Calls.call_len_list (items := vals.toArray) ?q2 ?q3 ?_
    case q2 => exact islist_of (F.keep _ _ (R0.obj hO (fun q => nomatch q)))
    case q3 => rw [List.size_toArray]; lia
    rw [show zs.toArray.size = vals.length from by rw [List.size_toArray, hzl], show vals.toArray.size = vals.length from List.size_toArray ..]
    repeat' ((fail_if_success (with_reducible show wpAny _ _ (call (Value.ref 88) _) _ _ _)); first | (k_unfold; (try dsimp only)) | walk1 | (dsimp only; walk1))
    all_goals (try (exfalso; simp_all; done))
    have hys : StrsAre ys ((Dt.dataL ds).map PyData.shown) := paired_shown hp hr
    have hxl : ∀ x ∈ (Dt.dataL ds).map PyData.shown, x.length ≤ 5000 := fun x hx => by
      rw [dataL_map, List.map_map] at hx
      obtain ⟨d, hd, rfl⟩ := List.mem_map.mp hx
      obtain ⟨i, hi, rfl⟩ := List.getElem_of_mem hd
      exact hshown i _ (List.getElem?_eq_getElem hi)
    have hxn : ((Dt.dataL ds).map PyData.shown).length = vals.length := by rw [List.length_map, dataL_map, List.length_map, hlen]
    generalize hxs : (Dt.dataL ds).map PyData.shown = xs at *
    have hne : xs ≠ [] := fun q => by rw [q] at hxn; rw [← hxn] at hpos; exact absurd hpos (by decide)
    rename Fr _ _ _ _ => F
    rename News _ _ _ _ => N
    refine' at_lv (law_shared_ok ?kO3 D ys n2 xs ?kl hys hne (fun x hx => Nat.le_trans (hxl x hx) (by decide)) ?kn ?_) rfl (Nat.le_of_ble_eq_true rfl) rfl (Nat.le_of_ble_eq_true rfl)
    case kO3 => exact ok_fr O0 F
    case kl => exact (N _ (.tail _ (.head _))).1
    case kn => lia
    intro h11 tk11 k t11 hk1 hk2 hk3 e11
    have F' := fr_ext F e11
    have N' := news_ext N e11
    clear F N e11
    repeat' ((fail_if_success (with_reducible show wpAny _ _ (eval (Expr.ListComp _ _ _ _) _) _ _ _)); first | (k_unfold; (try dsimp only)) | walk1 | (dsimp only; walk1))
    rename Fr _ _ _ _ => F
    rename News _ _ _ _ => N
    have hyl := hys.areOf.length
    refine' listcomp_over (a := D) (vs := ys) (fun v y => ∃ x t u, v = Value.str x t ∧ y = Value.int (x.length : Int) u) ?mhit ?mhO rfl (by decide) (by decide) rfl (by decide) (by decide) (fun _ => rfl) ?msz ?melt ?mback
    case mhit => exact fun Q' h' => ld F rfl h'
    case mhO => exact .inr ⟨_, (N _ (.tail _ (.head _))).1⟩
    case msz => lia
    case melt =>
      intro C i v s₃ m₃ hv' hns hm hk
      obtain ⟨hi', tx, rfl⟩ := strs_get hys hv'
      have hxi := hxl _ (getD_mem hi')
      have F3 := fr_ext F hk
      have N3 := news_ext N hk
      clear F N
      repeat' ((fail_if_success (with_reducible show wpAny _ _ (eval (Expr.Name (Str.ofString "len") _) _) _ _ _)); first | (k_unfold; (try dsimp only)) | walk1 | (dsimp only; walk1))
      refine Name_function_global rfl rfl (loadGlobal_builtin (T.g.keeps F3.keep) (mg_none_of X T.g (by k_is)) (T.b.keeps F3.keep) ((T.builtins _ (by decide)).trans (by decide +kernel : bootBuiltins (Str.ofString "len") = some (.builtin "len"))) ?_) (by decide)
      repeat' ((fail_if_success (with_reducible show wpAny _ _ (call (Value.builtin "len") _) _ _ _)); first | (k_unfold; (try dsimp only)) | walk1 | (dsimp only; walk1))
      refine PySem.P.len_str ?lb ?_
      case lb => lia
      exact ⟨⟨_, _, _, rfl, rfl⟩, s₃.heap, _, rfl, ext_refl _⟩
    case mback =>
      intro D2 h12 tk12 us n3 hD2 e12 hus hp2
      have N1 : News g₀ s.heap.objs.size h12 [(D2, lstO us n3), (T10, tupO zs), (D, lstO ys n2)] := news_made F N e12 (tl := [(D2, lstO us n3)]) (fun p hp => by cases List.mem_singleton.mp hp; exact ⟨hD2, hus⟩)
      have F1 := fr_ext F e12
      clear F N
      obtain ⟨hul, hug⟩ := paired_get hp2
      repeat' ((fail_if_success (with_reducible show wpAny _ _ (call (Value.builtin "max") _) _ _ _)); first | (k_unfold; (try dsimp only)) | walk1 | (dsimp only; walk1))
      rename Fr _ _ _ _ => F
      rename News _ _ _ _ => N
      refine' max_ints (vs := us) (fun i => ((xs.getD i default).length : Int)) rfl ?n1 ?n2 ?n3 ?_
      case n1 => exact islist_of (N _ (.head _)).1
      case n2 =>
        intro i v hv
        obtain ⟨v', hv', x, t, u, rfl, rfl⟩ := hug i v hv
        obtain ⟨_, tx, e⟩ := strs_get hys hv'
        cases e
        exact ⟨_, rfl⟩
      case n3 => lia
      intro h13 tk13 t13 i hi hmax e13
      have hM : (xs.getD i default).length = maxLen xs := by
        refine Nat.le_antisymm (maxLen_ge (getD_mem (by lia))) (maxLen_le fun x hx => ?_)
        obtain ⟨j, hj, rfl⟩ := List.getElem_of_mem hx
        have := hmax j (by lia)
        rw [List.getD_eq_getElem?_getD (l := xs) (i := j), List.getElem?_eq_getElem hj] at this
        exact Int.ofNat_le.mp this
      rw [hM]
      have F' := fr_ext F e13
      have N' := news_ext N e13
      clear F N e13 hM hmax
      have hML : maxLen xs ≤ 5000 := maxLen_le hxl
      repeat' ((fail_if_success (with_reducible show wpAny _ _ (exec (Stmt.If _ _ _ _) _) _ _ _)); first | (k_unfold; (try dsimp only)) | walk1 | (dsimp only; walk1))
      refine wpAny_mono (Q := HidEnd g₀ s.heap.objs.size a D T10 k (maxLen xs) t11 t13 [(D2, lstO us n3), (T10, tupO zs), (D, lstO ys n2)] { heap := h13, gens := g10, drawn := s.drawn, toks := tk13, os := s.os }) (E := fun _ _ => False) ?kif ?krest (fun _ _ h => h.elim)
      case kif =>
        repeat' ((fail_if_success (with_reducible show HidEnd _ _ _ _ _ _ _ _ _ _ _ _ _)); first | (k_unfold; (try dsimp only)) | walk1 | (dsimp only; walk1))
        all_goals (try (exfalso; lia))
        all_goals (
          rename Fr _ _ _ _ => F
          rename News _ _ _ _ => N
          refine ⟨rfl, _, _, _, _, ?_, rfl, fr_imp F rfl rfl rfl rfl rfl rfl, N⟩
          unfold hidO)
        all_goals (repeat' split)
        all_goals first
          | (exfalso; lia)
          | exact ⟨_, congrArg (fun z => Value.int z _) (by lia)⟩
          | rfl
      case krest =>
        rintro f s' ⟨rfl, hid, f2, h14, tk14, hv, rfl, F14, N14⟩
        repeat' ((fail_if_success (with_reducible show wpAny _ _ (exec (Stmt.For _ _ _ _ _) _) _ _ _)); first | (k_unfold; (try dsimp only)) | walk1 | (dsimp only; walk1))
        rename Fr _ _ _ _ => F
        rename News _ _ _ _ => N
        refine wpAny_For ?_
        repeat' ((fail_if_success (with_reducible show wpAny _ _ (call (Value.type "zip") _) _ _ _)); first | (k_unfold; (try dsimp only)) | walk1 | (dsimp only; walk1))
        rename Fr _ _ _ _ => F
        rename News _ _ _ _ => N
        have hA0 : s.heap.objs.size ≠ a := Nat.ne_of_gt (Heap.lt_size hO)
        refine' call_zip_3 (xs := vals.toArray) (ys := ys.toArray) (zs := zs.toArray) ?z1 ?z2 ?z3 ?_
        case z1 => exact islist_of (F.keep _ _ (R0.obj hO (fun q => nomatch q)))
        case z2 => exact islist_of (N _ (.tail _ (.tail _ (.head _)))).1
        case z3 => exact istup_of (N _ (.tail _ (.head _))).1
        intro h15 nz hnz Z3z l1 l2 l3 e15
        have hbig : ∀ b ∈ z3wr nz, nz ≤ b := by
          intro b hb
          simp only [z3wr, List.mem_cons, List.not_mem_nil, or_false] at hb
          lia
        have hNL : ∀ p ∈ [(D2, lstO us n3), (T10, tupO zs), (D, lstO ys n2)], p.1 < nz := fun p hp => hnz ▸ Heap.lt_size (N p hp).1
        have hG : ∀ b ∈ z3wr nz, g₀.get? b = none := by
          intro b hb
          cases q : g₀.get? b with
          | none => rfl
          | some o =>
            have := Heap.lt_size (F.keep _ _ q)
            have := hbig b hb
            rw [hnz] at this
            exact absurd (Nat.lt_of_lt_of_le ‹_› this) (Nat.lt_irrefl _)
        have hLn : s.heap.objs.size < nz := hnz ▸ F.ns.lt
        have hLD : D ≠ s.heap.objs.size := (N _ (.tail _ (.tail _ (.head _)))).2.1
        have haz : a < nz := Nat.lt_trans (Heap.lt_size hO) hLn
        have F' := fr_ext F e15
        have N' := news_ext N e15
        clear F N
        repeat' ((fail_if_success (with_reducible show wpAny _ _ (pyIter (Value.ref _)) _ _ _)); first | (k_unfold; (try dsimp only)) | walk1 | (dsimp only; walk1))
        refine wpAny_pyIter_zip Z3z.z ?_
        have hk' := prefix_facts hne hk1 hk2 hk3
        obtain ⟨ft, hft, htold⟩ := told_cs hk'.1 hk'.2
        have hxi : ∀ (i : Nat) (d : Dt), ds[i]? = some d → xs.getD i default = d.data.shown := fun i d e => by
          rw [← hxs, List.getD_eq_getElem?_getD, List.getElem?_map, dataL_map, List.getElem?_map, e]; rfl
        have h99 : ∀ x ∈ xs, 99 ∉ cs x := fun x hx => by
          rw [← hxs, dataL_map, List.map_map] at hx
          obtain ⟨d, hd, rfl⟩ := List.mem_map.mp hx
          show 99 ∉ cs d.data.shown
          rw [shown_eq d (hg d hd)]
          exact mem99 d (hg d hd)
        have hzi : ∀ i, i < vals.length → (csrS xs).getD i default = ft (xs.getD i default) := fun i hi => by
          rw [hft, List.getD_eq_getElem?_getD, List.getD_eq_getElem?_getD, List.getElem?_map, List.getElem?_eq_getElem (by lia)]; rfl
        have hturn : ∀ i, i < vals.length → ((csrS xs).getD i default).length ≤ 80 ∧ opensTo ((csrS xs).getD i default) (xs.getD 0 default) (hidO (maxLen xs) k) (outS (maxLen xs) k (xs.getD i default)) ∧ k ≤ (xs.getD i default).length := fun i hi => by
          have hm : xs.getD i default ∈ xs := getD_mem (by lia)
          have hkx := (hk'.2 _ hm).1
          rw [hzi i hi]
          have := turn_law hne hML h99 hk1 hk2 hm hkx (htold _ hm)
          exact ⟨this.1, this.2, hkx⟩
        refine forLoop_trip (h₀ := g₀) (P3 := fun i v0 v1 v2 => vals[i]? = some v0 ∧ ys[i]? = some v1 ∧ zs[i]? = some v2) rfl
          (zip3_walks (n := nz) (l1 := a) (l2 := D) (l3 := T10) (N := vals.length) (xs := vals.toArray) (ys := ys.toArray) (zs := zs.toArray) rfl haz (hNL _ (.tail _ (.tail _ (.head _)))) (hNL _ (.tail _ (.head _))) (List.size_toArray ..) (by rw [List.size_toArray]; lia) (by rw [List.size_toArray]; lia))
          ?f3 rfl rfl rfl rfl ?fL ?fwr ?fnw ⟨Z3z, l1, l2, l3⟩ F' N' (fun _ m => ∃ f, m = impM a D T10 (k : Int) (maxLen xs : Int) t11 t13 hid f) ⟨f2, rfl⟩ ?fstep ?fdone
        case f3 =>
          rintro i vs ⟨x, y, z, e1, e2, e3, rfl⟩
          exact ⟨x, y, z, rfl, by rw [← List.getElem?_toArray]; exact e1, by rw [← List.getElem?_toArray]; exact e2, by rw [← List.getElem?_toArray]; exact e3⟩
        case fL =>
          intro q
          simp only [z3fp, List.mem_cons, List.not_mem_nil, or_false] at q
          have q' : s.heap.objs.size = nz ∨ s.heap.objs.size = nz + 1 ∨ s.heap.objs.size = nz + 2 ∨ s.heap.objs.size = nz + 3 ∨ s.heap.objs.size = nz + 4 ∨ s.heap.objs.size = nz + 5 ∨ s.heap.objs.size = a ∨ s.heap.objs.size = D ∨ s.heap.objs.size = T10 := q
          rcases q' with q | q | q | q | q | q | q | q | q
          · lia
          · lia
          · lia
          · lia
          · lia
          · lia
          · exact hA0 q
          · exact hLD q.symm
          · exact hL10 q.symm
        case fwr => exact hG
        case fnw =>
          intro p hp q
          exact absurd (Nat.lt_of_lt_of_le (hNL p hp) (hbig _ q)) (Nat.lt_irrefl _)
        case fstep =>
          rintro i v0 v1 v2 m₁ h tk own hi ⟨p0, p1, p2⟩ ⟨f, rfl⟩ F N
          clear F' N' Z3z l1 l2 l3 e15 hp2 hug hus hp hT0
          obtain ⟨d, hd, rd⟩ := repL_at hr0 p0
          have hdm := List.mem_of_getElem? hd
          obtain ⟨es, he⟩ := hlst d hdm
          obtain ⟨av, rfl⟩ : ∃ av, v0 = Value.ref av := by
            rw [he] at rd
            cases rd
            exact ⟨_, rfl⟩
          obtain ⟨_, tx, rfl⟩ := strs_get hys p1
          obtain ⟨_, tt, rfl⟩ := strs_get hstr p2
          obtain ⟨q1, q2, q3⟩ := hturn i hi
          have hxl' : (xs.getD i default).length ≤ 5000 := hxl _ (getD_mem (by lia))
          have hxd := hxi i d hd
          have hLD' : h.IsList D ys.toArray := islist_of (N.right _ (.tail _ (.tail _ (.head _)))).1
          have hx0 : (xs.getD (Int.toNat 0) Str.empty).length ≤ 5000 := hxl _ (getD_mem (by lia))
          have q2' : opensTo ((csrS xs).getD i default) (xs.getD (Int.toNat 0) Str.empty) (hidO (maxLen xs) k) (outS (maxLen xs) k (xs.getD i default)) := q2
          have hgd := hg d hdm
          have hsd := hs d hdm
          have hdd := hdep d hdm
          clear hturn hzi hxi h99 htold hk' hft hk1 hk2 hk3 hg hs hdep hsh hshown hlst hr hr0 hO q2 hbig hNL hG
          repeat' ((fail_if_success (with_reducible show wpAny _ _ (subscriptTail _ _ (Value.ref _) (Value.int _ _)) _ _ _)); first | (k_unfold; (try dsimp only)) | walk1 | (dsimp only; walk1))
          rename Fr _ _ _ _ => F
          rename News _ _ _ _ => N
          refine' item_strsA (l := ys) (ys := xs) ?su1 hys ?su2 ?su3 ?su4 (fun _ => ?_)
          case su1 => exact islist_of (N.right _ (.tail _ (.tail _ (.head _)))).1
          case su2 => exact Int.le_refl _
          case su3 => lia
          case su4 => decide
          repeat' ((fail_if_success (with_reducible show wpAny _ _ (call (Value.ref 95) _) _ _ _)); first | (k_unfold; (try dsimp only)) | walk1 | (dsimp only; walk1))
          rename Fr _ _ _ _ => F
          rename News _ _ _ _ => N
          refine' at_lvE (law_open2 ?kO4 ((csrS xs).getD i default) (xs.getD (Int.toNat 0) Str.empty) _ _ ?kx ?ky (hidO (maxLen xs) k) (outS (maxLen xs) k (xs.getD i default)) q2' ?_) rfl (Nat.le_of_ble_eq_true rfl) rfl (Nat.le_of_ble_eq_true rfl)
          case kO4 => exact ok_fr O0 F
          case kx => lia
          case ky => exact Nat.le_trans hx0 (by decide)
          intro h16 tk16 T16 tko cv hcv hn16 hT16 e16
          have N1 := news_made F N e16 (tl := [(T16, tupO [.str (outS (maxLen xs) k (xs.getD i default)) tko, cv])]) (fun p hp => by cases List.mem_singleton.mp hp; exact ⟨hn16, hT16⟩)
          have F1 := fr_ext F e16
          clear F N
          repeat' ((fail_if_success (with_reducible show wpAny _ _ (compareOp .NotEq _ _) _ _ _)); first | (k_unfold; (try dsimp only)) | walk1 | (dsimp only; walk1))
          all_goals (try (exfalso; lia))
          refine ne_hid hcv hv ?_
          repeat' ((fail_if_success (with_reducible show wpAny _ _ (compareOp .NotEq (Value.str _ _) (Value.str _ _)) _ _ _)); first | (k_unfold; (try dsimp only)) | walk1 | (dsimp only; walk1))
          all_goals (try (exfalso; lia))
          · refine ne_same ?_ ?_
            · unfold outS
              rw [if_pos ⟨by lia, by lia⟩]
            · repeat' ((fail_if_success (with_reducible show TurnEnd _ _ _ _ _ _ _ _)); first | (k_unfold; (try dsimp only)) | walk1 | (dsimp only; walk1))
              rename Fr _ _ _ _ => F
              rename News _ _ _ _ => N
              refine ⟨_, _, _, rfl, F, fun p hp => N p ?_, ⟨_, imp_of rfl rfl rfl rfl rfl rfl⟩⟩
              exact List.mem_append_right _ hp
          all_goals (
            have hout : outS (maxLen xs) k (xs.getD i default) = xs.getD i default := if_neg (by lia)
            have hcs : cs (outS (maxLen xs) k (xs.getD i default)) = shownD d := by rw [hout, hxd]; exact shown_eq d hgd
            have hol : (outS (maxLen xs) k (xs.getD i default)).length ≤ 10000 := by rw [hout]; lia
            refine ne_same hout ?_)
          · repeat' ((fail_if_success (with_reducible show wpAny _ _ (call (Value.ref 83) _) _ _ _)); first | (k_unfold; (try dsimp only)) | walk1 | (dsimp only; walk1))
            rename Fr _ _ _ _ => F
            rename News _ _ _ _ => N
            refine' at_lvE (read_all hol 12 d (Nat.le_trans hdd (by decide)) (by decide) hgd hsd _ _ 0 [] _ _ ?rOx ?rdx ?rex ?_) rfl (Nat.le_of_ble_eq_true rfl) rfl (Nat.le_of_ble_eq_true rfl)
            case rOx => exact ok_fr O0 F
            case rdx => rw [List.drop_zero, List.append_nil]; exact hcs
            case rex =>
              intro i q
              rw [he] at q
              cases q
            intro h17 tk17 T17 tl17 v17 t17 hm17 hr17 e17
            have hlen17 : (((0 + (shownD d).length : Nat)) : Int) = ((outS (maxLen xs) k (xs.getD i default)).length : Int) := by rw [Nat.zero_add, ← hcs, cs_len]
            have N1 := news_made F N e17 hm17
            have F1 := fr_ext F e17
            clear F N
            repeat' ((fail_if_success (with_reducible show wpAny _ _ (compareOp .NotEq (Value.ref _) (Value.ref _)) _ _ _)); first | (k_unfold; (try dsimp only)) | walk1 | (dsimp only; walk1))
            rename Fr _ _ _ _ => F
            rename News _ _ _ _ => N
            refine ne_read (n := ((outS (maxLen xs) k (xs.getD i default)).length : Int)) (d := d) (by rw [← hlen17]; exact (N _ (.tail _ (.head _))).1) (N _ (.head _)).1 (hr17 _ (fun p hp => (N p (.tail _ (.tail _ (List.mem_append_left _ hp)))).1)) (Rep.ext (extN_of F.keep) rd) (Nat.le_trans hdd (by decide)) (Nat.le_of_ble_eq_true rfl) ?_
            repeat' ((fail_if_success (with_reducible show TurnEnd _ _ _ _ _ _ _ _)); first | (k_unfold; (try dsimp only)) | walk1 | (dsimp only; walk1))
            rename Fr _ _ _ _ => F
            rename News _ _ _ _ => N
            exact ⟨_, _, _, rfl, F, fun p hp => N p (.tail _ (List.mem_append_right _ (List.mem_append_right _ hp))), ⟨_, imp_of rfl rfl rfl rfl rfl rfl⟩⟩
          · repeat' ((fail_if_success (with_reducible show wpAny _ _ (call (Value.ref 83) _) _ _ _)); first | (k_unfold; (try dsimp only)) | walk1 | (dsimp only; walk1))
            rename Fr _ _ _ _ => F
            rename News _ _ _ _ => N
            refine' at_lvE (read_all hol 12 d (Nat.le_trans hdd (by decide)) (by decide) hgd hsd _ _ 0 [] _ _ ?rOy ?rdy ?rey ?_) rfl (Nat.le_of_ble_eq_true rfl) rfl (Nat.le_of_ble_eq_true rfl)
            case rOy => exact ok_fr O0 F
            case rdy => rw [List.drop_zero, List.append_nil]; exact hcs
            case rey =>
              intro i q
              rw [he] at q
              cases q
            intro h17 tk17 T17 tl17 v17 t17 hm17 hr17 e17
            have hlen17 : (((0 + (shownD d).length : Nat)) : Int) = ((outS (maxLen xs) k (xs.getD i default)).length : Int) := by rw [Nat.zero_add, ← hcs, cs_len]
            have N1 := news_made F N e17 hm17
            have F1 := fr_ext F e17
            clear F N
            repeat' ((fail_if_success (with_reducible show wpAny _ _ (compareOp .NotEq (Value.ref _) (Value.ref _)) _ _ _)); first | (k_unfold; (try dsimp only)) | walk1 | (dsimp only; walk1))
            rename Fr _ _ _ _ => F
            rename News _ _ _ _ => N
            refine ne_read (n := ((outS (maxLen xs) k (xs.getD i default)).length : Int)) (d := d) (by rw [← hlen17]; exact (N _ (.tail _ (.head _))).1) (N _ (.head _)).1 (hr17 _ (fun p hp => (N p (.tail _ (.tail _ (List.mem_append_left _ hp)))).1)) (Rep.ext (extN_of F.keep) rd) (Nat.le_trans hdd (by decide)) (Nat.le_of_ble_eq_true rfl) ?_
            repeat' ((fail_if_success (with_reducible show TurnEnd _ _ _ _ _ _ _ _)); first | (k_unfold; (try dsimp only)) | walk1 | (dsimp only; walk1))
            rename Fr _ _ _ _ => F
            rename News _ _ _ _ => N
            exact ⟨_, _, _, rfl, F, fun p hp => N p (.tail _ (List.mem_append_right _ (List.mem_append_right _ hp))), ⟨_, imp_of rfl rfl rfl rfl rfl rfl⟩⟩
        case fdone =>
          rintro h tk m' F N ⟨f, rfl⟩
          clear F' N' Z3z l1 l2 l3 e15 hp2 hug hus hp hT0
          have hTu : h.IsTuple T10 zs.toArray := istup_of (N _ (.tail _ (.head _))).1
          have hTl : h.IsList a vals.toArray := islist_of (F.keep _ _ (R0.obj hO (fun q => nomatch q)))
          repeat' ((fail_if_success (with_reducible show wpAny _ _ (call (Value.builtin "len") _) _ _ _)); first | (k_unfold; (try dsimp only)) | walk1 | (dsimp only; walk1))
          rename Fr _ _ _ _ => F
          rename News _ _ _ _ => N
          refine' PyProof.Rows.len_tuple (items := zs.toArray) ?r0 ?r1 ?_
          case r0 => exact istup_of (N _ (.tail _ (.head _))).1
          case r1 => rw [List.size_toArray]; lia
          rw [show zs.toArray.size = vals.length from by rw [List.size_toArray, hzl]]
          by_cases h2 : vals.length = 2
          · obtain ⟨v0, v1, hvv⟩ := two_of h2
            obtain ⟨d0, d1, hdd⟩ := two_of (hlen.symm.trans h2)
            obtain ⟨z0, z1, hzz⟩ := two_of (hzl.trans h2)
            have i0 : vals[0]? = some v0 := by rw [hvv]; rfl
            have i1 : vals[1]? = some v1 := by rw [hvv]; rfl
            have j0 : zs[0]? = some z0 := by rw [hzz]; rfl
            have j1 : zs[1]? = some z1 := by rw [hzz]; rfl
            obtain ⟨_, y0, rfl⟩ := strs_get hstr j0
            obtain ⟨_, y1, rfl⟩ := strs_get hstr j1
            rw [hzz] at hTu
            rw [hvv] at hTl
            rw [h2]
            have g0 : d0 ∈ ds := by rw [hdd]; exact .head _
            have g1 : d1 ∈ ds := by rw [hdd]; exact .tail _ (.head _)
            have hbe : ((csrS xs).getD 0 default == (csrS xs).getD 1 default) = eqD d0 d1 := by
              have hxx : xs = [d0.data.shown, d1.data.shown] := by rw [← hxs, hdd]; rfl
              rw [hzi 0 (by lia), hzi 1 (by lia)]
              have a0 := htold (xs.getD 0 default) (getD_mem (by lia))
              have a1 := htold (xs.getD 1 default) (getD_mem (by lia))
              have kk := (hk'.2 (xs.getD 1 default) (getD_mem (by lia))).1
              rw [Bool.eq_iff_iff, beq_iff_eq, eqD_iff, ← shown_iff (hg _ g0) (hg _ g1) (hlst _ g0) (hlst _ g1)]
              rw [hxx] at a0 a1 hk1 hk2 hk3 kk ⊢
              exact two_law hk1 hk2 hk3 kk a0 a1
            obtain ⟨e0, s0, r0⟩ := repL_at hr0 i0
            obtain ⟨e1, s1, r1⟩ := repL_at hr0 i1
            have s0' : e0 = d0 := by rw [hdd] at s0; exact (Option.some.inj s0).symm
            have s1' : e1 = d1 := by rw [hdd] at s1; exact (Option.some.inj s1).symm
            subst s0' s1'
            have p0 := hdep _ g0
            obtain ⟨es0, q0⟩ := hlst _ g0
            obtain ⟨es1, q1⟩ := hlst _ g1
            subst q0 q1
            obtain ⟨av0, rfl⟩ : ∃ av, v0 = Value.ref av := by
              cases r0
              exact ⟨_, rfl⟩
            obtain ⟨av1, rfl⟩ : ∃ av, v1 = Value.ref av := by
              cases r1
              exact ⟨_, rfl⟩
            clear hturn hzi hxi h99 htold hk' hft hk1 hk2 hk3 hg hs hdep hsh hshown hlst hbig hNL hG hdd s0 s1 g0 g1 hvv hzz
            repeat' ((fail_if_success (with_reducible show wpAny _ _ (subscriptTail _ _ (Value.ref _) (Value.int _ _)) _ _ _)); first | (k_unfold; (try dsimp only)) | walk1 | (dsimp only; walk1))
            rename Fr _ _ _ _ => F
            rename News _ _ _ _ => N
            refine' item_tupleT (l := zs) (j := 0) ?ta1 ?ta2 ?ta3 ?ta4 j0 ?_
            case ta1 => exact istup_of (N _ (.tail _ (.head _))).1
            case ta2 => decide
            case ta3 => decide
            case ta4 => rw [hzl, h2]; rfl
            repeat' ((fail_if_success (with_reducible show wpAny _ _ (subscriptTail _ _ (Value.ref _) (Value.int _ _)) _ _ _)); first | (k_unfold; (try dsimp only)) | walk1 | (dsimp only; walk1))
            rename Fr _ _ _ _ => F
            rename News _ _ _ _ => N
            refine' item_tupleT (l := zs) (j := 1) ?tb1 ?tb2 ?tb3 ?tb4 j1 ?_
            case tb1 => exact istup_of (N _ (.tail _ (.head _))).1
            case tb2 => decide
            case tb3 => decide
            case tb4 => rw [hzl, h2]; rfl
            repeat' ((fail_if_success (with_reducible show wpAny _ _ (compareOp .Eq _ _) _ _ _)); first | (k_unfold; (try dsimp only)) | walk1 | (dsimp only; walk1))
            refine eq_strs ?_
            rw [hbe]
            repeat' ((fail_if_success (with_reducible show wpAny _ _ (subscriptTail _ _ (Value.ref _) (Value.int _ _)) _ _ _)); first | (k_unfold; (try dsimp only)) | walk1 | (dsimp only; walk1))
            rename Fr _ _ _ _ => F
            rename News _ _ _ _ => N
            refine' item_listL (l := vals) ?tc1 ?tc2 ?tc3 i0 ?_
            case tc1 => exact islist_of (F.keep _ _ (R0.obj hO (fun q => nomatch q)))
            case tc2 => exact Int.le_refl _
            case tc3 => decide
            repeat' ((fail_if_success (with_reducible show wpAny _ _ (subscriptTail _ _ (Value.ref _) (Value.int _ _)) _ _ _)); first | (k_unfold; (try dsimp only)) | walk1 | (dsimp only; walk1))
            rename Fr _ _ _ _ => F
            rename News _ _ _ _ => N
            refine' item_listL (l := vals) ?td1 ?td2 ?td3 i1 ?_
            case td1 => exact islist_of (F.keep _ _ (R0.obj hO (fun q => nomatch q)))
            case td2 => decide
            case td3 => decide
            repeat' ((fail_if_success (with_reducible show wpAny _ _ (compareOp .Eq _ _) _ _ _)); first | (k_unfold; (try dsimp only)) | walk1 | (dsimp only; walk1))
            rename Fr _ _ _ _ => F
            rename News _ _ _ _ => N
            refine eq_lists (Rep.ext (extN_of F.keep) r0) (Rep.ext (extN_of F.keep) r1) (Nat.le_trans p0 (by decide)) (Nat.le_of_ble_eq_true rfl) ?_
            generalize eqD (.lst es0) (.lst es1) = b
            cases b
            · repeat' (first | (k_unfold; (try dsimp only)) | walk1 | (dsimp only; walk1))
              rename Fr _ _ _ _ => F
              rename News _ _ _ _ => N
              exact hret _ _ _ hb10 (R0.trans (Reg.of_ext O0 F.keep))
            · repeat' (first | (k_unfold; (try dsimp only)) | walk1 | (dsimp only; walk1))
              rename Fr _ _ _ _ => F
              rename News _ _ _ _ => N
              exact hret _ _ _ hb10 (R0.trans (Reg.of_ext O0 F.keep))
          · clear hturn hzi hxi h99 htold hk' hft hk1 hk2 hk3 hg hs hdep hsh hshown hlst hbig hNL hG
            repeat' (first | (k_unfold; (try dsimp only)) | walk1 | (dsimp only; walk1))
            rename Fr _ _ _ _ => F
            rename News _ _ _ _ => N
            rw [show (((vals.length : Int)) != 2) = true from by simp; lia]
            exact hret _ _ _ hb10 (R0.trans (Reg.of_ext O0 F.keep))
end Mine
end TW17
section TLj
open PySem PySem.W PySem.Calls PyProof.Rows
set_option maxRecDepth 100000
set_option maxHeartbeats 8000000
namespace Mine
noncomputable def TurnJ (h₀ : Heap) (L I : Addr) (own : List (Addr × Obj)) (Jn : (Str → Option Value) → List (Addr × Obj) → Prop) (s : Shared) (Q : Flow → Shared → Prop) (f : Flow) (s₂ : Shared) : Prop :=
  match f with
  | .ret v => Q (.ret v) s₂
  | .brk => Q .next s₂
  | _ => ∃ h' tk m' news', s₂ = { s with heap := h', toks := tk } ∧ Fr h₀ L h' m' ∧ News h₀ L h' (own ++ news') ∧ (∀ p ∈ news', p.1 ≠ I) ∧ Jn m' news'
section
variable {w : World} {A : Around} {s : Shared} {env : Env} {h₀ : Heap} {m : Str → Option Value} {news : List (Addr × Obj)} {x : Str} {body : List Stmt} {Q : Flow → Shared → Prop} {E : Value → Shared → Prop}
theorem loop_listJ {a : Addr} {vs : List Value} {n : Nat} (hh : A.handled = none) (hO : s.heap.get? a = some (lstO vs n)) (haL : a ≠ env.locals) (F : Fr h₀ env.locals s.heap m) (N : News h₀ env.locals s.heap news)
    (J : Nat → (Str → Option Value) → List (Addr × Obj) → Prop) (h0 : J 0 m news)
    (step : ∀ i v m₁ news₁ h tk own oI, i < vs.length → vs[i]? = some v → J i m₁ news₁ → (∀ p ∈ news₁, p.1 ≠ s.heap.objs.size) → (s.heap.objs.size, oI) ∈ own → (∀ p ∈ own, p.1 = s.heap.objs.size ∨ p.1 = a) →
      Fr h₀ env.locals h (fun y => if y = x then some v else m₁ y) → News h₀ env.locals h (own ++ news₁) →
      wpAny (model prog w) A (execs body env) (TurnJ h₀ env.locals s.heap.objs.size own (J (i + 1)) s Q) E { s with heap := h, toks := tk })
    (done : ∀ h' tk m' news', J vs.length m' news' → Fr h₀ env.locals h' m' → News h₀ env.locals h' news' → Q .next { s with heap := h', toks := tk }) :
    wpAny (model prog w) A (pyIter (.ref a)) (fun it s₂ => LoopAtV prog w A h₀ env x body Q E it s₂) E s := by
  have hlt := Heap.lt_size hO
  have hT : s.heap.IsList a vs.toArray := ⟨_, hO, rfl, _, rfl⟩
  refine wpAny_pyIter_list hT ?_
  have W := Walks.list (prog := prog) (w := w) hh s.heap.objs.size a (Nat.ne_of_lt hlt) vs.toArray
  have e : vs.toArray.size = vs.length := List.size_toArray
  rw [e] at W
  have hwr : ∀ b ∈ [s.heap.objs.size], h₀.get? b = none := by
    intro b hb
    rw [List.mem_singleton.mp hb]
    exact fresh_at F
  refine ⟨_, _, _, _, _, _, m, news, J, rfl, W, ?_, hwr, ?_, ⟨⟨_, Heap.get?_push_size _ rfl, rfl, rfl⟩, hT.at fun o e => Heap.get?_push_of_some _ e⟩, F.push _, (fun p hp => ⟨Heap.get?_push_of_some _ (N p hp).1, (N p hp).2⟩), h0, ?_, ?_⟩
  · intro hm
    rcases List.mem_cons.mp hm with e | hm
    · exact absurd F.ns.lt (e ▸ Nat.lt_irrefl _)
    · exact haL (List.mem_singleton.mp hm).symm
  · intro p hp hI
    exact absurd (Heap.lt_size (N p hp).1) ((List.mem_singleton.mp hI) ▸ Nat.lt_irrefl _)
  · rintro i v m₁ news₁ s₁ own ⟨h, tk, rfl⟩ hi hP hJ hni hfp _ hown hst F₁ N₁
    obtain ⟨⟨oI, hoI, _⟩, _⟩ := hst
    have hI : (s.heap.objs.size, oI) ∈ own := hown _ (.head _) (hwr _ (.head _)) oI hoI
    refine wpAny_mono (step i v m₁ news₁ h tk own oI hi (by rw [← List.getElem?_toArray]; exact hP) hJ (fun p hp q => hni p hp (q ▸ .head _)) hI (fun p hp => (List.mem_cons.mp (hfp p hp)).imp id List.mem_singleton.mp) F₁ N₁) (fun f s₃ h₃ => ?_) fun _ _ e => e
    have fin : ∀ h' tk' m' news', s₃ = { s with heap := h', toks := tk' } → Fr h₀ env.locals h' m' → News h₀ env.locals h' (own ++ news') → (∀ p ∈ news', p.1 ≠ s.heap.objs.size) → J (i + 1) m' news' →
        LoopStepU h₀ env.locals [s.heap.objs.size] own (J (i + 1)) { s with heap := h, toks := tk } .next s₃ := by
      rintro h' tk' m' news' rfl F' N' hn' J'
      exact ⟨rfl, h', tk', m', news', rfl, F', N', (fun p hp q => hn' p hp (List.mem_singleton.mp q)), J'⟩
    cases f with
    | ret v => exact .ret h₃
    | brk => exact .brk h₃
    | next => obtain ⟨h', tk', m', nw, e, F', N', hn', J'⟩ := h₃; exact .next (fin h' tk' m' nw e F' N' hn' J')
    | cont => obtain ⟨h', tk', m', nw, e, F', N', hn', J'⟩ := h₃; exact .cont (fin h' tk' m' nw e F' N' hn' J')
  · rintro h' tk m' news' F' N' _ hJ
    exact done h' tk m' news' hJ F' N'
end
end Mine
end TLj
section TLd
open PySem PySem.W PySem.Calls PyProof.Rows
set_option maxRecDepth 100000
set_option maxHeartbeats 8000000
open PySem.Builtin.Str
namespace Mine
theorem mem_foldl (a : Array Nat) (c : Nat) : ∀ (k : Nat) (acc : Array Nat), c ∈ ((List.replicate k a).foldl (· ++ ·) acc).toList → c ∈ acc.toList ∨ c ∈ a.toList
  | 0, acc, h => .inl h
  | k + 1, acc, h => by
    rw [List.replicate_succ, List.foldl_cons] at h
    rcases mem_foldl a c k _ h with q | q
    · rw [Array.toList_append] at q
      rcases List.mem_append.mp q with q | q
      · exact .inl q
      · exact .inr q
    · exact .inr q
theorem mem_mul {x : Str} {n : Int} {c : Nat} (h : c ∈ cs (Txt.mul x n)) : c ∈ cs x := by
  unfold Txt.mul at h
  split at h
  · exact absurd h (by simp [cs, Str.empty])
  · split at h
    · exact h
    · rcases mem_foldl x.cps c _ _ h with q | q
      · exact absurd q (by simp)
      · exact q
theorem litD_fine (k : Int) : (∀ c ∈ cs (litD k), c ∈ plains) ∧ ¬ (39 ∈ cs (litD k) ∧ 34 ∈ cs (litD k)) ∧ (litD k).length ≤ 2 := by
  unfold litD
  repeat' split
  all_goals (rw [← cs_len, cs_lit]; decide)
noncomputable def Item.dt : Item → Dt
  | .str x => .str x
  | .int i => .int i
  | .lst i => .lst [.tup [.int i], .lst [], .tup []]
  | .dct k j => .dct k (.tup [.str (Str.ofString ""), .int j])
theorem item_rep {w : World} {h : Heap} {v : Value} {d : Item} (r : ItemIs w h v d) : Rep w h v d.dt := by
  cases d with
  | str x => obtain ⟨t, rfl⟩ := r; exact .str x t
  | int i => obtain ⟨t, rfl⟩ := r; exact .int i t
  | lst i =>
    obtain ⟨a, b, c, f, t, n, n', rfl, e1, e2, e3, e4, e5, e6⟩ := r
    exact .lst e1 e3 (.cons (.tup e4 (.cons (.int i t) .nil)) (.cons (.lst e2 e5 .nil) (.cons (.tup e6 .nil) .nil)))
  | dct k j =>
    obtain ⟨a, b, t, t', rfl, e1, e2, e3⟩ := r
    exact .dct e1 e2 (.tup e3 (.cons (.str _ t) (.cons (.int j t') .nil)))
structure Fine (d : Dt) : Prop where
  good : Good d
  slim : Slim d
  dep : d.dep ≤ 3
  len : (shownD d).length ≤ 60
theorem item_fine (n : Int) : Fine (itemD n).dt := by
  unfold itemD
  have hq : ∀ x : Str, (shownD (.str x)).length = (cs x).length + 2 := fun x => by
    show (_ :: (cs x ++ [_])).length = _
    simp
  split
  · obtain ⟨l1, l2, l3⟩ := litD_fine ((n.fdiv 4).fmod 8)
    refine ⟨⟨fun c hc => l1 c (mem_mul hc), fun q => l2 ⟨mem_mul q.1, mem_mul q.2⟩⟩, trivial, Nat.zero_le _, ?_⟩
    show (shownD (.str _)).length ≤ 60
    rw [hq, cs_len]
    have := len_mul_leN (N := 24) l3 (n := ((n.fdiv 4).fdiv 8).fmod 24) (Int.le_of_lt (Int.fmod_lt_of_pos _ (by decide)))
    omega
  · split
    · have h1 := Int.fmod_lt_of_pos (n.fdiv 4) (b := 10 ^ 12) (by decide)
      have h2 := Int.fmod_nonneg_of_pos (n.fdiv 4) (b := 10 ^ 12) (by decide)
      have hg : Good (.int ((n.fdiv 4).fmod (10 ^ 12) - 10 ^ 11)) := by
        show Int.natAbs _ < 10 ^ 13
        omega
      exact ⟨hg, trivial, Nat.zero_le _, Nat.le_trans (num_len hg) (by decide)⟩
    · split
      · have h1 := Int.fmod_lt_of_pos (n.fdiv 4) (b := 100) (by decide)
        have h2 := Int.fmod_nonneg_of_pos (n.fdiv 4) (b := 100) (by decide)
        have hg : Good (.int ((n.fdiv 4).fmod 100)) := by
          show Int.natAbs _ < 10 ^ 13
          omega
        have hl := num_len hg
        refine ⟨⟨⟨hg, trivial⟩, trivial, trivial, trivial⟩, ⟨Nat.le_of_ble_eq_true rfl, ⟨Nat.le_of_ble_eq_true rfl, trivial, trivial⟩, ⟨Nat.zero_le _, trivial⟩, ⟨Nat.zero_le _, trivial⟩, trivial⟩, Nat.le_of_ble_eq_true rfl, ?_⟩
        show (91 :: ((((40 :: (numL _ ++ [44, 41])) ++ [44, 32] ++ ([91, 93] ++ [44, 32] ++ [40, 41])) ++ [93]))).length ≤ 60
        simp
        omega
      · have h1 := Int.fmod_lt_of_pos (n.fdiv 4) (b := 10) (by decide)
        have h2 := Int.fmod_nonneg_of_pos (n.fdiv 4) (b := 10) (by decide)
        have h3 := Int.fmod_lt_of_pos (n.fdiv 4) (b := 7) (by decide)
        have h4 := Int.fmod_nonneg_of_pos (n.fdiv 4) (b := 7) (by decide)
        have hg : Good (.int ((n.fdiv 4).fmod 10)) := by
          show Int.natAbs _ < 10 ^ 13
          omega
        have hj : Good (.int (-((n.fdiv 4).fmod 7))) := by
          show Int.natAbs _ < 10 ^ 13
          omega
        have hl := num_len hg
        have hl' := num_len hj
        have hs : Good (.str (Str.ofString "")) := by
          show (∀ c ∈ cs (Str.ofString ""), c ∈ plains) ∧ ¬ (39 ∈ cs (Str.ofString "") ∧ 34 ∈ cs (Str.ofString ""))
          rw [cs_lit]; decide
        have hsl : (shownD (.str (Str.ofString ""))).length = 2 := by rw [hq, cs_lit]; rfl
        refine ⟨⟨hg, hs, hj, trivial⟩, ⟨Nat.le_of_ble_eq_true rfl, trivial, trivial, trivial⟩, Nat.le_of_ble_eq_true rfl, ?_⟩
        show (123 :: ((numL _ ++ [58, 32] ++ (40 :: ((shownD (.str (Str.ofString "")) ++ [44, 32] ++ numL _) ++ [41]))) ++ [125])).length ≤ 60
        simp only [List.length_cons, List.length_append, hsl, List.length_nil]
        omega
theorem depL_fine : ∀ {ds : List Dt}, (∀ d ∈ ds, Fine d) → Dt.depL ds ≤ 3
  | [], _ => Nat.zero_le _
  | d :: r, h => Nat.max_le.mpr ⟨(h d (.head _)).dep, depL_fine fun e he => h e (.tail _ he)⟩
theorem goodL_fine : ∀ {ds : List Dt}, (∀ d ∈ ds, Fine d) → GoodL ds
  | [], _ => trivial
  | d :: r, h => ⟨(h d (.head _)).good, goodL_fine fun e he => h e (.tail _ he)⟩
theorem slimL_fine : ∀ {ds : List Dt}, (∀ d ∈ ds, Fine d) → SlimL ds
  | [], _ => trivial
  | d :: r, h => ⟨(h d (.head _)).slim, slimL_fine fun e he => h e (.tail _ he)⟩
theorem join_fine : ∀ {ds : List Dt}, (∀ d ∈ ds, Fine d) → (joinL (shownL ds)).length ≤ 62 * ds.length
  | [], _ => Nat.zero_le _
  | [d], h => by
    have := (h d (.head _)).len
    show (shownD d).length ≤ 62 * 1
    omega
  | d :: e :: r, h => by
    have h1 := (h d (.head _)).len
    have h2 := join_fine (ds := e :: r) (fun x hx => h x (.tail _ hx))
    show (shownD d ++ [44, 32] ++ joinL (shownL (e :: r))).length ≤ _
    simp only [List.length_append, List.length_cons, List.length_nil] at h2 ⊢
    omega
theorem lst_fine {ds : List Dt} (h : ∀ d ∈ ds, Fine d) (hl : ds.length ≤ 10) : Good (.lst ds) ∧ Slim (.lst ds) ∧ (Dt.lst ds).dep ≤ 10 ∧ (shownD (.lst ds)).length ≤ 5000 := by
  refine ⟨goodL_fine h, ⟨by omega, slimL_fine h⟩, ?_, ?_⟩
  · have := depL_fine h
    show Dt.depL ds + 1 ≤ 10
    omega
  · have := join_fine h
    show (91 :: (joinL (shownL ds) ++ [93])).length ≤ 5000
    simp only [List.length_append, List.length_cons, List.length_nil]
    omega
noncomputable def RpL (w : World) (rest : List (Addr × Obj)) (vs : List Value) (ds : List Dt) : Prop := ∀ h : Heap, (∀ p ∈ rest, h.get? p.1 = some p.2) → RepL w h vs ds
theorem RpL.nil (w : World) (rest : List (Addr × Obj)) : RpL w rest [] [] := fun _ _ => .nil
theorem RpL.more {w : World} {rest rest' : List (Addr × Obj)} {vs : List Value} {ds : List Dt} (r : RpL w rest vs ds) (h : ∀ p ∈ rest, p ∈ rest') : RpL w rest' vs ds := fun H q => r H fun p hp => q p (h p hp)
theorem repL_snoc {w : World} {h : Heap} {v : Value} {d : Dt} (rv : Rep w h v d) : ∀ {vs : List Value} {ds : List Dt}, RepL w h vs ds → RepL w h (vs ++ [v]) (ds ++ [d])
  | _, _, .nil => .cons rv .nil
  | _, _, .cons a b => .cons a (repL_snoc rv b)
theorem RpL.snoc {w : World} {rest : List (Addr × Obj)} {vs : List Value} {ds : List Dt} {v : Value} {d : Dt} (r : RpL w rest vs ds) (rv : RpIn w rest v d) : RpL w rest (vs ++ [v]) (ds ++ [d]) := fun H q => repL_snoc (rv H q) (r H q)
end Mine
end TLd
section TLw
open PySem PySem.W PySem.Calls PyProof.Rows
set_option maxRecDepth 100000
set_option maxHeartbeats 8000000
namespace Mine
theorem fillLw (P : Params) : PySem.Challenge.rw_sr0100_01 = PySem.Challenge.rw_sr0100_01 ∧ hd.heap_39 P = hd.heap_39 P := by
  w_top off
  k_fill
  exact ⟨rfl, rfl⟩
section
variable {w : World} {A : Around} {h₀ : Heap} {L : Addr} {m : Str → Option Value} {env : Env} {elt : Expr} {x : Str} {scope : Scope} {cl : List (Str × Addr)} {s : Shared} {S : List (Addr × Obj) → Prop} {Fin : List Value → List (Addr × Obj) → Prop} {news : List (Addr × Obj)}
noncomputable def IsInt (v : Value) : Prop := ∃ i t, v = Value.int i t
noncomputable def IntEl (news : List (Addr × Obj)) (y : Value) (news' : List (Addr × Obj)) : Prop := news' = news ∧ IsInt y
theorem ints_rest {n : Nat} {a : Int}
    (turn : ∀ k t I oI C oC D m₂ ys h tk (E' : Value → Shared → Prop), a ≤ k → k < a + (n : Int) → LCg.NsObj oC m₂ → m₂ x = some (.int k t) → Fr h₀ L h m → News h₀ L h ((I, oI) :: (C, oC) :: (D, LCg.lst ys) :: news) → LCg.Off3 I C D news → ((@Ne Nat I C) ∧ (@Ne Nat I D) ∧ (@Ne Nat C D)) → KPfMark →
      wpAny (model prog w) A (eval elt (compEnvC scope cl C env)) (LCg.CompEnd h₀ L m { s with heap := h, toks := tk } I oI C oC D (LCg.lst ys) S (fun y news' => IntEl news y news')) E' { s with heap := h, toks := tk })
    (fin : ∀ ys, (∀ v ∈ ys, IsInt v) → ys.length = n → Fin ys news) : LCg.CompRest prog w A h₀ L m env elt x scope cl s S (fun i v => ∃ t, v = .int (a + (i : Int)) t) Fin n 0 [] news := by
  have key : ∀ (j i : Nat) (ys : List Value), i + j = n → ys.length = i → (∀ v ∈ ys, IsInt v) → LCg.CompRest prog w A h₀ L m env elt x scope cl s S (fun i v => ∃ t, v = .int (a + (i : Int)) t) Fin j i ys news := by
    intro j
    induction j with
    | zero =>
      intro i ys hi hl hy
      exact LCg.CompRest.zero (fin ys hy (by lia))
    | succ j ih =>
      intro i ys hi hl hy
      refine LCg.CompRest.succ ?_
      intro v I oI C oC D m₂ h tk E' hv' hC hx F N off ne
      obtain ⟨t, e⟩ := hv'
      rw [e] at hx
      refine wpAny_mono (turn (a + (i : Int)) t I oI C oC D m₂ ys h tk E' (by lia) (by lia) hC hx F N off ne True.intro) (fun y s₂ hq => ?_) fun _ _ e => e
      obtain ⟨h', tk', nw, e, F', N', off', hS, hn, hy'⟩ := hq
      rw [hn] at N' off' hS
      refine ⟨h', tk', news, e, F', N', off', hS, ?_⟩
      refine ih (i + 1) _ (by lia) (by rw [List.length_append, hl]; rfl) ?_
      intro u hu
      rcases List.mem_append.mp hu with hu | hu
      · exact hy u hu
      · rw [List.mem_singleton.mp hu]; exact hy'
  exact key n 0 [] (by lia) rfl (fun _ h => nomatch h)
end
noncomputable def Stock (w : World) (rest : List (Addr × Obj)) (i : Nat) (a : List Value) (ds : List Dt) : Prop := RpL w rest a ds ∧ (∀ d ∈ ds, Fine d) ∧ ds.length ≤ i
noncomputable def LawJ (w : World) (TH T0 T1 T2 : Addr) (i : Nat) (m : Str → Option Value) (news : List (Addr × Obj)) : Prop :=
  (∃ f, m = bindM f (Str.ofString "things") (some (.ref TH))) ∧ ∃ a0 a1 a2 n0 n1 n2 rest ds0 ds1 ds2,
    news = (TH, listOf #[.ref T0, .ref T1, .ref T2] 0) :: (T2, listOf (List.toArray a2) n2) :: (T1, listOf (List.toArray a1) n1) :: (T0, listOf (List.toArray a0) n0) :: rest ∧ Stock w rest i a0 ds0 ∧ Stock w rest i a1 ds1 ∧ Stock w rest i a2 ds2 ∧
    (∀ p ∈ rest, p.1 ≠ T0 ∧ p.1 ≠ T1 ∧ p.1 ≠ T2) ∧ Cl rest
noncomputable def PutEnd (w : World) (h₀ : Heap) (L : Addr) (m : Str → Option Value) (T : Addr) (oth st : List (Addr × Obj)) (k : Nat) (s : Shared) (f : Flow) (s' : Shared) : Prop :=
  f = .next ∧ ∃ a n ds h tk, s' = { s with heap := h, toks := tk } ∧ Fr h₀ L h m ∧ News h₀ L h ((T, listOf (List.toArray a) n) :: oth) ∧ Stock w st k a ds
theorem put_mono {w : World} {A : Around} {t : Sem Flow} {Q : Flow → Shared → Prop} {E : Value → Shared → Prop} {s : Shared} {h₀ : Heap} {L : Addr} {m : Str → Option Value} {T : Addr} {o : Obj} {oth : List (Addr × Obj)} (st : List (Addr × Obj)) (k : Nat)
   (_F : Fr h₀ L s.heap m) (_N : News h₀ L s.heap ((T, o) :: oth)) (h : wpAny (model prog w) A t (PutEnd w h₀ L m T oth st k s) (fun _ _ => False) s)
   (next : ∀ a n ds h tk, Fr h₀ L h m → News h₀ L h ((T, listOf (List.toArray a) n) :: oth) → Stock w st k a ds → Q .next { s with heap := h, toks := tk }) : wpAny (model prog w) A t Q E s := by
  refine wpAny_mono h (fun f s' q => ?_) fun _ _ e => e.elim
  obtain ⟨rfl, a, n, ds, h', tk, rfl, F, N, S⟩ := q
  exact next a n ds h' tk F N S
theorem ne_obj {h : Heap} {a b : Addr} {o o' : Obj} (h1 : h.get? a = some o) (h2 : h.get? b = some o') (hc : o.cls ≠ o'.cls) : a ≠ b := fun q => by
  rw [q, h2] at h1
  cases h1
  exact hc rfl
theorem Stock.snoc {w : World} {st : List (Addr × Obj)} {i : Nat} {a : List Value} {ds : List Dt} {v : Value} {d : Dt} (S : Stock w st i a ds) (rv : RpIn w st v d) (hf : Fine d) : Stock w st (i + 1) (a ++ [v]) (ds ++ [d]) :=
  ⟨S.1.snoc rv, fun e he => (List.mem_append.mp he).elim (S.2.1 e) fun q => List.mem_singleton.mp q ▸ hf, by rw [List.length_append]; exact Nat.succ_le_succ S.2.2⟩
theorem Stock.up {w : World} {st st' : List (Addr × Obj)} {i : Nat} {a : List Value} {ds : List Dt} (S : Stock w st i a ds) (h : ∀ p ∈ st, p ∈ st') : Stock w st' (i + 1) a ds := ⟨S.1.more h, S.2.1, Nat.le_succ_of_le S.2.2⟩
theorem Stock.more {w : World} {st st' : List (Addr × Obj)} {i : Nat} {a : List Value} {ds : List Dt} (S : Stock w st i a ds) (h : ∀ p ∈ st, p ∈ st') : Stock w st' i a ds := ⟨S.1.more h, S.2.1, S.2.2⟩
theorem listOf_snoc (a : List Value) (v : Value) (n : Nat) : listOf ((List.toArray a).push v) n = listOf (List.toArray (a ++ [v])) n := by rw [List.push_toArray]
theorem allLt_mem {d : Addr} {l : List (Addr × Obj)} : AllLt d l → ∀ p ∈ l, p.1 ≠ d := by
  induction l with
  | nil => intro _ p hp; cases hp
  | cons a l ih =>
    intro h p hp
    rcases List.mem_cons.mp hp with rfl | hp
    · exact Nat.ne_of_lt h.1
    · exact ih h.2 p hp
section
variable {h₀ h : Heap} {L : Addr} {a b c d e : Addr × Obj} {r : List (Addr × Obj)}
theorem news_2 (N : News h₀ L h (a :: b :: c :: r)) : News h₀ L h (c :: a :: b :: r) := fun p hp => N p (by
  simp only [List.mem_cons] at hp ⊢; rcases hp with h | h | h | h
  · exact .inr (.inr (.inl h))
  · exact .inl h
  · exact .inr (.inl h)
  · exact .inr (.inr (.inr h)))
theorem news_3 (N : News h₀ L h (a :: b :: c :: d :: r)) : News h₀ L h (d :: a :: b :: c :: r) := fun p hp => N p (by
  simp only [List.mem_cons] at hp ⊢; rcases hp with h | h | h | h | h
  · exact .inr (.inr (.inr (.inl h)))
  · exact .inl h
  · exact .inr (.inl h)
  · exact .inr (.inr (.inl h))
  · exact .inr (.inr (.inr (.inr h))))
theorem news_4 (N : News h₀ L h (a :: b :: c :: d :: e :: r)) : News h₀ L h (e :: a :: b :: c :: d :: r) := fun p hp => N p (by
  simp only [List.mem_cons] at hp ⊢; rcases hp with h | h | h | h | h | h
  · exact .inr (.inr (.inr (.inr (.inl h))))
  · exact .inl h
  · exact .inr (.inl h)
  · exact .inr (.inr (.inl h))
  · exact .inr (.inr (.inr (.inl h)))
  · exact .inr (.inr (.inr (.inr (.inr h)))))
theorem news_2' (N : News h₀ L h (c :: a :: b :: r)) : News h₀ L h (a :: b :: c :: r) := news_2 (news_2 N)
theorem news_3' (N : News h₀ L h (d :: a :: b :: c :: r)) : News h₀ L h (a :: b :: c :: d :: r) := news_3 (news_3 (news_3 N))
theorem news_4' (N : News h₀ L h (e :: a :: b :: c :: d :: r)) : News h₀ L h (a :: b :: c :: d :: e :: r) := news_4 (news_4 (news_4 (news_4 N)))
end
theorem off_cons {a : Addr} {o : Obj} {T : Addr} {l : List (Addr × Obj)} (h : a ≠ T) (r : ∀ p ∈ l, p.1 ≠ T) : ∀ p ∈ (a, o) :: l, p.1 ≠ T := fun p hp => by
  rcases List.mem_cons.mp hp with rfl | hp
  · exact h
  · exact r p hp
theorem news_sub {h₀ h : Heap} {L : Addr} {l l' : List (Addr × Obj)} (N : News h₀ L h l) (s : ∀ p ∈ l', p ∈ l) : News h₀ L h l' := fun p hp => N p (s p hp)
theorem news_twice {h₀ h : Heap} {L : Addr} {a : Addr × Obj} {l : List (Addr × Obj)} (N : News h₀ L h (a :: l)) : News h₀ L h (a :: a :: l) := fun p hp => N p ((List.mem_cons.mp hp).elim (fun e => e ▸ .head _) id)
noncomputable def FineL (d : Dt) : Prop := (∃ es, d = .lst es) ∧ Good d ∧ Slim d ∧ d.dep ≤ 10 ∧ (shownD d).length ≤ 5000
theorem fine_cons {d : Dt} {l : List Dt} (h : FineL d) (r : ∀ e ∈ l, FineL e) : ∀ e ∈ d :: l, FineL e := fun e he => by
  rcases List.mem_cons.mp he with rfl | he
  · exact h
  · exact r e he
theorem law_ok {w : World} {s : Shared} {Q : Value → Shared → Prop}
   (O : Ok w s.heap) (l : Addr) (vs : List Value) (ns : List Int) (hL : s.heap.IsList l vs.toArray) (hI : IntsAre vs ns) (hlen : ns.length ≤ 63) (hb : AllBare s.gens)
   (hret : ∀ h' tk g', AllBare g' → Reg s.heap h' → Q (.bool true) { s with heap := h', gens := g', toks := tk }) :
   wpAny (model prog w) (lv 301 4) (call (.ref 105) [.ref l]) Q (fun _ _ => False) s := by
  have hvl := hI.length
  obtain ⟨X, loose, mean, mg, mb, T⟩ := O.top
  refine' enterC [("script", .ref l)] X T.nolimit (Nat.le_of_ble_eq_true rfl) ?k1 ?k3 ?k4 ?k5 ?k5b ?k6 ?k7 ?k8 ?k9
  case k1 => k_is
  case k3 => k_is
  case k4 => exact rfl
  case k5 => exact rfl
  case k5b => decide
  case k7 => rfl
  case k8 => rfl
  case k9 => rfl
  intro h₁ tk cells F N Y
  obtain ⟨oc, rfl, hoc⟩ := CellsAre.one Y
  clear Y
  have F' : Fr s.heap s.heap.objs.size h₁ (fun _ => none) := F
  clear F
  repeat' ((fail_if_success (with_reducible show LCg.CompSrc _ _ _ _ _ _ _ _ _ _ _ _ _ _)); first | (k_unfold; (try dsimp only)) | walk1 | (dsimp only; walk1))
  rename Fr _ _ _ _ => F
  rename News _ _ _ _ => N
  rename IsRange _ _ _ _ _ _ _ _ => hR
  have hbn : (if 10 < (ns.length : Int) then 10 else (ns.length : Int)) = ((min ns.length 10 : Nat) : Int) := by split <;> lia
  rw [hbn] at hR
  refine LCg.CompSrc.range (n := min ns.length 10) rfl F N hR (small_one ?sa ?sb ?sc ?sd) ?sz (by rw [sizeLine_eq]; lia) ?_
  case sa => lia
  case sb => lia
  case sc => lia
  case sd => lia
  case sz => exact rangeSize_nat _ _
  intro g'
  refine' ints_rest ?tt ?tf
  case tt =>
    intro k t I oI C oC D m₂ ys h tk E' hk0 hk hC hx F8 N8 off ne mk
    clear F N
    repeat' ((fail_if_success (with_reducible show wpAny _ _ (call (Value.builtin "sum") _) _ _ _)); first | (k_unfold; (try dsimp only)) | walk1 | (dsimp only; walk1))
    rename Fr _ _ _ _ => F
    rename News _ _ _ _ => N
    obtain ⟨js, hjs⟩ := AllInts.items (hI.pick (some k) none (some 10)).allInts
    rw [Array.toArray_toList] at hjs
    refine' sum_intListG (xs := js) rfl (by rw [← hjs]; exact ⟨_, (N _ (.head _)).1, rfl, _, rfl⟩) ?_
    intro h9 tk9 t9 e9
    have F9 := fr_ext F e9
    have N9 := news_ext N e9
    clear F N
    repeat' ((fail_if_success (with_reducible show LCg.CompEnd _ _ _ _ _ _ _ _ _ _ _ _ _ _)); first | (k_unfold; (try dsimp only)) | walk1 | (dsimp only; walk1))
    rename Fr _ _ _ _ => F
    rename News _ _ _ _ => N
    exact LCg.CompEnd.intro F N _ (fun p hp => .tail _ hp) off True.intro ⟨rfl, _, _, rfl⟩
  case tf =>
    intro ys hys hyl
    intro D h2 tk2 F2 N2 off2
    clear F N
    repeat' ((fail_if_success (with_reducible show wpAny _ _ (exec (Stmt.For _ _ _ _ _) _) _ _ _)); first | (k_unfold; (try dsimp only)) | walk1 | (dsimp only; walk1))
    rename Fr _ _ _ _ => F
    rename News _ _ _ _ => N
    rename_i T0 _ lt0 T1 _ lt1 T2 _ lt2 TH _ lt3 hx
    refine' For_invV s.heap rfl rfl ?_
    repeat' ((fail_if_success (with_reducible show wpAny _ _ (pyIter (Value.ref _)) _ _ _)); first | (k_unfold; (try dsimp only)) | walk1 | (dsimp only; walk1))
    rename Fr _ _ _ _ => F3
    rename News _ _ _ _ => N3
    have hDL : D ≠ s.heap.objs.size := (N3 _ (.tail _ (.tail _ (.tail _ (.tail _ (.head _)))))).2.1
    have hD0 : D ≠ T0 ∧ D ≠ T1 ∧ D ≠ T2 := ⟨Nat.ne_of_lt lt0.1, Nat.ne_of_lt lt1.2.1, Nat.ne_of_lt lt2.2.2.1⟩
    have hDO := (N3 _ (.tail _ (.tail _ (.tail _ (.tail _ (.head _)))))).1
    have N4 := news_sub N3 (l' := [(TH, listOf #[.ref T0, .ref T1, .ref T2] 0), (T2, listOf (List.toArray []) 0), (T1, listOf (List.toArray []) 0), (T0, listOf (List.toArray []) 0)]) (fun p hp => by
      simp only [List.mem_cons, List.not_mem_nil, or_false] at hp ⊢
      rcases hp with h | h | h | h
      · exact .inl h
      · exact .inr (.inl h)
      · exact .inr (.inr (.inl h))
      · exact .inr (.inr (.inr (.inl h))))
    clear N3
    refine' loop_listJ rfl hDO hDL F3 N4 (LawJ w TH T0 T1 T2) ?j0 ?jstep ?jdone
    case j0 => exact ⟨⟨_, bind_one _ _⟩, [], [], [], _, _, _, [], [], [], [], rfl, ⟨RpL.nil _ _, (fun _ h => nomatch h), Nat.le_refl _⟩, ⟨RpL.nil _ _, (fun _ h => nomatch h), Nat.le_refl _⟩, ⟨RpL.nil _ _, (fun _ h => nomatch h), Nat.le_refl _⟩, (fun _ h => nomatch h), Cl.nil⟩
    case jstep =>
      rintro i v m₁ news₁ h tk own oI hi hv' ⟨⟨f, rfl⟩, a0, a1, a2, n0, n1, n2, rest, ds0, ds1, ds2, rfl, S0, S1, S2, hoff, hcl⟩ hni hI hfp F8 N8
      clear F3 N4
      obtain ⟨j, tj, rfl⟩ := hys _ (List.mem_of_getElem? hv')
      repeat' ((fail_if_success (with_reducible show wpAny _ _ (call (Value.ref 76) _) _ _ _)); first | (k_unfold; (try dsimp only)) | walk1 | (dsimp only; walk1))
      rename Fr _ _ _ _ => F
      rename News _ _ _ _ => N
      refine' at_lv (law_item_ok ?kO _ _ ?_) rfl (Nat.le_of_ble_eq_true rfl) rfl (Nat.le_of_ble_eq_true rfl)
      case kO => exact ok_fr O F
      intro h9 tk9 iv tl hm9 hcl9 hi9 e9
      have N9 := news_made F N e9 hm9
      have hln : i < 10 := by lia
      have hRl : ∀ p ∈ rest, Heap.get? _ p.1 = some p.2 := fun p hp => (N p (List.mem_append_right _ (.tail _ (.tail _ (.tail _ (.tail _ hp)))))).1
      have hRl0 := (S0.1 _ hRl).length
      have hRl1 := (S1.1 _ hRl).length
      have hRl2 := (S2.1 _ hRl).length
      have hs0 := S0.2.2
      have hs1 := S1.2.2
      have hs2 := S2.2.2
      have neH : TH ≠ T0 ∧ TH ≠ T1 ∧ TH ≠ T2 := ⟨(Nat.ne_of_lt lt3.2.2.1).symm, (Nat.ne_of_lt lt3.2.1).symm, (Nat.ne_of_lt lt3.1).symm⟩
      have ne20 : T2 ≠ T0 := (Nat.ne_of_lt lt2.2.1).symm
      have ne21 : T2 ≠ T1 := (Nat.ne_of_lt lt2.1).symm
      have ne10 : T1 ≠ T0 := (Nat.ne_of_lt lt1.1).symm
      have hrv : RpIn w (tl ++ rest) iv (itemD (Int.fdiv j 5)).dt := fun H q => item_rep (hi9 H fun p hp => q p (List.mem_append_left _ hp))
      have hIo := (N _ (List.mem_append_left _ hI)).1
      have htlI : ∀ p ∈ tl, p.1 ≠ Array.size _ := fun p hp q => by
        have h0 := (hm9 p hp).1
        rw [q, hIo] at h0
        cases h0
      have hR0 : ∀ p ∈ tl ++ (own ++ rest), p.1 ≠ T0 ∧ p.1 ≠ T1 ∧ p.1 ≠ T2 := by
        intro p hp
        rcases List.mem_append.mp hp with hp | hp
        · have h0 := (hm9 p hp).1
          refine ⟨fun q => ?_, fun q => ?_, fun q => ?_⟩
          · rw [q, (N _ (List.mem_append_right _ (.tail _ (.tail _ (.tail _ (.head _)))))).1] at h0
            cases h0
          · rw [q, (N _ (List.mem_append_right _ (.tail _ (.tail _ (.head _))))).1] at h0
            cases h0
          · rw [q, (N _ (List.mem_append_right _ (.tail _ (.head _)))).1] at h0
            cases h0
        · rcases List.mem_append.mp hp with hp | hp
          · rcases hfp p hp with q | q
            · rw [q]
              exact ⟨fun z => hni _ (.tail _ (.tail _ (.tail _ (.head _)))) z.symm, fun z => hni _ (.tail _ (.tail _ (.head _))) z.symm, fun z => hni _ (.tail _ (.head _)) z.symm⟩
            · rw [q]
              exact hD0
          · exact hoff p hp
      have F9 := fr_ext F e9
      clear F N
      repeat' ((fail_if_success (with_reducible show wpAny _ _ (exec (Stmt.For _ _ _ _ _) _) _ _ _)); first | (k_unfold; (try dsimp only)) | walk1 | (dsimp only; walk1))
      rename Fr _ _ _ _ => F
      rename News _ _ _ _ => N
      have N' : News s.heap s.heap.objs.size _ ((TH, listOf #[.ref T0, .ref T1, .ref T2] 0) :: (T2, listOf a2.toArray n2) :: (T1, listOf a1.toArray n1) :: (T0, listOf a0.toArray n0) :: (tl ++ (own ++ rest))) := fun p hp => N p (by
        simp only [List.mem_cons, List.mem_append] at hp ⊢
        rcases hp with h | h | h | h | h | h | h
        · exact .inr (.inr (.inl h))
        · exact .inr (.inr (.inr (.inl h)))
        · exact .inr (.inr (.inr (.inr (.inl h))))
        · exact .inr (.inr (.inr (.inr (.inr (.inl h)))))
        · exact .inl h
        · exact .inr (.inl h)
        · exact .inr (.inr (.inr (.inr (.inr (.inr h))))))
      clear N
      repeat' ((fail_if_success (with_reducible show wpAny _ _ (exec (Stmt.If _ _ _ _) _) _ _ _)); first | (k_unfold; (try dsimp only)) | walk1 | (dsimp only; walk1))
      rename Fr _ _ _ _ => F
      rename News _ _ _ _ => N
      rename_i it lti _ _ _
      have hit : it ≠ T0 ∧ it ≠ T1 ∧ it ≠ T2 := ⟨(Nat.ne_of_lt lti.2.2.2.1).symm, (Nat.ne_of_lt lti.2.2.1).symm, (Nat.ne_of_lt lti.2.1).symm⟩
      have hitR : ∀ p ∈ tl ++ (own ++ rest), p.1 ≠ it := allLt_mem lti.2.2.2.2
      have hitH : TH ≠ it ∧ T2 ≠ it ∧ T1 ≠ it ∧ T0 ≠ it := ⟨Nat.ne_of_lt lti.1, Nat.ne_of_lt lti.2.1, Nat.ne_of_lt lti.2.2.1, Nat.ne_of_lt lti.2.2.2.1⟩
      have N2 := news_4 N
      clear N
      refine put_mono (T := T0) (tl ++ rest) (i + 1) F N2 ?putA0 ?putB0
      case putA0 =>
        repeat' ((fail_if_success (with_reducible show wpAny _ _ (call (Value.builtin "list.append") _) _ _ _)); (fail_if_success (with_reducible show PutEnd _ _ _ _ _ _ _ _ _ _ _)); first | (k_unfold; (try dsimp only)) | walk1 | (dsimp only; walk1))
        · rename Fr _ _ _ _ => F
          rename News _ _ _ _ => N
          have hDp : _ ≠ T0 := ne_obj (N _ (.head _)).1 (N _ (.tail _ (.head _))).1 (fun q => by injection q with q; exact absurd q (by decide))
          refine' append_K (its := a0.toArray) (n := n0) ?p1_0 ?p2_0 ?p4_0 ?_ ?p3_0
          case p1_0 => exact F
          case p2_0 => exact N
          case p4_0 => exact .tail hDp (.head (off_cons hit.1 (off_cons neH.1 (off_cons ne20 (off_cons ne10 (fun p hp => (hR0 p hp).1))))))
          case p3_0 => rw [List.size_toArray, sizeLine_eq]; lia
          intro h8 F8 N8
          clear F N
          rw [listOf_snoc] at N8
          repeat' ((fail_if_success (with_reducible show PutEnd _ _ _ _ _ _ _ _ _ _ _)); first | (k_unfold; (try dsimp only)) | walk1 | (dsimp only; walk1))
          rename Fr _ _ _ _ => F
          rename News _ _ _ _ => N
          exact ⟨rfl, _, _, _, _, _, rfl, F, fun p hp => N p (.tail _ hp), (S0.more (fun p hp => List.mem_append_right _ hp)).snoc hrv (item_fine _)⟩
        · rename Fr _ _ _ _ => F
          rename News _ _ _ _ => N
          exact ⟨rfl, _, _, _, _, _, rfl, F, fun p hp => N p (.tail _ hp), S0.up (fun p hp => List.mem_append_right _ hp)⟩
      case putB0 =>
      intro b0 k0 es0 h10 tk10 F10 N10 R0
      clear F N2
      have N' := news_4' N10
      clear N10
      repeat' ((fail_if_success (with_reducible show UnrEnd _ _ _ _ _ _ _)); first | (k_unfold; (try dsimp only)) | walk1 | (dsimp only; walk1))
      rename Fr _ _ _ _ => F
      rename News _ _ _ _ => N
      refine ⟨_, _, _, _, rfl, F, N, off_cons hitH.1 (off_cons hitH.2.1 (off_cons hitH.2.2.1 (off_cons hitH.2.2.2 hitR))), ?_⟩
      repeat' ((fail_if_success (with_reducible show wpAny _ _ (exec (Stmt.If _ _ _ _) _) _ _ _)); first | (k_unfold; (try dsimp only)) | walk1 | (dsimp only; walk1))
      rename Fr _ _ _ _ => F
      rename News _ _ _ _ => N
      have N2 := news_3 N
      clear N
      refine put_mono (T := T1) (tl ++ rest) (i + 1) F N2 ?putA1 ?putB1
      case putA1 =>
        repeat' ((fail_if_success (with_reducible show wpAny _ _ (call (Value.builtin "list.append") _) _ _ _)); (fail_if_success (with_reducible show PutEnd _ _ _ _ _ _ _ _ _ _ _)); first | (k_unfold; (try dsimp only)) | walk1 | (dsimp only; walk1))
        · rename Fr _ _ _ _ => F
          rename News _ _ _ _ => N
          have hDp : _ ≠ T1 := ne_obj (N _ (.head _)).1 (N _ (.tail _ (.head _))).1 (fun q => by injection q with q; exact absurd q (by decide))
          refine' append_K (its := a1.toArray) (n := n1) ?p1_1 ?p2_1 ?p4_1 ?_ ?p3_1
          case p1_1 => exact F
          case p2_1 => exact N
          case p4_1 => exact .tail hDp (.head (off_cons hit.2.1 (off_cons neH.2.1 (off_cons ne21 (off_cons ne10.symm (fun p hp => (hR0 p hp).2.1))))))
          case p3_1 => rw [List.size_toArray, sizeLine_eq]; lia
          intro h8 F8 N8
          clear F N
          rw [listOf_snoc] at N8
          repeat' ((fail_if_success (with_reducible show PutEnd _ _ _ _ _ _ _ _ _ _ _)); first | (k_unfold; (try dsimp only)) | walk1 | (dsimp only; walk1))
          rename Fr _ _ _ _ => F
          rename News _ _ _ _ => N
          exact ⟨rfl, _, _, _, _, _, rfl, F, fun p hp => N p (.tail _ hp), (S1.more (fun p hp => List.mem_append_right _ hp)).snoc hrv (item_fine _)⟩
        · rename Fr _ _ _ _ => F
          rename News _ _ _ _ => N
          exact ⟨rfl, _, _, _, _, _, rfl, F, fun p hp => N p (.tail _ hp), S1.up (fun p hp => List.mem_append_right _ hp)⟩
      case putB1 =>
      intro b1 k1 es1 h11 tk11 F11 N11 R1
      clear F N2
      have N' := news_3' N11
      clear N11
      repeat' ((fail_if_success (with_reducible show UnrEnd _ _ _ _ _ _ _)); first | (k_unfold; (try dsimp only)) | walk1 | (dsimp only; walk1))
      rename Fr _ _ _ _ => F
      rename News _ _ _ _ => N
      refine ⟨_, _, _, _, rfl, F, N, off_cons hitH.1 (off_cons hitH.2.1 (off_cons hitH.2.2.1 (off_cons hitH.2.2.2 hitR))), ?_⟩
      repeat' ((fail_if_success (with_reducible show wpAny _ _ (exec (Stmt.If _ _ _ _) _) _ _ _)); first | (k_unfold; (try dsimp only)) | walk1 | (dsimp only; walk1))
      rename Fr _ _ _ _ => F
      rename News _ _ _ _ => N
      have N2 := news_2 N
      clear N
      refine put_mono (T := T2) (tl ++ rest) (i + 1) F N2 ?putA2 ?putB2
      case putA2 =>
        repeat' ((fail_if_success (with_reducible show wpAny _ _ (call (Value.builtin "list.append") _) _ _ _)); (fail_if_success (with_reducible show PutEnd _ _ _ _ _ _ _ _ _ _ _)); first | (k_unfold; (try dsimp only)) | walk1 | (dsimp only; walk1))
        · rename Fr _ _ _ _ => F
          rename News _ _ _ _ => N
          have hDp : _ ≠ T2 := ne_obj (N _ (.head _)).1 (N _ (.tail _ (.head _))).1 (fun q => by injection q with q; exact absurd q (by decide))
          refine' append_K (its := a2.toArray) (n := n2) ?p1_2 ?p2_2 ?p4_2 ?_ ?p3_2
          case p1_2 => exact F
          case p2_2 => exact N
          case p4_2 => exact .tail hDp (.head (off_cons hit.2.2 (off_cons neH.2.2 (off_cons ne21.symm (off_cons ne20.symm (fun p hp => (hR0 p hp).2.2))))))
          case p3_2 => rw [List.size_toArray, sizeLine_eq]; lia
          intro h8 F8 N8
          clear F N
          rw [listOf_snoc] at N8
          repeat' ((fail_if_success (with_reducible show PutEnd _ _ _ _ _ _ _ _ _ _ _)); first | (k_unfold; (try dsimp only)) | walk1 | (dsimp only; walk1))
          rename Fr _ _ _ _ => F
          rename News _ _ _ _ => N
          exact ⟨rfl, _, _, _, _, _, rfl, F, fun p hp => N p (.tail _ hp), (S2.more (fun p hp => List.mem_append_right _ hp)).snoc hrv (item_fine _)⟩
        · rename Fr _ _ _ _ => F
          rename News _ _ _ _ => N
          exact ⟨rfl, _, _, _, _, _, rfl, F, fun p hp => N p (.tail _ hp), S2.up (fun p hp => List.mem_append_right _ hp)⟩
      case putB2 =>
      intro b2 k2 es2 h12 tk12 F12 N12 R2
      clear F N2
      have N' := news_2' N12
      clear N12
      repeat' ((fail_if_success (with_reducible show UnrEnd _ _ _ _ _ _ _)); first | (k_unfold; (try dsimp only)) | walk1 | (dsimp only; walk1))
      rename Fr _ _ _ _ => F
      rename News _ _ _ _ => N
      refine ⟨_, _, _, _, rfl, F, N, off_cons hitH.1 (off_cons hitH.2.1 (off_cons hitH.2.2.1 (off_cons hitH.2.2.2 hitR))), ?_⟩
      repeat' ((fail_if_success (with_reducible show TurnJ _ _ _ _ _ _ _ _ _)); first | (k_unfold; (try dsimp only)) | walk1 | (dsimp only; walk1))
      rename Fr _ _ _ _ => F
      rename News _ _ _ _ => N
      refine ⟨_, _, _, _, rfl, F, ?nF, ?nI, ⟨⟨_, bind_one _ _⟩, b0, b1, b2, k0, k1, k2, tl ++ rest, es0, es1, es2, rfl, R0, R1, R2, ?nO, hcl9.app hcl⟩⟩
      case nF =>
        intro p hp
        refine N p ?_
        simp only [List.mem_append, List.mem_cons] at hp ⊢
        rcases hp with h | h | h | h | h | h | h
        · exact .inr (.inr (.inr (.inr (.inr (.inl h)))))
        · exact .inl h
        · exact .inr (.inl h)
        · exact .inr (.inr (.inl h))
        · exact .inr (.inr (.inr (.inl h)))
        · exact .inr (.inr (.inr (.inr (.inl h))))
        · exact .inr (.inr (.inr (.inr (.inr (.inr h)))))
      case nI => exact off_cons (hni _ (.head _)) (off_cons (hni _ (.tail _ (.head _))) (off_cons (hni _ (.tail _ (.tail _ (.head _)))) (off_cons (hni _ (.tail _ (.tail _ (.tail _ (.head _))))) (fun p hp => (List.mem_append.mp hp).elim (htlI p) (fun q => hni _ (.tail _ (.tail _ (.tail _ (.tail _ q)))))))))
      case nO => exact fun p hp => (List.mem_append.mp hp).elim (fun q => hR0 p (List.mem_append_left _ q)) (fun q => hoff p q)
    case jdone =>
      rintro h' tk m' news' ⟨⟨f, rfl⟩, a0, a1, a2, n0, n1, n2, rest, ds0, ds1, ds2, rfl, S0, S1, S2, hoff, hcl⟩ F8 N8
      clear F3 N4
      have hT1 : s.heap.objs.size + 1 < T0 ∧ s.heap.objs.size + 1 < T1 ∧ s.heap.objs.size + 1 < T2 := ⟨lt0.2, lt1.2.2, lt2.2.2.2⟩
      have hsys : ∀ T : Nat, s.heap.objs.size + 1 < T → T ≠ sysModules := fun T h q => by
        rw [q] at h
        exact absurd (Nat.lt_of_le_of_lt (Nat.le_add_left 1 _) h) (Nat.lt_irrefl _)
      have hq0 := lst_fine S0.2.1 (by have := S0.2.2; lia)
      have hq1 := lst_fine S1.2.1 (by have := S1.2.2; lia)
      have hq2 := lst_fine S2.2.1 (by have := S2.2.2; lia)
      have hrp : ∀ {H b : Heap} {L : Addr} {d : Addr × Obj}, News b L H (d :: (TH, listOf #[.ref T0, .ref T1, .ref T2] 0) :: (T2, listOf (List.toArray a2) n2) :: (T1, listOf (List.toArray a1) n1) :: (T0, listOf (List.toArray a0) n0) :: rest) →
          Rep w H (.ref T0) (.lst ds0) ∧ Rep w H (.ref T1) (.lst ds1) ∧ Rep w H (.ref T2) (.lst ds2) := fun {H b L d} N => by
        have hrest : ∀ p ∈ rest, Heap.get? H p.1 = some p.2 := fun p hp => (N p (.tail _ (.tail _ (.tail _ (.tail _ (.tail _ hp)))))).1
        exact ⟨Rep.lst (hsys _ hT1.1) (N _ (.tail _ (.tail _ (.tail _ (.tail _ (.head _)))))).1 (S0.1 _ hrest), Rep.lst (hsys _ hT1.2.1) (N _ (.tail _ (.tail _ (.tail _ (.head _))))).1 (S1.1 _ hrest), Rep.lst (hsys _ hT1.2.2) (N _ (.tail _ (.tail _ (.head _)))).1 (S2.1 _ hrest)⟩
      have hcN : Cl ((TH, listOf #[.ref T0, .ref T1, .ref T2] 0) :: (T2, listOf (List.toArray a2) n2) :: (T1, listOf (List.toArray a1) n1) :: (T0, listOf (List.toArray a0) n0) :: rest) :=
        .cons (fun q => nomatch q) (.cons (fun q => nomatch q) (.cons (fun q => nomatch q) (.cons (fun q => nomatch q) hcl)))
      clear S0 S1 S2 hoff hcl hys
      dsimp only
      repeat' ((fail_if_success (with_reducible show wpAny _ _ (call (Value.ref 100) _) _ _ _)); first | (k_unfold; (try dsimp only)) | walk1 | (dsimp only; walk1))
      rename Fr _ _ _ _ => F
      rename News _ _ _ _ => N
      have hA1 : ∀ d ∈ [Dt.lst ds0], FineL d := fine_cons ⟨⟨_, rfl⟩, hq0⟩ (fun _ h => nomatch h)
      have hA2 : ∀ d ∈ [Dt.lst ds0, Dt.lst ds1], FineL d := fine_cons ⟨⟨_, rfl⟩, hq0⟩ (fine_cons ⟨⟨_, rfl⟩, hq1⟩ (fun _ h => nomatch h))
      have hA3 : ∀ d ∈ [Dt.lst ds0, Dt.lst ds1, Dt.lst ds2], FineL d := fine_cons ⟨⟨_, rfl⟩, hq0⟩ (fine_cons ⟨⟨_, rfl⟩, hq1⟩ (fine_cons ⟨⟨_, rfl⟩, hq2⟩ (fun _ h => nomatch h)))
      obtain ⟨r0, r1, r2⟩ := hrp N
      refine' at_lv (law_back_ok ?bO1 _ [.ref T0] _ [.lst ds0] (N _ (.head _)).1 (.cons r0 .nil) (Nat.le_of_ble_eq_true rfl) (Nat.le_of_ble_eq_true rfl) (fun d hd => (hA1 d hd).1) (fun d hd => (hA1 d hd).2.1) (fun d hd => (hA1 d hd).2.2.1) (fun d hd => (hA1 d hd).2.2.2.1) (fun d hd => (hA1 d hd).2.2.2.2) hb ?_) rfl (Nat.le_of_ble_eq_true rfl) rfl (Nat.le_of_ble_eq_true rfl)
      case bO1 => exact ok_fr O F
      intro h21 tk21 g21 hb21 R21
      obtain ⟨b1, O1, Q1, F1, N1, _⟩ := reg_frame O F R21
      have N' := N1 _ hcN (news_sub N (fun p hp => .tail _ hp))
      clear F N X T N1
      obtain ⟨X, loose1, mean1, mg1, mb1, T⟩ := O1.top
      repeat' ((fail_if_success (with_reducible show wpAny _ _ (call (Value.ref 100) _) _ _ _)); first | (k_unfold; (try dsimp only)) | walk1 | (dsimp only; walk1))
      rename Fr _ _ _ _ => F
      rename News _ _ _ _ => N
      obtain ⟨r0, r1, r2⟩ := hrp N
      refine' at_lv (law_back_ok ?bO2 _ [.ref T0, .ref T1] _ [.lst ds0, .lst ds1] (N _ (.head _)).1 (.cons r0 (.cons r1 .nil)) (Nat.le_of_ble_eq_true rfl) (Nat.le_of_ble_eq_true rfl) (fun d hd => (hA2 d hd).1) (fun d hd => (hA2 d hd).2.1) (fun d hd => (hA2 d hd).2.2.1) (fun d hd => (hA2 d hd).2.2.2.1) (fun d hd => (hA2 d hd).2.2.2.2) hb21 ?_) rfl (Nat.le_of_ble_eq_true rfl) rfl (Nat.le_of_ble_eq_true rfl)
      case bO2 => exact ok_fr O1 F
      intro h22 tk22 g22 hb22 R22
      obtain ⟨b2, O2, Q2, F2, N2, _⟩ := reg_frame O1 F R22
      have N' := N2 _ hcN (news_sub N (fun p hp => .tail _ hp))
      clear F N X T N2
      obtain ⟨X, loose2, mean2, mg2, mb2, T⟩ := O2.top
      repeat' ((fail_if_success (with_reducible show wpAny _ _ (call (Value.ref 100) _) _ _ _)); first | (k_unfold; (try dsimp only)) | walk1 | (dsimp only; walk1))
      rename Fr _ _ _ _ => F
      rename News _ _ _ _ => N
      obtain ⟨r0, r1, r2⟩ := hrp (news_twice N)
      refine' at_lv (law_back_ok ?bO3 _ [.ref T0, .ref T1, .ref T2] _ [.lst ds0, .lst ds1, .lst ds2] (N _ (.head _)).1 (.cons r0 (.cons r1 (.cons r2 .nil))) (Nat.le_of_ble_eq_true rfl) (Nat.le_of_ble_eq_true rfl) (fun d hd => (hA3 d hd).1) (fun d hd => (hA3 d hd).2.1) (fun d hd => (hA3 d hd).2.2.1) (fun d hd => (hA3 d hd).2.2.2.1) (fun d hd => (hA3 d hd).2.2.2.2) hb22 ?_) rfl (Nat.le_of_ble_eq_true rfl) rfl (Nat.le_of_ble_eq_true rfl)
      case bO3 => exact ok_fr O2 F
      intro h23 tk23 g23 hb23 R23
      have RR := (Q1.trans Q2).trans ((Reg.of_ext O2 F.keep).trans R23)
      clear F N
      repeat' (first | (k_unfold; (try dsimp only)) | walk1 | (dsimp only; walk1))
      exact hret _ _ _ hb23 RR
end Mine
end TLw
section TLt
open PySem PySem.W PySem.Calls PyProof.Rows
set_option maxRecDepth 100000
set_option maxHeartbeats 8000000
namespace Mine
theorem top_go : PySem.Challenge.rw_sr0100_01.Holds := by
  refine Mine.hd ?_
  k_fill
  intro w s₀ s₁ mg mb G Y fa o pm cd doc dV kV ho hd' hcd hD hmg hg args vals as hpre hlay hrd hwl hlo
  have KX := kIn_of Y
  refine Ground.open G ?_
  intro T B D TE TW
  have hmg' : mg (Str.ofString "law") = some (.ref fa) := hmg
  have e7 : mg (Str.ofString "law") = some (.ref 105) := mg_of KX T.g (by k_is)
  rw [e7] at hmg'
  cases hmg'
  clear hd' hcd hD hmg ho
  wrow_args hpre hlay hrd hwl hlo
  rename_i ns _ _ _ _ _ _ _ l vs _ hL _ _ _ hI _ hlen _
  refine at_lvE (law_ok (ok_first KX T) l vs ns hL hI (by omega) (AllBare.of_eq hg) ?_) rfl (Nat.le_of_ble_eq_true rfl) rfl (Nat.le_of_ble_eq_true rfl)
  intro h' tk g' hb' R
  have hold : OldK s₁.heap h' := by
    obtain ⟨P, ps, ps', t, e, c', t', more, em⟩ := R
    subst em
    refine OldK.step_table (OldK.refl _) t t t' e fun q => ?_
    obtain ⟨_, ⟨oc, _, _, e1, e2, _⟩, _⟩ := T.nodigits
    have t2 := t.2
    rw [q] at t2
    rw [t2] at e1
    cases e1
    cases e2
  have hpost : PySem.Challenge.rw_sr0100_01.row.claim.post [ofPy (PyData.list (List.map PyData.int ns))] (WData.bool true) [ofPy (PyData.list (List.map PyData.int ns))] = true := by
    generalize ofPy (PyData.list (List.map PyData.int ns)) = z
    first
      | with_unfolding_all rfl
      | kernel_rfl
      | (show (_ && _) = true; rw [Bool.and_eq_true]; constructor <;> simp)
  exact ⟨.inl ⟨_, .bool true, [], rfl, fun _ => rfl, .bool true, hpost, fun _ => ⟨.nil, fun _ h => nomatch h⟩⟩, hold, rfl, hb'⟩
end Mine
end TLt
theorem PySem.Challenge.cw_sr0100_01_holds : PySem.Challenge.rw_sr0100_01.Holds := by
  exact Mine.top_go
