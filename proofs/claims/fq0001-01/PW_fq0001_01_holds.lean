import PyProof.Rows.All
import Wide.All
import OpenK.AllK
import Wide.FinOn
import PySem.Challenge.RW_fq0001_01
set_option Elab.async false

namespace Mine
open PySem PySem.W PyProof.Rows
set_option maxRecDepth 100000
set_option maxHeartbeats 100000000
open_top hd for PySem.Challenge.rw_fq0001_01
end Mine

namespace Mine
open PySem PySem.W PyProof.Rows PySem.Calls
set_option maxRecDepth 100000
set_option maxHeartbeats 100000000

theorem fill0 : (PySem.Challenge.rw_fq0001_01 = PySem.Challenge.rw_fq0001_01) ∧ (hd.heap_39 = hd.heap_39) := by k_fill; exact ⟨rfl, rfl⟩

abbrev PR : Program := PySem.Challenge.rw_fq0001_01.row.prog
structure Cx (w : World) (p : Program) (lo : List Str) (mg mb : Str → Option Value) (h : Heap) : Prop where
  X : (hd.heap_39 w.params).In h
  T : TopRead p lo mg mb h
theorem Cx.keeps {w : World} {p : Program} {lo : List Str} {mg mb : Str → Option Value} {h h' : Heap} (C : Cx w p lo mg mb h) (k : ∀ b o, h.get? b = some o → h'.get? b = some o) : Cx w p lo mg mb h' := ⟨C.X.keeps k, C.T.keeps k⟩

section
variable {prog : Program} {w : World} {A : Around} {s : Shared} {K : Frag} {p : Program} {loose : List Str} {mg mb : Str → Option Value}
theorem enter {R : Result → Shared → Prop} {name qual : Str} {params : Arguments} {body : List Stmt} {scope : Scope} {dV kV doc pm cdv ct oc : Value} {an od : Option Addr} {osl : Array (Option Value)} {f : Addr} {args : Args} {binds : List (Str × Value)}
    (X : K.In s.heap) (T : TopRead p loose mg mb s.heap) (hA : A.depth < recursionLimit)
    (ho : K.lookup f = some ⟨oc, od, .func (fnOf name qual params body scope dV kV doc pm an cdv ct), osl⟩) (hcd : codeIn K cdv qual = true)
    (hbind : BindsTo s (fnOf name qual params body scope dV kV doc pm an cdv ct) args binds) (hloc : ∀ y ∈ binds, scope.names.lookup y.1 = some .local)
    (h : ∀ L h₁, Fr s.heap L h₁ (fun y => binds.reverse.lookup y) → News s.heap L h₁ [] →
      wpAny (model prog w) (A.deeper (envOf qual scope L f cdv)) (execs body (envOf qual scope L f cdv))
        (fun fl s' => R (.ok (.ret (match fl with | .ret v => v | _ => .none))) s') (fun _ _ => False)
        { s with heap := h₁, toks := s.toks + binds.length })
    (hcell : ∀ x ∈ scope.names, x.2 ≠ .cell) (hco : scope.isCoroutine = false) (hgen : scope.isGenerator = false) (hk : scope.kind = .function) : codeAny (model prog w) A (.call (.ref f) args) R s := by
  refine codeAny_call_def (fd := fnOf name qual params body scope dV kV doc pm an cdv ct) (body := body) (binds := binds) hA (X _ _ ho) rfl T.nolimit (codeRec_of X hcd) rfl hbind hcell hloc (fun h₁ hns hk₁ => ?_) hco hgen hk
  exact wpAny_mono (h s.heap.objs.size h₁ ⟨hns, hk₁, Nat.le_refl _⟩ News.nil) (fun _ _ x => x) fun _ _ x => x.elim
end

theorem c_law_at {w : World} {p : Program} {lo : List Str} {mg mb : Str → Option Value} {A : Around} {s : Shared} {E : Value → Shared → Prop} {Q : Value → Shared → Prop} {l : Addr} {vs : List Value} {ns : List Int} {k : Int} {t : Tok}
    (C : Cx w p lo mg mb s.heap) (hA : A.depth ≤ 400) (hl : s.heap.IsList l vs.toArray) (hi : IntsAre vs ns) (hn : ns.length ≤ 63) (h0 : 0 ≤ k) (h4 : k ≤ 4)
    (h : ∀ v t' h' tk, (∀ b o, s.heap.get? b = some o → h'.get? b = some o) → Q (.int v t') { s with heap := h', toks := tk }) :
    wpAny (model PR w) A (call (.ref 87) [.ref l, .int k t]) Q E s := by
  obtain ⟨X, T⟩ := C
  refine wpAny_call ?_
  refine' enter (K := hd.heap_39 w.params) X T ?kd ?k6 ?k7 ?k9 ?kB ?_ ?c5 ?c2 ?c3 ?c4
  case kd => have : recursionLimit = 1000 := rfl
             omega
  case k6 => k_is
  case k7 => k_is
  case k9 => exact BindsTo.of_eq rfl
  case c5 => decide
  case kB => exact locs rfl
  case c2 => exact rfl
  case c3 => exact rfl
  case c4 => exact rfl
  intro L h₁ F N
  dsimp only
  k_steps
  all_goals exact h _ _ _ _ (Fr.keep (by assumption))
end Mine

namespace Mine
open PySem PySem.W PyProof.Rows PySem.Calls
set_option maxRecDepth 100000
set_option maxHeartbeats 100000000
theorem fill1 : (PySem.Challenge.rw_fq0001_01 = PySem.Challenge.rw_fq0001_01) ∧ (hd.heap_39 = hd.heap_39) := by k_fill; exact ⟨rfl, rfl⟩

def lawWords : List Str := ["utf-8", "UTF-8", "latin-1", "Windows-1252", "koi8-r", "ascii", "utf-16le", "KOI8-R"]

theorem News.kb {h₀ h h' : Heap} {L : Addr} {news : List (Addr × Obj)} (N : News h₀ L h news) (k : ∀ b o, h.get? b = some o → h'.get? b = some o) : News h₀ L h' news := fun q hq => ⟨k _ _ (N q hq).1, (N q hq).2⟩
theorem News.isListOf {h₀ h : Heap} {L a : Addr} {its : Array Value} {n : Nat} {news : List (Addr × Obj)} (N : News h₀ L h news) (hm : (a, listOf its n) ∈ news) : h.IsList a its := ⟨_, (N _ hm).1, rfl, n, rfl⟩

theorem isList_of {h : Heap} {a : Addr} {its : Array Value} {n : Nat} (e : h.get? a = some (W.listOf its n)) : h.IsList a its := ⟨_, e, rfl, n, rfl⟩

theorem c_law_words {w : World} {p : Program} {lo : List Str} {mg mb : Str → Option Value} {A : Around} {s : Shared} {E : Value → Shared → Prop} {Q : Value → Shared → Prop}
    (C : Cx w p lo mg mb s.heap) (hA : A.depth ≤ 400)
    (h : ∀ a vs n h' tk, (∀ b o, s.heap.get? b = some o → h'.get? b = some o) → h'.get? a = some (W.listOf vs.toArray n) → StrsAre vs lawWords → s.heap.get? a = none → Q (.ref a) { s with heap := h', toks := tk }) :
    wpAny (model PR w) A (call (.ref 80) []) Q E s := by
  obtain ⟨X, T⟩ := C
  refine wpAny_call ?_
  refine' enter (K := hd.heap_39 w.params) X T ?kd ?k6 ?k7 ?k9 ?kB ?_ ?c5 ?c2 ?c3 ?c4
  case kd => have : recursionLimit = 1000 := rfl
             omega
  case k6 => k_is
  case k7 => k_is
  case k9 => exact BindsTo.of_eq rfl
  case c5 => decide
  case kB => exact locs rfl
  case c2 => exact rfl
  case c3 => exact rfl
  case c4 => exact rfl
  intro L h₁ F N
  dsimp only
  k_steps
  all_goals exact h _ _ _ _ _ (Fr.keep (by assumption)) ((by assumption : News _ _ _ _) _ (.head _)).1 (by repeat constructor) ((by assumption : News _ _ _ _) _ (.head _)).2.2


local macro_rules | `(tactic| walk_at "call ref") => `(tactic| (k_here; (with_reducible show wpAny _ _ (call (Value.ref 80) _) _ _ _); (with_reducible rename Fr _ _ _ _ => frK); (with_reducible rename News _ _ _ _ => nwK); (refine c_law_words (Cx.keeps ⟨by assumption, by assumption⟩ (Fr.keep frK)) (by dsimp only [Around.deeper]; omega) ?_); intro lwA lwV lwM lwH lwT lwK lwL lwS lwN; (replace lwL := isList_of lwL); (have lwF := Fr.keptAll frK lwK); (have lwW := News.kb nwK lwK); clear frK nwK lwK; (dsimp only at lwF lwW lwL)))
local macro_rules | `(tactic| walk_at "subscriptTail") => `(tactic| (k_here; (with_reducible show wpAny _ _ (subscriptTail _ _ (Value.ref _) (Value.int _ _)) _ _ _); (with_reducible rename StrsAre _ lawWords => lwS); (refine KTb.item_list (by assumption) lwS (Int.fmod_nonneg_of_pos _ (by decide)) (Int.fmod_lt_of_pos _ (by decide)) (Int.lt_trans (Int.fmod_lt_of_pos _ (by decide)) (by decide : (8 : Int) < 2 ^ 63)) ?_); intro lwt lwlt; clear lwS))
local macro_rules | `(tactic| walk_at "call type:range") => `(tactic| ((rename Fr _ _ _ _ => F'); (rename News _ _ _ _ => N'); (with_unfolding_all refine range1_rows F' N' ?_; intro _ _ _ _ _ _ _ _ _)))

structure LlS where
  num : Int
  tok : Tok
  vs : List Value
  ws : List Str
  k : Nat
def LlP (pre : List Int) (c : LlS) : Prop := c.ws.length = pre.length ∧ ∀ x ∈ c.ws, x ∈ lawWords
theorem rs_fmod (n : Int) (h : 0 ≤ n) : Builtin.Range.rangeSize 0 n 1 = (n.toNat : Int) := by rw [rangeSize_nat]; simp
theorem c_law_list {w : World} {p : Program} {lo : List Str} {mg mb : Str → Option Value} {A : Around} {s : Shared} {E : Value → Shared → Prop} {Q : Value → Shared → Prop} {n : Int} {t : Tok}
    (C : Cx w p lo mg mb s.heap) (hA : A.depth ≤ 350) (hh : A.handled = none)
    (h : ∀ a vs ws k h' tk, (∀ b o, s.heap.get? b = some o → h'.get? b = some o) → h'.get? a = some (W.listOf vs.toArray k) → StrsAre vs ws → ws.length ≤ 3 → (∀ x ∈ ws, x ∈ lawWords) → s.heap.get? a = none → Q (.ref a) { s with heap := h', toks := tk }) :
    wpAny (model PR w) A (call (.ref 94) [.int n t]) Q E s := by
  obtain ⟨X, T⟩ := C
  obtain ⟨hd', dp, fr, gs, un⟩ := A
  dsimp only at hA hh
  subst hh
  refine wpAny_call ?_
  refine' enter (K := hd.heap_39 w.params) (binds := [(Str.ofString "number", .int n t)]) X T ?kd ?k6 ?k7 ?k9 ?kB ?_ ?c5 ?c2 ?c3 ?c4
  case kd => have : recursionLimit = 1000 := rfl
             dsimp only; omega
  case k6 => k_is
  case k7 => k_is
  case k9 => exact BindsTo.of_eq rfl
  case c5 => decide
  case kB => exact locs rfl
  case c2 => exact rfl
  case c3 => exact rfl
  case c4 => exact rfl
  intro L h₁ F N
  dsimp only
  have hb0 : 0 ≤ n.fmod 4 := Int.fmod_nonneg_of_pos n (by decide)
  have hb1 : n.fmod 4 < 4 := Int.fmod_lt_of_pos n (by decide)
  walk1; walk1; walk1; walk1; walk1; walk1; walk1; walk1; walk1; walk1; walk1; walk1; walk1; walk1; walk1; walk1; walk1; walk1; walk1
  rename Fr _ _ _ _ => lF'; rename News _ _ _ _ => lN'; rename IsRange _ _ _ _ _ _ _ _ => rgX
  refine' kst_range (n := Int.toNat (Int.fmod n 4)) (fun c : LlS => [(_, W.listOf c.vs.toArray c.k)]) (fun c : LlS => [(Str.ofString "number", .int c.num c.tok)]) (fun c : LlS => StrsAre c.vs c.ws) [] LlP ⟨n, t, [], [], 0⟩ rfl rgX (small_one (by decide) (by decide) (by omega) (by omega)) (rs_fmod _ (by assumption)) lF' ?kn ?kf ?kk ?kp ?_ ?_
  case kn => exact lN'
  case kf => exact StrsAre.nil
  case kk => intro p hp; rcases List.mem_singleton.mp hp with rfl; rfl
  case kp => exact ⟨rfl, fun _ hx => nomatch hx⟩
  · rintro ⟨num, tok, vs, ws, kk⟩ pre k t1 u h1 tk1 own hk hlt hoff hfa ⟨hp1, hp2⟩ F1 N1
    dsimp only at F1 N1 hfa hp1 hp2 hoff
    k_steps
    rename Fr _ _ _ _ => frK
    rename News _ _ _ _ => nwK
    simp only [List.push_toArray] at nwK
    have hlo := Int.fmod_nonneg_of_pos (num.fdiv 4) (by decide : (0 : Int) < 8)
    have hhi := Int.fmod_lt_of_pos (num.fdiv 4) (by decide : (0 : Int) < 8)
    have hmem : lawWords.getD ((num.fdiv 4).fmod 8).toNat Str.empty ∈ lawWords := by
      have hlt8 : ((num.fdiv 4).fmod 8).toNat < lawWords.length := by show _ < 8; omega
      rw [List.getD_eq_getElem?_getD, List.getElem?_eq_getElem hlt8]; exact List.getElem_mem _
    refine' kst_end (⟨(num.fdiv 4).fdiv 2, ?to, vs ++ [.str (lawWords.getD ((num.fdiv 4).fmod 8).toNat Str.empty) ?ty], ws ++ [lawWords.getD ((num.fdiv 4).fmod 8).toNat Str.empty], kk + 1⟩ : LlS) frK nwK ?q1 ?q2 rfl ?q6 ?q3 ?q4 ⟨by simp [hp1], ?q5⟩
    case q3 => intro q hq; rcases List.mem_singleton.mp hq with rfl; exact if_pos rfl
    case q1 => intro q hq; rcases List.mem_singleton.mp hq with rfl; exact .head _
    case q2 => exact fun q hq => .tail _ hq
    case q4 =>
      intro z h1 h2 _
      have h2' := h2 _ (.head _)
      dsimp only at h2' ⊢
      simp [h1, h2', kstB]
    case q5 =>
      intro x hx
      rcases List.mem_append.mp hx with hx | hx
      · exact hp2 x hx
      · rcases List.mem_singleton.mp hx with rfl; exact hmem
    case q6 => exact kct_snoc hfa
  · rintro ⟨num, tok, vs, ws, kk⟩ u h1 tk1 hfa ⟨hp1, hp2⟩ F1 N1
    dsimp only at F1 N1 hfa hp1 hp2
    k_steps
    exact h _ _ _ _ _ _ F1.keep (N1 _ (.head _)).1 hfa (by rw [hp1, rangeKs_length]; omega) hp2 (N1 _ (.head _)).2.2
end Mine

namespace Mine
open PySem PySem.W PyProof.Rows PySem.Calls
set_option maxRecDepth 100000
set_option maxHeartbeats 100000000
theorem fill_C2 : (PySem.Challenge.rw_fq0001_01 = PySem.Challenge.rw_fq0001_01) ∧ (hd.heap_39 = hd.heap_39) := by k_fill; exact ⟨rfl, rfl⟩


inductive BytesAre : List Value → List (Array UInt8) → Prop
  | nil : BytesAre [] []
  | cons {b : Array UInt8} {t : Tok} {vs : List Value} {bs : List (Array UInt8)} (h : BytesAre vs bs) : BytesAre (.bytes b t :: vs) (b :: bs)
def lawHeads : List (Array UInt8) := [#[60, 112, 62], #[97, 32, 98], #[0, 97, 60], #[60, 112, 32, 99, 108, 97, 115, 115, 61, 34, 120, 34, 62], #[254, 255, 254]]
theorem c_law_heads {w : World} {p : Program} {lo : List Str} {mg mb : Str → Option Value} {A : Around} {s : Shared} {E : Value → Shared → Prop} {Q : Value → Shared → Prop}
    (C : Cx w p lo mg mb s.heap) (hA : A.depth ≤ 400)
    (h : ∀ a vs n h' tk, (∀ b o, s.heap.get? b = some o → h'.get? b = some o) → h'.get? a = some (W.listOf vs.toArray n) → BytesAre vs lawHeads → s.heap.get? a = none → Q (.ref a) { s with heap := h', toks := tk }) :
    wpAny (model PR w) A (call (.ref 73) []) Q E s := by
  obtain ⟨X, T⟩ := C
  refine wpAny_call ?_
  refine' enter (K := hd.heap_39 w.params) (binds := []) X T ?kd ?k6 ?k7 ?k9 ?kB ?_ ?c5 ?c2 ?c3 ?c4
  case kd => have : recursionLimit = 1000 := rfl
             (try dsimp only); omega
  case k6 => k_is
  case k7 => k_is
  case k9 => exact BindsTo.of_eq rfl
  case c5 => decide
  case kB => exact locs rfl
  case c2 => exact rfl
  case c3 => exact rfl
  case c4 => exact rfl
  intro L h₁ F N
  try dsimp only
  k_steps
  all_goals exact h _ _ _ _ _ (Fr.keep (by assumption)) ((by assumption : News _ _ _ _) _ (.head _)).1 (by repeat constructor) ((by assumption : News _ _ _ _) _ (.head _)).2.2

def EncIs : Option Str → Value → Prop
  | none, v => v = .none
  | some x, v => ∃ t, v = .str x t

abbrev q02 (D : Array UInt8) (l : List UInt8) : Bool := (KBy.picked D none (some 2)).toList == l.toArray.toList
abbrev q03 (D : Array UInt8) (l : List UInt8) : Bool := (KBy.picked D none (some 3)).toList == l.toArray.toList
abbrev q04 (D : Array UInt8) (l : List UInt8) : Bool := (KBy.picked D none (some 4)).toList == l.toArray.toList
abbrev q24 (D : Array UInt8) (l : List UInt8) : Bool := (KBy.picked D (some 2) (some 4)).toList != l.toArray.toList
inductive StripC (D : Array UInt8) : Array UInt8 → Option Str → Prop
  | none (e1 : q02 D [254, 255] = false) (e3 : q02 D [255, 254] = false) (e4 : q03 D [239, 187, 191] = false) (e5 : q04 D [0, 0, 254, 255] = false) (e6 : q04 D [255, 254, 0, 0] = false) : StripC D D none
  | be (e1 : q02 D [254, 255] = true) (e2 : q24 D [0, 0] = true) : StripC D (KBy.picked D (some 2) none) (some (Str.ofString "utf-16be"))
  | le (e1 : q02 D [254, 255] = false) (e3 : q02 D [255, 254] = true) (e2 : q24 D [0, 0] = true) : StripC D (KBy.picked D (some 2) none) (some (Str.ofString "utf-16le"))
  | u8 (e1 : q02 D [254, 255] = false) (e3 : q02 D [255, 254] = false) (e4 : q03 D [239, 187, 191] = true) : StripC D (KBy.picked D (some 3) none) (some (Str.ofString "utf-8"))
  | be32 (e1 : q02 D [254, 255] = false) (e3 : q02 D [255, 254] = false) (e4 : q03 D [239, 187, 191] = false) (e5 : q04 D [0, 0, 254, 255] = true) : StripC D (KBy.picked D (some 4) none) (some (Str.ofString "utf-32be"))
  | le32 (e1 : q02 D [254, 255] = false) (e3 : q02 D [255, 254] = true) (e2 : q24 D [0, 0] = false) (e4 : q03 D [239, 187, 191] = false) (e5 : q04 D [0, 0, 254, 255] = false) (e6 : q04 D [255, 254, 0, 0] = true) : StripC D (KBy.picked D (some 4) none) (some (Str.ofString "utf-32le"))
theorem eq_bytes_v {prog : Program} {w : World} {A : Around} {E : Value → Shared → Prop} {s : Shared} {b c : Array UInt8} {t u : Tok} {β : Bool} {Q : Value → Shared → Prop} (e : (b.toList == c.toList) = β) (h : Q (.bool β) s) : wpAny (model prog w) A (compareOp .Eq (.bytes b t) (.bytes c u)) Q E s := eq_bytes (e ▸ h)
theorem ne_bytes_v {prog : Program} {w : World} {A : Around} {E : Value → Shared → Prop} {s : Shared} {b c : Array UInt8} {t u : Tok} {β : Bool} {Q : Value → Shared → Prop} (e : (b.toList != c.toList) = β) (h : Q (.bool β) s) : wpAny (model prog w) A (compareOp .NotEq (.bytes b t) (.bytes c u)) Q E s := ne_bytes (e ▸ h)
theorem News.isTupOf {h₀ h : Heap} {L a : Addr} {its : Array Value} {news : List (Addr × Obj)} (N : News h₀ L h news) (hm : (a, ({ cls := .type "tuple", data := .seq its } : Obj)) ∈ news) : IsTup h a its := ⟨_, (N _ hm).1, rfl, _, rfl⟩
local macro_rules | `(tactic| walk_at "subscriptTail") => `(tactic| (k_here; (with_reducible show wpAny _ _ (subscriptTail _ (Expr.Slice _ _ none _) (Value.bytes _ _) (Value.ref _)) _ _ _); (with_reducible rename Fr _ _ _ _ => F'); (with_reducible rename News _ _ _ _ => N'); (refine KBc.slice_K (s := ⟨_, _, _, _, _⟩) F' N' rfl (by constructor) (by constructor) (by rw [KBw.ints_length]; omega) ?_); intro _ _ _ _ _ _))
local macro_rules | `(tactic| walk_at "compareOp Eq bytes bytes") => `(tactic| (refine eq_bytes_v (by with_reducible assumption) ?_))
local macro_rules | `(tactic| walk_at "compareOp NotEq bytes bytes") => `(tactic| (refine ne_bytes_v (by with_reducible assumption) ?_))

theorem c_strip {w : World} {p : Program} {lo : List Str} {mg mb : Str → Option Value} {A : Around} {s : Shared} {R : Result → Shared → Prop} {D : Array UInt8} {t : Tok}
    (C : Cx w p lo mg mb s.heap) (hA : A.depth ≤ 400) (h4 : 4 ≤ D.size) (hD : D.size ≤ 100) {X : Array UInt8} {o : Option Str} (hc : StripC D X o)
    (h : ∀ a t' v h' tk, (∀ b ob, s.heap.get? b = some ob → h'.get? b = some ob) → h'.get? a = some { cls := .type "tuple", data := .seq #[.bytes X t', v] } → EncIs o v → s.heap.get? a = none → R (.ok (.ret (.ref a))) { s with heap := h', toks := tk }) :
    codeAny (model PR w) A (.call (.ref 49) ⟨[.ref 55, .bytes D t], []⟩) R s := by
  obtain ⟨X, T⟩ := C
  refine' enter (K := hd.heap_39 w.params) (binds := [(Str.ofString "cls", .ref 55), (Str.ofString "data", .bytes D t)]) X T ?kd ?k6 ?k7 ?k9 ?kB ?_ ?c5 ?c2 ?c3 ?c4
  case kd => have : recursionLimit = 1000 := rfl
             (try dsimp only); omega
  case k6 => k_is
  case k7 => k_is
  case k9 => exact BindsTo.of_eq rfl
  case c5 => decide
  case kB => exact locs rfl
  case c2 => exact rfl
  case c3 => exact rfl
  case c4 => exact rfl
  intro L h₁ F N
  try dsimp only
  cases hc
  all_goals (dsimp only [q02, q03, q04, q24] at *)
  all_goals k_steps
  all_goals (first | exact h _ _ _ _ _ (Fr.keep (by assumption)) ((by assumption : News _ _ _ _) _ (.head _)).1 rfl ((by assumption : News _ _ _ _) _ (.head _)).2.2 | exact h _ _ _ _ _ (Fr.keep (by assumption)) ((by assumption : News _ _ _ _) _ (.head _)).1 ⟨_, rfl⟩ ((by assumption : News _ _ _ _) _ (.head _)).2.2)

theorem c_strip_str {w : World} {p : Program} {lo : List Str} {mg mb : Str → Option Value} {A : Around} {s : Shared} {R : Result → Shared → Prop} {x : Str} {t : Tok}
    (C : Cx w p lo mg mb s.heap) (hA : A.depth ≤ 400)
    (h : ∀ a t' h' tk, (∀ b ob, s.heap.get? b = some ob → h'.get? b = some ob) → h'.get? a = some { cls := .type "tuple", data := .seq #[.str x t', .none] } → s.heap.get? a = none → R (.ok (.ret (.ref a))) { s with heap := h', toks := tk }) :
    codeAny (model PR w) A (.call (.ref 49) ⟨[.ref 55, .str x t], []⟩) R s := by
  obtain ⟨X, T⟩ := C
  refine' enter (K := hd.heap_39 w.params) (binds := [(Str.ofString "cls", .ref 55), (Str.ofString "data", .str x t)]) X T ?kd ?k6 ?k7 ?k9 ?kB ?_ ?c5 ?c2 ?c3 ?c4
  case kd => have : recursionLimit = 1000 := rfl
             (try dsimp only); omega
  case k6 => k_is
  case k7 => k_is
  case k9 => exact BindsTo.of_eq rfl
  case c5 => decide
  case kB => exact locs rfl
  case c2 => exact rfl
  case c3 => exact rfl
  case c4 => exact rfl
  intro L h₁ F N
  try dsimp only
  k_steps
  all_goals exact h _ _ _ _ (Fr.keep (by assumption)) ((by assumption : News _ _ _ _) _ (.head _)).1 ((by assumption : News _ _ _ _) _ (.head _)).2.2
end Mine

namespace Mine
open PySem PySem.W PyProof.Rows PySem.Calls
set_option maxRecDepth 100000
set_option maxHeartbeats 100000000

section
variable {prog : Program} {w : World} {A : Around} {s : Shared} {K : Frag} {p : Program} {loose : List Str} {mg mb : Str → Option Value}
theorem enterH {R : Result → Shared → Prop} {name qual : Str} {params : Arguments} {body : List Stmt} {scope : Scope} {dV kV doc pm cdv ct oc : Value} {an od : Option Addr} {osl : Array (Option Value)} {f : Addr} {args : Args} {binds : List (Str × Value)} {base : Heap} {news : List (Addr × Obj)}
    (X : K.In base) (T : TopRead p loose mg mb base) (hk : ∀ b o, base.get? b = some o → s.heap.get? b = some o) (hn : ∀ q ∈ news, s.heap.get? q.1 = some q.2 ∧ base.get? q.1 = none) (hA : A.depth < recursionLimit)
    (ho : K.lookup f = some ⟨oc, od, .func (fnOf name qual params body scope dV kV doc pm an cdv ct), osl⟩) (hcd : codeIn K cdv qual = true)
    (hbind : BindsTo s (fnOf name qual params body scope dV kV doc pm an cdv ct) args binds) (hloc : ∀ y ∈ binds, scope.names.lookup y.1 = some .local)
    (h : ∀ g L h₁, (∀ b o, base.get? b = some o → g.get? b = some o) → (∀ b o, s.heap.get? b = some o → b ∉ news.map (·.1) → g.get? b = some o) → K.In g → TopRead p loose mg mb g →
      Fr g L h₁ (fun y => binds.reverse.lookup y) → News g L h₁ news → (∀ q ∈ news, @LT.lt Nat _ q.1 L) →
      wpAny (model prog w) (A.deeper (envOf qual scope L f cdv)) (execs body (envOf qual scope L f cdv))
        (fun fl s' => R (.ok (.ret (match fl with | .ret v => v | _ => .none))) s') (fun _ _ => False)
        { s with heap := h₁, toks := s.toks + binds.length })
    (hcell : ∀ x ∈ scope.names, x.2 ≠ .cell) (hco : scope.isCoroutine = false) (hgen : scope.isGenerator = false) (hkk : scope.kind = .function) : codeAny (model prog w) A (.call (.ref f) args) R s := by
  have X' := X.keeps hk
  refine codeAny_call_def (fd := fnOf name qual params body scope dV kV doc pm an cdv ct) (body := body) (binds := binds) hA (X' _ _ ho) rfl (T.nolimit.keeps hk) (codeRec_of X' hcd) rfl hbind hcell hloc (fun h₁ hns hk₁ => ?_) hco hgen hkk
  have nm : ∀ b o, base.get? b = some o → b ∉ news.map (·.1) := fun b o e q => by
    obtain ⟨z, hz, rfl⟩ := List.mem_map.mp q
    rw [(hn z hz).2] at e; cases e
  have kg : ∀ b o, base.get? b = some o → (hideAll s.heap (news.map (·.1))).get? b = some o := fun b o e => hideAll_get _ (hk b o e) (nm b o e)
  refine wpAny_mono (h (hideAll s.heap (news.map (·.1))) s.heap.objs.size h₁ kg (fun b o e hb => hideAll_get _ e hb) (X.keeps kg) (T.keeps kg)
    ⟨hns, fun b o e => hk₁ b o (of_hideAll _ e), Nat.le_of_eq (hideAll_size _ _)⟩ (fun q hq => ⟨hk₁ _ _ (hn q hq).1, Nat.ne_of_lt (Heap.lt_size (hn q hq).1), hideAll_none _ (List.mem_map_of_mem hq)⟩) fun q hq => Heap.lt_size (hn q hq).1) (fun _ _ x => x) fun _ _ x => x.elim
end
end Mine

namespace Mine
open PySem PySem.W PyProof.Rows PySem.Calls
set_option maxRecDepth 100000
set_option maxHeartbeats 100000000

theorem strs_at : ∀ {vs : List Value} {ws : List Str}, StrsAre vs ws → ∀ (i : Nat) (v : Value), vs[i]? = some v → ∃ t, v = .str (ws.getD i Str.empty) t
  | _, _, .nil, i, v, h => by simp at h
  | _, _, .cons y t hr, 0, v, h => by simp at h; exact ⟨t, by rw [← h]; rfl⟩
  | _, _, .cons y t hr, i + 1, v, h => by
    simp only [List.getElem?_cons_succ] at h
    obtain ⟨t', e⟩ := strs_at hr i v h
    exact ⟨t', by rw [e]; rfl⟩
theorem strs_length : ∀ {vs : List Value} {ws : List Str}, StrsAre vs ws → vs.length = ws.length
  | _, _, .nil => rfl
  | _, _, .cons y t hr => congrArg (· + 1) (strs_length hr)

theorem setOf_to {prog : Program} {w : World} {h : Heap} {a : Addr} {S S' : Str → Bool} {n : Nat} (hS : h.SetOf (strKind prog w) a S n) (e : ∀ k, S k = S' k) : h.SetOf (strKind prog w) a S' n := by
  have : S = S' := funext e
  subst this; exact hS
theorem setOf_move {prog : Program} {w : World} {h h' : Heap} {a : Addr} {S : Str → Bool} {n : Nat} (hS : h.SetOf (strKind prog w) a S n) (k : ∀ o, h.get? a = some o → h'.get? a = some o) : h'.SetOf (strKind prog w) a S n := by
  obtain ⟨o, es, ep, t, ho, rest⟩ := hS
  exact ⟨o, es, ep, t, k o ho, rest⟩

theorem take_has (ws : List Str) (i : Nat) (hi : i < ws.length) (k : Str) : ((ws.take i).contains k || decide (k = ws.getD i Str.empty)) = (ws.take (i + 1)).contains k := by
  rw [List.take_add_one, List.getD_eq_getElem?_getD, List.getElem?_eq_getElem hi]
  simp only [Option.toList_some, List.contains_eq_mem, List.mem_append, List.mem_singleton, Option.getD_some]
  by_cases h1 : k ∈ List.take i ws <;> by_cases h2 : k = ws[i] <;> simp [h1, h2]

section
variable {prog : Program} {w : World} {A : Around} {R : Result → Shared → Prop} {I : Addr} {fp wr : List Addr} {G : Array GenState → Array GenState → Prop} {n : Nat} {P : Nat → Value → Prop} {St : Nat → Shared → Prop}

theorem set_update_strs (W : WalksS prog w A.in1 I fp wr G n P St) (S : Addr) (hSf : S ∉ fp) (ws : List Str) (hwn : ws.length = n)
    (hval : ∀ i v, P i v → ∃ t, v = .str (ws.getD i Str.empty) t) (hb : n + 1 < scanBound) :
    ∀ (k i : Nat) (s : Shared) (c : Nat), n - i = k → i ≤ n → c ≤ i → St i s →
      s.heap.SetOf (strKind prog w) S (fun k' => (ws.take i).contains k') c →
      (∀ s' c', Moved (S :: wr) G s s' → c' ≤ n → s'.heap.SetOf (strKind prog w) S (fun k' => ws.contains k') c' → R (.ok (.ret .none)) s') →
      codeAny (model prog w) A (.builtin "set.update.loop" ⟨[.ref S, .ref I], []⟩) R s := by
  have hSw : S ∉ wr := fun h => hSf (W.sub _ h)
  have hsub : ∀ b ∈ wr, b ∈ S :: wr := fun b hb => List.mem_cons_of_mem _ hb
  intro k
  induction k with
  | zero =>
    intro i s c hk hi hc hst hS hR
    have hin : i = n := by omega
    subst hin
    refine codeAny_builtin F.entry_set_update_loop ?_
    rw [Around.under_plainId F.plain_set_update_loop _]
    show wpAny _ A.in1 (pyNext (.ref I) >>= _) _ _ s
    refine wpAny_bind (W.done s _ _ hst fun s' hm => ?_)
    show wpAny _ A.in1 (ret Value.none) _ _ s'
    refine wpAny_pure (hR s' c (hm.mono hsub) hc (setOf_to (setOf_move hS fun o e => hm.heap S o hSw e) fun k' => ?_))
    rw [← hwn, List.take_length]
  | succ k ih =>
    intro i s c hk hi hc hst hS hR
    have hlt : i < n := by omega
    refine codeAny_builtin F.entry_set_update_loop ?_
    rw [Around.under_plainId F.plain_set_update_loop _]
    show wpAny _ A.in1 (pyNext (.ref I) >>= _) _ _ s
    refine wpAny_bind (W.item i s _ _ hlt hst fun v s' hP hst' hm => ?_)
    obtain ⟨t, rfl⟩ := hval i v hP
    have hS' : s'.heap.SetOf (strKind prog w) S (fun k' => (ws.take i).contains k') c := setOf_move hS fun o e => hm.heap S o hSw e
    show wpAny _ A.in1 (holding [Value.str (ws.getD i Str.empty) t] (setAdd S (.str (ws.getD i Str.empty) t)) >>= _) _ _ s'
    refine wpAny_bind (wpAny_holding ?_)
    unfold setAdd
    refine wpAny_holding ?_
    refine wpAny_bind ((strKind prog w).pyHash (k := ws.getD i Str.empty) (strKind_is _ _ _ _) ?_)
    have hroom : c + 1 < scanBound := by omega
    refine wpAny_setAddHashed_of (knd := strKind prog w) (s := { s' with toks := s'.toks + 1 }) (strKind_is _ _ _ _) rfl hS' hroom fun h' hsb hS2 => ?_
    have hSi := setOf_to hS2 fun k' => take_has ws i (by omega) k'
    refine wpAny_pure ⟨plainId_quiet F.plain_set_update_loop _, ih (i + 1) _ _ (by omega) hlt (by split <;> omega) (W.frame _ s' _ _ hst' (Nat.le_succ _) fun b hb o e => ?_) hSi fun s'' c'' hm'' hc'' hS'' => ?_⟩
    · rw [hsb.2 b (fun h : b = S => hSf (by rw [← h]; exact hb))]; exact e
    · refine hR s'' c'' (Moved.trans W.gtrans ((hm.mono hsub).then_heap (Nat.le_succ _) fun b o hb e => ?_) hm'') hc'' hS''
      rw [hsb.2 b (fun h : b = S => hb (by rw [h]; exact List.mem_cons_self))]; exact e
end

section
variable {prog : Program} {w : World} {A : Around} {E : Value → Shared → Prop} {s : Shared}
theorem call_set_strs {l : Addr} {items : Array Value} {ws : List Str} {Q : Value → Shared → Prop}
    (hh : A.handled = none) (hl : s.heap.IsList l items) (hi : StrsAre items.toList ws) (hb : items.size + 1 < scanBound)
    (h : ∀ (h' : Heap) (tk c : Nat), c ≤ items.size → h'.SetOf (strKind prog w) s.heap.objs.size (fun k' => ws.contains k') c →
      (∀ b o, b < s.heap.objs.size → s.heap.get? b = some o → h'.get? b = some o) → Q (.ref s.heap.objs.size) { s with heap := h', toks := tk }) :
    wpAny (model prog w) A (call (.type "set") [.ref l]) Q E s := by
  obtain ⟨c, tl, hmro⟩ := F.called_set.mro
  have hmade := F.called_set.made
  have hsub := F.called_set.sub
  refine wpAny_call (codeAny_of_tree ?_)
  show wpAny _ _ (callAny (.type "set") _) _ _ _
  refine wpAny_pure ⟨Code.quiet_builtin _ (by decide +kernel), codeAny_builtin F.entry_type_call ?_⟩
  rw [Around.under_plain (weight_type_call_type "set" [.ref l] []) rfl]
  have h1 := F.called_set.notType
  have h2 := F.called_set.canCreate
  have hct := F.typeCall_set_1 (.ref l)
  repeat (any_goals (first | assumption | wp_step))
  refine codeAny_mono (code_set_new_1 (.ref l) (E := E) (Q₁ := fun obj s₁ => ∃ led : Bool, obj = .ref s.heap.objs.size ∧ s₁ = { s with heap := s.heap.push { cls := .type "set", dict := none, data := .set #[] 0 (.fresh 0 0 led) } }) fun led => ⟨led, rfl, rfl⟩) fun r s₁ hr => ?_
  cases r with
  | error e => exact hr
  | ok fl =>
    cases fl with
    | ret obj =>
      obtain ⟨led, rfl, rfl⟩ := hr
      have hS : (s.heap.push { cls := .type "set", dict := none, data := .set #[] 0 (.fresh 0 0 led) }).get? s.heap.objs.size = some { cls := .type "set", dict := none, data := .set #[] 0 (.fresh 0 0 led) } := Heap.get?_push_size _ rfl
      have hT : Shared.TypeIs { s with heap := s.heap.push { cls := .type "set", dict := none, data := .set #[] 0 (.fresh 0 0 led) } } (.ref s.heap.objs.size) "set" := ⟨_, hS, rfl⟩
      have hli := F.called_set.init.lookup
      have hbi := F.called_set.init.bind (.ref s.heap.objs.size)
      repeat (any_goals (first | assumption | wp_step))
      refine codeAny_mono (codeAny_call_builtin (R := wants (fun r s₂ => r = .none ∧ ∃ h' tk c, s₂ = { s with heap := h', toks := tk } ∧ c ≤ items.size ∧
          h'.SetOf (strKind prog w) s.heap.objs.size (fun k' => ws.contains k') c ∧
          (∀ b o, b < s.heap.objs.size → s.heap.get? b = some o → h'.get? b = some o)) E) F.called_set.init.plain F.entry_set_init (check_set_init_1 hT ?_)) fun r₂ s₂ hr₂ => ?_
      · obtain ⟨ol, hol, hcl, nl, hdl⟩ := hl
        obtain ⟨ocls, odict, odata, oslots⟩ := ol
        simp only at hcl hdl
        subst hcl; subst hdl
        have hol' : (s.heap.push { cls := .type "set", dict := none, data := .set #[] 0 (.fresh 0 0 led) }).get? l = some { cls := .type "list", dict := odict, data := .seq items nl, slots := oslots } := Heap.get?_push_of_some _ hol
        have hsls := F.sub_list_set
        have hslf := F.sub_list_frozenset
        have hne : (Value.type "list" == Value.type "dict") = false := by decide
        have hl1 : (s.heap.push { cls := .type "set", dict := none, data := .set #[] 0 (.fresh 0 0 led) }).IsList l items := ⟨_, hol', rfl, nl, rfl⟩
        unfold Builtin.«set.__init__» noKeywords Builtin.Frozenset.updateFrom
        generalize hPI : pyIter = PI
        wp_walk
        subst hPI
        refine wpAny_pyIter_list hl1 ?_
        refine wpAny_bind (wpAny_runValue ?_)
        have hlS : l < s.heap.objs.size := Heap.lt_size hol
        have hh3 : A.in1.in1.in1.handled = none := by simp [hh]
        have hneI : l ≠ (s.heap.push { cls := .type "set", dict := none, data := .set #[] 0 (.fresh 0 0 led) }).objs.size := by
          rw [Heap.size_push]; exact Nat.ne_of_lt (Nat.lt_succ_of_lt hlS)
        have hSf : s.heap.objs.size ∉ [(s.heap.push { cls := .type "set", dict := none, data := .set #[] 0 (.fresh 0 0 led) }).objs.size, l] := by
          rw [Heap.size_push]; simp only [List.mem_cons, List.mem_singleton, List.not_mem_nil, or_false, not_or]
          exact ⟨Nat.ne_of_lt (Nat.lt_succ_self _), Nat.ne_of_gt hlS⟩
        have hval : ∀ (i : Nat) (v : Value), items[i]? = some v → ∃ t, v = .str (ws.getD i Str.empty) t := fun i v hv => strs_at hi i v (by rw [Array.getElem?_toList]; exact hv)
        have hwn : ws.length = items.size := by rw [← strs_length hi]; simp
        refine set_update_strs ((Walks.list hh3 _ l hneI items).toS) s.heap.objs.size
          hSf ws hwn hval hb (items.size - 0) 0 _ 0 (by omega) (Nat.zero_le _) (Nat.zero_le _)
          ⟨⟨_, Heap.get?_push_size _ rfl, rfl, rfl⟩, (hl1.push _)⟩ ?hS0 ?hR
        case hS0 =>
          have hget : ((s.heap.push { cls := .type "set", dict := none, data := .set #[] 0 (.fresh 0 0 led) }).push { cls := .type "list_iterator", data := .fields #[.ref l, .int 0 0] }).get? s.heap.objs.size
              = some { cls := .type "set", dict := none, data := .set #[] 0 (.fresh 0 0 led) } := Heap.get?_push_of_some _ hS
          exact setOf_to ((PyProof.Rows.setObjOf_fresh (knd := strKind prog w) led).setOf hget (by unfold scanBound; omega)) fun _ => by simp
        case hR =>
          intro s' c' hm hc' hS'
          obtain ⟨h', g', d', tk', os'⟩ := s'
          have eg : g' = s.gens := hm.gens
          have ed : d' = s.drawn := hm.drawn
          have eo : os' = s.os := hm.os
          subst eg; subst ed; subst eo
          show wpAny _ _ _ _ _ _
          refine wpAny_pure ?_
          show wpAny _ _ (ret Value.none) _ _ _
          refine wpAny_pure ⟨rfl, h', tk', c', rfl, hc', hS', fun b o hb e => ?_⟩
          have hb1 : b ≠ s.heap.objs.size := Nat.ne_of_lt hb
          have hb2 : b ≠ (s.heap.push { cls := .type "set", dict := none, data := .set #[] 0 (.fresh 0 0 led) }).objs.size := by
            rw [Heap.size_push]; exact Nat.ne_of_lt (Nat.lt_succ_of_lt hb)
          exact hm.heap b o (by simp only [List.mem_cons, List.mem_singleton, List.not_mem_nil, or_false, not_or]; exact ⟨hb1, hb2⟩) (Heap.get?_push_of_some _ (Heap.get?_push_of_some _ e))
      · cases r₂ with
        | error e => exact hr₂
        | ok fl₂ =>
          cases fl₂ with
          | ret r =>
            obtain ⟨rfl, h', tk, c', rfl, hc', hS', hk'⟩ := hr₂
            repeat (any_goals (first | assumption | wp_step))
            exact h _ _ _ hc' hS' hk'
          | _ => exact hr₂.elim
    | _ => exact hr.elim
end
end Mine

namespace Mine
open PySem PySem.W PyProof.Rows PySem.Calls
set_option maxRecDepth 100000
set_option maxHeartbeats 100000000
theorem fill_C3 : (PySem.Challenge.rw_fq0001_01 = PySem.Challenge.rw_fq0001_01) ∧ (hd.heap_39 = hd.heap_39) := by k_fill; exact ⟨rfl, rfl⟩


theorem or_list {prog : Program} {w : World} {A : Around} {E : Value → Shared → Prop} {s : Shared} {env : Env} {x : Str} {p₁ p₂ pos : Pos} {a : Addr} {vs : List Value} {Q : Value → Shared → Prop} (hsz : vs.length ≤ 100)
    (hx : ∀ (Q : Value → Shared → Prop), Q (.ref a) s → wpAny (model prog w) A (eval (.Name x p₁) env) Q E s)
    (hl : s.heap.IsList a vs.toArray)
    (h : ∀ a' h' tk, (∀ b o, s.heap.get? b = some o → h'.get? b = some o) → h'.IsList a' vs.toArray → Q (.ref a') { s with heap := h', toks := tk }) :
    wpAny (model prog w) A (eval (.BoolOp .Or [.Name x p₁, .List [] p₂] pos) env) Q E s := by
  refine BoolOp_or (hx _ ?_)
  refine wpAny_truthy_list hl (by rw [List.size_toArray]; omega) ?_
  cases vs with
  | nil =>
    refine BoolOp_one (List_ ?_)
    refine wpAny_pure ?_
    refine wpAny_newObj_type ?_ (by size_fits)
    exact h _ _ _ (fun b o e => Heap.get?_push_of_some _ e) ⟨_, Heap.get?_push_size _ rfl, rfl, 0, rfl⟩
  | cons v r =>
    exact h a _ _ (fun _ _ e => e) hl

theorem evalNameLocal {prog : Program} {w : World} {A : Around} {E : Value → Shared → Prop} {s : Shared} {env : Env} {x : Str} {pos : Pos} {v : Value} {m : Str → Option Value} {Q : Value → Shared → Prop} (hk : env.scope.kind = .function) (hx : env.kindOf x = some .local) (hn : s.heap.Ns env.locals m) (hv : m x = some v) (h : Q v s) (hd : (x == ("__debug__" : Str)) = false) :
    wpAny (model prog w) A (eval (.Name x pos) env) Q E s := wpAny_Name (wpAny_loadName_local hk hx hn hv h) hd

theorem eval_lower {prog : Program} {w : World} {A : Around} {E : Value → Shared → Prop} {s : Shared} {env : Env} {o : Expr} {p₂ p₃ : Pos} {Q : Value → Shared → Prop} (hline : (p₂.endLine == p₃.line) = true) (hb : attributeBase o (Str.ofString "lower") env (eval o env) = eval o env)
    (h : wpAny (model prog w) A (eval o env) (fun v s₁ => ∃ x t, v = .str x t ∧ x.length ≤ 1000 ∧ ∀ t' tk, Q (.str (Txt.lower x) t') { s₁ with toks := tk }) E s) :
    wpAny (model prog w) A (eval (.Call (.Attribute o (Str.ofString "lower") p₂) [] [] p₃) env) Q E s := by
  refine wpAny_Call_method_lateS hb rfl hline (wpAny_mono h (fun v s₁ hv => ?_) fun _ _ e => e)
  obtain ⟨x, t, rfl, hl, hq⟩ := hv
  exact SBL.lower (by omega) fun _ => hq _ _

section
variable {prog : Program} {w : World} {A : Around} {E : Value → Shared → Prop} {s : Shared} {h₀ : Heap} {L : Addr} {m : Str → Option Value} {env : Env}
theorem low_rest {news : List (Addr × Obj)} {x : Str} {p₁ p₂ p₃ : Pos} {scope : Scope} {cl : List (Str × Addr)} {S : List (Addr × Obj) → Prop} {its : Array Value} {ws : List Str} {Fin : List Value → List (Addr × Obj) → Prop}
    (hk : scope.kind = .function) (hx : ∀ C, (compEnvC scope cl C env).kindOf x = some .local) (hk2 : ∀ C, (compEnvC scope cl C env).scope.kind = .function) (hloc : ∀ C, (compEnvC scope cl C env).locals = C) (hd : (x == ("__debug__" : Str)) = false)
    (hline : (p₂.endLine == p₃.line) = true) (hb : ∀ C, attributeBase (.Name x p₁) (Str.ofString "lower") (compEnvC scope cl C env) (eval (.Name x p₁) (compEnvC scope cl C env)) = eval (.Name x p₁) (compEnvC scope cl C env))
    (hi : StrsAre its.toList ws) (hsh : ∀ y ∈ ws, y.length ≤ 1000)
    (hS : S news) (hfin : ∀ ys, StrsAre ys (ws.map Txt.lower) → Fin ys news) : ∀ (k i : Nat) (ys : List Value), i + k = ws.length → StrsAre ys ((ws.take i).map Txt.lower) →
    LCg.CompRest prog w A h₀ L m env (.Call (.Attribute (.Name x p₁) (Str.ofString "lower") p₂) [] [] p₃) x scope cl s S (fun i v => its[i]? = some v) Fin k i ys news := by
  intro k
  induction k with
  | zero =>
    intro i ys hik hy
    refine LCg.CompRest.zero (hfin _ ?_)
    rw [show i = ws.length by omega, List.take_length] at hy
    exact hy
  | succ k ih =>
    intro i ys hik hy
    refine LCg.CompRest.succ ?_
    intro v I oI C oC D m₂ h tk E' hP hoC hm F N off hne
    obtain ⟨t, rfl⟩ := strs_at hi i v (by rw [Array.getElem?_toList]; exact hP)
    have hlt : i < ws.length := by omega
    have hmem : ws.getD i Str.empty ∈ ws := by rw [List.getD_eq_getElem?_getD, List.getElem?_eq_getElem hlt]; exact List.getElem_mem _
    have hns : h.Ns (compEnvC scope cl C env).locals m₂ := by rw [hloc]; exact hoC.ns (N (C, oC) (by simp)).1
    refine eval_lower hline (hb C) (evalNameLocal (hk2 C) (hx C) hns hm ⟨_, t, rfl, hsh _ hmem, fun t' tk' => ?_⟩ hd)
    refine LCg.CompEnd.intro (s₁ := { s with heap := h, toks := tk }) F N news (fun q hq => hq) off hS (ih (i + 1) _ (by omega) ?_)
    rw [List.take_add_one, List.getElem?_eq_getElem hlt, List.map_append]
    have e : ws.getD i Str.empty = ws[i] := by rw [List.getD_eq_getElem?_getD, List.getElem?_eq_getElem hlt]; rfl
    rw [e]
    exact kct_snoc hy
end
end Mine

namespace Mine
open PySem PySem.W PyProof.Rows PySem.Calls
set_option maxRecDepth 100000
set_option maxHeartbeats 100000000
theorem fill_C4 : (PySem.Challenge.rw_fq0001_01 = PySem.Challenge.rw_fq0001_01) ∧ (hd.heap_39 = hd.heap_39) := by k_fill; exact ⟨rfl, rfl⟩


theorem News.add {h₀ h h' : Heap} {L a : Addr} {o : Obj} {m : Str → Option Value} {news : List (Addr × Obj)} (F : Fr h₀ L h m) (N : News h₀ L h news) (k : ∀ b o, h.get? b = some o → h'.get? b = some o) (ho : h'.get? a = some o) (hf : h.get? a = none) : News h₀ L h' ((a, o) :: news) := by
  intro q hq
  rcases List.mem_cons.mp hq with rfl | hq
  · refine ⟨ho, ?_, ?_⟩
    · intro e
      obtain ⟨oL, _, _, hL, _⟩ := F.ns
      dsimp only at e
      rw [e, hL] at hf; cases hf
    · cases hq : h₀.get? a with
      | none => rfl
      | some o' => rw [F.keep _ _ hq] at hf; cases hf
  · exact ⟨k _ _ (N q hq).1, (N q hq).2⟩
theorem News.off {h₀ h : Heap} {L a : Addr} : ∀ {news : List (Addr × Obj)}, News h₀ L h news → h.get? a = none → LCg.Off1 a news
  | [], _, _ => trivial
  | q :: r, N, hf => ⟨fun e => (by have := (N q (.head _)).1; rw [e, hf] at this; cases this), News.off (fun p hp => N p (.tail _ hp)) hf⟩

theorem or_list_N {prog : Program} {w : World} {A : Around} {E : Value → Shared → Prop} {s : Shared} {h₀ : Heap} {L : Addr} {m : Str → Option Value} {news : List (Addr × Obj)} {cn : Str} {cs : Scope} {ca : Addr} {cd : Value} {x : Str} {p₁ p₂ pos : Pos} {a dx : Addr} {vs : List Value} {k n : Nat} {es : List DictEntry} {Q : Value → Shared → Prop}
    (F : Fr h₀ L s.heap m) (N : News h₀ L s.heap news) (hv : m x = some (.ref a)) (hm : (a, W.listOf vs.toArray k) ∈ news) (hd : (dx, dictOf es n) ∈ news) (hne : @Ne Nat a dx) (hsz : vs.length ≤ 100)
    (h : ∀ a' k' h' tk, Fr h₀ L h' m → News h₀ L h' ((a', W.listOf vs.toArray k') :: news) → @Ne Nat a' dx → Q (.ref a') { s with heap := h', toks := tk })
    (hk : cs.kind = .function := by rfl) (hl : (envOf cn cs L ca cd).kindOf x = some .local := by rfl) (hb : (x == ("__debug__" : Str)) = false := by decide) :
    wpAny (model prog w) A (eval (.BoolOp .Or [.Name x p₁, .List [] p₂] pos) (envOf cn cs L ca cd)) Q E s := by
  refine BoolOp_or (ld F hv ?_ hk hl hb)
  refine wpAny_truthy_list ⟨_, (N _ hm).1, rfl, k, rfl⟩ (by rw [List.size_toArray]; omega) ?_
  cases vs with
  | nil =>
    refine BoolOp_one (List_ ?_)
    refine wpAny_pure ?_
    refine wpAny_newObj_type ?_ (by size_fits)
    exact h _ 0 _ _ (F.push _) (News.push F N _) (Nat.ne_of_gt (Heap.lt_size (N _ hd).1))
  | cons v r =>
    refine h a k _ _ F (fun q hq => ?_) hne
    rcases List.mem_cons.mp hq with rfl | hq
    · exact N _ hm
    · exact N q hq
theorem set_strs_N {prog : Program} {w : World} {A : Around} {E : Value → Shared → Prop} {s : Shared} {h₀ : Heap} {L : Addr} {m : Str → Option Value} {news : List (Addr × Obj)} {l : Addr} {vs : List Value} {ws : List Str} {k : Nat} {Q : Value → Shared → Prop}
    (F : Fr h₀ L s.heap m) (N : News h₀ L s.heap news) (hh : A.handled = none) (hm : (l, W.listOf vs.toArray k) ∈ news) (hi : StrsAre vs ws) (hb : vs.length ≤ 100)
    (h : ∀ X o c h' tk, Fr h₀ L h' m → News h₀ L h' ((X, o) :: news) → o.SetObjOf (strKind prog w) (fun k' => ws.contains k') c → c ≤ 100 → (∀ q ∈ news, @LT.lt Nat _ q.1 X) → Q (.ref X) { s with heap := h', toks := tk }) :
    wpAny (model prog w) A (call (.type "set") [.ref l]) Q E s := by
  refine call_set_strs hh ⟨_, (N _ hm).1, rfl, k, rfl⟩ hi (by rw [List.size_toArray]; unfold scanBound; omega) fun h' tk c hc hS hkk => ?_
  obtain ⟨o, ho, hso⟩ := hS.objOf
  have hLlt : L < s.heap.objs.size := F.ns.lt
  refine h _ o c h' tk ⟨F.ns.at' fun o' e => hkk L o' hLlt e, fun b o' e => hkk b o' (Heap.lt_size (F.keep b o' e)) (F.keep b o' e), F.above⟩ (fun q hq => ?_) hso (by rw [List.size_toArray] at hc; omega) fun q hq => Heap.lt_size (N q hq).1
  rcases List.mem_cons.mp hq with rfl | hq
  · refine ⟨ho, Nat.ne_of_gt hLlt, ?_⟩
    cases hq : h₀.get? s.heap.objs.size with
    | none => rfl
    | some o' => exact absurd (Heap.lt_size (F.keep _ _ hq)) (Nat.lt_irrefl _)
  · exact ⟨hkk _ _ (Heap.lt_size (N q hq).1) (N q hq).1, (N q hq).2⟩


local macro_rules | `(tactic| walk_at "call ref") => `(tactic| (k_here; (with_reducible show wpAny _ _ (call (Value.ref _) [Value.bytes _ _]) _ _ _); (with_reducible rename Fr _ _ _ _ => frK); (with_reducible rename News _ _ _ _ => nwK); k_dflt ((refine call_meth nwK (by k_mem) ?_); (refine c_strip (Cx.keeps ⟨by assumption, by assumption⟩ (Fr.keep frK)) (by dsimp only [Around.deeper]; omega) (by assumption) (by assumption) (by assumption) ?_); intro sA sT sV sH sTk sK sO sE sF; (have frN := Fr.keptAll frK sK); (have nwN := News.add frK nwK sK sO sF); (have ofN := News.off nwK sF); (simp only [LCg.Off1, and_true] at ofN); clear frK nwK sK; (try dsimp only))))
local macro_rules | `(tactic| walk_at "eval BoolOp") => `(tactic| (k_here; (with_reducible show wpAny _ _ (eval (Expr.BoolOp BoolOp.Or [Expr.Name _ _, Expr.List [] _] _) _) _ _ _); (with_reducible rename Fr _ _ _ _ => frK); (with_reducible rename News _ _ _ _ => nwK); k_dflt (refine or_list_N frK nwK (by rfl) (by k_mem) (by k_mem) (by omega) (by omega) ?_); clear frK nwK; intro _ _ _ _ _ _ _))
local macro_rules | `(tactic| walk_at "call type:set cons nil") => `(tactic| (k_here; (with_reducible show wpAny _ _ (call (Value.type "set") [Value.ref _]) _ _ _); (with_reducible rename Fr _ _ _ _ => frK); (with_reducible rename News _ _ _ _ => nwK); k_dflt ((refine set_strs_N frK nwK (by rfl) (by k_mem) (by assumption) (by omega) ?_); clear frK nwK; intro _ _ _ _ _ _ _ _ _ ltX; (try simp only [List.mem_cons, List.not_mem_nil, or_false, forall_eq_or_imp, forall_eq] at ltX))))
local macro_rules | `(tactic| walk_at "eval ListComp") => `(tactic| (k_here; (with_reducible rename Fr _ _ _ _ => frK); (with_reducible rename News _ _ _ _ => nwK); k_dflt ((refine LCg.ListComp_U frK (by with_unfolding_all rfl) (by decide) (by rfl) (by decide) (by rfl) (ld frK (by rfl) (LCg.CompSrc.ledger (by rfl) frK nwK (by k_mem) ?lcz fun _ => low_rest (by rfl) (fun _ => by rfl) (fun _ => by rfl) (fun _ => by rfl) (by decide) (by rfl) (fun _ => by rfl) ?lci (by assumption) (.inr ⟨_, by k_mem, rfl, _, rfl⟩) ?_ _ 0 _ ?lcn StrsAre.nil)); (case lci => assumption); (case lcz => rw [List.size_toArray, sizeLine_eq]; omega); (case lcn => rw [List.size_toArray]; omega); intro _ hys; (have hysl := strs_length hys); (rw [List.length_map] at hysl); intro _ _ _ _ _ hof; (simp only [LCg.Off1, and_true] at hof); clear frK nwK))))


def detEs (w : World) (t1 t2 t3 t4 t5 t6 t7 t8 : Tok) (kn us ex mk sn b : Value) : List DictEntry :=
  [{ hash := PyData.keyHash w.params (Str.ofString "known_definite_encodings"), key := Value.str (Str.ofString "known_definite_encodings") t1, val := kn },
   { hash := PyData.keyHash w.params (Str.ofString "user_encodings"), key := Value.str (Str.ofString "user_encodings") t2, val := us },
   { hash := PyData.keyHash w.params (Str.ofString "exclude_encodings"), key := Value.str (Str.ofString "exclude_encodings") t3, val := ex },
   { hash := PyData.keyHash w.params (Str.ofString "chardet_encoding"), key := Value.str (Str.ofString "chardet_encoding") t4, val := .none },
   { hash := PyData.keyHash w.params (Str.ofString "is_html"), key := Value.str (Str.ofString "is_html") t5, val := b },
   { hash := PyData.keyHash w.params (Str.ofString "declared_encoding"), key := Value.str (Str.ofString "declared_encoding") t6, val := .none },
   { hash := PyData.keyHash w.params (Str.ofString "markup"), key := Value.str (Str.ofString "markup") t7, val := mk },
   { hash := PyData.keyHash w.params (Str.ofString "sniffed_encoding"), key := Value.str (Str.ofString "sniffed_encoding") t8, val := sn }]

theorem c_init {w : World} {p : Program} {lo : List Str} {mg mb : Str → Option Value} {A : Around} {s : Shared} {R : Result → Shared → Prop} {base : Heap} {x dx su ou gu : Addr} {D : Array UInt8} {t : Tok} {b : Bool}
    {vsu vou vgu : List Value} {wsu wou wgu : List Str} {ku ko kg : Nat} {X : Array UInt8} {o : Option Str}
    (C : Cx w p lo mg mb base) (hk : ∀ b o, base.get? b = some o → s.heap.get? b = some o) (hA : A.depth ≤ 350) (hh : A.handled = none)
    (hx : s.heap.get? x = some (instObj 55 dx)) (hdx : s.heap.get? dx = some (dictOf [] 0)) (hsu : s.heap.get? su = some (W.listOf vsu.toArray ku)) (hou : s.heap.get? ou = some (W.listOf vou.toArray ko)) (hgu : s.heap.get? gu = some (W.listOf vgu.toArray kg))
    (nx : base.get? x = none) (ndx : base.get? dx = none) (nsu : base.get? su = none) (nou : base.get? ou = none) (ngu : base.get? gu = none) (l1 : @LT.lt Nat _ dx x) (l2 : @LT.lt Nat _ su dx) (l3 : @LT.lt Nat _ ou dx) (l4 : @LT.lt Nat _ gu dx)
    (isu : StrsAre vsu wsu) (iou : StrsAre vou wou) (igu : StrsAre vgu wgu) (zsu : vsu.length ≤ 3) (zou : vou.length ≤ 3) (zgu : vgu.length ≤ 3) (hsh : ∀ y ∈ wou, y.length ≤ 1000)
    (h4 : 4 ≤ D.size) (hD : D.size ≤ 100) (hc : StripC D X o)
    (h : ∀ kn us ex kk uk oX c t1 t2 t3 t4 t5 t6 t7 t8 tX v h' tk, (∀ b o, s.heap.get? b = some o → b ≠ dx → h'.get? b = some o) →
      h'.get? dx = some (dictOf (detEs w t1 t2 t3 t4 t5 t6 t7 t8 (.ref kn) (.ref us) (.ref ex) (.bytes X tX) v (.bool b)) 8) → h'.get? kn = some (W.listOf vsu.toArray kk) → h'.get? us = some (W.listOf vgu.toArray uk) →
      h'.get? ex = some oX → oX.SetObjOf (strKind PR w) (fun k' => (wou.map Txt.lower).contains k') c → c ≤ 100 → EncIs o v → base.get? kn = none → base.get? us = none → base.get? ex = none → R (.ok (.ret .none)) { s with heap := h', toks := tk }) :
    codeAny (model PR w) A (.call (.ref 27) ⟨[.ref x, .bytes D t, .ref su, .bool b, .ref ou, .ref gu], []⟩) R s := by
  obtain ⟨XX, T⟩ := C
  obtain ⟨hd', dp, fr, gs, un⟩ := A
  dsimp only at hA hh
  subst hh
  refine' enterH (K := hd.heap_39 w.params) (base := base) (news := [(x, instObj 55 dx), (dx, dictOf [] 0), (su, W.listOf vsu.toArray ku), (ou, W.listOf vou.toArray ko), (gu, W.listOf vgu.toArray kg)]) (binds := [(Str.ofString "self", .ref x), (Str.ofString "markup", .bytes D t), (Str.ofString "known_definite_encodings", .ref su), (Str.ofString "is_html", .bool b), (Str.ofString "exclude_encodings", .ref ou), (Str.ofString "user_encodings", .ref gu)]) XX T hk ?hn ?kd ?k6 ?k7 ?k9 ?kB ?_ ?c5 ?c2 ?c3 ?c4
  case hn => intro q hq
             simp only [List.mem_cons, List.not_mem_nil, or_false] at hq
             rcases hq with rfl | rfl | rfl | rfl | rfl
             all_goals (first | exact ⟨hx, nx⟩ | exact ⟨hdx, ndx⟩ | exact ⟨hsu, nsu⟩ | exact ⟨hou, nou⟩ | exact ⟨hgu, ngu⟩)
  case kd => have : recursionLimit = 1000 := rfl
             (try dsimp only); omega
  case k6 => k_is
  case k7 => k_is
  case k9 => exact binds_K (XX.keeps hk) rfl (by k_is) rfl rfl rfl
  case c5 => decide
  case kB => exact locs rfl
  case c2 => exact rfl
  case c3 => exact rfl
  case c4 => exact rfl
  intro g L h₁ kg1 kg2 X' T' F N hlt
  try dsimp only
  try simp only [List.mem_cons, List.not_mem_nil, or_false, forall_eq_or_imp, forall_eq] at hlt
  have e1 := strs_length isu; have e2 := strs_length iou; have e3 := strs_length igu
  k_steps
  rename Fr _ _ _ _ => frK
  rename News _ _ _ _ => nwK
  have bn : ∀ {b : Addr}, g.get? b = none → base.get? b = none := fun {b} e => by
    cases q : base.get? b with
    | none => rfl
    | some o' => rw [kg1 _ _ q] at e; cases e
  refine h _ _ _ _ _ _ _ _ _ _ _ _ _ _ _ _ _ _ _ (fun b o e hb => ?_) (nwK (dx, _) (by k_mem)).1 (nwK (_, W.listOf vsu.toArray _) (by k_mem)).1 (nwK (_, W.listOf vgu.toArray _) (by k_mem)).1 (nwK (_, _) (by k_mem)).1 (by assumption) (by assumption) (by assumption) (bn (nwK (_, W.listOf vsu.toArray _) (by k_mem)).2.2) (bn (nwK (_, W.listOf vgu.toArray _) (by k_mem)).2.2) (bn (nwK (_, _) (by k_mem)).2.2)
  by_cases hb1 : b = x
  · subst hb1; rw [hx] at e; cases e; exact (nwK (b, instObj 55 dx) (by k_mem)).1
  by_cases hb2 : b = su
  · subst hb2; rw [hsu] at e; cases e; exact (nwK (b, W.listOf vsu.toArray ku) (by k_mem)).1
  by_cases hb3 : b = ou
  · subst hb3; rw [hou] at e; cases e; exact (nwK (b, W.listOf vou.toArray ko) (by k_mem)).1
  by_cases hb4 : b = gu
  · subst hb4; rw [hgu] at e; cases e; exact (nwK (b, W.listOf vgu.toArray kg) (by k_mem)).1
  exact frK.keep b o (kg2 b o e (by simp [hb, hb1, hb2, hb3, hb4]))
end Mine

namespace Mine
open PySem PySem.W PyProof.Rows PySem.Calls
set_option maxRecDepth 100000
set_option maxHeartbeats 100000000
theorem fill_C5 : (PySem.Challenge.rw_fq0001_01 = PySem.Challenge.rw_fq0001_01) ∧ (hd.heap_39 = hd.heap_39) := by k_fill; exact ⟨rfl, rfl⟩


def usB (ex S : Str → Bool) (e : Str) : Bool := !ex (Txt.lower e) && !S (Txt.lower e)
def usS (ex S : Str → Bool) (e : Str) : Str → Bool := fun k => if usB ex S e then (S k || decide (k = Txt.lower e)) else S k
theorem setObj_to {prog : Program} {w : World} {o : Obj} {S S' : Str → Bool} {n : Nat} (h : o.SetObjOf (strKind prog w) S n) (e : ∀ k, S k = S' k) : o.SetObjOf (strKind prog w) S' n := by
  have : S = S' := funext e
  subst this; exact h

theorem c_usable {w : World} {p : Program} {lo : List Str} {mg mb : Str → Option Value} {A : Around} {s : Shared} {R : Result → Shared → Prop} {base : Heap} {x dx xx T : Addr} {e : Str} {t : Tok} {oX oT : Obj} {cX cT : Nat} {exS S : Str → Bool}
    {t1 t2 t3 t4 t5 t6 t7 t8 : Tok} {kn us mk sn ih : Value}
    (C : Cx w p lo mg mb base) (hk : ∀ b o, base.get? b = some o → s.heap.get? b = some o) (hA : A.depth ≤ 350) (hh : A.handled = none)
    (hx : s.heap.get? x = some (instObj 55 dx)) (hdx : s.heap.get? dx = some (dictOf (detEs w t1 t2 t3 t4 t5 t6 t7 t8 kn us (.ref xx) mk sn ih) 8)) (hX : s.heap.get? xx = some oX) (hT : s.heap.get? T = some oT)
    (nx : base.get? x = none) (ndx : base.get? dx = none) (nX : base.get? xx = none) (nT : base.get? T = none) (l3 : @Ne Nat T xx)
    (sX : oX.SetObjOf (strKind PR w) exS cX) (sT : oT.SetObjOf (strKind PR w) S cT) (zX : cX ≤ 100) (zT : cT ≤ 100) (he : e.length ≤ 1000)
    (h : ∀ h' tk oT' c', (∀ b o, s.heap.get? b = some o → b ≠ T → h'.get? b = some o) → h'.get? T = some oT' → oT'.SetObjOf (strKind PR w) (usS exS S e) c' → c' ≤ cT + 1 → R (.ok (.ret (.bool (usB exS S e)))) { s with heap := h', toks := tk }) :
    codeAny (model PR w) A (.call (.ref 34) ⟨[.ref x, .str e t, .ref T], []⟩) R s := by
  obtain ⟨XX, TT⟩ := C
  have l1 : @Ne Nat T x := fun q => by
    subst q; rw [hT] at hx; cases hx; exact nomatch (sT.1.1 : Value.ref 55 = Value.type "set")
  have l2 : @Ne Nat T dx := fun q => by
    subst q; rw [hT] at hdx; cases hdx; exact absurd (Value.type.inj (sT.1.1 : Value.type "dict" = Value.type "set")) (by decide)
  have l4 : @Ne Nat xx x := fun q => by
    subst q; rw [hX] at hx; cases hx; exact nomatch (sX.1.1 : Value.ref 55 = Value.type "set")
  have l5 : @Ne Nat xx dx := fun q => by
    subst q; rw [hX] at hdx; cases hdx; exact absurd (Value.type.inj (sX.1.1 : Value.type "dict" = Value.type "set")) (by decide)
  obtain ⟨hd', dp, fr, gs, un⟩ := A
  dsimp only at hA hh
  subst hh
  refine' enterH (K := hd.heap_39 w.params) (base := base) (news := [(T, oT), (xx, oX), (x, instObj 55 dx), (dx, dictOf (detEs w t1 t2 t3 t4 t5 t6 t7 t8 kn us (.ref xx) mk sn ih) 8)]) (binds := [(Str.ofString "self", .ref x), (Str.ofString "encoding", .str e t), (Str.ofString "tried", .ref T)]) XX TT hk ?hn ?kd ?k6 ?k7 ?k9 ?kB ?_ ?c5 ?c2 ?c3 ?c4
  case hn => intro q hq
             simp only [List.mem_cons, List.not_mem_nil, or_false] at hq
             rcases hq with rfl | rfl | rfl | rfl
             all_goals (first | exact ⟨hx, nx⟩ | exact ⟨hdx, ndx⟩ | exact ⟨hX, nX⟩ | exact ⟨hT, nT⟩)
  case kd => have : recursionLimit = 1000 := rfl
             (try dsimp only); omega
  case k6 => k_is
  case k7 => k_is
  case k9 => exact BindsTo.of_eq rfl
  case c5 => decide
  case kB => exact locs rfl
  case c2 => exact rfl
  case c3 => exact rfl
  case c4 => exact rfl
  intro g L h₁ kg1 kg2 X' T' F N hlt
  try dsimp only [detEs] at N
  try simp only [List.mem_cons, List.not_mem_nil, or_false, forall_eq_or_imp, forall_eq] at hlt
  have keepf : ∀ (h' : Heap) (m' : Str → Option Value) (o' : Obj), Fr g L h' m' → News g L h' [(T, o'), (xx, oX), (x, instObj 55 dx), (dx, dictOf (detEs w t1 t2 t3 t4 t5 t6 t7 t8 kn us (.ref xx) mk sn ih) 8)] → ∀ b o, s.heap.get? b = some o → b ≠ T → h'.get? b = some o := by
    intro h' m' o' F' N' b o q hb
    by_cases hb1 : b = x
    · subst hb1; rw [hx] at q; cases q; exact (N' (b, instObj 55 dx) (by simp)).1
    by_cases hb2 : b = dx
    · subst hb2; rw [hdx] at q; cases q; exact (N' (b, _) (by simp)).1
    by_cases hb3 : b = xx
    · subst hb3; rw [hX] at q; cases q; exact (N' (b, oX) (by simp)).1
    exact F'.keep b o (kg2 b o q (by simp [hb, hb1, hb2, hb3]))
  k_steps
  · rename exS _ = true => q1
    rename Fr _ _ _ _ => frK
    rename News _ _ _ _ => nwK
    have eu : usB exS S e = false := by simp [usB, q1]
    have z := fun tk => h _ tk oT cT (keepf _ _ _ frK nwK) (nwK _ (.head _)).1 (setObj_to sT fun k => by simp [usS, eu]) (Nat.le_succ _)
    simp only [eu] at z
    exact z _
  · rename exS _ = false => q1
    rename S _ = true => q2
    rename Fr _ _ _ _ => frK
    rename News _ _ _ _ => nwK
    have eu : usB exS S e = false := by simp [usB, q1, q2]
    have z := fun tk => h _ tk oT cT (keepf _ _ _ frK nwK) (nwK _ (.head _)).1 (setObj_to sT fun k => by simp [usS, eu]) (Nat.le_succ _)
    simp only [eu] at z
    exact z _
  · rename exS _ = false => q1
    rename S _ = false => q2
    rename Fr _ _ _ _ => frK
    rename News _ _ _ _ => nwK
    rename Obj.SetObjOf _ _ _ _ => so
    have eu : usB exS S e = true := by simp [usB, q1, q2]
    have z := fun tk => h _ tk _ _ (keepf _ _ _ frK nwK) (nwK _ (.head _)).1 (setObj_to so fun k => by simp [usS, eu]) (by split <;> omega)
    simp only [eu] at z
    exact z _
end Mine

namespace Mine
open PySem PySem.W PyProof.Rows PySem.Calls
set_option maxRecDepth 100000
set_option maxHeartbeats 100000000

section
variable {prog : Program} {w : World} {A : Around} {R : GenEnd} {Y : Protocol} {n : Nat} {s₀ : Shared} {c : Code} {fs : List Frame} {s : Shared} {env : Env}
  {K : Flow → Sem Fin} {H : Value → Sem Fin} {gd : Bool → Bool} {lv : List Value → List Value}

def ownBack (env : Env) (r : Result) : Sem Flow := (match r with | .ok f => (.pure f : Sem Flow) | .error e => .raise e).onRaise fun (x : Value) => do
  if (← field x 1) == Value.none then unsupported "frame.own-activation:exception-without-traceback"
  setFlight x env.frame

theorem seg_For {target iter : Expr} {body orelse : List Stmt} {pos : Pos}
    (h : wpAny (model prog w) (A.over c fs) (eval iter env) (fun xv s₁ => wpAny (model prog w) (A.over c fs) (foldedSetIterable iter env xv) (fun x s₂ => wpAny (model prog w) (A.over c fs) (pyIter x) (fun it s₃ =>
        ∀ p, Seg (model prog w) A R Y n s₀ (.forLoop target it body orelse env) ((model prog w).den (.forLoop target it body orelse env)) (.ret (fun r => (ownBack env r).wrap K H gd lv) none (gd false) (lv []) c p [] :: fs) s₃)
        (fun x s' => Seg (model prog w) A R Y n s₀ c (H x) fs s') s₂) (fun x s' => Seg (model prog w) A R Y n s₀ c (H x) fs s') s₁) (fun x s' => Seg (model prog w) A R Y n s₀ c (H x) fs s') s) :
    Seg (model prog w) A R Y n s₀ c ((exec (.For target iter body orelse pos) env).wrap K H gd lv) fs s := by
  rw [arm_exec_For]
  refine seg_bind_wrap (wpAny_standAt ?_)
  refine seg_bind_wrap (wpAny_mono h (fun xv s₁ h₁ => ?_) fun _ _ e => e)
  refine seg_bind_wrap (wpAny_mono h₁ (fun x s₂ h₂ => ?_) fun _ _ e => e)
  refine seg_bind_wrap (wpAny_standAt ?_)
  refine seg_bind_wrap (wpAny_holding (wpAny_mono h₂ (fun it s₃ h₃ => ?_) fun _ _ e => e))
  exact seg_call h₃

theorem seg_forLoop {x : Str} {px : Pos} {it : Value} {body : List Stmt}
    (h : wpAny (model prog w) (A.over (.forLoop (.Name x px) it body [] env) fs) (pyNext it) (fun r s₁ => match r with
      | none => Seg (model prog w) A R Y n s₀ (.block [] env) (.pure (.done .next)) fs s₁
      | some v => wpAny (model prog w) (A.over (.forLoop (.Name x px) it body [] env) fs) (assign (.Name x px) env v) (fun _ s₂ =>
          Seg (model prog w) A R Y n s₀ (.forLoop (.Name x px) it body [] env) ((execs body env).wrap (fun f => match f with
            | .next | .cont => .pure (.again (.forLoop (.Name x px) it body [] env))
            | .brk => .pure (.done .next)
            | .ret v => .pure (.done (.ret v))) (fun e => (do noteFrame e env; theTreesLotGoes e : Sem Unit).wrap (fun _ => .raise e) .raise id id) id id) fs s₂) (fun _ _ => False) s₁)
      (fun _ _ => False) s) :
    Seg (model prog w) A R Y n s₀ (.forLoop (.Name x px) it body [] env) ((model prog w).den (.forLoop (.Name x px) it body [] env)) fs s := by
  show Seg _ A R Y n s₀ _ ((forTurn (.Name x px) it body [] env).onRaise (fun x => do noteFrame x env; theTreesLotGoes x)) fs s
  unfold forTurn
  rw [Sem.onRaise_eq_wrap]
  refine seg_bind_wrap (wpAny_standAt ?_)
  refine seg_bind_wrap (wpAny_onRaise (wpAny_mono h (fun r s₁ h₁ => ?_) fun _ _ e => e.elim))
  cases r with
  | none => exact seg_again rfl h₁
  | some v =>
    refine seg_bind_wrap (wpAny_of_eq (rfl : letOwnedTupleGo (.Name x px) it v = pure ()) ?_)
    refine seg_bind_wrap (wpAny_mono h₁ (fun _ s₂ h₂ => ?_) fun _ _ e => e.elim)
    show Seg _ A R Y n s₀ _ ((execs body env >>= _).wrap _ _ _ _) fs s₂
    rw [Sem.bind_eq_wrap', Sem.wrap_wrap]
    rw [Sem.wrap_congr (execs body env) _ _ (K' := fun f => match f with
            | .next | .cont => .pure (.again (.forLoop (.Name x px) it body [] env))
            | .brk => .pure (.done .next)
            | .ret v => .pure (.done (.ret v))) (H' := (fun e => (do noteFrame e env; theTreesLotGoes e : Sem Unit).wrap (fun _ => .raise e) .raise id id))
        (fun f => by cases f <;> rfl)
        (fun e => by first | exact Sem.bind_eq_wrap _ _ | (show (do noteFrame e env; theTreesLotGoes e : Sem Unit).bind (fun _ => .raise e) = _; rw [Sem.bind_eq_wrap]))]
    exact h₂

theorem seg_If {test : Expr} {body : List Stmt} {pos : Pos}
    (h : wpAny (model prog w) (A.over c fs) (isTrue test env (eval test env)) (fun b s₁ => (b = true → Seg (model prog w) A R Y n s₀ c ((execs body env).wrap K H gd lv) fs s₁) ∧ (b = false → Seg (model prog w) A R Y n s₀ c (K .next) fs s₁)) (fun _ _ => False) s) :
    Seg (model prog w) A R Y n s₀ c ((exec (.If test body [] pos) env).wrap K H gd lv) fs s := by
  rw [arm_exec_If]
  refine seg_bind_wrap (wpAny_standAt ?_)
  refine seg_bind_wrap (wpAny_mono h (fun b s₁ h₁ => ?_) fun _ _ e => e.elim)
  cases b with
  | true => exact h₁.1 rfl
  | false => exact h₁.2 rfl
theorem seg_stmt {st : Stmt} (h : wpAny (model prog w) (A.over c fs) (exec st env) (fun f s₁ => f = .next ∧ Seg (model prog w) A R Y n s₀ c (K .next) fs s₁) (fun _ _ => False) s) :
    Seg (model prog w) A R Y n s₀ c ((exec st env).wrap K H gd lv) fs s :=
  seg_wrap (wpAny_mono h (fun f s₁ h₁ => by obtain ⟨rfl, h₂⟩ := h₁; exact h₂) fun _ _ e => e.elim)
end
end Mine

namespace Mine
open PySem PySem.W PyProof.Rows PySem.Calls
set_option maxRecDepth 100000
set_option maxHeartbeats 100000000

noncomputable def yl (ex : Str → Bool) : (Str → Bool) → List Str → List Str
  | _, [] => []
  | S, e :: r => (if usB ex S e then [e] else []) ++ yl ex (usS ex S e) r
noncomputable def yS (ex : Str → Bool) : (Str → Bool) → List Str → Str → Bool
  | S, [] => S
  | S, e :: r => yS ex (usS ex S e) r

structure GI (w : World) (h₀ : Heap) (C T x : Addr) (h : Heap) (S : Str → Bool) (m : Str → Option Value) (kb : Nat) : Prop where
  keep : ∀ b o, h₀.get? b = some o → h.get? b = some o
  ns : h.Ns C m
  self : m (Str.ofString "self") = some (.ref x)
  tried : m (Str.ofString "tried") = some (.ref T)
  set : ∃ oT c, h.get? T = some oT ∧ oT.SetObjOf (strKind PR w) S c ∧ c ≤ kb

theorem GI.move {w : World} {h₀ : Heap} {C T x I : Addr} {h h' : Heap} {S : Str → Bool} {m : Str → Option Value} {kb : Nat} (g : GI w h₀ C T x h S m kb) (hC : C ≠ I) (hT : T ≠ I) (hI : h₀.get? I = none) (k : ∀ b o, b ≠ I → h.get? b = some o → h'.get? b = some o) : GI w h₀ C T x h' S m kb := by
  obtain ⟨g1, g2, g3, g4, oT, c, g5, g6, g7⟩ := g
  refine ⟨fun b o e => k b o (fun q => by rw [q, hI] at e; cases e) (g1 b o e), g2.at' fun o e => k C o hC e, g3, g4, oT, c, k T oT hT g5, g6, g7⟩

def Since (h₀ : Heap) (Sx : Addr) (s₀ s : Shared) : Prop := ∃ h' tk, s = { s₀ with heap := h', toks := tk } ∧ ∀ b o, (b = Sx ∨ (h₀.get? b).isSome = true) → s₀.heap.get? b = some o → h'.get? b = some o
theorem Since.refl (h₀ : Heap) (Sx : Addr) (s : Shared) : Since h₀ Sx s s := ⟨s.heap, s.toks, rfl, fun _ _ _ e => e⟩
theorem Since.step {h₀ : Heap} {Sx : Addr} {s₀ s : Shared} (x : Since h₀ Sx s₀ s) {h' : Heap} {tk : Nat} (k : ∀ b o, (b = Sx ∨ (h₀.get? b).isSome = true) → s.heap.get? b = some o → h'.get? b = some o) : Since h₀ Sx s₀ { s with heap := h', toks := tk } := by
  obtain ⟨h₁, tk₁, rfl, hk₁⟩ := x
  exact ⟨h', tk, rfl, fun b o hb e => k b o hb (hk₁ b o hb e)⟩
theorem Since.but {h₀ : Heap} {Sx I : Addr} {s₀ s : Shared} (x : Since h₀ Sx s₀ s) (hI : h₀.get? I = none) (hS : I ≠ Sx) {h' : Heap} {tk : Nat} (k : ∀ b o, b ≠ I → s.heap.get? b = some o → h'.get? b = some o) : Since h₀ Sx s₀ { s with heap := h', toks := tk } :=
  x.step fun b o hb e => k b o (fun q => by subst q; rcases hb with hb | hb; exact hS hb; rw [hI] at hb; cases hb) e

def GY (h₀ : Heap) (Sx : Addr) (all : List Str) : Protocol := fun m s₀ v s kap =>
  (∃ pre y post t, all = pre ++ y :: post ∧ post.length = m ∧ v = .str y t) ∧ Since h₀ Sx s₀ s ∧ ∀ s'' : Shared, (∀ b o, b ≠ Sx → s.heap.get? b = some o → s''.heap.get? b = some o) → (s''.heap.get? Sx).isSome = true → kap (.send .none) s''
def GR (h₀ : Heap) (Sx : Addr) : GenEnd := fun n s₀ r s₁ => r = .ok (.ret .none) ∧ (n = 0 ∧ Since h₀ Sx s₀ s₁)

def TestOk (w : World) (h₀ : Heap) (C T x : Addr) (ex : Str → Bool) (env : Env) (test : Expr) (y : Str) : Prop :=
  ∀ (A' : Around) (E : Value → Shared → Prop) (s₁ : Shared) (m₁ : Str → Option Value) (e : Str) (t : Tok) (S : Str → Bool) (kb : Nat), A'.handled = none → A'.depth ≤ 345 → GI w h₀ C T x s₁.heap S m₁ kb → m₁ y = some (.str e t) → e.length ≤ 1000 → kb ≤ 60 →
    wpAny (model PR w) A' (isTrue test env (eval test env)) (fun b s₂ => b = usB ex S e ∧ ∃ h₂ tk₂, s₂ = { s₁ with heap := h₂, toks := tk₂ } ∧ (∀ b o, b ≠ T → b ≠ C → s₁.heap.get? b = some o → h₂.get? b = some o) ∧ GI w h₀ C T x h₂ (usS ex S e) m₁ (kb + 1)) E s₁

theorem drop_at (es : List Str) (i : Nat) (h : i < es.length) : es.drop i = es.getD i Str.empty :: es.drop (i + 1) := by
  rw [List.drop_eq_getElem_cons h, List.getD_eq_getElem?_getD, List.getElem?_eq_getElem h]; rfl

section
variable {w : World} {A : Around} {h₀ : Heap} {C T x Sx I : Addr} {ex : Str → Bool} {env : Env} {y : Str} {py p1 p2 p3 p4 p₁ : Pos} {test : Expr} {fp : List Addr} {St : Nat → Heap → Prop} {es tail all : List Str} {Kr : Result → Sem Fin} {c₁ : Code} {lv₁ : List Value}

theorem gen_loop (hh : A.handled = none) (hdep : ∀ body, (A.over (.forLoop (.Name y py) (.ref I) body [] env) [.ret Kr none false lv₁ c₁ p₁ []]).depth ≤ 345)
    (hloc : env.locals = C) (hkind : env.scope.kind = .function) (hy : env.kindOf y = some .local) (hp : (env.scope.kind == .class || (env.scope.kind == .module && env.locals != env.globals)) = false)
    (hco : env.scope.isCoroutine = false) (hint : interactive env = false) (hdbg : (y == ("__debug__" : Str)) = false) (hys : Str.ofString "self" ≠ y) (hyt : Str.ofString "tried" ≠ y)
    (W : ∀ A' : Around, A'.handled = none → Walks PR w A' I fp [I] es.length (fun i v => ∃ t, v = .str (es.getD i Str.empty) t) St) (hes : ∀ e ∈ es, e.length ≤ 1000)
    (hCf : C ∉ fp) (hTf : T ∉ fp) (hSf : Sx ∉ fp) (hCS : C ≠ Sx) (hTS : T ≠ Sx) (hTC : T ≠ C) (hC₀ : h₀.get? C = none) (hT₀ : h₀.get? T = none) (hS₀ : h₀.get? Sx = none) (hI₀ : h₀.get? I = none)
    (htest : TestOk w h₀ C T x ex env test y) :
    ∀ (k i : Nat) (S : Str → Bool) (s₀ s : Shared) (m : Str → Option Value) (kb : Nat), es.length - i = k → i ≤ es.length → St i s.heap → GI w h₀ C T x s.heap S m kb → Since h₀ Sx s₀ s → (s₀.heap.get? Sx).isSome = true → kb + k ≤ 60 →
      (∃ pre, all = pre ++ (yl ex S (es.drop i) ++ tail)) →
      (∀ s₀' s' m' kb', GI w h₀ C T x s'.heap (yS ex S (es.drop i)) m' kb' → kb' ≤ kb + k → Since h₀ Sx s₀' s' → (s₀'.heap.get? Sx).isSome = true →
        Seg (model PR w) A (GR h₀ Sx) (GY h₀ Sx all) tail.length s₀' (.block [] env) (.pure (.done .next)) [.ret Kr none false lv₁ c₁ p₁ []] s') →
      Seg (model PR w) A (GR h₀ Sx) (GY h₀ Sx all) (yl ex S (es.drop i) ++ tail).length s₀ (.forLoop (.Name y py) (.ref I) [.If test [.Expr (.Yield (some (.Name y p1)) p2) p3] [] p4] [] env)
        ((model PR w).den (.forLoop (.Name y py) (.ref I) [.If test [.Expr (.Yield (some (.Name y p1)) p2) p3] [] p4] [] env)) [.ret Kr none false lv₁ c₁ p₁ []] s := by
  have hh' : ∀ c, (A.over c [.ret Kr none false lv₁ c₁ p₁ []]).handled = none := fun _ => hh
  have hIf : I ∈ fp := (W A hh).sub I (List.mem_singleton.mpr rfl)
  have hCI : C ≠ I := fun q => hCf (q ▸ hIf)
  have hTI : T ≠ I := fun q => hTf (q ▸ hIf)
  have hIS : I ≠ Sx := fun q => hSf (q ▸ hIf)
  intro k
  induction k with
  | zero =>
    intro i S s₀ s m kb hk hi hst hG hsin hSs hkb hall hK
    have hin : i = es.length := by omega
    subst hin
    rw [List.drop_length] at hK ⊢
    refine seg_forLoop ((W _ (hh' _)).done s _ _ hst fun h' tk hk' => ?_)
    have hk'' : ∀ b o, b ≠ I → s.heap.get? b = some o → h'.get? b = some o := fun b o hb e => hk' b o (by simpa using hb) e
    exact hK s₀ { s with heap := h', toks := tk } m kb (hG.move hCI hTI hI₀ hk'') (by omega) (hsin.but hI₀ hIS hk'') hSs
  | succ k ih =>
    intro i S s₀ s m kb hk hi hst hG hsin hSs hkb hall hK
    have hlt : i < es.length := by omega
    have hd := drop_at es i hlt
    have hmem : es.getD i Str.empty ∈ es := by rw [List.getD_eq_getElem?_getD, List.getElem?_eq_getElem hlt]; exact List.getElem_mem _
    rw [hd] at hall hK ⊢
    generalize hee : es.getD i Str.empty = e at *
    refine seg_forLoop ((W _ (hh' _)).item i s _ _ hlt hst fun v h₁ tk₁ hP hst₁ hk₁ => ?_)
    obtain ⟨t, rfl⟩ := hP
    rw [hee]
    have hk₁' : ∀ b o, b ≠ I → s.heap.get? b = some o → h₁.get? b = some o := fun b o hb e => hk₁ b o (by simpa using hb) e
    have hG₁ := hG.move hCI hTI hI₀ hk₁'
    have hsin₁ := hsin.but hI₀ hIS hk₁' (tk := tk₁)
    refine wpAny_assign_Name (wpAny_storeName_local hy (by rw [hloc]; exact hG₁.ns) (fun h₂ hn₂ hs₂ => ?_) hp)
    rw [hloc] at hn₂ hs₂
    have hk₂ : ∀ b o, b ≠ C → h₁.get? b = some o → h₂.get? b = some o := fun b o hb q => hs₂.extBut b o hb q
    have hG₂ : GI w h₀ C T x h₂ S (fun z => if z = y then some (.str e t) else m z) kb := by
      obtain ⟨g1, g2, g3, g4, oT, c, g5, g6, g7⟩ := hG₁
      exact ⟨fun b o q => hk₂ b o (fun z => by rw [z, hC₀] at q; cases q) (g1 b o q), hn₂, by rw [if_neg hys]; exact g3, by rw [if_neg hyt]; exact g4, oT, c, hk₂ T oT hTC g5, g6, g7⟩
    have hsin₂ : Since h₀ Sx s₀ { s with heap := h₂, toks := tk₁ + 1 } := hsin₁.but hC₀ hCS hk₂
    have hst₂ : St (i + 1) h₂ := (W A hh).frame _ _ _ hst₁ fun b hb o q => hk₂ b o (fun z => hCf (z ▸ hb)) q
    refine seg_execs_cons (seg_If (wpAny_mono (htest _ _ _ _ e t S kb (hh' _) (hdep _) hG₂ (if_pos rfl) (hes e hmem) (by omega)) (fun b s₃ h₃ => ?_) fun _ _ q => q))
    obtain ⟨rfl, h₃, tk₃, rfl, hk₃, hG₃⟩ := h₃
    have hsin₃ : Since h₀ Sx s₀ { s with heap := h₃, toks := tk₃ } := hsin₂.step fun b o hb q => hk₃ b o (fun z => by subst z; rcases hb with hb | hb; exact hTS hb; rw [hT₀] at hb; cases hb) (fun z => by subst z; rcases hb with hb | hb; exact hCS hb; rw [hC₀] at hb; cases hb) q
    have hst₃ : St (i + 1) h₃ := (W A hh).frame _ _ _ hst₂ fun b hb o q => hk₃ b o (fun z => hTf (z ▸ hb)) (fun z => hCf (z ▸ hb)) q
    constructor
    · intro hb
      have hyl : yl ex S (e :: es.drop (i + 1)) = e :: yl ex (usS ex S e) (es.drop (i + 1)) := by simp [yl, hb]
      rw [hyl] at hall ⊢
      show Seg _ A _ _ ((yl ex (usS ex S e) (es.drop (i + 1)) ++ tail).length + 1) s₀ _ _ _ _
      refine seg_execs_cons (seg_Expr_Yield rfl rfl rfl (evalNameLocal hkind hy (by rw [hloc]; exact hG₃.ns) (if_pos rfl) ?_ hdbg) hco hint)
      intro kap hkap
      obtain ⟨pre, hpre⟩ := hall
      refine ⟨⟨pre, e, yl ex (usS ex S e) (es.drop (i + 1)) ++ tail, t, hpre, rfl, rfl⟩, hsin₃, fun s'' hag hss => hkap .none s'' ?_⟩
      refine seg_again rfl (ih (i + 1) _ s'' s'' _ (kb + 1) (by omega) hlt ((W A hh).frame _ _ _ hst₃ fun b hb' o q => hag b o (fun z => hSf (z ▸ hb')) q) (hG₃.move hCS hTS hS₀ hag) (Since.refl _ _ _) hss (by omega) ⟨pre ++ [e], by rw [hpre]; simp⟩ fun s₀' s' m' kb' hG' hkb' hs' hss' => hK s₀' s' m' kb' hG' (by omega) hs' hss')
    · intro hb
      have hyl : yl ex S (e :: es.drop (i + 1)) = yl ex (usS ex S e) (es.drop (i + 1)) := by simp [yl, hb]
      rw [hyl] at hall ⊢
      exact seg_again rfl (ih (i + 1) _ s₀ _ _ (kb + 1) (by omega) hlt hst₃ hG₃ hsin₃ hSs (by omega) hall fun s₀' s' m' kb' hG' hkb' hs' hss' => hK s₀' s' m' kb' hG' (by omega) hs' hss')
end
end Mine

namespace Mine
open PySem PySem.W PyProof.Rows PySem.Calls
set_option maxRecDepth 100000
set_option maxHeartbeats 100000000

abbrev accObj (acc : Array Value) (c : Nat) : Obj := { cls := .type "list", dict := none, data := .seq acc c, slots := #[] }

structure Pours (w : World) (A : Around) (I S : Addr) (St : List Str → Shared → Prop) (Fin : Shared → Prop) : Prop where
  typ : ∀ ys s, St ys s → s.TypeIs (.ref I) "generator"
  frame : ∀ ys s h', St ys s → (∀ b o, b ≠ S → s.heap.get? b = some o → h'.get? b = some o) → (h'.get? S).isSome = true → St ys { s with heap := h' }
  item : ∀ y ys s Q E acc c, St (y :: ys) s → s.heap.get? S = some (accObj acc c) → (∀ t s', St ys s' → s'.heap.get? S = some (accObj acc c) → Q (some (.str y t)) s') → wpAny (model PR w) A (pyNext (.ref I)) Q E s
  done : ∀ s Q E acc c, St [] s → s.heap.get? S = some (accObj acc c) → (∀ s', Fin s' → s'.heap.get? S = some (accObj acc c) → Q none s') → wpAny (model PR w) A (pyNext (.ref I)) Q E s
  self : ∀ ys s Q E, St ys s → Q (.ref I) s → wpAny (model PR w) A (pyIter (.ref I)) Q E s

section
variable {w : World} {A : Around} {R : Result → Shared → Prop} {I S : Addr} {St : List Str → Shared → Prop} {Fin : Shared → Prop}

theorem pour_loop (P : Pours w A.in1 I S St Fin) (res : Value) : ∀ (ys : List Str) (s : Shared) (acc : Array Value) (c : Nat) (zs : List Str), St ys s → s.heap.get? S = some (accObj acc c) → StrsAre acc.toList zs → zs.length + ys.length ≤ 1000 →
    (∀ s' acc' c', Fin s' → s'.heap.get? S = some (accObj acc' c') → StrsAre acc'.toList (zs ++ ys) → R (.ok (.ret res)) s') →
    codeAny (model PR w) A (.builtin "list.extend.loop" ⟨[.ref S, .ref I, res], []⟩) R s := by
  intro ys
  induction ys with
  | nil =>
    intro s acc c zs hst hS hz hn hR
    refine codeAny_builtin F.entry_extend_loop ?_
    rw [Around.under_plainId F.plain_extend_loop _]
    show wpAny _ A.in1 (pyNext (.ref I) >>= _) _ _ s
    refine wpAny_bind (P.done s _ _ acc c hst hS fun s' hf hS' => ?_)
    exact wpAny_pure (hR s' acc c hf hS' (by rw [List.append_nil]; exact hz))
  | cons y ys ih =>
    intro s acc c zs hst hS hz hn hR
    refine codeAny_builtin F.entry_extend_loop ?_
    rw [Around.under_plainId F.plain_extend_loop _]
    show wpAny _ A.in1 (pyNext (.ref I) >>= _) _ _ s
    refine wpAny_bind (P.item y ys s _ _ acc c hst hS fun t s' hst' hS' => ?_)
    show wpAny _ A.in1 (updateSeq S (·.push (.str y t)) >>= _) _ _ _
    refine wpAny_bind ?_
    have hzl : acc.size = zs.length := by rw [← Array.length_toList]; exact strs_length hz
    rw [List.length_cons] at hn
    have hself := Heap.get?_update_self (Obj.mapSeq (·.push (Value.str y t))) hS' rfl
    refine wpAny_updateSeq hS' rfl (wpAny_pure ⟨plainId_quiet F.plain_extend_loop _, ih _ (acc.push (.str y t)) _ (zs ++ [y]) (P.frame _ _ _ hst' (fun b o hb e => (Heap.get?_update_other _ _ (Ne.symm hb)).trans e) (by rw [hself]; rfl)) hself ?_ ?_ fun s'' acc' c' hf hS'' hz' => ?_⟩)
      (by rw [hzl, sizeLine_eq]; omega) (by show (acc.push (.str y t)).size ≤ sizeLine + 1; rw [Array.size_push, hzl, sizeLine_eq]; omega)
    · rw [Array.toList_push]; exact kct_snoc hz
    · rw [List.length_append, List.length_singleton]; omega
    · exact hR s'' acc' c' hf hS'' (by rw [List.append_assoc] at hz'; exact hz')

theorem pour_extend (P : Pours w A.in1 I S St Fin) (res : Value) {s : Shared} {ys : List Str} {c₀ : Nat} (hst : St ys s) (hSI : S ≠ I) (hS : s.heap.get? S = some (accObj #[] c₀)) (hn : ys.length ≤ 1000)
    (hR : ∀ s' acc' c', Fin s' → s'.heap.get? S = some (accObj acc' c') → StrsAre acc'.toList ys → R (.ok (.ret res)) s') :
    wpAny (model PR w) A.in1 (Builtin.List.listExtendWith (.ref S) (.ref I) res)
      (fun fin s' => match fin with | .done f => R (.ok f) s' | .again c' => c'.quiet = true ∧ codeAny (model PR w) A c' R s') (fun e s' => R (.error e) s') s := by
  unfold Builtin.List.listExtendWith
  refine wpAny_bind (wpAny_typeOf (P.typ _ _ hst) ?_)
  have h1 : Builtin.List.listSameRef (.ref S) (.ref I) = false := by simp [Builtin.List.listSameRef, hSI]
  have h2 : (Value.type "generator" == Value.type "list") = false := by decide
  have h3 : (Value.type "generator" == Value.type "tuple") = false := by decide
  simp only [h1, h2, h3, Bool.or_false, Bool.false_eq_true, if_false]
  refine wpAny_bind (P.self _ _ _ _ hst ?_)
  refine wpAny_bind (wpAny_holding ?_)
  unfold Builtin.List.listLengthHint
  refine wpAny_bind (wpAny_specialOf (P.typ _ _ hst) F.gen_no_len ?_)
  show wpAny _ A.in1 (specialOf (Value.ref I) (Str.ofString "__length_hint__") >>= _) _ _ _
  refine wpAny_bind (wpAny_specialOf (P.typ _ _ hst) F.gen_no_hint ?_)
  refine wpAny_pure ?_
  show wpAny _ A.in1 (rule "list.extend.makes-room" >>= fun _ => Builtin.List.listTouch (.ref S) >>= fun _ =>
    again (.builtin "list.extend.loop" ⟨[.ref S, .ref I, res], []⟩)) _ _ _
  refine wpAny_bind (wpAny_rule ?_)
  refine wpAny_bind ?_
  show wpAny _ A.in1 (updateSeq S (·.push .none) >>= fun _ => updateSeq S (·.pop)) _ _ _
  refine wpAny_bind (wpAny_updateSeq hS rfl ?_)
  have hS₂ := Heap.get?_update_self (Obj.mapSeq (·.push Value.none)) hS rfl
  refine wpAny_updateSeq (hz := by seq_fits) hS₂ rfl ?_
  have hS₃ := Heap.get?_update_self (Obj.mapSeq (·.pop)) hS₂ rfl
  have oth : ∀ b o, b ≠ S → s.heap.get? b = some o → ((s.heap.update S (Obj.mapSeq (·.push Value.none))).update S (Obj.mapSeq (·.pop))).get? b = some o :=
    fun b o hb e => (Heap.get?_update_other _ _ (Ne.symm hb)).trans ((Heap.get?_update_other _ _ (Ne.symm hb)).trans e)
  refine wpAny_pure ⟨plainId_quiet F.plain_extend_loop _, pour_loop P res ys _ _ _ [] (P.frame ys s _ hst oth (by rw [hS₃]; rfl)) hS₃ ?_ (by simpa using hn) fun s' acc' c' hf hS' hz => hR s' acc' c' hf hS' hz⟩
  exact StrsAre.nil
end

section
variable {w : World} {A : Around} {E : Value → Shared → Prop} {s : Shared} {I : Addr} {Fin : Shared → Prop}

theorem pour_list {St : List Str → Shared → Prop} {ys : List Str} {Q : Value → Shared → Prop} (P : Pours w A.in1.in1 I s.heap.objs.size St Fin) (hst : ∀ h', (∀ b o, s.heap.get? b = some o → h'.get? b = some o) → (h'.get? s.heap.objs.size).isSome = true → St ys { s with heap := h' })
    (hI : I < s.heap.objs.size) (hn : ys.length ≤ 1000)
    (hQ : ∀ s' acc' c', Fin s' → s'.heap.get? s.heap.objs.size = some (accObj acc' c') → StrsAre acc'.toList ys → Q (.ref s.heap.objs.size) s') :
    wpAny (model PR w) A (call (.type "list") [.ref I]) Q E s := by
  have hSI : s.heap.objs.size ≠ I := Nat.ne_of_gt hI
  refine callType_codes (Q₁ := fun obj s₁ => obj = .ref s.heap.objs.size ∧ s₁ = { s with heap := s.heap.push { cls := .type "list", data := .seq #[] } }) F.called_list (F.typeCall_list_1 _) F.entry_list_init
    (code_list_new _ ⟨rfl, rfl⟩) fun obj s₁ h₁ => ?_
  obtain ⟨rfl, rfl⟩ := h₁
  have hS : (s.heap.push { cls := .type "list", data := .seq #[] }).get? s.heap.objs.size = some { cls := .type "list", data := .seq #[] } := Heap.get?_push_size _ rfl
  refine ⟨⟨_, hS, rfl⟩, F.args_list_init_2 _ _, ?_⟩
  show wpAny _ A.in1.in1 (do let old ← Builtin.List.listItems (.ref s.heap.objs.size); Builtin.List.listUpdate (.ref s.heap.objs.size) (fun _ => #[]); letGo old.toList.reverse; Builtin.List.listExtendWith (.ref s.heap.objs.size) (.ref I) .none) _ _ _
  refine wpAny_bind ?_
  unfold Builtin.List.listItems
  refine wpAny_bind (wpAny_seqItems hS rfl (wpAny_pure ?_))
  show wpAny _ A.in1.in1 (updateSeq s.heap.objs.size (fun _ => #[]) >>= fun _ => letGo (#[] : Array Value).toList.reverse >>= fun _ => Builtin.List.listExtendWith (.ref s.heap.objs.size) (.ref I) .none) _ _ _
  refine wpAny_bind (wpAny_updateSeq hS rfl ?_)
  have hS₂ := Heap.get?_update_self (Obj.mapSeq (fun _ => (#[] : Array Value))) hS rfl
  refine wpAny_bind (wpAny_letGo ?_)
  refine pour_extend (R := wants (fun r s₂ => r = .none ∧ Q (.ref s.heap.objs.size) s₂) E) P .none (hst _ (fun b o e => ?_) (by rw [hS₂]; rfl)) hSI hS₂ hn fun s' acc' c' hf hS' hz => ⟨rfl, hQ s' acc' c' hf hS' hz⟩
  have hb : s.heap.objs.size ≠ b := Nat.ne_of_gt (Heap.lt_size e)
  exact (Heap.get?_update_other _ _ hb).trans (Heap.get?_push_of_some _ e)
end
end Mine

namespace Mine
open PySem PySem.W PyProof.Rows PySem.Calls
set_option maxRecDepth 100000
set_option maxHeartbeats 100000000

def GenReady (w : World) (h₀ h : Heap) (all : List Str) (gc : Code) : Prop :=
  ∀ (A' : Around) (Sx : Addr) (s : Shared), A'.handled = none → A'.depth ≤ 340 → h.get? Sx = none → (s.heap.get? Sx).isSome = true → (∀ b o, h.get? b = some o → s.heap.get? b = some o) →
    (GenState.fresh gc).Goes (model PR w) A' (GR h₀ Sx) (GY h₀ Sx all) all.length (.send .none) s

structure GSt (w : World) (A : Around) (h₀ : Heap) (a Sx : Addr) (G : Array GenState) (d : Drawn) (os : OsState) (all ys : List Str) (s : Shared) : Prop where
  gen : s.heap.IsGen a G.size
  lim : s.heap.NoLimit
  keep : ∀ b o, h₀.get? b = some o → s.heap.get? b = some o
  some_ : (s.heap.get? Sx).isSome = true
  suf : ∃ pre, all = pre ++ ys
  go : ∃ gs, s.gens = G.push gs ∧ ∀ s'' : Shared, (∀ b o, b ≠ Sx → s.heap.get? b = some o → s''.heap.get? b = some o) → (s''.heap.get? Sx).isSome = true → gs.Goes (model PR w) A (GR h₀ Sx) (GY h₀ Sx all) ys.length (.send .none) s''
  dr : s.drawn = d
  o : s.os = os
def GFin (h₀ : Heap) (G : Array GenState) (d : Drawn) (os : OsState) (s : Shared) : Prop := s.gens = G.push .finished ∧ (∀ b o, h₀.get? b = some o → s.heap.get? b = some o) ∧ s.drawn = d ∧ s.os = os

theorem noLimit_at {h h' : Heap} (x : h.NoLimit) (k : ∀ o, h.get? cStatics = some o → h'.get? cStatics = some o) : h'.NoLimit := let ⟨mc, hns, hn⟩ := x; ⟨mc, hns.at' fun o e => k o e, hn⟩
theorem isGen_at {h h' : Heap} {a : Addr} {g : Nat} (x : h.IsGen a g) (k : ∀ o, h.get? a = some o → h'.get? a = some o) : h'.IsGen a g := let ⟨o, nm, qn, ho, r⟩ := x; ⟨o, nm, qn, k _ ho, r⟩

theorem push_set {α : Type} (G : Array α) (x y : α) : (G.push x).setIfInBounds G.size y = G.push y := by
  apply Array.ext'
  simp [List.set_append]
theorem tail_eq {α : Type} {pre pre' : List α} {y y' : α} {post post' : List α} (e : pre ++ y :: post = pre' ++ y' :: post') (hl : post.length = post'.length) : y = y' ∧ post = post' := by
  have h := (List.append_inj' e (by simp [hl])).2
  exact ⟨(List.cons.inj h).1, (List.cons.inj h).2⟩

theorem pours {w : World} {A : Around} {h₀ : Heap} {a Sx : Addr} {G : Array GenState} {d : Drawn} {os : OsState} {all : List Str} (hh : A.handled = none) (hd : A.depth ≤ 340) (haS : a ≠ Sx) (ha : (h₀.get? a).isSome = true) (hcs : (h₀.get? cStatics).isSome = true) (hS₀ : h₀.get? Sx = none) :
    Pours w A a Sx (GSt w A.in1 h₀ a Sx G d os all) (GFin h₀ G d os) where
  typ := fun ys s st => st.gen.typeIs
  frame := fun ys s h' st k hs => by
    obtain ⟨g1, g2, g3, g4, g5, ⟨gs, e, go⟩, g7, g8⟩ := st
    refine ⟨isGen_at g1 fun o q => k a o haS q, noLimit_at g2 fun o q => k _ o (fun z => by rw [z, hS₀] at hcs; cases hcs) q, fun b o q => k b o (fun z => by rw [z, hS₀] at q; cases q) (g3 b o q), hs, g5, ⟨gs, e, fun s'' hag hs'' => go s'' (fun b o hb q => hag b o hb (k b o hb q)) hs''⟩, g7, g8⟩
  item := fun y ys s Q E acc c st hS hQ => by
    obtain ⟨g1, g2, g3, g4, g5, ⟨gs, e, go⟩, g7, g8⟩ := st
    have hroom : A.depth < recursionLimit := by have : recursionLimit = 1000 := rfl
                                                omega
    have hgs : s.gens[G.size]? = some gs := by rw [e]; exact Array.getElem?_push_size ..
    refine wpAny_pyNext_gen (P := fun n s₀ s₁ => n = 0 ∧ Since h₀ Sx s₀ s₁) (n := (y :: ys).length) (Y := GY h₀ Sx all) hh g2 hroom g1 hgs (go _ (fun _ _ _ q => q) g4) (fun v s₁ gs' hv => ?_) (fun s₁ hp h' hk => ?_)
    · obtain ⟨⟨pre, y', post, t, hall, hpl, rfl⟩, hsin, hkap⟩ := hv
      obtain ⟨pre₀, hall₀⟩ := g5
      have ⟨ey, ep⟩ := tail_eq (hall.symm.trans hall₀) (by rw [hpl]; rfl)
      subst ey
      have hsin' := hsin
      obtain ⟨h₁, tk₁, rfl, hk₁⟩ := hsin
      have kept : ∀ b o, (b = Sx ∨ (h₀.get? b).isSome = true) → s.heap.get? b = some o → h₁.get? b = some o := hk₁
      refine hQ t _ ⟨isGen_at g1 fun o q => kept a o (.inr ha) q, noLimit_at g2 fun o q => kept _ o (.inr hcs) q, fun b o q => kept b o (.inr (by rw [q]; rfl)) (g3 b o q), ?_, ⟨pre₀ ++ [y'], by rw [hall₀]; simp⟩, ⟨gs', ?_, fun s'' hag hs'' => ?_⟩, g7, g8⟩ (kept _ _ (.inl rfl) hS)
      · show (h₁.get? Sx).isSome = true
        rw [kept _ _ (.inl rfl) hS]; rfl
      · show ((s.gens.setIfInBounds G.size .running).setIfInBounds G.size gs') = G.push gs'
        rw [e, push_set, push_set]
      · exact hkap s'' hag hs''
    · exact absurd hp.1 (Nat.succ_ne_zero _)
  done := fun s Q E acc c st hS hQ => by
    obtain ⟨g1, g2, g3, g4, g5, ⟨gs, e, go⟩, g7, g8⟩ := st
    have hroom : A.depth < recursionLimit := by have : recursionLimit = 1000 := rfl
                                                omega
    have hgs : s.gens[G.size]? = some gs := by rw [e]; exact Array.getElem?_push_size ..
    refine wpAny_pyNext_gen (P := fun n s₀ s₁ => n = 0 ∧ Since h₀ Sx s₀ s₁) (n := ([] : List Str).length) (Y := GY h₀ Sx all) hh g2 hroom g1 hgs (go _ (fun _ _ _ q => q) g4) (fun v s₁ gs' hv => ?_) (fun s₁ hp h' hk => ?_)
    · obtain ⟨_, hsin, hkap⟩ := hv
      obtain ⟨h₁, tk₁, rfl, hk₁⟩ := hsin
      exact (hkap { s with heap := h₁ } (fun _ _ _ q => q) (by show (h₁.get? Sx).isSome = true; rw [hk₁ _ _ (.inl rfl) hS]; rfl)).elim
    · obtain ⟨_, h₁, tk₁, rfl, hk₁⟩ := hp
      have kept : ∀ b o, (b = Sx ∨ (h₀.get? b).isSome = true) → s.heap.get? b = some o → h₁.get? b = some o := hk₁
      refine hQ _ ⟨?_, fun b o q => hk _ _ (kept b o (.inr (by rw [q]; rfl)) (g3 b o q)), g7, g8⟩ (hk _ _ (kept _ _ (.inl rfl) hS))
      show ((s.gens.setIfInBounds G.size .running).setIfInBounds G.size .finished) = G.push .finished
      rw [e, push_set, push_set]
  self := fun ys s Q E st hQ => wpAny_pyIter_gen st.gen hQ
end Mine

namespace Mine
open PySem PySem.W PyProof.Rows PySem.Calls
set_option maxRecDepth 100000
set_option maxHeartbeats 100000000

theorem c_list_gen {w : World} {A : Around} {s : Shared} {E : Value → Shared → Prop} {Q : Value → Shared → Prop} {h₀ : Heap} {a : Addr} {all : List Str} {gc : Code} {G : Array GenState}
    (hh : A.handled = none) (hA : A.depth ≤ 330) (hg : s.heap.IsGen a G.size) (hgs : s.gens = G.push (.fresh gc)) (hl : s.heap.NoLimit) (hl₀ : h₀.NoLimit) (hk : ∀ b o, h₀.get? b = some o → s.heap.get? b = some o)
    (ha : (h₀.get? a).isSome = true) (R : GenReady w h₀ s.heap all gc) (hn : all.length ≤ 1000)
    (hQ : ∀ h'' L acc c tk, (∀ b o, h₀.get? b = some o → h''.get? b = some o) → h''.get? L = some (accObj acc c) → StrsAre acc.toList all → s.heap.get? L = none → Q (.ref L) { s with heap := h'', gens := G.push .finished, toks := tk }) :
    wpAny (model PR w) A (call (.type "list") [.ref a]) Q E s := by
  have fr : s.heap.get? s.heap.objs.size = none := by
    cases q : s.heap.get? s.heap.objs.size with
    | none => rfl
    | some o' => exact absurd (Heap.lt_size q) (Nat.lt_irrefl _)
  have fr₀ : h₀.get? s.heap.objs.size = none := by
    cases q : h₀.get? s.heap.objs.size with
    | none => rfl
    | some o' => rw [hk _ _ q] at fr; cases fr
  have al : a < s.heap.objs.size := by
    obtain ⟨o', ho'⟩ := Option.isSome_iff_exists.mp ha
    exact Heap.lt_size (hk _ _ ho')
  have hcs : (h₀.get? cStatics).isSome = true := by
    obtain ⟨mc, hns, _⟩ := hl₀
    obtain ⟨o', _, _, ho', _⟩ := hns
    rw [ho']; rfl
  refine pour_list (pours (G := G) (d := s.drawn) (os := s.os) (all := all) hh (by show A.depth ≤ 340; omega) (Nat.ne_of_lt al) ha hcs fr₀) (fun h' hk' hs' => ?_) al hn fun s' acc' c' hf hS hz => ?_
  · refine ⟨isGen_at hg fun o q => hk' _ _ q, noLimit_at hl fun o q => hk' _ _ q, fun b o e => hk' _ _ (hk _ _ e), hs', ⟨[], rfl⟩, ⟨_, hgs, fun s'' hag hs'' => ?_⟩, rfl, rfl⟩
    exact R _ _ _ hh (by show A.depth ≤ 340; omega) fr hs'' fun b o e => hag b o (fun z => by rw [z, fr] at e; cases e) (hk' _ _ e)
  · obtain ⟨f1, f2, f3, f4⟩ := hf
    have := hQ s'.heap _ acc' c' s'.toks f2 hS hz fr
    rw [← f1, ← f3, ← f4] at this
    exact this
end Mine

namespace Mine
open PySem PySem.W PyProof.Rows PySem.Calls
set_option maxRecDepth 100000
set_option maxHeartbeats 100000000

theorem yl_append (ex : Str → Bool) : ∀ (a b : List Str) (S : Str → Bool), yl ex S (a ++ b) = yl ex S a ++ yl ex (yS ex S a) b
  | [], _, _ => rfl
  | e :: r, b, S => by
    show _ ++ yl ex (usS ex S e) (r ++ b) = (_ ++ yl ex (usS ex S e) r) ++ yl ex (yS ex (usS ex S e) r) b
    rw [yl_append ex r b, List.append_assoc]

theorem walksTuple {prog : Program} {w : World} {A : Around} (hh : A.handled = none) (I ax : Addr) (hne : ax ≠ I) (items : Array Value) :
    Walks prog w A I [I, ax] [I] items.size (fun i v => items[i]? = some v) (fun i h => h.IsTupleIter I ax i ∧ h.IsTuple ax items) where
  sub := fun b hb => by simp at hb; simp [hb]
  frame := fun _ _ _ st hk => by
    obtain ⟨⟨o, ho, r⟩, ⟨o', ho', r'⟩⟩ := st
    exact ⟨⟨o, hk I (by simp) o ho, r⟩, ⟨o', hk ax (by simp) o' ho', r'⟩⟩
  item := fun i s Q E hi st hQ => by
    refine wpAny_pyNext_tuple_item st.1 st.2 (x := items[i]) (by simp [hi]) fun h' hit' hs' => ?_
    exact hQ _ h' s.toks (by simp [hi]) ⟨hit', st.2.extBut hs'.extBut hne⟩ fun b o hb e => hs'.extBut b o (fun h => hb (by simp [h])) e
  done := fun s Q E st hQ => wpAny_pyNext_tuple_end hh st.1 st.2 (by simp) fun h' he' => hQ h' s.toks fun b o hb e => he' b o (fun h => hb (by simp [h])) e
  self := fun _ s Q E st hQ => by
    have hit := st.1
    have ht : s.TypeIs (.ref I) "tuple_iterator" := by obtain ⟨o, ho, r, _⟩ := hit; exact ⟨o, ho, r⟩
    refine wpAny_pyIter_slot ht F.slot_tuple_iterator_iter (wpAny_call_entry F.slot_tuple_iterator_iter ht F.entry_tuple_iterator_iter ?_ (F.args_tuple_iterator_iter_1 _))
    exact wpAny_pure ⟨_, rfl, "tuple_iterator", _, ht, F.slot_tuple_iterator_next.lookup, hQ⟩

section
variable {prog : Program} {w : World} {A : Around} {s : Shared} {K : Frag} {p : Program} {loose : List Str} {mg mb : Str → Option Value}
theorem enterGen {R : Result → Shared → Prop} {name qual : Str} {params : Arguments} {body : List Stmt} {scope : Scope} {dV kV doc pm cdv ct oc : Value} {an od : Option Addr} {osl : Array (Option Value)} {f : Addr} {args : Args} {binds : List (Str × Value)}
    (X : K.In s.heap) (T : TopRead p loose mg mb s.heap) (hA : A.depth < recursionLimit)
    (ho : K.lookup f = some ⟨oc, od, .func (fnOf name qual params body scope dV kV doc pm an cdv ct), osl⟩) (hcd : codeIn K cdv qual = true)
    (hbind : BindsTo s (fnOf name qual params body scope dV kV doc pm an cdv ct) args binds) (hloc : ∀ y ∈ binds, scope.names.lookup y.1 = some .local)
    (h : ∀ (h₁ : Heap) (tk : Nat) (o : Obj), h₁.Ns s.heap.objs.size (fun y => binds.reverse.lookup y) → (∀ b o, s.heap.get? b = some o → h₁.get? b = some o) → (h₁.push o).IsGen h₁.objs.size s.gens.size → (h₁.push o).get? h₁.objs.size = some o →
      R (.ok (.ret (.ref h₁.objs.size))) { s with heap := h₁.push o, toks := tk, gens := s.gens.push (.fresh (.func body (envOf qual scope s.heap.objs.size f cdv))) })
    (hcell : ∀ x ∈ scope.names, x.2 ≠ .cell) (hco : scope.isCoroutine = false) (hgen : scope.isGenerator = true) (hk : scope.kind = .function) : codeAny (model prog w) A (.call (.ref f) args) R s := by
  refine codeAny_call_generator (fd := fnOf name qual params body scope dV kV doc pm an cdv ct) (body := body) hA (X _ _ ho) rfl hco hgen rfl (codeRec_of X hcd) (hbind _ _ _ _ ?_)
  refine wpAny_newFunctionEnv hcell hloc (fun h₁ hns hsb => ?_) hk
  have kk : ∀ b o, s.heap.get? b = some o → h₁.get? b = some o := fun b o e => hsb.extBut b o (Nat.ne_of_lt (Heap.lt_size e)) (Heap.get?_push_of_some _ e)
  exact ⟨T.nolimit.keeps kk, h h₁ _ _ hns kk ⟨_, _, _, Heap.get?_push_size _ rfl, rfl, rfl, rfl⟩ (Heap.get?_push_size _ rfl)⟩
end

def restOf (h g : Heap) (C : Addr) (named : List Addr) : List (Addr × Obj) :=
  (List.range h.objs.size).filterMap fun b => if b = C ∨ b ∈ named ∨ (g.get? b).isSome = true then none else (h.get? b).map (b, ·)
theorem mem_restOf {h g : Heap} {C : Addr} {named : List Addr} {q : Addr × Obj} (m : q ∈ restOf h g C named) : h.get? q.1 = some q.2 ∧ q.1 ≠ C ∧ g.get? q.1 = none := by
  obtain ⟨b, _, e⟩ := List.mem_filterMap.mp m
  split at e
  · cases e
  · rename_i hn
    rw [not_or, not_or] at hn
    obtain ⟨o, ho, rfl⟩ := Option.map_eq_some_iff.mp e
    exact ⟨ho, hn.1, by simpa using hn.2.2⟩
theorem restOf_mem {h g : Heap} {C : Addr} {named : List Addr} {b : Addr} {o : Obj} (e : h.get? b = some o) (hC : b ≠ C) (hn : b ∉ named) (hg : g.get? b = none) : (b, o) ∈ restOf h g C named := by
  refine List.mem_filterMap.mpr ⟨b, List.mem_range.mpr (Heap.lt_size e), ?_⟩
  rw [if_neg (by rw [not_or, not_or]; exact ⟨hC, hn, by simp [hg]⟩), e]; rfl

theorem frameIn {hB h : Heap} {C : Addr} {m : Str → Option Value} (news : List (Addr × Obj)) (hC : hB.objs.size ≤ C) (hns : h.Ns C m) (hk : ∀ b o, hB.get? b = some o → h.get? b = some o)
    (hn : ∀ q ∈ news, h.get? q.1 = some q.2 ∧ q.1 ≠ C ∧ hB.get? q.1 = none) :
    ∃ rest, Fr hB C h m ∧ News hB C h (news ++ rest) ∧
      (∀ (h' : Heap) m', Fr hB C h' m' → (∀ q ∈ rest, h'.get? q.1 = some q.2) → ∀ b o, b ≠ C → b ∉ news.map (·.1) → h.get? b = some o → h'.get? b = some o) ∧ (∀ b o, b ≠ C → b ∉ news.map (·.1) → hB.get? b = none → h.get? b = some o → (b, o) ∈ rest) := by
  refine ⟨restOf h hB C (news.map (·.1)), ⟨hns, hk, hC⟩, fun q hq => ?_, fun h' m' F' hr b o hb hn' e => ?_, fun b o hb hn' e' e => restOf_mem e hb hn' e'⟩
  · rcases List.mem_append.mp hq with hq | hq
    · exact hn q hq
    · exact mem_restOf hq
  · cases e' : hB.get? b with
    | some o' =>
      have := hk b o' e'
      rw [e] at this; cases this
      exact F'.keep b o e'
    | none => exact hr (b, o) (restOf_mem e hb hn' e')

theorem allLt_mem {d : Addr} (l : List (Addr × Obj)) {q : Addr × Obj} (h : AllLt d l) (m : q ∈ l) : @LT.lt Nat _ q.1 d := by
  induction l with
  | nil => exact nomatch m
  | cons a r ih =>
    rcases List.mem_cons.mp m with e | m
    · rw [e]; exact h.1
    · exact ih h.2 m
theorem keptIn {base h h' : Heap} {C : Addr} {m' : Str → Option Value} {news rest : List (Addr × Obj)}
    (hr : ∀ (h' : Heap) m', Fr base C h' m' → (∀ q ∈ rest, h'.get? q.1 = some q.2) → ∀ b o, b ≠ C → b ∉ news.map (·.1) → h.get? b = some o → h'.get? b = some o)
    (N : News base C h (news ++ rest)) (F' : Fr base C h' m') (N' : ∀ q ∈ news ++ rest, h'.get? q.1 = some q.2) : ∀ b o, b ≠ C → h.get? b = some o → h'.get? b = some o := by
  intro b o hb e
  by_cases hm : b ∈ news.map (·.1)
  · obtain ⟨q, hq, rfl⟩ := List.mem_map.mp hm
    have h1 := (N q (List.mem_append_left _ hq)).1
    rw [e] at h1
    rw [Option.some.inj h1]
    exact N' q (List.mem_append_left _ hq)
  · exact hr h' m' F' (fun q hq => N' q (List.mem_append_right _ hq)) b o hb hm e
theorem freshIn {base h : Heap} {C d : Addr} {news rest : List (Addr × Obj)}
    (hr : ∀ b o, b ≠ C → b ∉ news.map (·.1) → base.get? b = none → h.get? b = some o → (b, o) ∈ rest)
    (hC : d ≠ C) (hb : base.get? d = none) (hl : AllLt d (news ++ rest)) : h.get? d = none := by
  cases e : h.get? d with
  | none => rfl
  | some o =>
    by_cases hm : d ∈ news.map (·.1)
    · obtain ⟨q, hq, hqd⟩ := List.mem_map.mp hm
      have := allLt_mem _ hl (List.mem_append_left _ hq)
      rw [hqd] at this
      exact absurd this (Nat.lt_irrefl _)
    · exact absurd (allLt_mem _ hl (List.mem_append_right _ (hr d o hC hm hb e))) (Nat.lt_irrefl _)
theorem m_eq {m : Str → Option Value} {a b c : Str} {va vb vc : Value} (ha : m a = some va) (hb : m b = some vb) (hc : m c = some vc) :
    m = fun z => if z = a then some va else if z = b then some vb else if z = c then some vc else m z := by
  funext z
  by_cases h1 : z = a
  · rw [if_pos h1, h1, ha]
  by_cases h2 : z = b
  · rw [if_neg h1, if_pos h2, h2, hb]
  by_cases h3 : z = c
  · rw [if_neg h1, if_neg h2, if_pos h3, h3, hc]
  rw [if_neg h1, if_neg h2, if_neg h3]

section
variable {w : World} {A A₀ : Around} {h₀ : Heap} {C T x Sx l : Addr} {ex S : Str → Bool} {env : Env} {y : Str} {py p1 p2 p3 p4 : Pos} {test : Expr} {ws tail all : List Str} {Kr : Result → Sem Fin} {c₁ : Code} {lv₁ : List Value}
  {s₀ s : Shared} {m : Str → Option Value} {kb : Nat} {vs : List Value} {E : Value → Shared → Prop}

theorem gen_for_seq {St : Addr → Nat → Heap → Prop}
    (hit : ∀ (h : Heap) (Q : Value → Shared → Prop), (∀ b o, h₀.get? b = some o → h.get? b = some o) → h = s.heap → (∀ o, St h.objs.size 0 (h.push o) → Q (.ref h.objs.size) { s with heap := h.push o }) → wpAny (model PR w) A₀ (pyIter (.ref l)) Q E s)
    (W : ∀ (A' : Around) (I : Addr), I ≠ l → A'.handled = none → Walks PR w A' I [I, l] [I] ws.length (fun i v => ∃ t, v = .str (ws.getD i Str.empty) t) (St I))
    (hh : A.handled = none) (hG : GI w h₀ C T x s.heap S m kb) (hsin : Since h₀ Sx s₀ s) (hSs : (s₀.heap.get? Sx).isSome = true) (hkb : kb + ws.length ≤ 60)
    (hlC : C ≠ l) (hlT : T ≠ l) (hlS : Sx ≠ l) (hls : (s.heap.get? l).isSome = true) (hes : ∀ e ∈ ws, e.length ≤ 1000) (hC₀ : h₀.get? C = none) (hT₀ : h₀.get? T = none) (hS₀ : h₀.get? Sx = none) (hCS : C ≠ Sx) (hTS : T ≠ Sx) (hTC : T ≠ C)
    (hall : ∃ pre, all = pre ++ (yl ex S ws ++ tail)) (htest : TestOk w h₀ C T x ex env test y)
    (hdep : ∀ body p I, (A.over (.forLoop (.Name y py) (.ref I) body [] env) [.ret Kr none false lv₁ c₁ p []]).depth ≤ 345)
    (hK : ∀ s₀' s' m' kb', GI w h₀ C T x s'.heap (yS ex S ws) m' kb' → kb' ≤ kb + ws.length → Since h₀ Sx s₀' s' → (s₀'.heap.get? Sx).isSome = true →
      Seg (model PR w) A (GR h₀ Sx) (GY h₀ Sx all) tail.length s₀' c₁ (Kr (.ok .next)) [] s')
    (hloc : env.locals = C) (hkind : env.scope.kind = .function) (hy : env.kindOf y = some .local) (hp : (env.scope.kind == .class || (env.scope.kind == .module && env.locals != env.globals)) = false)
    (hco : env.scope.isCoroutine = false) (hint : interactive env = false) (hdbg : (y == ("__debug__" : Str)) = false) (hys : Str.ofString "self" ≠ y) (hyt : Str.ofString "tried" ≠ y) :
    wpAny (model PR w) A₀ (pyIter (.ref l)) (fun it s₃ => ∀ p, Seg (model PR w) A (GR h₀ Sx) (GY h₀ Sx all) (yl ex S ws ++ tail).length s₀ (.forLoop (.Name y py) it [.If test [.Expr (.Yield (some (.Name y p1)) p2) p3] [] p4] [] env)
        ((model PR w).den (.forLoop (.Name y py) it [.If test [.Expr (.Yield (some (.Name y p1)) p2) p3] [] p4] [] env)) [.ret Kr none false lv₁ c₁ p []] s₃) E s := by
  refine hit s.heap _ hG.keep rfl fun o hst p => ?_
  have hlt : ∀ {b : Addr}, (s.heap.get? b).isSome = true → b ≠ s.heap.objs.size := fun hb => by
    obtain ⟨o', ho'⟩ := Option.isSome_iff_exists.mp hb
    exact Nat.ne_of_lt (Heap.lt_size ho')
  have cI : C ≠ s.heap.objs.size := Nat.ne_of_lt hG.ns.lt
  have tI : T ≠ s.heap.objs.size := by obtain ⟨oT, _, ho, _⟩ := hG.set; exact hlt (by rw [ho]; rfl)
  have lI : l ≠ s.heap.objs.size := hlt hls
  have sI : Sx ≠ s.heap.objs.size := by
    obtain ⟨o', ho'⟩ := Option.isSome_iff_exists.mp hSs
    obtain ⟨h₁, tk₁, rfl, hk₁⟩ := hsin
    exact hlt (by show (h₁.get? Sx).isSome = true; rw [hk₁ _ _ (.inl rfl) ho']; rfl)
  have nI : h₀.get? s.heap.objs.size = none := by
    cases q : h₀.get? s.heap.objs.size with
    | none => rfl
    | some o' => exact absurd (Heap.lt_size (hG.keep _ _ q)) (Nat.lt_irrefl _)
  have nf : ∀ {b : Addr}, b ≠ s.heap.objs.size → b ≠ l → b ∉ [s.heap.objs.size, l] := fun hb hb' q => by
    rcases List.mem_cons.mp q with q | q
    · exact hb q
    · exact hb' (List.mem_singleton.mp q)
  have kp : ∀ b o', b ≠ s.heap.objs.size → s.heap.get? b = some o' → (s.heap.push o).get? b = some o' := fun b o' _ e => Heap.get?_push_of_some _ e
  have gl := gen_loop (all := all) (tail := tail) (p1 := p1) (p2 := p2) (p3 := p3) (p4 := p4) (py := py) (es := ws) hh (fun body => hdep body p _) hloc hkind hy hp hco hint hdbg hys hyt (fun A' ha => W A' _ (Ne.symm lI) ha) hes (nf cI hlC) (nf tI hlT) (nf sI hlS) hCS hTS hTC hC₀ hT₀ hS₀ nI htest ws.length 0 S s₀ { s with heap := s.heap.push o } m kb (by omega) (Nat.zero_le _) hst (hG.move cI tI nI kp) (hsin.but nI (Ne.symm sI) kp) hSs hkb (by rw [List.drop_zero]; exact hall) fun s₀' s' m' kb' g1 g2 g3 g4 => ?_
  · rw [List.drop_zero] at gl; exact gl
  · rw [List.drop_zero] at g1
    exact seg_leaf (.ok .next) (hK s₀' s' m' kb' g1 g2 g3 g4)

theorem walks_str {prog : Program} {A : Around} {I : Addr} {fp wr : List Addr} {items : Array Value} {ws : List Str} {St : Nat → Heap → Prop} (W : Walks prog w A I fp wr items.size (fun i v => items[i]? = some v) St) (hi : StrsAre items.toList ws) :
    Walks prog w A I fp wr ws.length (fun i v => ∃ t, v = .str (ws.getD i Str.empty) t) St := by
  have e : items.size = ws.length := by rw [← Array.length_toList]; exact strs_length hi
  rw [← e]
  exact { sub := W.sub, frame := W.frame, item := fun i s Q E hlt st hQ => W.item i s Q E hlt st fun v h' tk hP => hQ v h' tk (strs_at hi i v (by rw [Array.getElem?_toList]; exact hP)), done := W.done, self := W.self }

theorem gen_for_list {kk : Nat} (hl : h₀.get? l = some (W.listOf vs.toArray kk)) (iws : StrsAre vs ws) 
    (hh : A.handled = none) (hG : GI w h₀ C T x s.heap S m kb) (hsin : Since h₀ Sx s₀ s) (hSs : (s₀.heap.get? Sx).isSome = true) (hkb : kb + ws.length ≤ 60)
    (hes : ∀ e ∈ ws, e.length ≤ 1000) (hC₀ : h₀.get? C = none) (hT₀ : h₀.get? T = none) (hS₀ : h₀.get? Sx = none) (hCS : C ≠ Sx) (hTS : T ≠ Sx) (hTC : T ≠ C)
    (hall : ∃ pre, all = pre ++ (yl ex S ws ++ tail)) (htest : TestOk w h₀ C T x ex env test y)
    (hdep : ∀ body p I, (A.over (.forLoop (.Name y py) (.ref I) body [] env) [.ret Kr none false lv₁ c₁ p []]).depth ≤ 345)
    (hK : ∀ s₀' s' m' kb', GI w h₀ C T x s'.heap (yS ex S ws) m' kb' → kb' ≤ kb + ws.length → Since h₀ Sx s₀' s' → (s₀'.heap.get? Sx).isSome = true →
      Seg (model PR w) A (GR h₀ Sx) (GY h₀ Sx all) tail.length s₀' c₁ (Kr (.ok .next)) [] s')
    (hloc : env.locals = C) (hkind : env.scope.kind = .function) (hy : env.kindOf y = some .local) (hp : (env.scope.kind == .class || (env.scope.kind == .module && env.locals != env.globals)) = false)
    (hco : env.scope.isCoroutine = false) (hint : interactive env = false) (hdbg : (y == ("__debug__" : Str)) = false) (hys : Str.ofString "self" ≠ y) (hyt : Str.ofString "tried" ≠ y) :
    wpAny (model PR w) A₀ (pyIter (.ref l)) (fun it s₃ => ∀ p, Seg (model PR w) A (GR h₀ Sx) (GY h₀ Sx all) (yl ex S ws ++ tail).length s₀ (.forLoop (.Name y py) it [.If test [.Expr (.Yield (some (.Name y p1)) p2) p3] [] p4] [] env)
        ((model PR w).den (.forLoop (.Name y py) it [.If test [.Expr (.Yield (some (.Name y p1)) p2) p3] [] p4] [] env)) [.ret Kr none false lv₁ c₁ p []] s₃) E s := by
  have nl : ∀ {b : Addr}, h₀.get? b = none → b ≠ l := fun hb q => by rw [q] at hb; rw [hb] at hl; cases hl
  have hL : s.heap.IsList l vs.toArray := ⟨_, hG.keep _ _ hl, rfl, kk, rfl⟩
  refine gen_for_seq (St := fun I i h => h.IsListIter I l i ∧ h.IsList l vs.toArray) (fun h Q _ e hq => ?_) (fun A' I hne ha => walks_str (Walks.list ha I l (Ne.symm hne) vs.toArray) iws)
    hh hG hsin hSs hkb (nl hC₀) (nl hT₀) (nl hS₀) (by rw [hG.keep _ _ hl]; rfl) hes hC₀ hT₀ hS₀ hCS hTS hTC hall htest hdep hK hloc hkind hy hp hco hint hdbg hys hyt
  subst e
  exact wpAny_pyIter_list hL (hq _ ⟨⟨_, Heap.get?_push_size _ rfl, rfl, rfl⟩, hL.push _⟩)

theorem gen_for_tuple {oTu : Obj} (hl : s.heap.get? l = some oTu) (hlC : C ≠ l) (hlT : T ≠ l) (hlS : Sx ≠ l) (hcl : oTu.cls = .type "tuple") {nTu : Nat} (hdt : oTu.data = .seq vs.toArray nTu) (iws : StrsAre vs ws) 
    (hh : A.handled = none) (hG : GI w h₀ C T x s.heap S m kb) (hsin : Since h₀ Sx s₀ s) (hSs : (s₀.heap.get? Sx).isSome = true) (hkb : kb + ws.length ≤ 60)
    (hes : ∀ e ∈ ws, e.length ≤ 1000) (hC₀ : h₀.get? C = none) (hT₀ : h₀.get? T = none) (hS₀ : h₀.get? Sx = none) (hCS : C ≠ Sx) (hTS : T ≠ Sx) (hTC : T ≠ C)
    (hall : ∃ pre, all = pre ++ (yl ex S ws ++ tail)) (htest : TestOk w h₀ C T x ex env test y)
    (hdep : ∀ body p I, (A.over (.forLoop (.Name y py) (.ref I) body [] env) [.ret Kr none false lv₁ c₁ p []]).depth ≤ 345)
    (hK : ∀ s₀' s' m' kb', GI w h₀ C T x s'.heap (yS ex S ws) m' kb' → kb' ≤ kb + ws.length → Since h₀ Sx s₀' s' → (s₀'.heap.get? Sx).isSome = true →
      Seg (model PR w) A (GR h₀ Sx) (GY h₀ Sx all) tail.length s₀' c₁ (Kr (.ok .next)) [] s')
    (hloc : env.locals = C) (hkind : env.scope.kind = .function) (hy : env.kindOf y = some .local) (hp : (env.scope.kind == .class || (env.scope.kind == .module && env.locals != env.globals)) = false)
    (hco : env.scope.isCoroutine = false) (hint : interactive env = false) (hdbg : (y == ("__debug__" : Str)) = false) (hys : Str.ofString "self" ≠ y) (hyt : Str.ofString "tried" ≠ y) :
    wpAny (model PR w) A₀ (pyIter (.ref l)) (fun it s₃ => ∀ p, Seg (model PR w) A (GR h₀ Sx) (GY h₀ Sx all) (yl ex S ws ++ tail).length s₀ (.forLoop (.Name y py) it [.If test [.Expr (.Yield (some (.Name y p1)) p2) p3] [] p4] [] env)
        ((model PR w).den (.forLoop (.Name y py) it [.If test [.Expr (.Yield (some (.Name y p1)) p2) p3] [] p4] [] env)) [.ret Kr none false lv₁ c₁ p []] s₃) E s := by
  have hL : s.heap.IsTuple l vs.toArray := ⟨_, hl, hcl, nTu, hdt⟩
  refine gen_for_seq (St := fun I i h => h.IsTupleIter I l i ∧ h.IsTuple l vs.toArray) (fun h Q _ e hq => ?_) (fun A' I hne ha => walks_str (walksTuple ha I l (Ne.symm hne) vs.toArray) iws)
    hh hG hsin hSs hkb hlC hlT hlS (by rw [hl]; rfl) hes hC₀ hT₀ hS₀ hCS hTS hTC hall htest hdep hK hloc hkind hy hp hco hint hdbg hys hyt
  subst e
  exact wpAny_pyIter_tuple hL (hq _ ⟨⟨_, Heap.get?_push_size _ rfl, rfl, rfl⟩, hL.push _⟩)

theorem seg_if_yield {e : Expr} {o : Option Str} {c : Code} {K : Flow → Sem Fin} {H : Value → Sem Fin} {gd : Bool → Bool} {lv : List Value → List Value}
    (hgd : gd false = false) (hco : env.scope.isCoroutine = false) (hint : interactive env = false)
    (hsin : Since h₀ Sx s₀ s) (hSs : (s₀.heap.get? Sx).isSome = true) (hall : ∃ pre, all = pre ++ (yl ex S o.toList ++ tail))
    (hC₀ : h₀.get? C = none) (hT₀ : h₀.get? T = none) (hS₀ : h₀.get? Sx = none) (hCS : C ≠ Sx) (hTS : T ≠ Sx)
    (ht : wpAny (model PR w) (A.over c []) (isTrue test env (eval test env)) (fun b s₁ => b = (match o with | none => false | some n => usB ex S n) ∧ ∃ h₂ tk₂, s₁ = { s with heap := h₂, toks := tk₂ } ∧ (∀ b o, b ≠ T → b ≠ C → s.heap.get? b = some o → h₂.get? b = some o) ∧
      GI w h₀ C T x h₂ (yS ex S o.toList) m (kb + 1)) (fun _ _ => False) s)
    (he : ∀ n s₁, o = some n → GI w h₀ C T x s₁.heap (yS ex S o.toList) m (kb + 1) → wpAny (model PR w) (A.over c []) (eval e env) (fun v s₂ => (∃ t, v = .str n t) ∧ ∃ tk, s₂ = { s₁ with toks := tk }) (fun _ _ => False) s₁)
    (hK : ∀ s₀' s', GI w h₀ C T x s'.heap (yS ex S o.toList) m (kb + 1) → Since h₀ Sx s₀' s' → (s₀'.heap.get? Sx).isSome = true →
      Seg (model PR w) A (GR h₀ Sx) (GY h₀ Sx all) tail.length s₀' c (K .next) [] s') :
    Seg (model PR w) A (GR h₀ Sx) (GY h₀ Sx all) (yl ex S o.toList ++ tail).length s₀ c ((exec (.If test [.Expr (.Yield (some e) p2) p3] [] p4) env).wrap K H gd lv) [] s := by
  refine seg_If (wpAny_mono ht (fun b s₁ h₁ => ?_) fun _ _ q => q)
  obtain ⟨rfl, h₂, tk₂, rfl, hk₂, GC⟩ := h₁
  have sinC : Since h₀ Sx s₀ { s with heap := h₂, toks := tk₂ } := hsin.step fun b o hb q => hk₂ b o (fun z => by subst z; rcases hb with hb | hb; exact hTS hb; rw [hT₀] at hb; cases hb) (fun z => by subst z; rcases hb with hb | hb; exact hCS hb; rw [hC₀] at hb; cases hb) q
  cases o with
  | none => exact ⟨fun q => (nomatch q), fun _ => hK s₀ _ GC sinC hSs⟩
  | some n =>
    constructor
    · intro hb
      have hb' : usB ex S n = true := hb
      have hyl : yl ex S (some n).toList = [n] := by simp [yl, hb']
      obtain ⟨pre, hpre⟩ := hall
      rw [hyl] at hpre ⊢
      show Seg _ A _ _ (tail.length + 1) s₀ _ _ _ _
      refine seg_execs_cons (seg_Expr_Yield rfl hgd rfl (wpAny_mono (he n _ rfl GC) (fun v s₂ h₂' => ?_) fun _ _ q => q.elim) hco hint)
      obtain ⟨⟨t, rfl⟩, tk', rfl⟩ := h₂'
      intro kap hkap
      refine ⟨⟨pre, n, tail, t, hpre, rfl, rfl⟩, sinC.step (tk := tk') fun _ _ _ q => q, fun s'' hag hss => hkap .none s'' ?_⟩
      exact hK s'' s'' (GC.move hCS hTS hS₀ hag) (Since.refl _ _ _) hss
    · intro hb
      have hb' : usB ex S n = false := hb
      have hyl : yl ex S (some n).toList = [] := by simp [yl, hb']
      rw [hyl]
      exact hK s₀ _ GC sinC hSs
end
end Mine

namespace Mine
open PySem PySem.W PyProof.Rows PySem.Calls
set_option maxRecDepth 100000
set_option maxHeartbeats 100000000
theorem fill_G4 : (PySem.Challenge.rw_fq0001_01 = PySem.Challenge.rw_fq0001_01) ∧ (hd.heap_39 = hd.heap_39) := by k_fill; exact ⟨rfl, rfl⟩

theorem c_encs {w : World} {p : Program} {lo : List Str} {mg mb : Str → Option Value} {A : Around} {s : Shared} {R : Result → Shared → Prop} {base : Heap} {x dx xx kn us : Addr} {oX : Obj} {cX : Nat} {exS : Str → Bool}
    {vsu vgu : List Value} {wsu wgu : List Str} {kk uk : Nat} {o : Option Str} {t1 t2 t3 t4 t5 t6 t7 t8 : Tok} {mk sn ih : Value}
    (C : Cx w p lo mg mb base) (hk : ∀ b o, base.get? b = some o → s.heap.get? b = some o) (hsz : base.objs.size ≤ s.heap.objs.size) (hA : A.depth ≤ 350)
    (hx : s.heap.get? x = some (instObj 55 dx)) (hdx : s.heap.get? dx = some (dictOf (detEs w t1 t2 t3 t4 t5 t6 t7 t8 (.ref kn) (.ref us) (.ref xx) mk sn ih) 8)) (hX : s.heap.get? xx = some oX)
    (hkn : s.heap.get? kn = some (W.listOf vsu.toArray kk)) (hus : s.heap.get? us = some (W.listOf vgu.toArray uk))
    (nx : base.get? x = none) (ndx : base.get? dx = none) (nX : base.get? xx = none) (nkn : base.get? kn = none) (nus : base.get? us = none)
    (sX : oX.SetObjOf (strKind PR w) exS cX) (zX : cX ≤ 100) (isu : StrsAre vsu wsu) (igu : StrsAre vgu wgu) (zsu : vsu.length ≤ 3) (zgu : vgu.length ≤ 3) (hws : ∀ y ∈ wsu, y.length ≤ 1000) (hwg : ∀ y ∈ wgu, y.length ≤ 1000)
    (hon : ∀ n, o = some n → n.length ≤ 1000) (hsn : EncIs o sn)
    (h : ∀ h' tk gc a h₀, (∀ b o, s.heap.get? b = some o → h'.get? b = some o) → h'.IsGen a s.gens.size → @LT.lt Nat _ a h'.objs.size → s.heap.get? a = none → (∀ b o, s.heap.get? b = some o → h₀.get? b = some o) →
      (∀ b o, h₀.get? b = some o → h'.get? b = some o) → (h₀.get? a).isSome = true → GenReady w h₀ h' (yl exS (fun _ => false) (wsu ++ (o.toList ++ (wgu ++ [Str.ofString "utf-8", Str.ofString "windows-1252"])))) gc →
      R (.ok (.ret (.ref a))) { s with heap := h', toks := tk, gens := s.gens.push (.fresh gc) }) :
    codeAny (model PR w) A (.call (.ref 41) ⟨[.ref x], []⟩) R s := by
  obtain ⟨XX, TT⟩ := C
  refine' enterGen (K := hd.heap_39 w.params) (binds := [(Str.ofString "self", .ref x)]) (XX.keeps hk) (TT.keeps hk) ?kd ?k6 ?k7 ?k9 ?kB ?_ ?c5 ?c2 ?c3 ?c4
  case kd => have : recursionLimit = 1000 := rfl
             (try dsimp only); omega
  case k6 => k_is
  case k7 => k_is
  case k9 => exact BindsTo.of_eq rfl
  case c5 => decide
  case kB => exact locs rfl
  case c2 => exact rfl
  case c3 => exact rfl
  case c4 => exact rfl
  intro h₁ tk og hns kk₁ hgen hog
  have hCn : s.heap.get? s.heap.objs.size = none := by
    cases q : s.heap.get? s.heap.objs.size with
    | none => rfl
    | some o' => exact absurd (Heap.lt_size q) (Nat.lt_irrefl _)
  have hC1 : s.heap.objs.size < h₁.objs.size := by obtain ⟨oL, _, _, hL, _⟩ := hns; exact Heap.lt_size hL
  have kk₂ : ∀ b o, s.heap.get? b = some o → (h₁.push og).get? b = some o := fun b o e => Heap.get?_push_of_some _ (kk₁ b o e)
  have kk₃ : ∀ b o, s.heap.get? b = some o → (hideAll (h₁.push og) [s.heap.objs.size]).get? b = some o := fun b o e => hideAll_get _ (kk₂ b o e) (by
    intro q
    rw [List.mem_singleton] at q
    rw [q, hCn] at e; cases e)
  have kk₄ : ∀ b o, (hideAll (h₁.push og) [s.heap.objs.size]).get? b = some o → (h₁.push og).get? b = some o := fun b o e => of_hideAll _ e
  have hag : (hideAll (h₁.push og) [s.heap.objs.size]).get? h₁.objs.size = some og := hideAll_get _ hog (by rw [List.mem_singleton]; exact Nat.ne_of_gt hC1)
  refine h _ tk _ h₁.objs.size (hideAll (h₁.push og) [s.heap.objs.size]) kk₂ hgen (by rw [Heap.size_push]; exact Nat.lt_succ_self _) ?_ kk₃ kk₄ (by rw [hag]; rfl) ?_
  · cases q : s.heap.get? h₁.objs.size with
    | none => rfl
    | some o' => exact absurd (Heap.lt_size (kk₁ _ _ q)) (Nat.lt_irrefl _)
  have hC0 : (hideAll (h₁.push og) [s.heap.objs.size]).get? s.heap.objs.size = none := hideAll_none _ (.head _)
  have hnsP : (h₁.push og).Ns s.heap.objs.size (fun y => [(Str.ofString "self", Value.ref x)].reverse.lookup y) := hns.at' fun o e => Heap.get?_push_of_some _ e
  generalize hideAll (h₁.push og) [s.heap.objs.size] = h₀ at *
  generalize h₁.push og = h₂ at *
  generalize hCC : s.heap.objs.size = CC at *
  clear h hag hgen hog hns kk₁ hC1
  intro A' Sx s' hh' hd' hSn hSs hkk
  have hSC : CC ≠ Sx := by
    intro q
    obtain ⟨oL, _, _, hL, _⟩ := hnsP
    rw [← q, hL] at hSn; cases hSn
  refine ⟨rfl, seg_func ?_⟩
  rw [yl_append, yl_append, yl_append, ← List.append_nil (yl exS (yS exS (yS exS (yS exS (fun _ => false) wsu) o.toList) wgu) [Str.ofString "utf-8", Str.ofString "windows-1252"])]
  have ns' := hnsP.at' fun o e => hkk _ o e
  obtain ⟨rest, F, N, hrest, hrest2⟩ := frameIn (hB := base) [(xx, oX), (kn, W.listOf vsu.toArray kk), (us, W.listOf vgu.toArray uk), (x, instObj 55 dx), (dx, dictOf (detEs w t1 t2 t3 t4 t5 t6 t7 t8 (.ref kn) (.ref us) (.ref xx) mk sn ih) 8)] (by omega) ns' (fun b o e => hkk b o (kk₂ b o (hk b o e))) (by
    intro q hq
    have ne : ∀ {b o}, s.heap.get? b = some o → b ≠ CC := fun e z => by rw [z, hCn] at e; cases e
    simp only [List.mem_cons, List.not_mem_nil, or_false] at hq
    rcases hq with rfl | rfl | rfl | rfl | rfl
    all_goals (first | exact ⟨hkk _ _ (kk₂ _ _ hx), ne hx, nx⟩ | exact ⟨hkk _ _ (kk₂ _ _ hdx), ne hdx, ndx⟩ | exact ⟨hkk _ _ (kk₂ _ _ hX), ne hX, nX⟩ | exact ⟨hkk _ _ (kk₂ _ _ hkn), ne hkn, nkn⟩ | exact ⟨hkk _ _ (kk₂ _ _ hus), ne hus, nus⟩))
  have N0 := And.intro N True.intro
  try dsimp only [detEs, List.cons_append, List.nil_append] at N
  refine seg_execs_cons (seg_stmt ?_)
  (first | walk1 | (dsimp only; walk1)); (first | walk1 | (dsimp only; walk1)); (first | walk1 | (dsimp only; walk1)); (first | walk1 | (dsimp only; walk1)); (first | walk1 | (dsimp only; walk1)); (first | walk1 | (dsimp only; walk1))
  refine ⟨rfl, ?_⟩
  rename_i d' hp0 led' hs' hz' l1 hp2 F' N'
  have l3 : @Ne Nat d' xx := Nat.ne_of_gt l1.1
  have kept := keptIn hrest N0.1 F' (fun q hq => (N' q (.tail _ hq)).1)
  have freshT : s'.heap.get? d' = none := freshIn hrest2 (N' (d', _) (.head _)).2.1 (N' (d', _) (.head _)).2.2 l1
  have k04 : ∀ b o, h₀.get? b = some o → s'.heap.get? b = some o := fun b o e => hkk b o (kk₄ b o e)
  have sin1 : ∀ tk, Since h₀ Sx s' { s' with heap := hp2, toks := tk } := fun tk => ⟨hp2, tk, rfl, fun b o hb e => kept b o (fun q => by
    subst q
    rcases hb with hb | hb
    · exact hSC hb
    · rw [hC0] at hb; cases hb) e⟩
  have hT0 : h₀.get? d' = none := by
    cases q : h₀.get? d' with
    | none => rfl
    | some o' => rw [k04 _ _ q] at freshT; cases freshT
  have hS0 : h₀.get? Sx = none := by
    cases q : h₀.get? Sx with
    | none => rfl
    | some o' => rw [kk₄ _ _ q] at hSn; cases hSn
  have hTS : d' ≠ Sx := fun q => by rw [← q, freshT] at hSs; cases hSs
  have hTC : d' ≠ CC := (N' (d', _) (.head _)).2.1
  have G0 : GI w h₀ CC d' x hp2 (fun _ => false) _ 0 := ⟨fun b o e => kept b o (fun q => by rw [q, hC0] at e; cases e) (k04 b o e), F'.ns, rfl, rfl, _, 0, N'.get (.head _), hz', Nat.le_refl _⟩
  replace G0 : ∃ m0, GI w h₀ CC d' x hp2 (fun _ => false) m0 0 := ⟨_, G0⟩
  obtain ⟨m0, G0⟩ := G0
  clear kept freshT k04 hz' hs' N' F' N0 hrest hrest2 l1
  have k0 : ∀ b o, base.get? b = some o → h₀.get? b = some o := fun b o e => kk₃ b o (hk b o e)
  have i1 := kk₃ _ _ hx; have i2 := kk₃ _ _ hdx; have i3 := kk₃ _ _ hX; have i4 := kk₃ _ _ hkn; have i5 := kk₃ _ _ hus
  have neC : ∀ {b o}, h₀.get? b = some o → b ≠ CC := fun e z => by rw [z, hC0] at e; cases e
  have nT : base.get? d' = none := by
    cases q : base.get? d' with
    | none => rfl
    | some o' => rw [k0 _ _ q] at hT0; cases hT0
  have lsu := strs_length isu; have lgu := strs_length igu
  refine seg_execs_cons (seg_For ?_)
  refine' wpAny_mono (Q := fun v s₁ => v = .ref kn ∧ ∃ tk, s₁ = { s' with heap := hp2, toks := tk }) (E := fun _ _ => False) ?ev ?lp (fun _ _ q => False.elim q)
  case ev =>
    obtain ⟨g1, g2, g3, g4, oT, cT, g5, g6, g7⟩ := G0
    rw [m_eq g3 g3 g4] at g2
    obtain ⟨rest, F, N, hrest, hrest2⟩ := frameIn (hB := base) [(d', oT), (xx, oX), (x, instObj 55 dx), (dx, dictOf (detEs w t1 t2 t3 t4 t5 t6 t7 t8 (.ref kn) (.ref us) (.ref xx) mk sn ih) 8)] hsz g2 (fun b o e => g1 b o (k0 b o e)) (by
      intro q hq
      simp only [List.mem_cons, List.not_mem_nil, or_false] at hq
      rcases hq with rfl | rfl | rfl | rfl
      all_goals (first | exact ⟨g5, hTC, nT⟩ | exact ⟨g1 _ _ i1, neC i1, nx⟩ | exact ⟨g1 _ _ i2, neC i2, ndx⟩ | exact ⟨g1 _ _ i3, neC i3, nX⟩))
    have N0 := And.intro N True.intro
    try dsimp only [detEs, List.cons_append, List.nil_append] at N
    k_steps
  case lp =>
    rintro v s₁ ⟨rfl, tkA, rfl⟩
    refine wpAny_pure ?_
    refine gen_for_list i4 isu hh' G0 (sin1 _) hSs (by omega) hws hC0 hT0 hS0 hSC hTS hTC ⟨[], rfl⟩ ?tst (fun _ _ _ => by show A'.depth + 1 + 0 ≤ 345; omega) ?_ rfl rfl rfl rfl rfl rfl (by decide) (by decide) (by decide)
    case tst =>
      intro A₁ E₁ s₁ m₁ e t S₁ kb₁ a1 a2 a3 a4 a5 a6
      obtain ⟨g1, g2, g3, g4, oT, cT, g5, g6, g7⟩ := a3
      have me := m_eq a4 g3 g4
      rw [me] at g2
      obtain ⟨rest, F, N, hrest, hrest2⟩ := frameIn (hB := base) [(d', oT), (xx, oX), (x, instObj 55 dx), (dx, dictOf (detEs w t1 t2 t3 t4 t5 t6 t7 t8 (.ref kn) (.ref us) (.ref xx) mk sn ih) 8)] hsz g2 (fun b o e => g1 b o (k0 b o e)) (by
        intro q hq
        simp only [List.mem_cons, List.not_mem_nil, or_false] at hq
        rcases hq with rfl | rfl | rfl | rfl
        all_goals (first | exact ⟨g5, hTC, nT⟩ | exact ⟨g1 _ _ i1, neC i1, nx⟩ | exact ⟨g1 _ _ i2, neC i2, ndx⟩ | exact ⟨g1 _ _ i3, neC i3, nX⟩))
      have N0 := And.intro N True.intro
      try dsimp only [detEs, List.cons_append, List.nil_append] at N
      k_steps
      rename Fr _ _ _ _ => frK
      rename News _ _ _ _ => nwK
      refine wpAny_call ?_
      refine c_usable ⟨XX, TT⟩ frK.keep (Nat.le_trans a2 (by decide)) a1 (x := x) (dx := dx) (xx := xx) (T := d') (nwK.get (by k_mem)) (nwK.get (by k_mem)) (nwK.get (by k_mem)) (nwK.get (by k_mem)) nx ndx nX nT l3 sX g6 zX (by omega) a5 ?_
      intro sH sTk sO sC sK sG sS sL
      refine wpAny_pure ⟨rfl, _, _, rfl, fun b o h1 h2 e => sK b o e h1, ?_⟩
      exact ⟨fun b o e => sK b o (g1 b o e) (fun q => by rw [q, hT0] at e; cases e), by rw [me]; exact g2.at' fun o e => sK _ o e (Ne.symm hTC), g3, g4, sO, sC, sG, sS, by omega⟩
    intro u0 u1 um uk GB kB uB sB
    refine seg_execs_cons (seg_if_yield (x := x) (m := um) (kb := uk) rfl rfl rfl uB sB ⟨_, rfl⟩ hC0 hT0 hS0 hSC hTS ?tst ?ev ?lp)
    case tst =>
      obtain ⟨g1, g2, g3, g4, oT, cT, g5, g6, g7⟩ := GB
      have me := m_eq g3 g3 g4
      rw [me] at g2
      obtain ⟨rest, F, N, hrest, hrest2⟩ := frameIn (hB := base) [(d', oT), (xx, oX), (x, instObj 55 dx), (dx, dictOf (detEs w t1 t2 t3 t4 t5 t6 t7 t8 (.ref kn) (.ref us) (.ref xx) mk sn ih) 8)] hsz g2 (fun b o e => g1 b o (k0 b o e)) (by
        intro q hq
        simp only [List.mem_cons, List.not_mem_nil, or_false] at hq
        rcases hq with rfl | rfl | rfl | rfl
        all_goals (first | exact ⟨g5, hTC, nT⟩ | exact ⟨g1 _ _ i1, neC i1, nx⟩ | exact ⟨g1 _ _ i2, neC i2, ndx⟩ | exact ⟨g1 _ _ i3, neC i3, nX⟩))
      have N0 := And.intro N True.intro
      try dsimp only [detEs, List.cons_append, List.nil_append] at N
      cases o with
      | none =>
        obtain rfl : sn = .none := hsn
        k_steps
        exact ⟨g1, by rw [me]; exact g2, g3, g4, oT, cT, g5, g6, Nat.le_succ_of_le g7⟩
      | some n =>
        obtain ⟨tn, rfl⟩ := hsn
        k_steps
        rename Fr _ _ _ _ => frK
        rename News _ _ _ _ => nwK
        refine wpAny_call ?_
        refine c_usable ⟨XX, TT⟩ frK.keep (by show A'.depth + 0 + 1 ≤ 350; omega) hh' (x := x) (dx := dx) (xx := xx) (T := d') (nwK.get (by k_mem)) (nwK.get (by k_mem)) (nwK.get (by k_mem)) (nwK.get (by k_mem)) nx ndx nX nT l3 sX g6 zX (by omega) (hon n rfl) ?_
        intro sH sTk sO sC sK sG sS sL
        k_steps
        all_goals (first | (refine Eq.symm ?_; assumption) | exact sK _ _ (by assumption) (by assumption) | exact ⟨fun b o e => sK b o (g1 b o e) (fun q => by rw [q, hT0] at e; cases e), by rw [me]; exact g2.at' fun o e => sK _ o e (Ne.symm hTC), g3, g4, sO, sC, sG, sS, by omega⟩)
    case ev =>
      intro n s₁ hon' GC
      subst hon'
      obtain ⟨g1, g2, g3, g4, oT, cT, g5, g6, g7⟩ := GC
      rw [m_eq g3 g3 g4] at g2
      obtain ⟨rest, F, N, hrest, hrest2⟩ := frameIn (hB := base) [(d', oT), (xx, oX), (x, instObj 55 dx), (dx, dictOf (detEs w t1 t2 t3 t4 t5 t6 t7 t8 (.ref kn) (.ref us) (.ref xx) mk sn ih) 8)] hsz g2 (fun b o e => g1 b o (k0 b o e)) (by
        intro q hq
        simp only [List.mem_cons, List.not_mem_nil, or_false] at hq
        rcases hq with rfl | rfl | rfl | rfl
        all_goals (first | exact ⟨g5, hTC, nT⟩ | exact ⟨g1 _ _ i1, neC i1, nx⟩ | exact ⟨g1 _ _ i2, neC i2, ndx⟩ | exact ⟨g1 _ _ i3, neC i3, nX⟩))
      have N0 := And.intro N True.intro
      try dsimp only [detEs, List.cons_append, List.nil_append] at N
      obtain ⟨tn, rfl⟩ := hsn
      k_steps
    case lp =>
      intro v0 v1 GD vB wB
      refine seg_execs_cons (seg_For ?_)
      refine' wpAny_mono (Q := fun v s₁ => v = .ref us ∧ ∃ tk, s₁ = { v1 with heap := v1.heap, toks := tk }) (E := fun _ _ => False) ?ev ?lp (fun _ _ q => False.elim q)
      case ev =>
        obtain ⟨g1, g2, g3, g4, oT, cT, g5, g6, g7⟩ := GD
        rw [m_eq g3 g3 g4] at g2
        obtain ⟨rest, F, N, hrest, hrest2⟩ := frameIn (hB := base) [(d', oT), (xx, oX), (x, instObj 55 dx), (dx, dictOf (detEs w t1 t2 t3 t4 t5 t6 t7 t8 (.ref kn) (.ref us) (.ref xx) mk sn ih) 8)] hsz g2 (fun b o e => g1 b o (k0 b o e)) (by
          intro q hq
          simp only [List.mem_cons, List.not_mem_nil, or_false] at hq
          rcases hq with rfl | rfl | rfl | rfl
          all_goals (first | exact ⟨g5, hTC, nT⟩ | exact ⟨g1 _ _ i1, neC i1, nx⟩ | exact ⟨g1 _ _ i2, neC i2, ndx⟩ | exact ⟨g1 _ _ i3, neC i3, nX⟩))
        have N0 := And.intro N True.intro
        try dsimp only [detEs, List.cons_append, List.nil_append] at N
        k_steps
      case lp =>
        rintro v s₁ ⟨rfl, tkA, rfl⟩
        refine wpAny_pure ?_
        refine gen_for_list i5 igu hh' GD (vB.step (tk := tkA) fun _ _ _ q => q) wB (by omega) hwg hC0 hT0 hS0 hSC hTS hTC ⟨yl exS (fun _ => false) wsu ++ yl exS (yS exS (fun _ => false) wsu) o.toList, by simp only [List.append_assoc]⟩ ?tst (fun _ _ _ => by show A'.depth + 1 + 0 ≤ 345; omega) ?_ rfl rfl rfl rfl rfl rfl (by decide) (by decide) (by decide)
        case tst =>
          intro A₁ E₁ s₁ m₁ e t S₁ kb₁ a1 a2 a3 a4 a5 a6
          obtain ⟨g1, g2, g3, g4, oT, cT, g5, g6, g7⟩ := a3
          have me := m_eq a4 g3 g4
          rw [me] at g2
          obtain ⟨rest, F, N, hrest, hrest2⟩ := frameIn (hB := base) [(d', oT), (xx, oX), (x, instObj 55 dx), (dx, dictOf (detEs w t1 t2 t3 t4 t5 t6 t7 t8 (.ref kn) (.ref us) (.ref xx) mk sn ih) 8)] hsz g2 (fun b o e => g1 b o (k0 b o e)) (by
            intro q hq
            simp only [List.mem_cons, List.not_mem_nil, or_false] at hq
            rcases hq with rfl | rfl | rfl | rfl
            all_goals (first | exact ⟨g5, hTC, nT⟩ | exact ⟨g1 _ _ i1, neC i1, nx⟩ | exact ⟨g1 _ _ i2, neC i2, ndx⟩ | exact ⟨g1 _ _ i3, neC i3, nX⟩))
          have N0 := And.intro N True.intro
          try dsimp only [detEs, List.cons_append, List.nil_append] at N
          k_steps
          rename Fr _ _ _ _ => frK
          rename News _ _ _ _ => nwK
          refine wpAny_call ?_
          refine c_usable ⟨XX, TT⟩ frK.keep (Nat.le_trans a2 (by decide)) a1 (x := x) (dx := dx) (xx := xx) (T := d') (nwK.get (by k_mem)) (nwK.get (by k_mem)) (nwK.get (by k_mem)) (nwK.get (by k_mem)) nx ndx nX nT l3 sX g6 zX (by omega) a5 ?_
          intro sH sTk sO sC sK sG sS sL
          refine wpAny_pure ⟨rfl, _, _, rfl, fun b o h1 h2 e => sK b o e h1, ?_⟩
          exact ⟨fun b o e => sK b o (g1 b o e) (fun q => by rw [q, hT0] at e; cases e), by rw [me]; exact g2.at' fun o e => sK _ o e (Ne.symm hTC), g3, g4, sO, sC, sG, sS, by omega⟩
        intro x0 x1 xm xk GE kE xB yB
        refine seg_execs_cons (seg_For ?_)
        obtain ⟨g1, g2, g3, g4, oT, cT, g5, g6, g7⟩ := GE
        have me := m_eq g3 g3 g4
        rw [me] at g2
        obtain ⟨rest, F, N, hrest, hrest2⟩ := frameIn (hB := base) [(d', oT), (xx, oX), (x, instObj 55 dx), (dx, dictOf (detEs w t1 t2 t3 t4 t5 t6 t7 t8 (.ref kn) (.ref us) (.ref xx) mk sn ih) 8)] hsz g2 (fun b o e => g1 b o (k0 b o e)) (by
          intro q hq
          simp only [List.mem_cons, List.not_mem_nil, or_false] at hq
          rcases hq with rfl | rfl | rfl | rfl
          all_goals (first | exact ⟨g5, hTC, nT⟩ | exact ⟨g1 _ _ i1, neC i1, nx⟩ | exact ⟨g1 _ _ i2, neC i2, ndx⟩ | exact ⟨g1 _ _ i3, neC i3, nX⟩))
        have N0 := And.intro N True.intro
        try dsimp only [detEs, List.cons_append, List.nil_append] at N
        k_steps
        rename_i D' hT2 F' N' l1
        have kept := keptIn hrest N0.1 F' (fun q hq => (N' q (.tail _ hq)).1)
        have freshD : x1.heap.get? D' = none := freshIn hrest2 (N' (D', _) (.head _)).2.1 (N' (D', _) (.head _)).2.2 l1
        have sxI : (x1.heap.get? Sx).isSome = true := by
          obtain ⟨hh1, tk1, rfl, hk1⟩ := xB
          obtain ⟨o', ho'⟩ := Option.isSome_iff_exists.mp yB
          show (hh1.get? Sx).isSome = true
          rw [hk1 _ _ (.inl rfl) ho']; rfl
        have sD : Sx ≠ D' := fun q => by rw [q, freshD] at sxI; cases sxI
        have tD : d' ≠ D' := fun q => by rw [q, freshD] at g5; cases g5
        have cD : CC ≠ D' := (N' (D', _) (.head _)).2.1.symm
        have GF : GI w h₀ CC d' x hT2 (yS exS (yS exS (yS exS (fun _ => false) wsu) o.toList) wgu) xm xk := ⟨fun b o e => kept b o (neC e) (g1 b o e), by rw [me]; exact F'.ns, g3, g4, oT, cT, kept d' oT hTC g5, g6, g7⟩
        have sinF : ∀ tk, Since h₀ Sx x0 { x1 with heap := hT2, toks := tk } := fun tk => xB.step fun b o hb e => kept b o (fun z => by subst z; rcases hb with hb | hb; exact hSC hb; rw [hC0] at hb; cases hb) e
        clear kept freshD sxI hrest hrest2 N0 F' l1 g2 me g5 g6 g7 g1 g3 g4
        refine wpAny_pure ?_
        refine gen_for_tuple (N'.get (.head _)) cD tD sD rfl rfl (StrsAre.cons _ _ (StrsAre.cons _ _ .nil)) hh' GF (sinF _) yB (by dsimp only [List.length]; omega) (by decide) hC0 hT0 hS0 hSC hTS hTC ⟨yl exS (fun _ => false) wsu ++ (yl exS (yS exS (fun _ => false) wsu) o.toList ++ yl exS (yS exS (yS exS (fun _ => false) wsu) o.toList) wgu), by simp only [List.append_assoc]⟩ ?tst (fun _ _ _ => by show A'.depth + 1 + 0 ≤ 345; omega) ?_ rfl rfl rfl rfl rfl rfl (by decide) (by decide) (by decide)
        case tst =>
          clear N' GF sinF cT oT
          intro A₁ E₁ s₁ m₁ e t S₁ kb₁ a1 a2 a3 a4 a5 a6
          obtain ⟨g1, g2, g3, g4, oT, cT, g5, g6, g7⟩ := a3
          have me := m_eq a4 g3 g4
          rw [me] at g2
          obtain ⟨rest, F, N, hrest, hrest2⟩ := frameIn (hB := base) [(d', oT), (xx, oX), (x, instObj 55 dx), (dx, dictOf (detEs w t1 t2 t3 t4 t5 t6 t7 t8 (.ref kn) (.ref us) (.ref xx) mk sn ih) 8)] hsz g2 (fun b o e => g1 b o (k0 b o e)) (by
            intro q hq
            simp only [List.mem_cons, List.not_mem_nil, or_false] at hq
            rcases hq with rfl | rfl | rfl | rfl
            all_goals (first | exact ⟨g5, hTC, nT⟩ | exact ⟨g1 _ _ i1, neC i1, nx⟩ | exact ⟨g1 _ _ i2, neC i2, ndx⟩ | exact ⟨g1 _ _ i3, neC i3, nX⟩))
          have N0 := And.intro N True.intro
          try dsimp only [detEs, List.cons_append, List.nil_append] at N
          k_steps
          rename Fr _ _ _ _ => frK
          rename News _ _ _ _ => nwK
          refine wpAny_call ?_
          refine c_usable ⟨XX, TT⟩ frK.keep (Nat.le_trans a2 (by decide)) a1 (x := x) (dx := dx) (xx := xx) (T := d') (nwK.get (by k_mem)) (nwK.get (by k_mem)) (nwK.get (by k_mem)) (nwK.get (by k_mem)) nx ndx nX nT l3 sX g6 zX (by omega) a5 ?_
          intro sH sTk sO sC sK sG sS sL
          refine wpAny_pure ⟨rfl, _, _, rfl, fun b o h1 h2 e => sK b o e h1, ?_⟩
          exact ⟨fun b o e => sK b o (g1 b o e) (fun q => by rw [q, hT0] at e; cases e), by rw [me]; exact g2.at' fun o e => sK _ o e (Ne.symm hTC), g3, g4, sO, sC, sG, sS, by omega⟩
        intro z0 z1 zm zk GZ kZ zB zS
        exact seg_end (.ok (.ret .none)) ⟨rfl, rfl, zB⟩

end Mine

namespace Mine
open PySem PySem.W PyProof.Rows PySem.Calls
set_option maxRecDepth 100000
set_option maxHeartbeats 100000000

def wStep (c : List Str × List Str) (e : Str) : List Str × List Str := if e ≠ Str.ofString "" ∧ c.1.contains (Txt.lower e) = false then (c.1 ++ [Txt.lower e], c.2 ++ [e]) else c

theorem w_fold (ex : Str → Bool) : ∀ (ws seen wanted : List Str) (S : Str → Bool), (∀ k, seen.contains k = (ex k || S k)) → (ws.foldl wStep (seen, wanted)).2 = wanted ++ yl ex S (ws.filter fun e => decide (e ≠ Str.ofString "")) := by
  intro ws
  induction ws with
  | nil => intro seen wanted S _; simp [yl]
  | cons e r ih =>
    intro seen wanted S hS
    rw [List.foldl_cons, List.filter_cons]
    by_cases he : e = Str.ofString ""
    · have : wStep (seen, wanted) e = (seen, wanted) := by simp [wStep, he]
      rw [this, ih seen wanted S hS]
      simp [he]
    · have hd : decide (e ≠ Str.ofString "") = true := by simp [he]
      rw [if_pos hd]
      cases hc : seen.contains (Txt.lower e) with
      | true =>
        have h1 : wStep (seen, wanted) e = (seen, wanted) := by unfold wStep; rw [if_neg]; rintro ⟨_, h⟩; simp only [hc] at h; exact nomatch h
        have hu : usB ex S e = false := by
          have := hS (Txt.lower e)
          rw [hc] at this
          simp only [usB]
          cases hx : ex (Txt.lower e) <;> cases hy : S (Txt.lower e) <;> rw [hx, hy] at this <;> first | rfl | exact nomatch this
        rw [h1, ih seen wanted S hS]
        have : usS ex S e = S := by funext k; simp [usS, hu]
        simp [yl, hu, this]
      | false =>
        have h1 : wStep (seen, wanted) e = (seen ++ [Txt.lower e], wanted ++ [e]) := by unfold wStep; rw [if_pos ⟨he, hc⟩]
        have hu : usB ex S e = true := by
          have := hS (Txt.lower e)
          rw [hc] at this
          simp only [usB]
          cases hx : ex (Txt.lower e) <;> cases hy : S (Txt.lower e) <;> rw [hx, hy] at this <;> first | rfl | exact nomatch this
        rw [h1, ih (seen ++ [Txt.lower e]) (wanted ++ [e]) (usS ex S e) ?_]
        · simp [yl, hu]
        · intro k
          have := hS k
          simp only [usS, hu, if_true]
          rw [← Bool.or_assoc, ← this]
          rw [List.contains_eq_mem, List.contains_eq_mem]
          by_cases hk : k = Txt.lower e <;> simp [hk]

theorem lawWords_ne : ∀ x ∈ lawWords, x ≠ Str.ofString "" := by decide

def optN (N : Str) : Option Str := if N = Str.ofString "" then none else some N
theorem w_words (wsu wgu : List Str) (N : Str) (h1 : ∀ x ∈ wsu, x ∈ lawWords) (h2 : ∀ x ∈ wgu, x ∈ lawWords) :
    (((wsu ++ [N]) ++ wgu) ++ [Str.ofString "utf-8", Str.ofString "windows-1252"]).filter (fun e => decide (e ≠ Str.ofString "")) = wsu ++ ((optN N).toList ++ (wgu ++ [Str.ofString "utf-8", Str.ofString "windows-1252"])) := by
  have e1 : wsu.filter (fun e => decide (e ≠ Str.ofString "")) = wsu := List.filter_eq_self.mpr fun x hx => by simpa using lawWords_ne x (h1 x hx)
  have e2 : wgu.filter (fun e => decide (e ≠ Str.ofString "")) = wgu := List.filter_eq_self.mpr fun x hx => by simpa using lawWords_ne x (h2 x hx)
  have e3 : [Str.ofString "utf-8", Str.ofString "windows-1252"].filter (fun e => decide (e ≠ Str.ofString "")) = [Str.ofString "utf-8", Str.ofString "windows-1252"] := by decide
  rw [List.filter_append, List.filter_append, List.filter_append, e1, e2, e3]
  unfold optN
  by_cases h : N = Str.ofString ""
  · rw [if_pos h]; simp [h]
  · rw [if_neg h]; simp [h]
theorem w_law (wsu wgu wou : List Str) (N : Str) (h1 : ∀ x ∈ wsu, x ∈ lawWords) (h2 : ∀ x ∈ wgu, x ∈ lawWords) :
    ((((wsu ++ [N]) ++ wgu) ++ [Str.ofString "utf-8", Str.ofString "windows-1252"]).foldl wStep (wou.map Txt.lower, [])).2 =
      yl (fun k => (wou.map Txt.lower).contains k) (fun _ => false) (wsu ++ ((optN N).toList ++ (wgu ++ [Str.ofString "utf-8", Str.ofString "windows-1252"]))) := by
  rw [w_fold (fun k => (wou.map Txt.lower).contains k) _ _ _ (fun _ => false) (fun k => by simp), w_words wsu wgu N h1 h2, List.nil_append]

section
variable {prog : Program} {w : World} {A : Around} {E : Value → Shared → Prop} {s : Shared} {env : Env} {h₀ : Heap} {x : Str} {body : List Stmt} {Q : Flow → Shared → Prop}
structure SJ (x : Str) (m₀ : Str → Option Value) (J : Nat → List (Addr × Obj) → Prop) (i : Nat) (m : Str → Option Value) (nx : List (Addr × Obj)) : Prop where
  map : ∀ z, z ≠ x → m z = m₀ z
  led : J i nx
theorem iter_strs {l : Addr} {vs : List Value} {ws : List Str} {m₀ : Str → Option Value} {news : List (Addr × Obj)} (J : Nat → List (Addr × Obj) → Prop)
    (hh : A.handled = none) (hl : s.heap.IsList l vs.toArray) (hi : StrsAre vs ws) (F : Fr h₀ env.locals s.heap m₀) (N : News h₀ env.locals s.heap news) (hlL : l ≠ env.locals) (hln : ∀ q ∈ news, q.1 ≠ l) (hj : J 0 news)
    (turn : ∀ i e t news₁ h tk own, i < ws.length → e = ws.getD i Str.empty → OwnOff own (news.map (·.1)) → J i news₁ → Fr h₀ env.locals h (fun y => if y = x then some (.str e t) else m₀ y) → News h₀ env.locals h (news₁ ++ own) →
      wpAny (model prog w) A (execs body env) (InvPostN h₀ env.locals (SJ x m₀ J (i + 1)) own (news.map (·.1)) { s with heap := h, toks := tk } Q) E { s with heap := h, toks := tk })
    (done : ∀ v news₁ h tk, J ws.length news₁ → Fr h₀ env.locals h (fun y => if y = x then v else m₀ y) → News h₀ env.locals h news₁ → Q .next { s with heap := h, toks := tk }) :
    wpAny (model prog w) A (pyIter (.ref l)) (fun it s₂ => LoopAtV prog w A h₀ env x body Q E it s₂) E s := by
  obtain ⟨ol, hol, _⟩ := id hl
  have hlt := Heap.lt_size hol
  have hne : l ≠ s.heap.objs.size := Nat.ne_of_lt hlt
  refine wpAny_pyIter_list hl ?_
  have W := Walks.list (prog := prog) (w := w) hh s.heap.objs.size l hne vs.toArray
  have hlen : vs.toArray.size = ws.length := by rw [List.size_toArray]; exact strs_length hi
  rw [hlen] at W
  refine loop_invN (fun i m nx => SJ x m₀ J i m nx) W ?_ ?_ ?_ ?_ ⟨⟨_, Heap.get?_push_size _ rfl, rfl, rfl⟩, hl.at fun o e => Heap.get?_push_of_some _ e⟩ (F.push _) (fun p hp => ⟨Heap.get?_push_of_some _ (N p hp).1, (N p hp).2⟩) ⟨fun _ _ => rfl, hj⟩ ?_ ?_
  · intro hm
    rcases List.mem_cons.mp hm with e | hm
    · exact absurd F.ns.lt (e ▸ Nat.lt_irrefl _)
    · exact hlL (List.mem_singleton.mp hm).symm
  · intro b hb
    rw [List.mem_singleton.mp hb]
    exact next_is_new F
  · intro p hp hI
    exact absurd (Heap.lt_size (N p hp).1) ((List.mem_singleton.mp hI) ▸ Nat.lt_irrefl _)
  · intro q hq hm
    rcases List.mem_cons.mp hm with e | hm
    · exact absurd (Heap.lt_size (N q hq).1) (e ▸ Nat.lt_irrefl _)
    · exact hln q hq (List.mem_singleton.mp hm)
  · intro i v m₁ news₁ h tk own hin hP _ hoff hJ F₁ N₁
    obtain ⟨t, rfl⟩ := strs_at hi i v (by simpa using hP)
    have hm : (fun y => if y = x then some (Value.str (ws.getD i Str.empty) t) else m₁ y) = fun y => if y = x then some (Value.str (ws.getD i Str.empty) t) else m₀ y := by
      funext z
      by_cases h1 : z = x
      · simp [h1]
      · simp only [if_neg h1]; exact hJ.map z h1
    rw [hm] at F₁
    exact turn i _ t news₁ h tk own hin rfl hoff hJ.led F₁ N₁
  · intro m₁ news₁ h tk hJ F₁ N₁
    have hm : m₁ = fun y => if y = x then m₁ x else m₀ y := by
      funext z
      by_cases h1 : z = x
      · simp [h1]
      · simp only [if_neg h1]; exact hJ.map z h1
    rw [hm] at F₁
    exact done (m₁ x) news₁ h tk hJ.led F₁ N₁
end
end Mine

namespace Mine
open PySem PySem.W PyProof.Rows PySem.Calls
set_option maxRecDepth 100000
set_option maxHeartbeats 100000000

def lawMarks : List (Array UInt8 × Str) := [(#[], Str.ofString ""), (#[239, 187, 191], Str.ofString "utf-8"), (#[254, 255], Str.ofString "utf-16be"), (#[255, 254], Str.ofString "utf-16le"), (#[0, 0, 254, 255], Str.ofString "utf-32be"), (#[255, 254, 0, 0], Str.ofString "utf-32le")]
theorem IsList.keeps' {h h' : Heap} {a : Addr} {its : Array Value} (x : h.IsList a its) (k : ∀ b o, h.get? b = some o → h'.get? b = some o) : h'.IsList a its := by
  obtain ⟨o, e, r⟩ := x
  exact ⟨o, k _ _ e, r⟩
inductive Cut (s : Shared) (P : Heap → Prop) : Flow → Shared → Prop
  | mk (h' : Heap) (tk : Nat) (p : P h') : Cut s P .next { s with heap := h', toks := tk }
theorem fr_shadow {h₀ h : Heap} {L : Addr} {x : Str} {u v : Option Value} {m : Str → Option Value} (F : Fr h₀ L h (fun y => if y = x then u else if y = x then v else m y)) : Fr h₀ L h (fun y => if y = x then u else m y) := by
  have e : (fun y => if y = x then u else if y = x then v else m y) = fun y => if y = x then u else m y := by
    funext y
    by_cases h : y = x <;> simp [h]
  exact e ▸ F

theorem BytesAre.length {vs : List Value} {bs : List (Array UInt8)} (h : BytesAre vs bs) : vs.length = bs.length := by
  induction h with
  | nil => rfl
  | cons _ ih => simp [ih]
theorem BytesAre.get {vs : List Value} {bs : List (Array UInt8)} (h : BytesAre vs bs) : ∀ i, i < bs.length → ∃ t, vs[i]? = some (.bytes (bs.getD i #[]) t) := by
  induction h with
  | nil => intro i hi; exact absurd hi (Nat.not_lt_zero _)
  | @cons b t vs bs h ih =>
    intro i hi
    cases i with
    | zero => exact ⟨t, rfl⟩
    | succ i => exact ih i (Nat.lt_of_succ_lt_succ hi)
theorem item_bytes {prog : Program} {w : World} {A : Around} {E : Value → Shared → Prop} {s : Shared} {value slice : PySem.Expr} {l : Addr} {vs : List Value} {bs : List (Array UInt8)} {i : Int} {u : Tok} {Q : Value → Shared → Prop}
    (hl : s.heap.IsList l vs.toArray) (hw : BytesAre vs bs) (h0 : 0 ≤ i) (h1 : i < (bs.length : Int)) (hfit : i < 2 ^ 63) (h : ∀ b t', b ∈ bs → Q (.bytes b t') s)
    (hs : subscripted slice false (.ref l) (.int i u) = operate [.ref l, .int i u] (getItem (.ref l) (.int i u)) := by with_unfolding_all rfl) :
    wpAny (model prog w) A (subscriptTail value slice (.ref l) (.int i u)) Q E s := by
  have hlt : i.toNat < bs.length := by omega
  obtain ⟨t', e⟩ := hw.get i.toNat hlt
  refine tail_any hl.typeIs slot_list_getitem.lookup (wpAny_getItem_list hl h0 hfit (x := .bytes _ t') (by simpa using e) (h _ t' ?_)) hs
  rw [List.getElem?_eq_getElem hlt]; exact List.getElem_mem _

structure OkR (M : Array UInt8) (N : Str) (Rs : Array UInt8) : Prop where
  lo : 4 ≤ (M ++ Rs).size
  hi : (M ++ Rs).size ≤ 100
  rhi : Rs.size ≤ 100
  strip : StripC (M ++ Rs) Rs (optN N)
  none : N = Str.ofString "" → M = #[] ∧ 4 ≤ Rs.size ∧ StripC Rs Rs none
  short : N.length ≤ 1000
theorem OkR.sz {M : Array UInt8} {N : Str} {Rs : Array UInt8} (h : OkR M N Rs) : M.size + Rs.size ≤ 16777216 := by have := h.hi; rw [Array.size_append] at this; omega
theorem OkR.sz' {M : Array UInt8} {N : Str} {a b : Array UInt8} (h : OkR M N (a ++ b)) : a.size + b.size ≤ 16777216 := by have := h.rhi; rw [Array.size_append] at this; omega
theorem okR_none : ∀ {M N Hd}, (M, N) ∈ lawMarks → Hd ∈ lawHeads → N = Str.ofString "" → OkR M N (#[60] ++ Hd) := by
  intro M N Hd hm hd hn
  simp only [lawMarks, lawHeads, List.mem_cons, List.not_mem_nil, or_false, Prod.mk.injEq] at hm hd
  rcases hm with ⟨rfl, rfl⟩ | ⟨rfl, rfl⟩ | ⟨rfl, rfl⟩ | ⟨rfl, rfl⟩ | ⟨rfl, rfl⟩ | ⟨rfl, rfl⟩
  case inl =>
    rcases hd with rfl | rfl | rfl | rfl | rfl
    all_goals exact ⟨by decide, by decide, by decide, .none (by decide) (by decide) (by decide) (by decide) (by decide), fun _ => ⟨rfl, by decide, .none (by decide) (by decide) (by decide) (by decide) (by decide)⟩, by decide⟩
  all_goals exact absurd hn (by decide)
theorem okR_some : ∀ {M N Hd}, (M, N) ∈ lawMarks → Hd ∈ lawHeads → N ≠ Str.ofString "" → OkR M N Hd := by
  intro M N Hd hm hd hn
  simp only [lawMarks, lawHeads, List.mem_cons, List.not_mem_nil, or_false, Prod.mk.injEq] at hm hd
  rcases hm with ⟨rfl, rfl⟩ | ⟨rfl, rfl⟩ | ⟨rfl, rfl⟩ | ⟨rfl, rfl⟩ | ⟨rfl, rfl⟩ | ⟨rfl, rfl⟩
  · exact absurd rfl hn
  all_goals rcases hd with rfl | rfl | rfl | rfl | rfl
  all_goals first
    | exact ⟨by decide, by decide, by decide, .u8 (by decide) (by decide) (by decide), fun h => absurd h hn, by decide⟩
    | exact ⟨by decide, by decide, by decide, .be (by decide) (by decide), fun h => absurd h hn, by decide⟩
    | exact ⟨by decide, by decide, by decide, .le (by decide) (by decide) (by decide), fun h => absurd h hn, by decide⟩
    | exact ⟨by decide, by decide, by decide, .be32 (by decide) (by decide) (by decide) (by decide), fun h => absurd h hn, by decide⟩
    | exact ⟨by decide, by decide, by decide, .le32 (by decide) (by decide) (by decide) (by decide) (by decide) (by decide), fun h => absurd h hn, by decide⟩
end Mine

namespace Mine
open PySem PySem.W PyProof.Rows PySem.Calls
set_option maxRecDepth 100000
set_option maxHeartbeats 100000000
theorem fill_N3 : (PySem.Challenge.rw_fq0001_01 = PySem.Challenge.rw_fq0001_01) ∧ (hd.heap_39 = hd.heap_39) := by k_fill; exact ⟨rfl, rfl⟩

theorem lawWords_short : ∀ x ∈ lawWords, x.length ≤ 1000 := by decide
theorem ns_ne {h : Heap} {L a : Addr} {m : Str → Option Value} {o : Obj} (n : h.Ns L m) (e : h.get? a = some o) (hd : ∀ es ep, o.data ≠ .dict es ep) : a ≠ L := by
  intro q
  obtain ⟨oL, es, ep, h1, h2, _⟩ := n
  subst q
  rw [e] at h1
  cases h1
  exact hd _ _ h2

theorem new_det {w : World} {p : Program} {lo : List Str} {mg mb : Str → Option Value} {A : Around} {s : Shared} {E : Value → Shared → Prop} {Q : Value → Shared → Prop} {h₀ : Heap} {L : Addr} {m : Str → Option Value} {news : List (Addr × Obj)} {su ou gu : Addr} {D : Array UInt8} {t : Tok} {b : Bool}
    {vsu vou vgu : List Value} {wsu wou wgu : List Str} {ku ko kg : Nat} {X : Array UInt8} {o : Option Str}
    (C : Cx w p lo mg mb h₀) (F : Fr h₀ L s.heap m) (N : News h₀ L s.heap news) (hA : A.depth ≤ 345) (hh : A.handled = none)
    (hsu : (su, W.listOf vsu.toArray ku) ∈ news) (hou : (ou, W.listOf vou.toArray ko) ∈ news) (hgu : (gu, W.listOf vgu.toArray kg) ∈ news)
    (isu : StrsAre vsu wsu) (iou : StrsAre vou wou) (igu : StrsAre vgu wgu) (zsu : wsu.length ≤ 3) (zou : wou.length ≤ 3) (zgu : wgu.length ≤ 3) (hsh : ∀ y ∈ wou, y ∈ lawWords)
    (h4 : 4 ≤ D.size) (hD : D.size ≤ 100) (hc : StripC D X o)
    (h : ∀ x dx kn us ex kk uk oX c t1 t2 t3 t4 t5 t6 t7 t8 tX v h' tk, Fr h₀ L h' m →
      News h₀ L h' ((x, instObj 55 dx) :: (dx, dictOf (detEs w t1 t2 t3 t4 t5 t6 t7 t8 (.ref kn) (.ref us) (.ref ex) (.bytes X tX) v (.bool b)) 8) :: (kn, W.listOf vsu.toArray kk) :: (us, W.listOf vgu.toArray uk) :: (ex, oX) :: news) →
      oX.SetObjOf (strKind PR w) (fun k' => (wou.map Txt.lower).contains k') c → c ≤ 100 → EncIs o v → Q (.ref x) { s with heap := h', toks := tk }) :
    wpAny (model PR w) A (call (.ref 55) [.bytes D t, .ref su, .bool b, .ref ou, .ref gu] []) Q E s := by
  have X₀ := C.X
  have e1 := strs_length isu; have e2 := strs_length iou; have e3 := strs_length igu
  refine call_cls (fI := 27) F X₀ N (by k_is) (by k_is) (by k_is) fun x dx h' F' N' hlt hx => ?_
  have nx := N' (x, instObj 55 dx) (.head _)
  have ndx := N' (dx, dictOf [] 0) (.tail _ (.head _))
  have nsu := N' _ (.tail _ (.tail _ hsu)); have nou := N' _ (.tail _ (.tail _ hou)); have ngu := N' _ (.tail _ (.tail _ hgu))
  refine c_init (base := h₀) C F'.keep (by rw [depth_under_make]; omega) hh nx.1 ndx.1 nsu.1 nou.1 ngu.1 nx.2.2 ndx.2.2 nsu.2.2 nou.2.2 ngu.2.2 hx (hlt _ hsu) (hlt _ hou) (hlt _ hgu) isu iou igu (by omega) (by omega) (by omega) (fun y hy => lawWords_short y (hsh y hy)) h4 hD hc ?_
  intro kn us ex kk uk oX c t1 t2 t3 t4 t5 t6 t7 t8 tX v h2 tk k2 e1 e2 e3 e4 e5 e6 e7 e8 e9 e10
  have kF : Fr h₀ L h2 m := by
    have hL : L ≠ dx := Ne.symm ndx.2.1
    refine ⟨F'.ns.at' fun o e => k2 L o e hL, fun b o e => k2 b o (F'.keep b o e) (fun q => by subst q; rw [ndx.2.2] at e; cases e), F'.above⟩
  have sd : ∀ es ep, oX.data ≠ .dict es ep := by
    obtain ⟨_, es, ep, t, q, _⟩ := e5
    intro es ep; rw [q]; intro z; cases z
  refine ⟨rfl, h x dx kn us ex kk uk oX c t1 t2 t3 t4 t5 t6 t7 t8 tX v h2 tk kF ?_ e5 e6 e7⟩
  intro q hq
  rcases List.mem_cons.mp hq with rfl | hq
  · exact ⟨k2 _ _ nx.1 (Nat.ne_of_gt hx), nx.2⟩
  rcases List.mem_cons.mp hq with rfl | hq
  · exact ⟨e1, ndx.2⟩
  rcases List.mem_cons.mp hq with rfl | hq
  · exact ⟨e2, ns_ne kF.ns e2 (fun _ _ z => by cases z), e8⟩
  rcases List.mem_cons.mp hq with rfl | hq
  · exact ⟨e3, ns_ne kF.ns e3 (fun _ _ z => by cases z), e9⟩
  rcases List.mem_cons.mp hq with rfl | hq
  · exact ⟨e4, ns_ne kF.ns e4 sd, e10⟩
  · exact ⟨k2 _ _ (N' q (.tail _ (.tail _ hq))).1 (Nat.ne_of_lt (hlt q hq)), (N' q (.tail _ (.tail _ hq))).2⟩
theorem eq_str_v {prog : Program} {w : World} {A : Around} {E : Value → Shared → Prop} {s : Shared} {x y : Str} {t u : Tok} {β : Bool} {Q : Value → Shared → Prop} (e : (x == y) = β) (h : Q (.bool β) s) : wpAny (model prog w) A (compareOp .Eq (.str x t) (.str y u)) Q E s := PyProof.Rows.eq_str (e ▸ h)
theorem ne_str_v {prog : Program} {w : World} {A : Around} {E : Value → Shared → Prop} {s : Shared} {x y : Str} {t u : Tok} {β : Bool} {Q : Value → Shared → Prop} (e : (x != y) = β) (h : Q (.bool β) s) : wpAny (model prog w) A (compareOp .NotEq (.str x t) (.str y u)) Q E s := PyProof.Rows.ne_str (e ▸ h)
end Mine

namespace Mine
open PySem PySem.W PyProof.Rows PySem.Calls
set_option maxRecDepth 100000
set_option maxHeartbeats 100000000
open SeqAt

section
variable {prog : Program} {w : World} {A : Around} {E : Value → Shared → Prop} {s : Shared} {a b : Addr}
theorem eqAt_bytes (b : Array UInt8) (t u : Tok) : EqAt A s (.bytes b t) (.bytes b u) true := fun prog w E Q hq => by
  unfold eqBool
  refine wpAny_holding ?_
  refine wpAny_ite_split (fun _ => ?_) (fun hab => ?_)
  · exact wpAny_bind (wpAny_rule (wpAny_pure hq))
  · refine wpAny_bind ?_
    show wpAny _ _ (compareOp .Eq (.bytes b t) (.bytes b u)) _ _ _
    exact eq_bytes_v (β := true) (by simp) (wpAny_truthy_bool hq)
theorem eqAt_str (x : Str) (t u : Tok) : EqAt A s (.str x t) (.str x u) true := fun prog w E Q hq => by
  unfold eqBool
  refine wpAny_holding ?_
  refine wpAny_ite_split (fun _ => ?_) (fun hab => ?_)
  · exact wpAny_bind (wpAny_rule (wpAny_pure hq))
  · refine wpAny_bind ?_
    show wpAny _ _ (compareOp .Eq (.str x t) (.str x u)) _ _ _
    exact eq_str_v (β := true) (by simp) (wpAny_truthy_bool hq)
theorem eqAt_enc {o : Option Str} {v v' : Value} (h1 : EncIs o v) (h2 : EncIs o v') : EqAt A s v v' true := by
  cases o with
  | none => obtain rfl : v = .none := h1
            obtain rfl : v' = .none := h2
            exact EqAt.same _
  | some x => obtain ⟨t, rfl⟩ := h1
              obtain ⟨u, rfl⟩ := h2
              exact eqAt_str x t u
theorem ne_pair {X : Array UInt8} {t1 t2 : Tok} {v1 v2 : Value} {o : Option Str} {Q : Value → Shared → Prop} (h1 : IsTup s.heap a #[.bytes X t1, v1]) (h2 : IsTup s.heap b #[.bytes X t2, v2]) (e1 : EncIs o v1) (e2 : EncIs o v2) (hu : A.units < cLine)
    (h : Q (.bool false) s) : wpAny (model prog w) A (compareOp .NotEq (.ref a) (.ref b)) Q E s :=
  RcNeAt.tuples (A := A) (s := s) (e := fun _ => true) h1 h2 hu (fun j q1 q2 => by
    match j, q1, q2 with
    | 0, _, _ => exact eqAt_bytes _ _ _
    | 1, _, _ => exact eqAt_enc e1 e2
    | j + 2, q1, _ => exact absurd q1 (by simp)) prog w E Q h
theorem eq_pair_str {x : Str} {t1 t2 : Tok} {Q : Value → Shared → Prop} (h1 : IsTup s.heap a #[.str x t1, .none]) (h2 : IsTup s.heap b #[.str x t2, .none]) (hu : A.units < cLine)
    (h : Q (.bool true) s) : wpAny (model prog w) A (compareOp .Eq (.ref a) (.ref b)) Q E s :=
  RcAt.tuples (A := A) (s := s) (e := fun _ => true) h1 h2 hu (fun j q1 q2 => by
    match j, q1, q2 with
    | 0, _, _ => exact eqAt_str _ _ _
    | 1, _, _ => exact EqAt.same _
    | j + 2, q1, _ => exact absurd q1 (by simp)) prog w E Q h
theorem ne_strs {vs us : List Value} {ws : List Str} {Q : Value → Shared → Prop} (h1 : s.heap.IsList a vs.toArray) (h2 : s.heap.IsList b us.toArray) (e1 : StrsAre vs ws) (e2 : StrsAre us ws) (hu : A.units < cLine)
    (h : Q (.bool false) s) : wpAny (model prog w) A (compareOp .NotEq (.ref a) (.ref b)) Q E s :=
  RcNeAt.lists (A := A) (s := s) (e := fun _ => true) h1 h2 (by rw [List.size_toArray, List.size_toArray, strs_length e1, strs_length e2]) hu (fun j q1 q2 => by
    obtain ⟨t, r1⟩ := strs_at e1 j _ (by rw [List.getElem?_eq_getElem (by simpa using q1)])
    obtain ⟨u, r2⟩ := strs_at e2 j _ (by rw [List.getElem?_eq_getElem (by simpa using q2)])
    simp only [List.getElem_toArray]
    rw [r1, r2]
    exact eqAt_str _ _ _) prog w E Q (by
      have : (List.range vs.toArray.size).all (fun _ => true) = true := List.all_eq_true.mpr fun _ _ => rfl
      rw [this]; exact h)
end
theorem units_law {A : Around} {env : Env} (h : A.units ≤ 1000) : (A.deeper env).units < cLine := by
  show A.units + 3 < 9900
  omega
end Mine

namespace Mine
open PySem PySem.W PyProof.Rows PySem.Calls
set_option maxRecDepth 100000
set_option maxHeartbeats 100000000
open SeqAt

section
variable {prog : Program} {w : World} {A : Around} {E : Value → Shared → Prop} {s : Shared} {a b : Addr}
theorem eqAt_strs (x y : Str) (t u : Tok) : EqAt A s (.str x t) (.str y u) (x == y) := fun prog w E Q hq => by
  unfold eqBool
  refine wpAny_holding ?_
  refine wpAny_ite_split (fun hab => ?_) (fun hab => ?_)
  · have : x = y := by have := eq_of_beq hab; injection this
    subst this
    rw [beq_self_eq_true] at hq
    exact wpAny_bind (wpAny_rule (wpAny_pure hq))
  · refine wpAny_bind ?_
    show wpAny _ _ (compareOp .Eq (.str x t) (.str y u)) _ _ _
    exact eq_str_v rfl (wpAny_truthy_bool hq)
def eqV (x : Str) (v : Value) : Bool := match v with | .str z _ => z == x | _ => false
theorem any_eqV (x : Str) {vs : List Value} {ws : List Str} (h : StrsAre vs ws) : vs.any (eqV x) = ws.contains x := by
  induction h with
  | nil => rfl
  | cons y t h ih =>
    rw [List.any_cons, List.contains_cons, ih]
    show (y == x || _) = _
    have : (y == x) = (x == y) := by
      by_cases e : x = y
      · subst e; rfl
      · rw [beq_eq_false_iff_ne.mpr e, beq_eq_false_iff_ne.mpr (Ne.symm e)]
    rw [this]
theorem notIn_strs {x : Str} {t : Tok} {vs : List Value} {ws : List Str} {Q : Value → Shared → Prop} (hl : s.heap.IsList a vs.toArray) (hi : StrsAre vs ws) (h : Q (.bool (!ws.contains x)) s) :
    wpAny (model prog w) A (compareOp .NotIn (.str x t) (.ref a)) Q E s := by
  refine notIn_listAt (eqV x) hl (fun y hy => ?_) ?_
  · obtain ⟨i, hlt, hi'⟩ := List.getElem_of_mem (Array.mem_toList_iff.mpr hy)
    obtain ⟨u, e⟩ := strs_at hi i y (by rw [← hi']; simp at hlt ⊢)
    subst e
    exact eqAt_strs _ _ _ _
  · rw [List.any_toArray, any_eqV x hi]; exact h
end
theorem StrsAre.app {vs us : List Value} {ws xs : List Str} (h : StrsAre vs ws) (k : StrsAre us xs) : StrsAre (vs ++ us) (ws ++ xs) := by
  induction h with
  | nil => exact k
  | cons y t h ih => exact .cons y t ih
theorem isTup_of {h₀ h : Heap} {L a : Addr} {o : Obj} {its : Array Value} {n : Nat} {news : List (Addr × Obj)} (N : News h₀ L h news) (hm : (a, o) ∈ news) (hc : o.cls = .type "tuple") (hd : o.data = .seq its n) : IsTup h a its := ⟨_, (N _ hm).1, hc, n, hd⟩
theorem isList_in {h₀ h : Heap} {L a : Addr} {o : Obj} {its : Array Value} {n : Nat} {news : List (Addr × Obj)} (N : News h₀ L h news) (hm : (a, o) ∈ news) (hc : o.cls = .type "list") (hd : o.data = .seq its n) : h.IsList a its := ⟨_, (N _ hm).1, hc, n, hd⟩
theorem add_lists_N {prog : Program} {w : World} {A : Around} {E : Value → Shared → Prop} {s : Shared} {h₀ : Heap} {L : Addr} {m : Str → Option Value} {news : List (Addr × Obj)} {a b : Addr} {oa ob : Obj} {vs us : List Value} {n k : Nat} {Q : Value → Shared → Prop}
    (F : Fr h₀ L s.heap m) (N : News h₀ L s.heap news) (ha : (a, oa) ∈ news) (hb : (b, ob) ∈ news) (ca : oa.cls = .type "list") (cb : ob.cls = .type "list") (da : oa.data = .seq vs.toArray n) (db : ob.data = .seq us.toArray k) (hsz : vs.length + us.length ≤ 100)
    (h : ∀ c h', Fr h₀ L h' m → News h₀ L h' ((c, W.listOf (vs ++ us).toArray 0) :: news) → (∀ q ∈ news, @LT.lt Nat _ q.1 c) → Q (.ref c) { s with heap := h' }) :
    wpAny (model prog w) A (binaryOp .Add (.ref a) (.ref b)) Q E s :=
  add_lists F N (isList_in N ha ca da) (isList_in N hb cb db) (fun h' F' N' => h _ h' F' N' fun q hq => Heap.lt_size (N q hq).1) (Nat.le_trans hsz (by rw [sizeLine_eq]; decide))
theorem any_contains (l : List Str) (a : Str) : l.any (fun x => x == a) = l.contains a := by
  induction l with
  | nil => rfl
  | cons b r ih =>
    rw [List.any_cons, List.contains_cons, ih]
    have : (b == a) = (a == b) := by
      by_cases e : a = b
      · subst e; rfl
      · rw [beq_eq_false_iff_ne.mpr e, beq_eq_false_iff_ne.mpr (Ne.symm e)]
    rw [this]
theorem wStep_skip1 {c : List Str × List Str} {e : Str} (h : c.1.any (fun x => x == Txt.lower e) = true) : wStep c e = c := by
  rw [any_contains] at h
  unfold wStep
  rw [if_neg]
  rintro ⟨_, q⟩
  rw [h] at q; exact nomatch q
theorem wStep_skip2 {c : List Str × List Str} {e : Str} (h : (e != Str.ofString "") = false) : wStep c e = c := by
  unfold wStep
  rw [if_neg]
  rintro ⟨q, _⟩
  have := bne_iff_ne.mpr q
  rw [h] at this; exact nomatch this
theorem wStep_take {c : List Str × List Str} {e : Str} (h : (e != Str.ofString "") = true) (k : c.1.any (fun x => x == Txt.lower e) = false) : wStep c e = (c.1 ++ [Txt.lower e], c.2 ++ [e]) := by
  rw [any_contains] at k
  unfold wStep
  rw [if_pos ⟨bne_iff_ne.mp h, k⟩]
theorem yl_length (ex : Str → Bool) : ∀ (ws : List Str) (S : Str → Bool), (yl ex S ws).length ≤ ws.length
  | [], _ => Nat.le_refl _
  | e :: r, S => by
    have := yl_length ex r (usS ex S e)
    simp only [yl, List.length_append, List.length_cons]
    split <;> simp only [List.length_cons, List.length_nil] <;> omega
end Mine

namespace Mine
open PySem PySem.W PyProof.Rows PySem.Calls
set_option maxRecDepth 100000
set_option maxHeartbeats 100000000
theorem fill_M1 : (PySem.Challenge.rw_fq0001_01 = PySem.Challenge.rw_fq0001_01) ∧ (hd.heap_39 = hd.heap_39) := by k_fill; exact ⟨rfl, rfl⟩

local macro_rules | `(tactic| walk_at "compareOp Eq ref ref") => `(tactic| (k_here; (with_reducible show wpAny _ _ (compareOp CmpOp.Eq (Value.ref _) (Value.ref _)) _ _ _); (with_reducible rename News _ _ _ _ => nwK); k_dflt (refine eq_pair_str (isTup_of nwK (by k_mem) rfl rfl) (isTup_of nwK (by k_mem) rfl rfl) (units_law (by with_reducible assumption)) ?_)))
local macro_rules | `(tactic| walk_at "call ref") => `(tactic| (k_here; (with_reducible show wpAny _ _ (call (Value.ref _) [Value.str _ _]) _ _ _); (with_reducible rename Fr _ _ _ _ => frK); (with_reducible rename News _ _ _ _ => nwK); k_dflt ((refine call_meth nwK (by k_mem) ?_); (refine c_strip_str (Cx.keeps ⟨by assumption, by assumption⟩ (Fr.keep frK)) (by dsimp only [Around.deeper]; omega) ?_); intro sA sT sH sTk sK sO sF; (have frN := Fr.keptAll frK sK); (have nwN := News.add frK nwK sK sO sF); clear frK nwK sK sO sF; (try dsimp only))))
local macro_rules | `(tactic| walk_at "compareOp NotIn") => `(tactic| (k_here; (with_reducible show wpAny _ _ (compareOp CmpOp.NotIn (Value.str _ _) (Value.ref _)) _ _ _); (with_reducible rename News _ _ _ _ => nwK); k_dflt (refine notIn_strs (isList_in nwK (by k_mem) rfl rfl) (by with_reducible assumption) ?_)))
local macro_rules | `(tactic| walk_at "binaryOp Add ref ref") => `(tactic| (k_here; (with_reducible show wpAny _ _ (binaryOp Operator.Add (Value.ref _) (Value.ref _)) _ _ _); (with_reducible rename Fr _ _ _ _ => frK); (with_reducible rename News _ _ _ _ => nwK); k_dflt ((refine add_lists_N frK nwK (by k_mem) (by k_mem) rfl rfl rfl rfl (by simp only [List.length_append, List.length_cons, List.length_nil]; omega) ?_); clear frK nwK; intro _ _ _ _ ltX; (try simp only [List.mem_cons, List.not_mem_nil, or_false, forall_eq_or_imp, forall_eq] at ltX))))
local macro_rules | `(tactic| walk_at "compareOp NotEq ref ref") => `(tactic| (k_here; (with_reducible show wpAny _ _ (compareOp CmpOp.NotEq (Value.ref _) (Value.ref _)) _ _ _); (with_reducible rename News _ _ _ _ => nwK); k_dflt (first | refine ne_strs (isList_in nwK (by k_mem) rfl rfl) (isList_in nwK (by k_mem) rfl rfl) (by with_reducible assumption) (by with_reducible assumption) (units_law (by with_reducible assumption)) ?_ | refine ne_pair (isTup_of nwK (by k_mem) rfl rfl) (isTup_of nwK (by k_mem) rfl rfl) (by first | with_reducible assumption | exact rfl | exact ⟨_, rfl⟩) (by first | exact rfl | exact ⟨_, rfl⟩) (units_law (by with_reducible assumption)) ?_)))
local macro_rules | `(tactic| walk_at "compareOp NotEq bytes bytes") => `(tactic| k_dflt (refine ne_bytes_v (β := false) (by simp) ?_))
local macro_rules | `(tactic| walk_at "compareOp Eq str str") => `(tactic| k_dflt (first | refine eq_str_v (by with_reducible assumption) ?_ | refine PyProof.Rows.eq_str ?_))
local macro_rules | `(tactic| walk_at "compareOp NotEq str str") => `(tactic| k_dflt (first | refine ne_str_v (β := false) (bne_self_eq_false _) ?_ | refine ne_str_v (by with_reducible assumption) ?_ | refine PyProof.Rows.ne_str ?_))
local macro_rules | `(tactic| walk_at "call ref") => `(tactic| (k_here; (with_reducible show wpAny _ _ (call (Value.ref _) [Value.bytes _ _]) _ _ _); (with_reducible rename Fr _ _ _ _ => frK); (with_reducible rename News _ _ _ _ => nwK); k_dflt ((refine call_meth nwK (by k_mem) ?_); (refine c_strip (Cx.keeps ⟨by assumption, by assumption⟩ (Fr.keep frK)) (by dsimp only [Around.deeper]; omega) (by assumption) (by assumption) (by assumption) ?_); intro sA sT sV sH sTk sK sO sE sF; (have frN := Fr.keptAll frK sK); (have nwN := News.add frK nwK sK sO sF); clear frK nwK sK sO sF; (try dsimp only))))
local macro_rules | `(tactic| walk_at "binaryOp Add bytes bytes") => `(tactic| (k_here; (with_reducible show wpAny _ _ (binaryOp Operator.Add (Value.bytes _ _) (Value.bytes _ _)) _ _ _); k_dflt (first | refine KBy.add_bytes (OkR.sz (by with_reducible assumption)) ?_ | refine KBy.add_bytes (OkR.sz' (by with_reducible assumption)) ?_); intro _ _))
local macro_rules | `(tactic| walk_at "eval Call") => `(tactic| ((with_reducible show wpAny _ _ (eval (Expr.Call (Expr.Name _ _) _ [] _) _) _ _ _); k_dflt (refine Call_ ?_)))
local macro_rules | `(tactic| walk_at "call ref") => `(tactic| (k_here; (with_reducible show wpAny _ _ (call (Value.ref 87) [Value.ref _, Value.int _ _]) _ _ _); (with_reducible rename Fr _ _ _ _ => frK); (with_reducible rename News _ _ _ _ => nwK); k_dflt ((refine c_law_at (Cx.keeps ⟨by assumption, by assumption⟩ (Fr.keep frK)) (by dsimp only [Around.deeper]; omega) (IsList.keeps' (by assumption) (Fr.keep frK)) (by assumption) (by assumption) (by decide) (by decide) ?_); intro lwV lwT lwH lwK lwL; (have lwF := Fr.keptAll frK lwL); (have lwW := News.kb nwK lwL); clear frK nwK lwL; (try dsimp only at lwF lwW))))
local macro_rules | `(tactic| walk_at "call ref") => `(tactic| (k_here; (with_reducible show wpAny _ _ (call (Value.ref 73) _) _ _ _); (with_reducible rename Fr _ _ _ _ => frK); (with_reducible rename News _ _ _ _ => nwK); k_dflt ((refine c_law_heads (Cx.keeps ⟨by assumption, by assumption⟩ (Fr.keep frK)) (by dsimp only [Around.deeper]; omega) ?_); intro lwA lwV lwM lwH lwT lwK lwL lwS lwN; (replace lwL := isList_of lwL); (have lwF := Fr.keptAll frK lwK); (have lwW := News.kb nwK lwK); clear frK nwK lwK; (try dsimp only at lwF lwW lwL))))
local macro_rules | `(tactic| walk_at "call ref") => `(tactic| (k_here; (with_reducible show wpAny _ _ (call (Value.ref 94) [Value.int _ _]) _ _ _); (with_reducible rename Fr _ _ _ _ => frK); (with_reducible rename News _ _ _ _ => nwK); k_dflt ((refine c_law_list (Cx.keeps ⟨by assumption, by assumption⟩ (Fr.keep frK)) (by dsimp only [Around.deeper]; omega) (by rfl) ?_); intro lwA lwV lwM lwC lwH lwT lwK lwL lwS lwZ lwX lwN; (have lwF := Fr.keptAll frK lwK); (have lwW := News.add frK nwK lwK lwL lwN); clear frK nwK lwK lwL lwN; (try dsimp only at lwF lwW))))
local macro_rules | `(tactic| walk_at "call ref") => `(tactic| (k_here; (with_reducible show wpAny _ _ (call (Value.ref 55) _ _) _ _ _); (with_reducible rename Fr _ _ _ _ => frK); (with_reducible rename News _ _ _ _ => nwK); (with_reducible rename OkR _ _ _ => okK); k_dflt ((refine new_det (Cx.mk (by assumption) (by assumption)) frK nwK (by dsimp only [Around.deeper]; omega) (by rfl) (by k_mem) (by k_mem) (by k_mem) (by assumption) (by assumption) (by assumption) (by assumption) (by assumption) (by assumption) (by assumption) okK.lo okK.hi okK.strip ?_); clear frK nwK; intro _ _ _ _ _ _ _ _ _ _ _ _ _ _ _ _ _ _ _ _ _ _ _ _ _ _)))
local macro_rules | `(tactic| walk_at "subscriptTail") => `(tactic| (k_here; (with_reducible show wpAny _ _ (subscriptTail _ _ (Value.ref _) (Value.int _ _)) _ _ _); (with_reducible rename BytesAre _ lawHeads => lwS); k_dflt (refine item_bytes (by assumption) lwS (Int.fmod_nonneg_of_pos _ (by decide)) (Int.fmod_lt_of_pos _ (by decide)) (Int.lt_trans (Int.fmod_lt_of_pos _ (by decide)) (by decide : (5 : Int) < 2 ^ 63)) ?_); intro lwt lwlt lwmem; clear lwS))

theorem c_law {w : World} {p : Program} {lo : List Str} {mg mb : Str → Option Value} {A : Around} {s : Shared} {R : Result → Shared → Prop} {l : Addr} {vs : List Value} {ns : List Int}
    (C : Cx w p lo mg mb s.heap) (hA : A.depth ≤ 310) (hU : A.units ≤ 1000) (hh : A.handled = none) (hg : s.gens = #[]) (hl : s.heap.IsList l vs.toArray) (hi : IntsAre vs ns) (hn : ns.length ≤ 63)
    (h : ∀ h' tk gens, (∀ b o, s.heap.get? b = some o → h'.get? b = some o) → AllBare gens → R (.ok (.ret (.bool true))) { s with heap := h', toks := tk, gens := gens }) :
    codeAny (model PR w) A (.call (.ref 99) ⟨[.ref l], []⟩) R s := by
  obtain ⟨X, T⟩ := C
  obtain ⟨hd', dp, frs, gs, un⟩ := A
  dsimp only at hA hU hh
  subst hh
  refine' enter (K := hd.heap_39 w.params) (binds := [(Str.ofString "script", .ref l)]) X T ?kd ?k6 ?k7 ?k9 ?kB ?_ ?c5 ?c2 ?c3 ?c4
  case kd => have : recursionLimit = 1000 := rfl
             (try dsimp only); omega
  case k6 => k_is
  case k7 => k_is
  case k9 => exact BindsTo.of_eq rfl
  case c5 => decide
  case kB => exact locs rfl
  case c2 => exact rfl
  case c3 => exact rfl
  case c4 => exact rfl
  intro L h₁ F N
  try dsimp only
  refine wpAny_execs_cons (wpAny_mono (Q := Cut s fun h' => ∃ M Nm tM tN, (M, Nm) ∈ lawMarks ∧ Fr s.heap L h' (fun y => if y = Str.ofString "named" then some (Value.str Nm tN) else if y = Str.ofString "mark" then some (Value.bytes M tM) else [(Str.ofString "script", Value.ref l)].reverse.lookup y) ∧ News s.heap L h' []) ?s1 (fun f s' hp => ?_) (fun _ _ q => q))
  case s1 =>
    k_steps
    all_goals (refine Cut.mk _ _ ⟨_, _, _, _, ?_, (by assumption), (by assumption)⟩; simp [lawMarks])
  clear F N h₁; obtain ⟨h₁, tk₁, M, Nm, tM, tN, hMN, F, N⟩ := hp
  try dsimp only
  refine wpAny_execs_cons (wpAny_mono (Q := Cut s fun h' => ∃ nb tb, Fr s.heap L h' (fun y => if y = Str.ofString "number" then some (Value.int nb tb) else if y = Str.ofString "named" then some (Value.str Nm tN) else if y = Str.ofString "mark" then some (Value.bytes M tM) else [(Str.ofString "script", Value.ref l)].reverse.lookup y) ∧ News s.heap L h' []) ?s2 (fun f s' hp => ?_) (fun _ _ q => q))
  case s2 =>
    k_steps
    all_goals exact Cut.mk _ _ ⟨_, _, (by assumption), (by assumption)⟩
  clear F N h₁; obtain ⟨h₁, tk₁, nb, tb, F, N⟩ := hp
  try dsimp only
  refine wpAny_execs_cons (wpAny_mono (Q := Cut s fun h' => ∃ Hd tH, Hd ∈ lawHeads ∧ Fr s.heap L h' (fun y => if y = Str.ofString "rest" then some (Value.bytes Hd tH) else if y = Str.ofString "number" then some (Value.int nb tb) else if y = Str.ofString "named" then some (Value.str Nm tN) else if y = Str.ofString "mark" then some (Value.bytes M tM) else [(Str.ofString "script", Value.ref l)].reverse.lookup y) ∧ News s.heap L h' []) ?s3 (fun f s' hp => ?_) (fun _ _ q => q))
  case s3 =>
    k_steps
    all_goals exact Cut.mk _ _ ⟨_, _, (by assumption), (by assumption), (by assumption)⟩
  clear F N h₁; obtain ⟨h₁, tk₁, Hd, tH, hHd, F, N⟩ := hp
  try dsimp only
  refine wpAny_execs_cons (wpAny_mono (Q := Cut s fun h' => ∃ Rs tR, OkR M Nm Rs ∧ Fr s.heap L h' (fun y => if y = Str.ofString "rest" then some (Value.bytes Rs tR) else if y = Str.ofString "number" then some (Value.int nb tb) else if y = Str.ofString "named" then some (Value.str Nm tN) else if y = Str.ofString "mark" then some (Value.bytes M tM) else [(Str.ofString "script", Value.ref l)].reverse.lookup y) ∧ News s.heap L h' []) ?s4 (fun f s' hp => ?_) (fun _ _ q => q))
  case s4 =>
    by_cases hN : Nm = Str.ofString ""
    · have hok := okR_none hMN hHd hN
      k_steps
      all_goals (rename (_ == Str.ofString "") = _ => e4)
      · exact Cut.mk _ _ ⟨_, _, hok, fr_shadow (by assumption), (by assumption)⟩
      · exact absurd (hN ▸ e4) (by decide)
    · have hok := okR_some hMN hHd hN
      k_steps
      all_goals (rename (_ == Str.ofString "") = _ => e4)
      · exact absurd (eq_of_beq e4) hN
      · exact Cut.mk _ _ ⟨_, _, hok, (by assumption), (by assumption)⟩
  clear F N h₁; obtain ⟨h₁, tk₁, Rs, tR, hok, F, N⟩ := hp
  try dsimp only
  refine wpAny_execs_cons (wpAny_mono (Q := Cut s fun h' => ∃ su vsu wsu ksu, StrsAre vsu wsu ∧ wsu.length ≤ 3 ∧ (∀ x ∈ wsu, x ∈ lawWords) ∧ Fr s.heap L h' (fun y => if y = Str.ofString "sure" then some (Value.ref su) else if y = Str.ofString "rest" then some (Value.bytes Rs tR) else if y = Str.ofString "number" then some (Value.int nb tb) else if y = Str.ofString "named" then some (Value.str Nm tN) else if y = Str.ofString "mark" then some (Value.bytes M tM) else [(Str.ofString "script", Value.ref l)].reverse.lookup y) ∧ News s.heap L h' [(su, W.listOf vsu.toArray ksu)]) ?s5 (fun f s' hp => ?_) (fun _ _ q => q))
  case s5 =>
    k_steps
    all_goals exact Cut.mk _ _ ⟨_, _, _, _, (by assumption), (by assumption), (by assumption), (by assumption), (by assumption)⟩
  clear F N h₁; obtain ⟨h₁, tk₁, su, vsu, wsu, ksu, isu, zsu, qsu, F, N⟩ := hp
  try dsimp only
  refine wpAny_execs_cons (wpAny_mono (Q := Cut s fun h' => ∃ ou vou wou kou, StrsAre vou wou ∧ wou.length ≤ 3 ∧ (∀ x ∈ wou, x ∈ lawWords) ∧ Fr s.heap L h' (fun y => if y = Str.ofString "out" then some (Value.ref ou) else if y = Str.ofString "sure" then some (Value.ref su) else if y = Str.ofString "rest" then some (Value.bytes Rs tR) else if y = Str.ofString "number" then some (Value.int nb tb) else if y = Str.ofString "named" then some (Value.str Nm tN) else if y = Str.ofString "mark" then some (Value.bytes M tM) else [(Str.ofString "script", Value.ref l)].reverse.lookup y) ∧ News s.heap L h' [(ou, W.listOf vou.toArray kou), (su, W.listOf vsu.toArray ksu)]) ?s6 (fun f s' hp => ?_) (fun _ _ q => q))
  case s6 =>
    k_steps
    all_goals exact Cut.mk _ _ ⟨_, _, _, _, (by assumption), (by assumption), (by assumption), (by assumption), (by assumption)⟩
  clear F N h₁; obtain ⟨h₁, tk₁, ou, vou, wou, kou, iou, zou, qou, F, N⟩ := hp
  try dsimp only
  refine wpAny_execs_cons (wpAny_mono (Q := Cut s fun h' => ∃ gu vgu wgu kgu, StrsAre vgu wgu ∧ wgu.length ≤ 3 ∧ (∀ x ∈ wgu, x ∈ lawWords) ∧ Fr s.heap L h' (fun y => if y = Str.ofString "guessed" then some (Value.ref gu) else if y = Str.ofString "out" then some (Value.ref ou) else if y = Str.ofString "sure" then some (Value.ref su) else if y = Str.ofString "rest" then some (Value.bytes Rs tR) else if y = Str.ofString "number" then some (Value.int nb tb) else if y = Str.ofString "named" then some (Value.str Nm tN) else if y = Str.ofString "mark" then some (Value.bytes M tM) else [(Str.ofString "script", Value.ref l)].reverse.lookup y) ∧ News s.heap L h' [(gu, W.listOf vgu.toArray kgu), (ou, W.listOf vou.toArray kou), (su, W.listOf vsu.toArray ksu)]) ?s7 (fun f s' hp => ?_) (fun _ _ q => q))
  case s7 =>
    k_steps
    all_goals exact Cut.mk _ _ ⟨_, _, _, _, (by assumption), (by assumption), (by assumption), (by assumption), (by assumption)⟩
  clear F N h₁; obtain ⟨h₁, tk₁, gu, vgu, wgu, kgu, igu, zgu, qgu, F, N⟩ := hp
  try dsimp only
  refine wpAny_execs_cons (wpAny_mono (Q := Cut s fun h' => ∃ x dx kn us xx kk uk oX cX t1 t2 t3 t4 t5 t6 t7 t8 tX sn b, oX.SetObjOf (strKind PR w) (fun k' => (wou.map Txt.lower).contains k') cX ∧ cX ≤ 100 ∧ EncIs (optN Nm) sn ∧ Fr s.heap L h' (fun y => if y = Str.ofString "detector" then some (Value.ref x) else if y = Str.ofString "guessed" then some (Value.ref gu) else if y = Str.ofString "out" then some (Value.ref ou) else if y = Str.ofString "sure" then some (Value.ref su) else if y = Str.ofString "rest" then some (Value.bytes Rs tR) else if y = Str.ofString "number" then some (Value.int nb tb) else if y = Str.ofString "named" then some (Value.str Nm tN) else if y = Str.ofString "mark" then some (Value.bytes M tM) else [(Str.ofString "script", Value.ref l)].reverse.lookup y) ∧ News s.heap L h' [(x, instObj 55 dx), (dx, dictOf (detEs w t1 t2 t3 t4 t5 t6 t7 t8 (.ref kn) (.ref us) (.ref xx) (.bytes Rs tX) sn (.bool b)) 8), (kn, W.listOf vsu.toArray kk), (us, W.listOf vgu.toArray uk), (xx, oX), (gu, W.listOf vgu.toArray kgu), (ou, W.listOf vou.toArray kou), (su, W.listOf vsu.toArray ksu)]) ?s8 (fun f s' hp => ?_) (fun _ _ q => q))
  case s8 =>
    k_steps
    all_goals exact Cut.mk _ _ ⟨_, _, _, _, _, _, _, _, _, _, _, _, _, _, _, _, _, _, _, _, (by assumption), (by assumption), (by assumption), (by assumption), (by assumption)⟩
  clear F N h₁; obtain ⟨h₁, tk₁, x, dx, kn, us, xx, kk, uk, oX, cX, t1, t2, t3, t4, t5, t6, t7, t8, tX, sn, b, sX, zX, hsn, F, N⟩ := hp
  try dsimp only
  refine wpAny_execs_cons (wpAny_mono (Q := Cut s fun h' => Fr s.heap L h' (fun y => if y = Str.ofString "detector" then some (Value.ref x) else if y = Str.ofString "guessed" then some (Value.ref gu) else if y = Str.ofString "out" then some (Value.ref ou) else if y = Str.ofString "sure" then some (Value.ref su) else if y = Str.ofString "rest" then some (Value.bytes Rs tR) else if y = Str.ofString "number" then some (Value.int nb tb) else if y = Str.ofString "named" then some (Value.str Nm tN) else if y = Str.ofString "mark" then some (Value.bytes M tM) else [(Str.ofString "script", Value.ref l)].reverse.lookup y) ∧ News s.heap L h' [(x, instObj 55 dx), (dx, dictOf (detEs w t1 t2 t3 t4 t5 t6 t7 t8 (.ref kn) (.ref us) (.ref xx) (.bytes Rs tX) sn (.bool b)) 8), (kn, W.listOf vsu.toArray kk), (us, W.listOf vgu.toArray uk), (xx, oX), (gu, W.listOf vgu.toArray kgu), (ou, W.listOf vou.toArray kou), (su, W.listOf vsu.toArray ksu)]) ?s9 (fun f s' hp => ?_) (fun _ _ q => q))
  case s9 =>
    dsimp only [detEs] at N
    k_steps
    all_goals exact Cut.mk _ _ ⟨(by assumption), (by assumption)⟩
  clear F N h₁; obtain ⟨h₁, tk₁, F, N⟩ := hp
  try dsimp only
  refine wpAny_execs_cons (wpAny_mono (Q := Cut s fun h' => Fr s.heap L h' (fun y => if y = Str.ofString "detector" then some (Value.ref x) else if y = Str.ofString "guessed" then some (Value.ref gu) else if y = Str.ofString "out" then some (Value.ref ou) else if y = Str.ofString "sure" then some (Value.ref su) else if y = Str.ofString "rest" then some (Value.bytes Rs tR) else if y = Str.ofString "number" then some (Value.int nb tb) else if y = Str.ofString "named" then some (Value.str Nm tN) else if y = Str.ofString "mark" then some (Value.bytes M tM) else [(Str.ofString "script", Value.ref l)].reverse.lookup y) ∧ News s.heap L h' [(x, instObj 55 dx), (dx, dictOf (detEs w t1 t2 t3 t4 t5 t6 t7 t8 (.ref kn) (.ref us) (.ref xx) (.bytes Rs tX) sn (.bool b)) 8), (kn, W.listOf vsu.toArray kk), (us, W.listOf vgu.toArray uk), (xx, oX), (gu, W.listOf vgu.toArray kgu), (ou, W.listOf vou.toArray kou), (su, W.listOf vsu.toArray ksu)]) ?s10 (fun f s' hp => ?_) (fun _ _ q => q))
  case s10 =>
    by_cases hN : Nm = Str.ofString ""
    · have hb : (Nm == Str.ofString "") = true := by rw [hN]; rfl
      have hs : sn = .none := by unfold optN at hsn; rw [if_pos hN] at hsn; exact hsn
      obtain ⟨hM, hr4, hst⟩ := hok.none hN
      have hr := hok.rhi
      subst hs
      dsimp only [detEs] at N
      k_steps
      all_goals (rename Fr _ _ _ _ => frK; rename News _ _ _ _ => nwK; exact Cut.mk _ _ ⟨frK, by first | exact fun q hq => nwK q (.tail _ (.tail _ (.tail _ hq))) | exact fun q hq => nwK q (.tail _ (.tail _ hq))⟩)
    · have hb : (Nm == Str.ofString "") = false := beq_eq_false_iff_ne.mpr hN
      have ho : optN Nm = some Nm := if_neg hN
      rw [ho] at hsn
      obtain ⟨ts, rfl⟩ := hsn
      have hstr := hok.strip
      have hr4 := hok.lo
      have hr := hok.hi
      rw [ho] at hstr
      dsimp only [detEs] at N
      k_steps
      all_goals (rename Fr _ _ _ _ => frK; rename News _ _ _ _ => nwK; exact Cut.mk _ _ ⟨frK, by first | exact fun q hq => nwK q (.tail _ (.tail _ (.tail _ hq))) | exact fun q hq => nwK q (.tail _ (.tail _ hq))⟩)
  clear F N h₁; obtain ⟨h₁, tk₁, F, N⟩ := hp
  try dsimp only
  have hsh : ∀ y ∈ wou, y.length ≤ 1000 := fun y hy => lawWords_short y (qou y hy)
  have hvs : vsu.length ≤ 3 := strs_length isu ▸ zsu
  have hvg : vgu.length ≤ 3 := strs_length igu ▸ zgu
  have hvo : vou.length ≤ 3 := strs_length iou ▸ zou
  refine wpAny_execs_cons (wpAny_mono (Q := Cut s fun h' => ∃ wa kwa, (@LT.lt Nat _ x wa ∧ @LT.lt Nat _ dx wa ∧ @LT.lt Nat _ kn wa ∧ @LT.lt Nat _ us wa ∧ @LT.lt Nat _ xx wa ∧ @LT.lt Nat _ gu wa ∧ @LT.lt Nat _ ou wa ∧ @LT.lt Nat _ su wa) ∧ Fr s.heap L h' (fun y => if y = Str.ofString "wanted" then some (Value.ref wa) else if y = Str.ofString "detector" then some (Value.ref x) else if y = Str.ofString "guessed" then some (Value.ref gu) else if y = Str.ofString "out" then some (Value.ref ou) else if y = Str.ofString "sure" then some (Value.ref su) else if y = Str.ofString "rest" then some (Value.bytes Rs tR) else if y = Str.ofString "number" then some (Value.int nb tb) else if y = Str.ofString "named" then some (Value.str Nm tN) else if y = Str.ofString "mark" then some (Value.bytes M tM) else [(Str.ofString "script", Value.ref l)].reverse.lookup y) ∧ News s.heap L h' [(wa, W.listOf #[] kwa), (x, instObj 55 dx), (dx, dictOf (detEs w t1 t2 t3 t4 t5 t6 t7 t8 (.ref kn) (.ref us) (.ref xx) (.bytes Rs tX) sn (.bool b)) 8), (kn, W.listOf vsu.toArray kk), (us, W.listOf vgu.toArray uk), (xx, oX), (gu, W.listOf vgu.toArray kgu), (ou, W.listOf vou.toArray kou), (su, W.listOf vsu.toArray ksu)]) ?s11 (fun f s' hp => ?_) (fun _ _ q => q))
  case s11 =>
    k_steps
    all_goals exact Cut.mk _ _ ⟨_, _, (by assumption), (by assumption), (by assumption)⟩
  clear F N h₁; obtain ⟨h₁, tk₁, wa, kwa, lwa, F, N⟩ := hp
  try dsimp only
  refine wpAny_execs_cons (wpAny_mono (Q := Cut s fun h' => ∃ se vse kse, StrsAre vse (wou.map Txt.lower) ∧ (@Ne Nat wa se ∧ @Ne Nat x se ∧ @Ne Nat dx se ∧ @Ne Nat kn se ∧ @Ne Nat us se ∧ @Ne Nat xx se ∧ @Ne Nat gu se ∧ @Ne Nat ou se ∧ @Ne Nat su se) ∧ Fr s.heap L h' (fun y => if y = Str.ofString "seen" then some (Value.ref se) else if y = Str.ofString "wanted" then some (Value.ref wa) else if y = Str.ofString "detector" then some (Value.ref x) else if y = Str.ofString "guessed" then some (Value.ref gu) else if y = Str.ofString "out" then some (Value.ref ou) else if y = Str.ofString "sure" then some (Value.ref su) else if y = Str.ofString "rest" then some (Value.bytes Rs tR) else if y = Str.ofString "number" then some (Value.int nb tb) else if y = Str.ofString "named" then some (Value.str Nm tN) else if y = Str.ofString "mark" then some (Value.bytes M tM) else [(Str.ofString "script", Value.ref l)].reverse.lookup y) ∧ News s.heap L h' [(se, W.listOf vse.toArray kse), (wa, W.listOf #[] kwa), (x, instObj 55 dx), (dx, dictOf (detEs w t1 t2 t3 t4 t5 t6 t7 t8 (.ref kn) (.ref us) (.ref xx) (.bytes Rs tX) sn (.bool b)) 8), (kn, W.listOf vsu.toArray kk), (us, W.listOf vgu.toArray uk), (xx, oX), (gu, W.listOf vgu.toArray kgu), (ou, W.listOf vou.toArray kou), (su, W.listOf vsu.toArray ksu)]) ?s12 (fun f s' hp => ?_) (fun _ _ q => q))
  case s12 =>
    refine LCg.Assign_ListComp_U F (by rfl) (by with_unfolding_all rfl) (by with_unfolding_all rfl) (by decide) (by rfl) (by decide) (by rfl) (by rfl) (by rfl) ?_
    refine ld F (by rfl) (LCg.CompSrc.ledger (by rfl) F N (by k_mem) ?lcz fun _ => low_rest (by rfl) (fun _ => by rfl) (fun _ => by rfl) (fun _ => by rfl) (by decide) (by rfl) (fun _ => by rfl) ?lci hsh (.inr ⟨_, by k_mem, rfl, _, rfl⟩) ?_ _ 0 _ ?lcn StrsAre.nil)
    case lci => exact iou
    case lcz => rw [List.size_toArray, sizeLine_eq]; omega
    case lcn => rw [List.size_toArray, Nat.zero_add]; exact strs_length iou
    intro ys hys D h2 tk2 F2 N2 off2
    simp only [LCg.Off1, and_true] at off2
    exact Cut.mk _ _ ⟨_, _, _, hys, off2, F2, N2⟩
  clear F N h₁; obtain ⟨h₁, tk₁, se, vse, kse, ise, lse, F, N⟩ := hp
  try dsimp only
  refine wpAny_execs_cons (wpAny_mono (Q := Cut s fun h' => ∃ wv vwa kwa2, StrsAre vwa (((((wsu ++ [Nm]) ++ wgu) ++ [Str.ofString "utf-8", Str.ofString "windows-1252"])).foldl wStep (wou.map Txt.lower, [])).2 ∧ Fr s.heap L h' (fun y => if y = Str.ofString "word" then wv else if y = Str.ofString "seen" then some (Value.ref se) else if y = Str.ofString "wanted" then some (Value.ref wa) else if y = Str.ofString "detector" then some (Value.ref x) else if y = Str.ofString "guessed" then some (Value.ref gu) else if y = Str.ofString "out" then some (Value.ref ou) else if y = Str.ofString "sure" then some (Value.ref su) else if y = Str.ofString "rest" then some (Value.bytes Rs tR) else if y = Str.ofString "number" then some (Value.int nb tb) else if y = Str.ofString "named" then some (Value.str Nm tN) else if y = Str.ofString "mark" then some (Value.bytes M tM) else [(Str.ofString "script", Value.ref l)].reverse.lookup y) ∧ News s.heap L h' [(wa, W.listOf vwa.toArray kwa2), (x, instObj 55 dx), (dx, dictOf (detEs w t1 t2 t3 t4 t5 t6 t7 t8 (.ref kn) (.ref us) (.ref xx) (.bytes Rs tX) sn (.bool b)) 8), (kn, W.listOf vsu.toArray kk), (us, W.listOf vgu.toArray uk), (xx, oX), (gu, W.listOf vgu.toArray kgu), (ou, W.listOf vou.toArray kou), (su, W.listOf vsu.toArray ksu)]) ?s13 (fun f s' hp => ?_) (fun _ _ q => q))
  case s13 =>
    refine For_invV s.heap (by rfl) (by rfl) ?_
    iterate 20 (first | walk1 | (dsimp only; walk1))
    rename Fr _ _ _ _ => frK; rename News _ _ _ _ => nwK; rename_i ltX
    refine iter_strs (x := Str.ofString "word") (ws := (((wsu ++ [Nm]) ++ wgu) ++ [Str.ofString "utf-8", Str.ofString "windows-1252"])) (news := [(se, W.listOf vse.toArray kse), (wa, W.listOf #[] kwa)] ++ [(x, instObj 55 dx), (dx, dictOf (detEs w t1 t2 t3 t4 t5 t6 t7 t8 (.ref kn) (.ref us) (.ref xx) (.bytes Rs tX) sn (.bool b)) 8), (kn, W.listOf vsu.toArray kk), (us, W.listOf vgu.toArray uk), (xx, oX), (gu, W.listOf vgu.toArray kgu), (ou, W.listOf vou.toArray kou), (su, W.listOf vsu.toArray ksu)]) (fun i nx => ∃ v1 k1 v2 k2, nx = (se, W.listOf v1.toArray k1) :: (wa, W.listOf v2.toArray k2) :: [(x, instObj 55 dx), (dx, dictOf (detEs w t1 t2 t3 t4 t5 t6 t7 t8 (.ref kn) (.ref us) (.ref xx) (.bytes Rs tX) sn (.bool b)) 8), (kn, W.listOf vsu.toArray kk), (us, W.listOf vgu.toArray uk), (xx, oX), (gu, W.listOf vgu.toArray kgu), (ou, W.listOf vou.toArray kou), (su, W.listOf vsu.toArray ksu)] ∧ StrsAre v1 (((((wsu ++ [Nm]) ++ wgu) ++ [Str.ofString "utf-8", Str.ofString "windows-1252"]).take i).foldl wStep (wou.map Txt.lower, [])).1 ∧ StrsAre v2 (((((wsu ++ [Nm]) ++ wgu) ++ [Str.ofString "utf-8", Str.ofString "windows-1252"]).take i).foldl wStep (wou.map Txt.lower, [])).2 ∧ v1.length ≤ 3 + i ∧ v2.length ≤ i) rfl (isList_in nwK (.head _) rfl rfl) (StrsAre.app (StrsAre.app (StrsAre.app isu (StrsAre.cons _ _ .nil)) igu) (StrsAre.cons _ _ (StrsAre.cons _ _ .nil))) frK (fun q hq => nwK q (.tail _ (.tail _ (.tail _ (.tail _ (.tail _ hq)))))) (nwK _ (.head _)).2.1 ?hln ⟨vse, kse, [], kwa, rfl, ise, .nil, by have := strs_length ise; rw [List.length_map] at this; omega, Nat.le_refl _⟩ ?turn ?done
    case hln =>
      intro q hq
      simp only [List.cons_append, List.nil_append, List.mem_cons, List.not_mem_nil, or_false] at hq
      rcases hq with rfl | rfl | rfl | rfl | rfl | rfl | rfl | rfl | rfl | rfl
      all_goals (dsimp only; refine Nat.ne_of_lt ?_; simp only [ltX])
    case done =>
      rintro v news₁ h1 tk1 ⟨v1, k1, v2, k2, rfl, s1, s2, z1, z2⟩ F1 N1
      rw [List.take_length] at s2
      exact Cut.mk _ _ ⟨_, _, _, s2, F1, fun q hq => N1 q (.tail _ hq)⟩
    case turn =>
      rintro i e t news₁ h1 tk1 own hi he hoff ⟨v1, k1, v2, k2, rfl, s1, s2, z1, z2⟩ F1 N1
      have hsl : e.length ≤ 1000 := by
        have hm : e ∈ (((wsu ++ [Nm]) ++ wgu) ++ [Str.ofString "utf-8", Str.ofString "windows-1252"]) := by rw [he, List.getD_eq_getElem?_getD, List.getElem?_eq_getElem hi]; exact List.getElem_mem _
        rcases List.mem_append.mp hm with hm | hm
        · rcases List.mem_append.mp hm with hm | hm
          · rcases List.mem_append.mp hm with hm | hm
            · exact lawWords_short _ (qsu _ hm)
            · rw [List.mem_singleton.mp hm]; exact hok.short
          · exact lawWords_short _ (qgu _ hm)
        · exact (by decide : ∀ z ∈ [Str.ofString "utf-8", Str.ofString "windows-1252"], z.length ≤ 1000) _ hm
      have hi9 : i < 9 := by
        simp only [List.length_append, List.length_cons, List.length_nil] at hi
        omega
      have hz1 : v1.length ≤ 100 := by omega
      have hz2 : v2.length ≤ 100 := by omega
      have hst : ((((wsu ++ [Nm]) ++ wgu) ++ [Str.ofString "utf-8", Str.ofString "windows-1252"]).take (i + 1)).foldl wStep (wou.map Txt.lower, []) = wStep (((((wsu ++ [Nm]) ++ wgu) ++ [Str.ofString "utf-8", Str.ofString "windows-1252"]).take i).foldl wStep (wou.map Txt.lower, [])) e := by
        rw [List.take_add_one, List.foldl_append, List.getElem?_eq_getElem hi, he, List.getD_eq_getElem?_getD, List.getElem?_eq_getElem hi]; rfl
      clear frK nwK ltX he hi
      try dsimp only [List.map_cons, List.map_nil, List.cons_append, List.nil_append] at F1 N1 hoff ⊢
      k_steps
      all_goals (rename Fr _ _ _ _ => frK; rename News _ _ _ _ => nwK)
      · have hw := wStep_skip1 (by assumption)
        exact InvEndN.intro (news' := ((se, W.listOf v1.toArray k1) :: (wa, W.listOf v2.toArray k2) :: [(x, instObj 55 dx), (dx, dictOf (detEs w t1 t2 t3 t4 t5 t6 t7 t8 (.ref kn) (.ref us) (.ref xx) (.bytes Rs tX) sn (.bool b)) 8), (kn, W.listOf vsu.toArray kk), (us, W.listOf vgu.toArray uk), (xx, oX), (gu, W.listOf vgu.toArray kgu), (ou, W.listOf vou.toArray kou), (su, W.listOf vsu.toArray ksu)]) ++ own) frK nwK ⟨fun z hz => if_neg hz, v1, k1, v2, k2, rfl, by rw [hst, hw]; exact s1, by rw [hst, hw]; exact s2, by omega, by omega⟩ rfl (fun p hp => List.mem_append_left _ hp) (fun p hp => List.mem_append_right _ hp)
      · have hw := wStep_take (by assumption) (by assumption)
        simp only [List.push_toArray] at nwK
        exact InvEndN.intro (news' := ((se, W.listOf (v1 ++ [Value.str (Txt.lower e) _]).toArray (k1 + 1)) :: (wa, W.listOf (v2 ++ [Value.str e t]).toArray (k2 + 1)) :: [(x, instObj 55 dx), (dx, dictOf (detEs w t1 t2 t3 t4 t5 t6 t7 t8 (.ref kn) (.ref us) (.ref xx) (.bytes Rs tX) sn (.bool b)) 8), (kn, W.listOf vsu.toArray kk), (us, W.listOf vgu.toArray uk), (xx, oX), (gu, W.listOf vgu.toArray kgu), (ou, W.listOf vou.toArray kou), (su, W.listOf vsu.toArray ksu)]) ++ own) frK nwK ⟨fun z hz => if_neg hz, v1 ++ [Value.str (Txt.lower e) _], k1 + 1, v2 ++ [Value.str e t], k2 + 1, rfl, by rw [hst, hw]; exact kct_snoc s1, by rw [hst, hw]; exact kct_snoc s2, by rw [List.length_append, List.length_singleton]; omega, by rw [List.length_append, List.length_singleton]; omega⟩ rfl (fun p hp => List.mem_append_left _ hp) (fun p hp => List.mem_append_right _ hp)
      · have hw := wStep_skip2 (c := ((((wsu ++ [Nm]) ++ wgu) ++ [Str.ofString "utf-8", Str.ofString "windows-1252"]).take i).foldl wStep (wou.map Txt.lower, [])) (by assumption)
        exact InvEndN.intro (news' := ((se, W.listOf v1.toArray k1) :: (wa, W.listOf v2.toArray k2) :: [(x, instObj 55 dx), (dx, dictOf (detEs w t1 t2 t3 t4 t5 t6 t7 t8 (.ref kn) (.ref us) (.ref xx) (.bytes Rs tX) sn (.bool b)) 8), (kn, W.listOf vsu.toArray kk), (us, W.listOf vgu.toArray uk), (xx, oX), (gu, W.listOf vgu.toArray kgu), (ou, W.listOf vou.toArray kou), (su, W.listOf vsu.toArray ksu)]) ++ own) frK nwK ⟨fun z hz => if_neg hz, v1, k1, v2, k2, rfl, by rw [hst, hw]; exact s1, by rw [hst, hw]; exact s2, by omega, by omega⟩ rfl (fun p hp => List.mem_append_left _ hp) (fun p hp => List.mem_append_right _ hp)
  clear F N h₁; obtain ⟨h₁, tk₁, wv, vwa, kwa2, iwa, F, N⟩ := hp
  try dsimp only
  rw [w_law wsu wgu wou Nm qsu qgu] at iwa
  have N0 := And.intro N True.intro
  dsimp only [detEs] at N
  iterate 9 (first | walk1 | (dsimp only; walk1))
  rename Fr _ _ _ _ => frK
  rename News _ _ _ _ => nwK
  replace nwK := N0.1
  clear N0
  refine' get_prop (K := hd.heap_39 w.params) (C := 55) (p := 42) (fget := 41) frK X ?g1 ?g2 ?g3 ?g4 ?g5 ?g6 ?g7 ?_
  case g1 => k_inst
  case g2 => k_is
  case g3 => k_is
  case g4 => k_is
  case g5 => k_is
  case g6 => k_is
  case g7 => k_is
  have XT : Cx w p lo mg mb s.heap := ⟨X, T⟩
  refine c_encs XT frK.keep (Nat.le_trans frK.above (Nat.le_of_lt frK.ns.lt)) (by dsimp only [Around.deeper]; omega) (x := x) (dx := dx) (xx := xx) (kn := kn) (us := us) (nwK.get (by k_mem)) (nwK.get (by k_mem)) (nwK.get (by k_mem)) (nwK.get (by k_mem)) (nwK.get (by k_mem)) (nwK (x, _) (by k_mem)).2.2 (nwK (dx, _) (by k_mem)).2.2 (nwK (xx, _) (by k_mem)).2.2 (nwK (kn, _) (by k_mem)).2.2 (nwK (us, _) (by k_mem)).2.2 sX zX isu igu hvs hvg (fun y hy => lawWords_short y (qsu y hy)) (fun y hy => lawWords_short y (qgu y hy)) (fun n hn' => ?gn) hsn ?_
  case gn =>
    unfold optN at hn'
    split at hn'
    · exact nomatch hn'
    · cases hn'; exact hok.short
  intro gh gtk gc ga gh0 gk1 gg glt gnone gk2 gk3 gs0 gR
  refine handed_on rfl ?_
  walk1
  have gk02 : ∀ b o, s.heap.get? b = some o → gh0.get? b = some o := fun b o e => gk2 b o (frK.keep b o e)
  have gl0 : gh0.NoLimit := T.nolimit.keeps gk02
  have gl1 : gh.NoLimit := T.nolimit.keeps fun b o e => gk1 b o (frK.keep b o e)
  have glen : (yl (fun k' => (wou.map Txt.lower).contains k') (fun _ => false) (wsu ++ ((optN Nm).toList ++ (wgu ++ [Str.ofString "utf-8", Str.ofString "windows-1252"])))).length ≤ 1000 := by
    refine Nat.le_trans (yl_length _ _ _) ?_
    have : (optN Nm).toList.length ≤ 1 := by cases optN Nm <;> simp
    simp only [List.length_append, List.length_cons, List.length_nil]
    omega
  refine c_list_gen (G := s.gens) (h₀ := gh0) (by rfl) (by dsimp only [Around.deeper]; omega) gg rfl gl1 gl0 gk3 gs0 gR glen ?_
  intro lh lL acc lc ltk lk lo lS lnone
  have frN := Fr.keptAll frK (fun b o e => lk b o (gk2 b o e))
  have lnone' : ∀ {hh : Heap}, (∀ b o, hh.get? b = some o → gh.get? b = some o) → hh.get? lL = none := fun {hh} kq => by
    cases q : hh.get? lL with
    | none => rfl
    | some o' => have := kq _ _ q; rw [lnone] at this; cases this
  have nwN := News.add frK nwK (fun b o e => lk b o (gk2 b o e)) lo (lnone' gk1)
  clear frK nwK gR gg gk1 gk2 gk3 gk02 gl0 gl1 lk lo lnone lnone' gs0 gnone glt
  dsimp only
  k_steps
  rotate_left
  · dsimp only [List.cons_append, List.nil_append]
    k_steps
    exact h _ _ _ (Fr.keep (by assumption)) (AllBare.push (AllBare.of_eq hg) rfl)
  · exact default
end Mine

namespace Mine
open PySem PySem.W PyProof.Rows PySem.Calls
set_option maxRecDepth 100000
set_option maxHeartbeats 100000000
theorem the_law : PySem.Challenge.rw_fq0001_01.Holds := hd (by
  k_fill
  intro w s₀ s₁ mg mb G Y fa o pm cd doc dV kV ho hd hcd hD hmg hg args vals as hpre hlay hrd hwl hlo
  have KX := kIn_of Y
  have X := (Ground.X G).1
  have V := (Ground.X G).2
  refine Ground.open G ?_
  intro T B D TE TW
  wrow_args hpre hlay hrd hwl hlo
  have e99 := mg_of KX T.g (n := Str.ofString "law") (v := .ref 99) (by k_is)
  obtain rfl : fa = 99 := by
    have q := Option.some.inj (hmg.symm.trans e99)
    injection q
  rename Heap.IsList _ _ _ => hL9
  rename IntsAre _ _ => hI9
  show wpAny (model PR w) callerA (call (.ref 99) [.ref _]) _ _ _
  refine wpAny_call ?_
  refine c_law ⟨KX, topRead_of T⟩ (by decide) (by decide) rfl hg hL9 hI9 (by omega) fun h' tk gens k b => ?_
  refine ⟨.inl ⟨_, .bool true, [], rfl, fun _ => rfl, ReadsW.bool true, ?_, fun _ => ⟨List.nodup_nil, fun _ hm => nomatch hm⟩⟩, ?_, rfl, b⟩
  · first | rfl | wrow_post
  · exact OldK.of_keep k)
end Mine

open PySem PySem.W PyProof.Rows
theorem PySem.Challenge.cw_fq0001_01_holds : PySem.Challenge.rw_fq0001_01.Holds := by
  exact Mine.the_law
