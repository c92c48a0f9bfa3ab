import PyProof.Rows.All
import Wide.All
import OpenK.AllK
import Wide.FinOn
import Lean
import PySem.Challenge.RW_ah6025_01
set_option Elab.async false
set_option rowWalk.seconds 0

section
open PySem PySem.W PyProof.Rows
namespace Mine
local macro_rules | `(tactic| walk_at "zz0") => `(tactic| skip)
local macro_rules | `(tactic| walk_at "zz1") => `(tactic| skip)
local macro_rules | `(tactic| walk_at "zz2") => `(tactic| skip)
local macro_rules | `(tactic| walk_at "zz3") => `(tactic| skip)
local macro_rules | `(tactic| walk_at "zz4") => `(tactic| skip)
local macro_rules | `(tactic| walk_at "zz5") => `(tactic| skip)
local macro_rules | `(tactic| walk_at "zz6") => `(tactic| skip)
local macro_rules | `(tactic| walk_at "zz7") => `(tactic| skip)
local macro_rules | `(tactic| walk_at "zz8") => `(tactic| skip)
theorem rstHd {M : Model} {A : Around} {E : Value → Shared → Prop} {s : Shared} {env : Env} {Q : Flow → Shared → Prop} (h : Q .next s) : wpAny M A (execs [] env) Q E s := by
  w_top off
  walk1
  exact h
end Mine
end

section
open PySem PySem.W PyProof.Rows
namespace Mine
set_option maxRecDepth 100000
set_option maxHeartbeats 8000000
open_top hd for PySem.Challenge.rw_ah6025_01
end Mine
end

section
open PySem PySem.W PyProof.Rows
namespace Mine
local macro_rules | `(tactic| walk_at "zz0") => `(tactic| skip)
local macro_rules | `(tactic| walk_at "zz1") => `(tactic| skip)
local macro_rules | `(tactic| walk_at "zz2") => `(tactic| skip)
local macro_rules | `(tactic| walk_at "zz3") => `(tactic| skip)
local macro_rules | `(tactic| walk_at "zz4") => `(tactic| skip)
local macro_rules | `(tactic| walk_at "zz5") => `(tactic| skip)
local macro_rules | `(tactic| walk_at "zz6") => `(tactic| skip)
local macro_rules | `(tactic| walk_at "zz7") => `(tactic| skip)
local macro_rules | `(tactic| walk_at "zz8") => `(tactic| skip)
theorem rstT4 {M : Model} {A : Around} {E : Value → Shared → Prop} {s : Shared} {env : Env} {Q : Flow → Shared → Prop} (h : Q .next s) : wpAny M A (execs [] env) Q E s := by
  w_top off
  walk1
  exact h
end Mine
end

section
open PySem PySem.W PyProof.Rows
namespace Mine
set_option maxRecDepth 100000
set_option maxHeartbeats 8000000


local macro_rules | `(tactic| k_all) => `(tactic| with_reducible assumption)

section
variable {prog : Program} {w : World} {A : Around} {E : Value → Shared → Prop} {s : Shared} {h₀ h : Heap} {L D : Addr} {m : Str → Option Value} {news news' pre post : List (Addr × Obj)}
theorem pop0 {n : Nat} {u : Tok} {q : List Value} {y : Value} {Q : Value → Shared → Prop} (F : Fr h₀ L s.heap m) (N : News h₀ L s.heap news) (U : Upd D (listOf (y :: q).toArray n) (listOf q.toArray (n + 1)) news news')
    (hz : q.length ≤ 100) (h : ∀ h', Fr h₀ L h' m → News h₀ L h' news' → Q y { s with heap := h' }) : wpAny (model prog w) A (call (.builtin "list.pop") [.ref D, .int 0 u]) Q E s := by
  refine kl_popAt (p := []) (q := q) (y := y) (k := 0) F N rfl ?_ rfl U ?_ h
  · unfold seqIndex?
    rw [List.size_toArray, List.length_cons]
    simp
  · rw [sizeLine_eq]
    simp
    omega
end
local macro_rules | `(tactic| walk_at "call builtin:list.pop") => `(tactic| (k_here; (with_reducible show wpAny _ _ (call (Value.builtin _) [Value.ref _, Value.int 0 _]) _ _ _); k_dflt (refine' pop0 ?F ?N ?U ?z ?_; (case F => k_asm); (case N => k_asm); (case U => k_upd); (case z => assumption)); (intro h' F' N'; (try dsimp only [List.nil_append, List.cons_append] at N'))))

theorem take_ok {w : World} {mean : ExcName → Option Value} {mg mb : Str → Option Value} {p : Program} {ls : List Str} {dp un : Nat} {gd : Option (List Code)} {cn : Str} {cs : Scope} {a : Addr} {ccd : Value} {cl : List (Str × Addr)} {outer : List Env} {A₀ : Around} {base h₀ : Heap} {L : Addr} {m : Str → Option Value} {s : Shared} {Q E : Value → Shared → Prop}
    {D L1 : Addr} {sd many : Int} {t t2 : Tok} {n1 n2 : Nat} {vs : List Value} {ns : List Int} {rest : List (Addr × Obj)}
    (B : Below A₀ base outer h₀) (F : Fr h₀ L s.heap m) (X : (hd.heap_39 w.params).In h₀)
    (N : News h₀ L s.heap ((D, listOf #[.ref L1, .int sd t] n1) :: (L1, listOf vs.toArray n2) :: rest))
    (T : Top p ls mean mg mb h₀) (hk : cs.kind = .function)
    (hdl : @Ne Nat L1 D) (hr1 : ∀ p ∈ rest, p.1 ≠ D) (hr2 : ∀ p ∈ rest, p.1 ≠ L1)
    (hi : IntsAre vs ns) (hlen : ns.length ≤ 63) (hs0 : 0 ≤ sd) (hs1 : sd < 2147483647) (hm0 : 0 < many) (hm1 : many < 100)
    (hdp : dp + 10 < recursionLimit) (hun : un + 300 < cLine)
    (hret : ∀ (k : Int) (tr : Tok) (h' : Heap) (tk' : Nat) (sd' : Int) (t' : Tok) (n1' n2' : Nat) (vs' : List Value) (ns' : List Int),
      0 ≤ k → k < many → IntsAre vs' ns' → ns'.length ≤ 63 → 0 ≤ sd' → sd' < 2147483647 → Fr h₀ L h' m →
      News h₀ L h' ((D, listOf #[.ref L1, .int sd' t'] n1') :: (L1, listOf vs'.toArray n2') :: rest) → Q (.int k tr) { s with heap := h', toks := tk' }) :
    wpAny (model PySem.Challenge.rw_ah6025_01.row.prog w) (ktrTop dp un gd cn cs L a ccd cl outer) (call (.ref 60) [.ref D, .int many t2]) Q E s := by
  revert X; k_fill; intro X
  cases hi
  · refine wpAny_call ?_
    k_dflt cell_enter
    k_steps
    all_goals first
      | (exfalso; (rename decide _ = true => hd); simp at hd; done)
      | exact hret _ _ _ _ _ _ _ _ [] [] (Int.fmod_nonneg_of_pos _ hm0) (Int.fmod_lt_of_pos _ hm0) .nil (by simp) (Int.fmod_nonneg_of_pos _ (by decide)) (Int.fmod_lt_of_pos _ (by decide)) (by k_asm) (cb_drop (by k_asm) (fun p hp => List.mem_cons_of_mem _ hp))
  · rename_i n0 t0 vs0 ns0 hi0
    have hq : vs0.length ≤ 100 := by
      have := hi0.length
      rw [List.length_cons] at hlen
      omega
    have hq2 : ns0.length ≤ 63 := by
      rw [List.length_cons] at hlen
      omega
    refine wpAny_call ?_
    k_dflt cell_enter
    k_steps
    all_goals first
      | (exfalso; (rename decide _ = true => hd); simp at hd; done)
      | ((rename News h₀ L _ _ => kN9); exact hret _ _ _ _ sd t n1 (n2 + 1) vs0 ns0 (Int.fmod_nonneg_of_pos _ hm0) (Int.fmod_lt_of_pos _ hm0) hi0 hq2 hs0 hs1 (by k_asm) (fun p hp => kN9 p (List.mem_cons_of_mem _ hp)))
end Mine
end

section
open PySem PySem.W PyProof.Rows
namespace Mine
local macro_rules | `(tactic| walk_at "zz0") => `(tactic| skip)
local macro_rules | `(tactic| walk_at "zz1") => `(tactic| skip)
local macro_rules | `(tactic| walk_at "zz2") => `(tactic| skip)
local macro_rules | `(tactic| walk_at "zz3") => `(tactic| skip)
local macro_rules | `(tactic| walk_at "zz4") => `(tactic| skip)
local macro_rules | `(tactic| walk_at "zz5") => `(tactic| skip)
local macro_rules | `(tactic| walk_at "zz6") => `(tactic| skip)
local macro_rules | `(tactic| walk_at "zz7") => `(tactic| skip)
local macro_rules | `(tactic| walk_at "zz8") => `(tactic| skip)
theorem rstBase {M : Model} {A : Around} {E : Value → Shared → Prop} {s : Shared} {env : Env} {Q : Flow → Shared → Prop} (h : Q .next s) : wpAny M A (execs [] env) Q E s := by
  w_top off
  walk1
  exact h
end Mine
end

section
open PySem PySem.W PyProof.Rows
namespace Mine
set_option maxRecDepth 100000

abbrev Led := List (Addr × Obj)
def Holds (R : Led) (h : Heap) : Prop := ∀ p ∈ R, h.get? p.1 = some p.2
theorem Holds.of {h₀ h : Heap} {L : Addr} {R : Led} (N : News h₀ L h R) : Holds R h := fun p hp => (N p hp).1

inductive Mv (x y : Addr × Obj) : Led → Led → Prop
  | here {r : Led} : Mv x y (x :: y :: r) r
  | tail {p : Addr × Obj} {l r : Led} : Mv x y l r → Mv x y (p :: l) (p :: r)
theorem Mv.mem {x y : Addr × Obj} {l r : Led} (h : Mv x y l r) : ∀ p ∈ x :: y :: r, p ∈ l := by
  induction h with
  | here => exact fun p hp => hp
  | @tail q l r _ ih =>
    intro p hp
    rcases List.mem_cons.mp hp with rfl | hp
    · exact List.mem_cons_of_mem _ (ih _ (List.mem_cons_self ..))
    · rcases List.mem_cons.mp hp with rfl | hp
      · exact List.mem_cons_of_mem _ (ih _ (List.mem_cons_of_mem _ (List.mem_cons_self ..)))
      · rcases List.mem_cons.mp hp with rfl | hp
        · exact List.mem_cons_self ..
        · exact List.mem_cons_of_mem _ (ih _ (List.mem_cons_of_mem _ (List.mem_cons_of_mem _ hp)))
theorem Mv.news {h₀ h : Heap} {L : Addr} {x y : Addr × Obj} {l r : Led} (M : Mv x y l r) (N : News h₀ L h l) : News h₀ L h (x :: y :: r) := fun p hp => N p (M.mem p hp)

structure RIn (R : Led) (v : Value) (d : PyData) : Prop where
  out : ∀ h, Holds R h → ∃ as, Reads h v d as ∧ ∀ a ∈ as, ∃ o, (a, o) ∈ R
structure RAll (R : Led) (vs : List Value) (ds : List PyData) : Prop where
  out : ∀ h, Holds R h → ∃ as, ReadsAll h vs ds as ∧ ∀ a ∈ as, ∃ o, (a, o) ∈ R
theorem RIn.none {R : Led} : RIn R .none .none := ⟨fun _ _ => ⟨_, .none, fun _ h => nomatch h⟩⟩
theorem RIn.int {R : Led} (i : Int) (t : Tok) : RIn R (.int i t) (.int i) := ⟨fun _ _ => ⟨_, .int _ _, fun _ h => nomatch h⟩⟩
theorem RIn.str {R : Led} (x : Str) (t : Tok) : RIn R (.str x t) (.str x) := ⟨fun _ _ => ⟨_, .str _ _, fun _ h => nomatch h⟩⟩
theorem RAll.nil {R : Led} : RAll R [] [] := ⟨fun _ _ => ⟨_, .nil, fun _ h => nomatch h⟩⟩
theorem RAll.cons {R : Led} {v : Value} {vs : List Value} {d : PyData} {ds : List PyData} (h1 : RIn R v d) (h2 : RAll R vs ds) : RAll R (v :: vs) (d :: ds) := ⟨fun h hh => by
  obtain ⟨as, r1, m1⟩ := h1.out h hh
  obtain ⟨bs, r2, m2⟩ := h2.out h hh
  exact ⟨_, .cons r1 r2, fun a ha => (List.mem_append.mp ha).elim (m1 a) (m2 a)⟩⟩
theorem RIn.tuple {R : Led} {a : Addr} {vs : List Value} {n : Nat} {ds : List PyData} (hm : (a, ({ cls := .type "tuple", data := .seq vs.toArray n } : Obj)) ∈ R) (h1 : RAll R vs ds) : RIn R (.ref a) (.tuple ds) := ⟨fun h hh => by
  obtain ⟨as, r1, m1⟩ := h1.out h hh
  exact ⟨_, .tuple (hh _ hm) rfl rfl r1, m1⟩⟩
theorem RIn.list {R : Led} {a : Addr} {vs : List Value} {n : Nat} {ds : List PyData} (hm : (a, ({ cls := .type "list", data := .seq vs.toArray n } : Obj)) ∈ R) (h1 : RAll R vs ds) : RIn R (.ref a) (.list ds) := ⟨fun h hh => by
  obtain ⟨as, r1, m1⟩ := h1.out h hh
  exact ⟨_, .list (hh _ hm) rfl rfl r1, fun b hb => by
    rcases List.mem_cons.mp hb with rfl | hb
    · exact ⟨_, hm⟩
    · exact m1 b hb⟩⟩
theorem RIn.dict {R : Led} {a : Addr} {o : Obj} {prog : Program} {w : World} {kvs : List (Str × Value)} {D : List (PyData × PyData)} (hm : (a, o) ∈ R) (hd : Obj.IsDictOf (PySem.strKind prog w) o kvs) (hf : PyProof.V.FlatPairs PyData.str kvs D) : RIn R (.ref a) (.dict D) := ⟨fun h hh => by
  refine ⟨_, PyProof.V.reads_dictOf (enc := PyData.str) (fun k key hk => ?_) (Heap.dictOf_iff.mpr ⟨o, hh _ hm, hd⟩) (hf.pairsRead h), fun b hb => ?_⟩
  · cases key with
    | str x t =>
      have : x = k := by simpa [PySem.strKind, Value.isStrOf] using hk
      subst this
      exact .str _ _
    | _ => simp [PySem.strKind, Value.isStrOf] at hk
  · rcases List.mem_cons.mp hb with rfl | hb
    · exact ⟨_, hm⟩
    · cases hb⟩
theorem RIn.mono {R R' : Led} {v : Value} {d : PyData} (h : RIn R v d) (hs : ∀ p ∈ R, p ∈ R') : RIn R' v d := ⟨fun g hg => by
  obtain ⟨as, r, m⟩ := h.out g fun p hp => hg p (hs p hp)
  exact ⟨as, r, fun a ha => let ⟨o, ho⟩ := m a ha; ⟨o, hs _ ho⟩⟩⟩
theorem RAll.mono {R R' : Led} {v : List Value} {d : List PyData} (h : RAll R v d) (hs : ∀ p ∈ R, p ∈ R') : RAll R' v d := ⟨fun g hg => by
  obtain ⟨as, r, m⟩ := h.out g fun p hp => hg p (hs p hp)
  exact ⟨as, r, fun a ha => let ⟨o, ho⟩ := m a ha; ⟨o, hs _ ho⟩⟩⟩

/-- what the code asks of a thing: is it a tuple of two? -/
inductive Kd (R : Led) : Value → Bool → Prop
  | tup {a : Addr} {vs : List Value} {n : Nat} : (a, ({ cls := .type "tuple", data := .seq vs.toArray n } : Obj)) ∈ R → vs.length ≤ 3 → Kd R (.ref a) (decide (vs.length = 2))
  | list {a : Addr} {vs : List Value} {n : Nat} : (a, ({ cls := .type "list", data := .seq vs.toArray n } : Obj)) ∈ R → Kd R (.ref a) false
  | dict {a : Addr} {o : Obj} : (a, o) ∈ R → o.cls = .type "dict" → Kd R (.ref a) false
  | str {x : Str} {t : Tok} : Kd R (.str x t) false
  | int {i : Int} {t : Tok} : Kd R (.int i t) false
theorem Kd.mono {R R' : Led} {v : Value} {b : Bool} (h : Kd R v b) (hs : ∀ p ∈ R, p ∈ R') : Kd R' v b := by
  cases h with
  | tup h hl => exact .tup (hs _ h) hl
  | list h => exact .list (hs _ h)
  | dict h e => exact .dict (hs _ h) e
  | str => exact .str
  | int => exact .int

/-- what repr asks of a thing's data -/
def goodD (d : PyData) : Bool := d.showable && decide (d.depth ≤ 4) && decide (d.shown.length ≤ 100)

structure Thing (R : Led) (v : Value) (b : Bool) (d : PyData) : Prop where
  kind : Kd R v b
  reads : RIn R v d
  good : goodD d = true
theorem Thing.mono {R R' : Led} {v : Value} {b : Bool} {d : PyData} (h : Thing R v b d) (hs : ∀ p ∈ R, p ∈ R') : Thing R' v b d := ⟨h.kind.mono hs, h.reads.mono hs, h.good⟩

theorem ten {k : Int} (h0 : 0 ≤ k) (h1 : k < 10) : k = 0 ∨ k = 1 ∨ k = 2 ∨ k = 3 ∨ k = 4 ∨ k = 5 ∨ k = 6 ∨ k = 7 ∨ k = 8 ∨ k = 9 := by omega
end Mine
end

section
open PySem PySem.W PyProof.Rows
namespace Mine
local macro_rules | `(tactic| walk_at "zz0") => `(tactic| skip)
local macro_rules | `(tactic| walk_at "zz1") => `(tactic| skip)
local macro_rules | `(tactic| walk_at "zz2") => `(tactic| skip)
local macro_rules | `(tactic| walk_at "zz3") => `(tactic| skip)
local macro_rules | `(tactic| walk_at "zz4") => `(tactic| skip)
local macro_rules | `(tactic| walk_at "zz5") => `(tactic| skip)
local macro_rules | `(tactic| walk_at "zz6") => `(tactic| skip)
local macro_rules | `(tactic| walk_at "zz7") => `(tactic| skip)
local macro_rules | `(tactic| walk_at "zz8") => `(tactic| skip)
theorem rstT6 {M : Model} {A : Around} {E : Value → Shared → Prop} {s : Shared} {env : Env} {Q : Flow → Shared → Prop} (h : Q .next s) : wpAny M A (execs [] env) Q E s := by
  w_top off
  walk1
  exact h
end Mine
end

section
open PySem PySem.W PyProof.Rows
namespace Mine
set_option maxRecDepth 100000
set_option maxHeartbeats 8000000
local macro_rules | `(tactic| k_all) => `(tactic| with_reducible assumption)
local macro_rules | `(tactic| walk_at "call ref") => `(tactic| (k_here; (with_reducible show wpAny _ _ (call (Value.ref 60) [Value.ref _, Value.int _ _]) _ _ _); k_dflt (refine' take_ok (many := 10) ?k1 ?k2 ?k3 (Mv.news ?kM ?k4) ?k5 ?kK ?d ?r1 ?r2 ?i ?ln ?s0 ?s1 ?m0 ?m1 ?kd ?ku ?_; (case k1 => k_asm); (case k2 => k_asm); (case k3 => k_asm); (case k4 => k_asm); (case kM => (repeat' (first | exact Mv.here | refine' Mv.tail ?_))); (case k5 => k_asm); (case kK => first | exact rfl | assumption); (case d => assumption); (case r1 => k_all); (case r2 => k_all); (case i => assumption); (case ln => assumption); (case s0 => assumption); (case s1 => assumption); (case m0 => decide); (case m1 => decide); (case kd => ktr_room); (case ku => ktr_units)); (intro k9 tr9 h9 tk9 sd9 t9 m9 m8 vs9 ns9 hk0 hk1 hi9 hl9 hs9 hs8 F9 N9); (rcases ten hk0 hk1 with e9 | e9 | e9 | e9 | e9 | e9 | e9 | e9 | e9 | e9) <;> (subst e9; (try dsimp only))))

local macro_rules | `(tactic| ktr_rel) => `(tactic| first
  | exact RIn.str _ _
  | exact RIn.int _ _
  | exact RAll.nil
  | (refine' RAll.cons ?ra ?rb; (case ra => ktr_rel); (case rb => ktr_rel))
  | (refine' RIn.tuple ?ra ?rb; (case ra => k_mem); (case rb => ktr_rel))
  | (refine' RIn.list ?ra ?rb; (case ra => k_mem); (case rb => ktr_rel))
  | (refine' RIn.dict ?ra ?rb ?rc; (case ra => k_mem); (case rb => assumption); (case rc => exact (show PyProof.V.FlatPairs PyData.str _ [(.str "a", .int 1), (.str "b", .int 2)] from by assumption))))
local macro_rules | `(tactic| tb_rel) => `(tactic| first
  | exact Kd.str
  | exact Kd.int
  | (refine' Kd.tup ?ra ?rb; (case ra => k_mem); (case rb => simp))
  | (refine' Kd.list ?ra; (case ra => k_mem))
  | (refine' Kd.dict ?ra ?rb; (case ra => k_mem); (case rb => (obtain ⟨_, _, x9, _⟩ := ‹Obj.IsDictOf _ _ _›; exact x9.1))))

theorem thing_ok {w : World} {mean : ExcName → Option Value} {mg mb : Str → Option Value} {p : Program} {ls : List Str} {dp un : Nat} {gd : Option (List Code)} {cn : Str} {cs : Scope} {a : Addr} {ccd : Value} {cl : List (Str × Addr)} {outer : List Env} {A₀ : Around} {base h₀ : Heap} {L : Addr} {m : Str → Option Value} {s : Shared} {Q E : Value → Shared → Prop}
    {D L1 : Addr} {sd : Int} {t : Tok} {n1 n2 : Nat} {vs : List Value} {ns : List Int} {rest : List (Addr × Obj)}
    (B : Below A₀ base outer h₀) (F : Fr h₀ L s.heap m) (X : (hd.heap_39 w.params).In h₀)
    (N : News h₀ L s.heap ((D, listOf #[.ref L1, .int sd t] n1) :: (L1, listOf vs.toArray n2) :: rest))
    (T : Top p ls mean mg mb h₀) (hk : cs.kind = .function)
    (hdl : @Ne Nat L1 D) (hr1 : ∀ p ∈ rest, p.1 ≠ D) (hr2 : ∀ p ∈ rest, p.1 ≠ L1)
    (hi : IntsAre vs ns) (hlen : ns.length ≤ 63) (hs0 : 0 ≤ sd) (hs1 : sd < 2147483647)
    (hdp : dp + 20 < recursionLimit) (hun : un + 400 < cLine)
    (hret : ∀ (v : Value) (b : Bool) (d : PyData) (own : Led) (h' : Heap) (tk' : Nat) (sd' : Int) (t' : Tok) (n1' n2' : Nat) (vs' : List Value) (ns' : List Int),
      Thing own v b d → (∀ p ∈ own, p.1 ≠ D) → (∀ p ∈ own, p.1 ≠ L1) → (∀ p ∈ own, AllLt p.1 rest) → IntsAre vs' ns' → ns'.length ≤ 63 → 0 ≤ sd' → sd' < 2147483647 → Fr h₀ L h' m →
      News h₀ L h' ((D, listOf #[.ref L1, .int sd' t'] n1') :: (L1, listOf vs'.toArray n2') :: (own ++ rest)) → Q v { s with heap := h', toks := tk' }) :
    wpAny (model PySem.Challenge.rw_ah6025_01.row.prog w) (ktrTop dp un gd cn cs L a ccd cl outer) (call (.ref 67) [.ref D]) Q E s := by
  revert X; k_fill; intro X
  refine wpAny_call ?_
  k_dflt cell_enter
  k_steps
  all_goals (
    (rename News h₀ L _ _ => kN9)
    (rename Fr h₀ L _ m => kF9)
    (repeat (rename _ ∧ _ => hsplit; obtain ⟨_, _⟩ := hsplit))
    refine' hret _ _ _ [_, _, _, _, _, _, _, _, _, _] _ _ _ _ _ _ _ _ ?t ?r1 ?r2 ?r3 (by assumption) (by assumption) (by assumption) (by assumption) kF9 kN9
    (case t => (refine' ⟨?ta, ?tb, ?tc⟩; (case ta => tb_rel); (case tb => ktr_rel); (case tc => decide +kernel)))
    (case r1 => (repeat' (first | exact List.forall_mem_nil _ | (refine List.forall_mem_cons.mpr ⟨?_, ?_⟩))) <;> k_ne)
    (case r2 => (repeat' (first | exact List.forall_mem_nil _ | (refine List.forall_mem_cons.mpr ⟨?_, ?_⟩))) <;> k_ne)
    (case r3 => (repeat' (first | exact List.forall_mem_nil _ | (refine List.forall_mem_cons.mpr ⟨?_, ?_⟩))) <;> assumption))
end Mine
end

section
open PySem PySem.W PyProof.Rows
namespace Mine
local macro_rules | `(tactic| walk_at "zz0") => `(tactic| skip)
local macro_rules | `(tactic| walk_at "zz1") => `(tactic| skip)
local macro_rules | `(tactic| walk_at "zz2") => `(tactic| skip)
local macro_rules | `(tactic| walk_at "zz3") => `(tactic| skip)
local macro_rules | `(tactic| walk_at "zz4") => `(tactic| skip)
local macro_rules | `(tactic| walk_at "zz5") => `(tactic| skip)
local macro_rules | `(tactic| walk_at "zz6") => `(tactic| skip)
local macro_rules | `(tactic| walk_at "zz7") => `(tactic| skip)
local macro_rules | `(tactic| walk_at "zz8") => `(tactic| skip)
theorem rstComp {M : Model} {A : Around} {E : Value → Shared → Prop} {s : Shared} {env : Env} {Q : Flow → Shared → Prop} (h : Q .next s) : wpAny M A (execs [] env) Q E s := by
  w_top off
  walk1
  exact h
end Mine
end

section
open PySem PySem.W PyProof.Rows
namespace Mine
set_option maxRecDepth 100000
section
variable {prog : Program} {w : World} {A : Around} {s : Shared} {h₀ : Heap} {L : Addr} {m : Str → Option Value} {env : Env} {ct elt : Expr} {x : Str} {scope : Scope} {cl : List (Str × Addr)} {S : Led → Prop} {P : Nat → Value → Prop} {Fin : List Value → Led → Prop}

/-- the turns of a comprehension, by an invariant -/
theorem rest_inv (Inv : Nat → List Value → Led → Prop) {n : Nat}
    (turn : ∀ i ys news v I oI C oC D m₂ h tk (E' : Value → Shared → Prop), i < n → Inv i ys news → P i v → LCg.NsObj oC m₂ → m₂ x = some v → Fr h₀ L h m → News h₀ L h ((I, oI) :: (C, oC) :: (D, LCg.lst ys) :: news) → LCg.Off3 I C D news → ((@Ne Nat I C) ∧ (@Ne Nat I D) ∧ (@Ne Nat C D)) →
      wpAny (model prog w) A (eval elt (compEnvC scope cl C env)) (LCg.CompEnd h₀ L m { s with heap := h, toks := tk } I oI C oC D (LCg.lst ys) S (fun y news' => Inv (i + 1) (ys ++ [y]) news')) E' { s with heap := h, toks := tk })
    (fin : ∀ ys news, Inv n ys news → Fin ys news) :
    ∀ (k i : Nat) (ys : List Value) (news : Led), i + k = n → Inv i ys news → LCg.CompRest prog w A h₀ L m env elt x scope cl s S P Fin k i ys news := by
  intro k
  induction k with
  | zero =>
    intro i ys news e hI
    obtain rfl : i = n := by omega
    exact fin _ _ hI
  | succ k ih =>
    intro i ys news e hI
    refine LCg.CompRest.succ fun v I oI C oC D m₂ h tk E' hv hC hx F N off ne => ?_
    refine wpAny_mono (turn i ys news v I oI C oC D m₂ h tk E' (by omega) hI hv hC hx F N off ne) (fun y s₂ h₂ => ?_) fun _ _ e => e
    obtain ⟨h', tk', news', e', F', N', off', hS, hr⟩ := h₂
    exact ⟨h', tk', news', e', F', N', off', hS, ih _ _ _ (by omega) hr⟩

theorem restT_inv (Inv : Nat → List Value → Led → Prop) {n : Nat}
    (turn : ∀ i ys news v I oI C oC D m₂ h tk (E' : Value → Shared → Prop), i < n → Inv i ys news → P i v → LCg.NsObj oC m₂ → m₂ x = some v → Fr h₀ L h m → News h₀ L h ((I, oI) :: (C, oC) :: (D, LCg.lst ys) :: news) → LCg.Off3 I C D news → ((@Ne Nat I C) ∧ (@Ne Nat I D) ∧ (@Ne Nat C D)) →
      wpAny (model prog w) A (isTrue ct (compEnvC scope cl C env) (eval ct (compEnvC scope cl C env))) (fun ok s' => if ok = true then
        wpAny (model prog w) A (eval elt (compEnvC scope cl C env)) (LCg.CompEnd h₀ L m { s with heap := h, toks := tk } I oI C oC D (LCg.lst ys) S (fun y news' => Inv (i + 1) (ys ++ [y]) news')) E' s'
        else LCg.CompEnd h₀ L m { s with heap := h, toks := tk } I oI C oC D (LCg.lst ys) S (fun _ news' => Inv (i + 1) ys news') Value.none s') E' { s with heap := h, toks := tk })
    (fin : ∀ ys news, Inv n ys news → Fin ys news) :
    ∀ (k i : Nat) (ys : List Value) (news : Led), i + k = n → Inv i ys news → LCt.CompRestT prog w A h₀ L m env ct elt x scope cl s S P Fin k i ys news := by
  intro k
  induction k with
  | zero =>
    intro i ys news e hI
    obtain rfl : i = n := by omega
    exact fin _ _ hI
  | succ k ih =>
    intro i ys news e hI
    have up : ∀ {ys' : List Value} {y : Value} {s₂ : Shared} {I oI C oC D h tk}, LCg.CompEnd h₀ L m { s with heap := h, toks := tk } I oI C oC D (LCg.lst ys) S (fun _ news' => Inv (i + 1) ys' news') y s₂ →
        LCg.CompEnd h₀ L m { s with heap := h, toks := tk } I oI C oC D (LCg.lst ys) S (fun _ news' => LCt.CompRestT prog w A h₀ L m env ct elt x scope cl s S P Fin k (i + 1) ys' news') y s₂ := by
      rintro ys' y s₂ I oI C oC D h tk ⟨h', tk', news', e', F', N', off', hS, hr⟩
      exact ⟨h', tk', news', e', F', N', off', hS, ih _ _ _ (by omega) hr⟩
    refine LCt.CompRestT.succ fun v I oI C oC D m₂ h tk E' hv hC hx F N off ne => ?_
    refine wpAny_mono (turn i ys news v I oI C oC D m₂ h tk E' (by omega) hI hv hC hx F N off ne) (fun ok s₂ h₂ => ?_) fun _ _ e => e
    cases ok with
    | true =>
      simp only [if_true] at h₂ ⊢
      refine wpAny_mono h₂ (fun y s₃ h₃ => ?_) fun _ _ e => e
      obtain ⟨h', tk', news', e', F', N', off', hS, hr⟩ := h₃
      exact ⟨h', tk', news', e', F', N', off', hS, ih _ _ _ (by omega) hr⟩
    | false =>
      simp only [Bool.false_eq_true, if_false] at h₂ ⊢
      exact up h₂
end
end Mine
end

section
open PySem PySem.W PyProof.Rows
namespace Mine
local macro_rules | `(tactic| walk_at "zz0") => `(tactic| skip)
local macro_rules | `(tactic| walk_at "zz1") => `(tactic| skip)
local macro_rules | `(tactic| walk_at "zz2") => `(tactic| skip)
local macro_rules | `(tactic| walk_at "zz3") => `(tactic| skip)
local macro_rules | `(tactic| walk_at "zz4") => `(tactic| skip)
local macro_rules | `(tactic| walk_at "zz5") => `(tactic| skip)
local macro_rules | `(tactic| walk_at "zz6") => `(tactic| skip)
local macro_rules | `(tactic| walk_at "zz7") => `(tactic| skip)
local macro_rules | `(tactic| walk_at "zz8") => `(tactic| skip)
theorem rstT9 {M : Model} {A : Around} {E : Value → Shared → Prop} {s : Shared} {env : Env} {Q : Flow → Shared → Prop} (h : Q .next s) : wpAny M A (execs [] env) Q E s := by
  w_top off
  walk1
  exact h
end Mine
end

section
open PySem PySem.W PyProof.Rows
namespace Mine
set_option maxRecDepth 100000
set_option maxHeartbeats 4000000
def sizeOk {vs : List Value} {n : Nat} (h : vs.length ≤ n) (hn : n ≤ 1000) : vs.toArray.size ≤ sizeLine := by
  rw [List.size_toArray, sizeLine_eq]; omega

theorem ints_at {vs : List Value} {ns : List Int} (h : IntsAre vs ns) : ∀ {i : Nat} {v : Value}, vs[i]? = some v → ∃ k t, v = .int k t := by
  induction h with
  | nil => intro i v e; simp at e
  | cons k t _ ih =>
    intro i v e
    cases i with
    | zero => simp at e; exact ⟨k, t, e.symm⟩
    | succ i => exact ih (by simpa using e)
theorem ints_snoc {vs : List Value} {ns : List Int} (h : IntsAre vs ns) (k : Int) (t : Tok) : IntsAre (vs ++ [.int k t]) (ns ++ [k]) := by
  induction h with
  | nil => exact .cons k t .nil
  | cons k' t' _ ih => exact .cons k' t' ih

theorem abs_comp {w : World} {mean : ExcName → Option Value} {mg mb : Str → Option Value} {p : Program} {ls : List Str} {h₀ : Heap} {L a : Addr} {cd : Value} {m : Str → Option Value} {s : Shared} {Q E : Value → Shared → Prop} {A : Around}
    {l : Addr} {vs : List Value} {ns : List Int} {rest : List (Addr × Obj)} {p1 p2 p3 px pi pos : Pos} {nm : Str} {sc : Scope}
    (F : Fr h₀ L s.heap m) (X : (hd.heap_39 w.params).In h₀) (N : News h₀ L s.heap rest)
    (T : Top p ls mean mg mb h₀)
    (hl : h₀.IsList l vs.toArray) (hi : IntsAre vs ns) (hlen : vs.length ≤ 63) (hh : A.handled = none)
    (hm : m (Str.ofString "script") = some (.ref l)) (hsc : sc.kind = .function) (hk : (envOf nm sc L a cd).kindOf (Str.ofString "script") = some .local)
    (hret : ∀ D ys ms h' tk', IntsAre ys ms → ys.length ≤ 63 → Fr h₀ L h' m → News h₀ L h' ((D, listOf ys.toArray ys.length) :: rest) → Q (.ref D) { s with heap := h', toks := tk' }) :
    wpAny (model PySem.Challenge.rw_ah6025_01.row.prog w) A (eval (.ListComp (.Call (.Name (Str.ofString "abs") p1) [.Name (Str.ofString "cell") p2] [] p3) [⟨.Name (Str.ofString "cell") px, .Name (Str.ofString "script") pi, [], 0⟩]
      { kind := .function, names := [(Str.ofString ".0", .local), (Str.ofString "cell", .local), (Str.ofString "abs", .globalImplicit)], isGenerator := false, isCoroutine := false } pos) (envOf nm sc L a cd)) Q E s := by
  revert X; k_fill; intro X
  refine LCg.ListComp_U F (by with_unfolding_all rfl) (by decide) (by rfl) (by decide) (by rfl) ?_
  refine ld F hm ?_ hsc hk
  refine LCg.CompSrc.base hh F N hl (sizeOk hlen (by decide)) ?_
  intro g
  refine rest_inv (n := vs.toArray.size) (fun i ys news => news = rest ∧ ys.length = i ∧ ∃ ms, IntsAre ys ms) ?_ ?_ _ 0 [] rest (by omega) ⟨rfl, rfl, [], .nil⟩
  · rintro i ys news v I oI C oC D m₂ h tk E' hlt ⟨rfl, hy, ms, hms⟩ hv hC hx F' N' off ne
    obtain ⟨k, t, rfl⟩ := ints_at hi (show vs[i]? = some v by simpa using hv)
    k_steps
    exact LCg.CompEnd.intro F' N' news (fun p hp => hp) off (.inl hl) ⟨rfl, by rw [List.length_append, hy]; rfl, _, ints_snoc hms _ _⟩
  · rintro ys news ⟨rfl, hy, ms, hms⟩
    intro D h tk F' N' o1
    exact hret D ys ms h tk hms (by rw [hy]; simpa using hlen) F' N'
end Mine
end

section
open PySem PySem.W PyProof.Rows
namespace Mine
local macro_rules | `(tactic| walk_at "zz0") => `(tactic| skip)
local macro_rules | `(tactic| walk_at "zz1") => `(tactic| skip)
local macro_rules | `(tactic| walk_at "zz2") => `(tactic| skip)
local macro_rules | `(tactic| walk_at "zz3") => `(tactic| skip)
local macro_rules | `(tactic| walk_at "zz4") => `(tactic| skip)
local macro_rules | `(tactic| walk_at "zz5") => `(tactic| skip)
local macro_rules | `(tactic| walk_at "zz6") => `(tactic| skip)
local macro_rules | `(tactic| walk_at "zz7") => `(tactic| skip)
local macro_rules | `(tactic| walk_at "zz8") => `(tactic| skip)
theorem rstT8 {M : Model} {A : Around} {E : Value → Shared → Prop} {s : Shared} {env : Env} {Q : Flow → Shared → Prop} (h : Q .next s) : wpAny M A (execs [] env) Q E s := by
  w_top off
  walk1
  exact h
end Mine
end

section
open PySem PySem.W PyProof.Rows
namespace Mine
set_option maxRecDepth 100000
set_option maxHeartbeats 8000000
local macro_rules | `(tactic| walk_at "eval ListComp") => `(tactic| (k_here; k_dflt (refine' abs_comp ?k1 ?k2 ?k3 ?k4 ?k5 ?k6 ?k7 ?k8 ?k9 ?k10 ?k11 ?_; (case k1 => k_asm); (case k2 => k_asm); (case k3 => k_asm); (case k4 => k_asm); (case k5 => assumption); (case k6 => assumption); (case k7 => assumption); (case k8 => rfl); (case k9 => rfl); (case k10 => rfl); (case k11 => rfl)); intro D9 ys9 ms9 h9 tk9 hi9 hl9 F9 N9; (try dsimp only)))

theorem allLt_mem {d : Addr} : ∀ {l : List (Addr × Obj)}, AllLt d l → ∀ p ∈ l, @LT.lt Nat _ p.1 d
  | [], _, _, hp => nomatch hp
  | _ :: _, h, p, hp => by
    rcases List.mem_cons.mp hp with rfl | hp
    · exact h.1
    · exact allLt_mem h.2 p hp

theorem pick3 {h₀ h : Heap} {L : Addr} {x y z : Addr × Obj} {r : Led} (N : News h₀ L h (x :: y :: z :: r)) : News h₀ L h (x :: y :: r) := fun p hp => N p (by
  rcases List.mem_cons.mp hp with rfl | hp
  · exact List.mem_cons_self ..
  · rcases List.mem_cons.mp hp with rfl | hp
    · exact List.mem_cons_of_mem _ (List.mem_cons_self ..)
    · exact List.mem_cons_of_mem _ (List.mem_cons_of_mem _ (List.mem_cons_of_mem _ hp)))

theorem draw_ok {w : World} {mean : ExcName → Option Value} {mg mb : Str → Option Value} {p : Program} {ls : List Str} {dp un : Nat} {gd : Option (List Code)} {cn : Str} {cs : Scope} {a : Addr} {ccd : Value} {cl : List (Str × Addr)} {outer : List Env} {A₀ : Around} {base h₀ : Heap} {L : Addr} {m : Str → Option Value} {s : Shared} {Q E : Value → Shared → Prop}
    {l : Addr} {vs : List Value} {ns : List Int} {rest : List (Addr × Obj)}
    (B : Below A₀ base outer h₀) (F : Fr h₀ L s.heap m) (X : (hd.heap_39 w.params).In h₀)
    (N : News h₀ L s.heap rest)
    (T : Top p ls mean mg mb h₀) (hk : cs.kind = .function)
    (hl : h₀.IsList l vs.toArray) (hi : IntsAre vs ns) (hlen : ns.length ≤ 63)
    (hdp : dp + 20 < recursionLimit) (hun : un + 400 < cLine)
    (hret : ∀ (D L1 : Addr) (sd : Int) (t : Tok) (n1 n2 : Nat) (vs' : List Value) (ns' : List Int) (h' : Heap) (tk' : Nat),
      (@Ne Nat L1 D) → IntsAre vs' ns' → ns'.length ≤ 63 → 0 ≤ sd → sd < 2147483647 → (∀ p ∈ rest, p.1 ≠ D) → (∀ p ∈ rest, p.1 ≠ L1) → Fr h₀ L h' m →
      News h₀ L h' ((D, listOf #[.ref L1, .int sd t] n1) :: (L1, listOf vs'.toArray n2) :: rest) → Q (.ref D) { s with heap := h', toks := tk' }) :
    wpAny (model PySem.Challenge.rw_ah6025_01.row.prog w) (ktrTop dp un gd cn cs L a ccd cl outer) (call (.ref 53) [.ref l]) Q E s := by
  revert X; k_fill; intro X
  have hvl : vs.length ≤ 63 := by rw [hi.length]; exact hlen
  refine wpAny_call ?_
  k_dflt cell_enter
  (rename Fr h₀ L _ m => FG9)
  have hl9 := hl.at (FG9.keep _)
  repeat' ((fail_if_success (with_reducible show wpAny _ _ (exec (Stmt.For _ _ _ _ _) _) _ _ _)); first | (k_unfold; (try dsimp only)) | walk1 | (dsimp only; walk1))
  (rename Fr _ _ _ _ => F9)
  (rename News _ _ _ rest => N9)
  refine For_invVF F9 rfl rfl (ld F9 rfl ?_ rfl rfl)
  refine iter_invN (fun i m' nx => nx = rest ∧ m' (Str.ofString "script") = some (.ref l) ∧ ∃ sd t, m' (Str.ofString "seed") = some (.int sd t) ∧ 0 ≤ sd ∧ sd < 2147483647) rfl hl9 hi F9 N9 ⟨rfl, rfl, _, _, rfl, by decide, by decide⟩ ?_ ?_
  · rintro i n t m₁ news₁ h tk own hn hadr hoff ⟨rfl, hm1, sd, t1, hm2, h0, h1⟩ F1 N1
    have e : (fun y => if y = Str.ofString "cell" then some (.int n t) else m₁ y) = (fun y => if y = Str.ofString "cell" then some (.int n t) else if y = Str.ofString "seed" then some (.int sd t1) else m₁ y) := by
      funext y
      by_cases hy : y = Str.ofString "seed"
      · subst hy; simp [hm2]
      · simp [hy]
    rw [e] at F1
    clear e F9 N9
    repeat' ((fail_if_success (with_reducible show wpAny _ _ (execs [] _) _ _ _)); first | (k_unfold; (try dsimp only)) | walk1 | (dsimp only; walk1))
    refine wpAny_execs_nil ?_
    (rename Fr _ _ _ _ => F2)
    (rename News _ _ _ _ => N2)
    refine InvEndN.intro F2 N2 ⟨rfl, ?_, _, _, rfl, Int.fmod_nonneg_of_pos _ (by decide), Int.fmod_lt_of_pos _ (by decide)⟩ rfl (fun p hp => List.mem_append_left _ hp) (fun p hp => List.mem_append_right _ hp)
    exact hm1
  · rintro m₁ news₁ h tk ⟨rfl, hm1, sd, t1, hm2, h0, h1⟩ F1 N1
    have e : m₁ = (fun y => if y = Str.ofString "script" then some (.ref l) else if y = Str.ofString "seed" then some (.int sd t1) else m₁ y) := by
      funext y
      by_cases hy : y = Str.ofString "script"
      · subst hy; simp [hm1]
      · by_cases hz : y = Str.ofString "seed"
        · rw [if_neg hy, if_pos hz, hz, hm2]
        · rw [if_neg hy, if_neg hz]
    rw [e] at F1
    clear e F9 N9
    dsimp only
    repeat' ((fail_if_success (with_reducible show wpAny _ _ (eval (Expr.ListComp _ _ _ _) _) _ _ _)); first | (k_unfold; (try dsimp only)) | walk1 | (dsimp only; walk1))
    k_steps
    (rename Fr h₀ L _ m => kF9)
    (rename News h₀ L _ _ => kN9)
    (rename IntsAre _ (List.take _ _) => hi8)
    (rename (_ : Nat) < _ ∧ AllLt _ _ => hA)
    (rename (_ : Nat) < _ ∧ _ < _ ∧ AllLt _ _ => hB)
    refine hret _ _ sd t1 _ _ _ _ _ _ (Nat.ne_of_lt hB.1) hi8 ?_ h0 h1 (fun p hp => Nat.ne_of_lt (allLt_mem hB.2.2 p hp)) (fun p hp => Nat.ne_of_lt (allLt_mem hA.2 p hp)) kF9 (pick3 kN9)
    rw [List.length_take]; omega
end Mine
end

section
open PySem PySem.W PyProof.Rows
namespace Mine
local macro_rules | `(tactic| walk_at "zz0") => `(tactic| skip)
local macro_rules | `(tactic| walk_at "zz1") => `(tactic| skip)
local macro_rules | `(tactic| walk_at "zz2") => `(tactic| skip)
local macro_rules | `(tactic| walk_at "zz3") => `(tactic| skip)
local macro_rules | `(tactic| walk_at "zz4") => `(tactic| skip)
local macro_rules | `(tactic| walk_at "zz5") => `(tactic| skip)
local macro_rules | `(tactic| walk_at "zz6") => `(tactic| skip)
local macro_rules | `(tactic| walk_at "zz7") => `(tactic| skip)
local macro_rules | `(tactic| walk_at "zz8") => `(tactic| skip)
theorem rstIsi {M : Model} {A : Around} {E : Value → Shared → Prop} {s : Shared} {env : Env} {Q : Flow → Shared → Prop} (h : Q .next s) : wpAny M A (execs [] env) Q E s := by
  w_top off
  walk1
  exact h
end Mine
end

section
open PySem PySem.W PyProof.Rows
namespace Mine
set_option maxRecDepth 100000
section
variable {prog : Program} {w : World} {A : Around} {E : Value → Shared → Prop} {s : Shared} {Q : Value → Shared → Prop} {tp : Addr}
abbrev ltObj : Obj := { cls := .type "tuple", data := .seq [.type "list", .type "tuple"].toArray }
theorem isiLT_list {a : Addr} {o : Obj} (hx : s.heap.get? a = some o) (hc : o.cls = .type "list") (ht : s.heap.get? tp = some ltObj) (h : ∀ tk, Q (.bool true) { s with toks := tk }) :
    wpAny (model prog w) A (call (.builtin "isinstance") [.ref a, .ref tp]) Q E s :=
  IsiPair.tupleOfB (Tx := "list") (cs := [.type "list", .type "tuple"]) (vs := [true, false]) (.cons (.of_true F.isi_meta_list F.sub_list_list) (.cons (.of_false_list (by decide +kernel) F.isi_meta_tuple F.sub_list_tuple) .nil)) ⟨o, hx, hc⟩ ht rfl h
theorem isiLT_tuple {a : Addr} {o : Obj} (hx : s.heap.get? a = some o) (hc : o.cls = .type "tuple") (ht : s.heap.get? tp = some ltObj) (h : ∀ tk, Q (.bool true) { s with toks := tk }) :
    wpAny (model prog w) A (call (.builtin "isinstance") [.ref a, .ref tp]) Q E s :=
  IsiPair.tupleOfB (Tx := "tuple") (cs := [.type "list", .type "tuple"]) (vs := [false, true]) (.cons (.of_false_tuple (by decide +kernel) F.isi_meta_list F.sub_tuple_list) (.cons (.of_true F.isi_meta_tuple F.sub_tuple_tuple) .nil)) ⟨o, hx, hc⟩ ht rfl h
theorem isiLT_dict {a : Addr} {o : Obj} (hx : s.heap.get? a = some o) (hc : o.cls = .type "dict") (ht : s.heap.get? tp = some ltObj) (h : ∀ tk, Q (.bool false) { s with toks := tk }) :
    wpAny (model prog w) A (call (.builtin "isinstance") [.ref a, .ref tp]) Q E s :=
  IsiPair.tupleOfB (Tx := "dict") (cs := [.type "list", .type "tuple"]) (vs := [false, false]) (.cons (.of_false_dict (by decide +kernel) F.isi_meta_list F.sub_dict_list) (.cons (.of_false_dict (by decide +kernel) F.isi_meta_tuple F.sub_dict_tuple) .nil)) ⟨o, hx, hc⟩ ht rfl h
theorem isiLT_str {x : Str} {t : Tok} (ht : s.heap.get? tp = some ltObj) (h : ∀ tk, Q (.bool false) { s with toks := tk }) :
    wpAny (model prog w) A (call (.builtin "isinstance") [.str x t, .ref tp]) Q E s :=
  IsiPair.tupleOfB (Tx := "str") (cs := [.type "list", .type "tuple"]) (vs := [false, false]) (.cons (.of_false_str (by decide +kernel) F.isi_meta_list F.sub_str_list) (.cons (.of_false_str (by decide +kernel) F.isi_meta_tuple F.sub_str_tuple) .nil)) (typeIs_str _ _ _) ht rfl h
theorem isiLT_int {i : Int} {t : Tok} (ht : s.heap.get? tp = some ltObj) (h : ∀ tk, Q (.bool false) { s with toks := tk }) :
    wpAny (model prog w) A (call (.builtin "isinstance") [.int i t, .ref tp]) Q E s :=
  IsiPair.tupleOfB (Tx := "int") (cs := [.type "list", .type "tuple"]) (vs := [false, false]) (.cons (.of_false_int (by decide +kernel) F.isi_meta_list F.sub_int_list) (.cons (.of_false_int (by decide +kernel) F.isi_meta_tuple F.sub_int_tuple) .nil)) (typeIs_int _ _ _) ht rfl h
theorem isiLT_none (ht : s.heap.get? tp = some ltObj) (h : ∀ tk, Q (.bool false) { s with toks := tk }) :
    wpAny (model prog w) A (call (.builtin "isinstance") [.none, .ref tp]) Q E s :=
  IsiPair.tupleOfB (Tx := "NoneType") (cs := [.type "list", .type "tuple"]) (vs := [false, false]) (.cons (.of_false_none (by decide +kernel) F.isi_meta_list F.sub_NoneType_list) (.cons (.of_false_none (by decide +kernel) F.isi_meta_tuple F.sub_NoneType_tuple) .nil)) rfl ht rfl h
end

/-- the function that isinstance and len answer by, at a heap -/
def pairAt (h : Heap) : Value → Bool
  | .ref a => match h.get? a with
    | some o => o.cls == .type "tuple" && (match o.data with | .seq its _ => its.size == 2 | _ => false)
    | none => false
  | _ => false
theorem Kd.pairAt {R : Led} {h : Heap} {v : Value} {b : Bool} (k : Kd R v b) (H : Holds R h) : pairAt h v = b := by
  cases k with
  | @tup a vs n hr hl =>
    have ho := H _ hr
    dsimp only at ho
    simp only [Mine.pairAt, ho]
    rw [List.size_toArray]
    by_cases e : vs.length = 2
    · rw [decide_eq_true e, e]; rfl
    · rw [decide_eq_false e]; simp [e]
  | list hr =>
    have ho := H _ hr
    dsimp only at ho
    simp only [Mine.pairAt, ho]
    rfl
  | dict hr hc =>
    have ho := H _ hr
    dsimp only at ho
    simp only [Mine.pairAt, ho, hc]
    rfl
  | str => rfl
  | int => rfl

inductive Kds (R : Led) : List Value → List Bool → Prop
  | nil : Kds R [] []
  | cons {v : Value} {b : Bool} {vs : List Value} {bs : List Bool} : Kd R v b → Kds R vs bs → Kds R (v :: vs) (b :: bs)
theorem Kds.mono {R R' : Led} {vs : List Value} {bs : List Bool} (h : Kds R vs bs) (hs : ∀ p ∈ R, p ∈ R') : Kds R' vs bs := by
  induction h with
  | nil => exact .nil
  | cons k _ ih => exact .cons (k.mono hs) ih
theorem Kds.mem {R : Led} {vs : List Value} {bs : List Bool} (h : Kds R vs bs) : ∀ v ∈ vs, ∃ b, Kd R v b := by
  induction h with
  | nil => exact fun _ h => nomatch h
  | cons k _ ih =>
    intro v hv
    rcases List.mem_cons.mp hv with rfl | hv
    · exact ⟨_, k⟩
    · exact ih v hv
theorem Kds.all {R : Led} {h : Heap} {vs : List Value} {bs : List Bool} (k : Kds R vs bs) (H : Holds R h) : vs.all (Mine.pairAt h) = bs.all id := by
  induction k with
  | nil => rfl
  | cons k _ ih => rw [List.all_cons, List.all_cons, k.pairAt H, ih]; rfl
theorem Kds.length {R : Led} {vs : List Value} {bs : List Bool} (k : Kds R vs bs) : vs.length = bs.length := by
  induction k with
  | nil => rfl
  | cons _ _ ih => rw [List.length_cons, List.length_cons, ih]
theorem Kds.snoc {R : Led} {vs : List Value} {bs : List Bool} {v : Value} {b : Bool} (k : Kds R vs bs) (h : Kd R v b) : Kds R (vs ++ [v]) (bs ++ [b]) := by
  induction k with
  | nil => exact .cons h .nil
  | cons k' _ ih => exact .cons k' ih

def valKind : ItemKind Value := ⟨fun a v => v = a, some, fun _ _ h => by rw [h]⟩
theorem vals_are : ∀ vs : List Value, AreOf valKind vs vs
  | [] => .nil
  | _ :: r => .cons rfl (vals_are r)
end Mine
end

section
open PySem PySem.W PyProof.Rows
namespace Mine
local macro_rules | `(tactic| walk_at "zz0") => `(tactic| skip)
local macro_rules | `(tactic| walk_at "zz1") => `(tactic| skip)
local macro_rules | `(tactic| walk_at "zz2") => `(tactic| skip)
local macro_rules | `(tactic| walk_at "zz3") => `(tactic| skip)
local macro_rules | `(tactic| walk_at "zz4") => `(tactic| skip)
local macro_rules | `(tactic| walk_at "zz5") => `(tactic| skip)
local macro_rules | `(tactic| walk_at "zz6") => `(tactic| skip)
local macro_rules | `(tactic| walk_at "zz7") => `(tactic| skip)
local macro_rules | `(tactic| walk_at "zz8") => `(tactic| skip)
theorem rstT11 {M : Model} {A : Around} {E : Value → Shared → Prop} {s : Shared} {env : Env} {Q : Flow → Shared → Prop} (h : Q .next s) : wpAny M A (execs [] env) Q E s := by
  w_top off
  walk1
  exact h
end Mine
end

section
open PySem PySem.W PyProof.Rows
namespace Mine
set_option maxRecDepth 100000
set_option maxHeartbeats 2000000

local macro_rules | `(tactic| walk_at "eval Name") => `(tactic| (first
  | (refine glB_builtin (by assumption) (by assumption) (by boot_by_name) ?_ (by decide +kernel) (by decide +kernel) (by decide +kernel) (by assumption) (by rfl) (by rfl) (by decide))
  | (refine ldVarG (by assumption) (by assumption) ?_ (by rfl) (by rfl) (by decide))))

local macro_rules | `(tactic| walk_at "call builtin:isinstance") => `(tactic| (first
  | (refine IsiPair.tuple_tuple (by assumption) (by first | rfl | assumption) ?_)
  | (refine IsiPair.list_tuple (by assumption) (by first | rfl | assumption) ?_)
  | (refine IsiPair.dict_tuple (by assumption) (by first | rfl | assumption) ?_)
  | (refine IsiPair.str_tuple ?_)
  | (refine IsiPair.int_tuple ?_)))

theorem gen_elt {w : World} {A : Around} {E : Value → Shared → Prop} {N : Nat} {mg mb m₂ : Str → Option Value} {defs : List DefItem} {consts : List (Str × PyData)} {objs : List (Str × (Obj → Prop))} {h' : Heap} {C : Addr} {code : Value} {env : Env} {u : Shared} {p1 p2 p3 p4 p5 p6 p7 p8 p9 p10 : Pos} {R : Led} {v : Value} {b : Bool}
    (F : Fr h' C u.heap m₂) (G : Glob N mg mb defs consts objs (namesW hd.view_39 [Str.ofString "_encode"]) h') (hm : m₂ (Str.ofString "t") = some v) (hg : env.globals = mainGlobals)
    (k : Kd R v b) (H : Holds R u.heap) :
    wpAny (model PySem.Challenge.rw_ah6025_01.row.prog w) A (eval (.BoolOp .And [.Call (.Name (Str.ofString "isinstance") p1) [.Name (Str.ofString "t") p2, .Name (Str.ofString "tuple") p3] [] p4, .Compare (.Call (.Name (Str.ofString "len") p5) [.Name (Str.ofString "t") p6] [] p7) [.Eq] [.Constant (.int 2) 0 p8] p9] p10)
      (genEnv { kind := .function, names := [(Str.ofString ".0", .local), (Str.ofString "t", .local), (Str.ofString "isinstance", .globalImplicit), (Str.ofString "tuple", .globalImplicit), (Str.ofString "len", .globalImplicit)], isGenerator := true, isCoroutine := false } [] C code builtinsNs env))
      (fun y s₃ => Carried y (.bool b) ∧ Keeps u s₃) E u := by
  have lgeM := LGe.Mark.mk
  cases k with
  | @tup a vs n hr hl =>
    have ho := H _ hr
    have ht : u.heap.IsTuple a vs.toArray := ⟨_, ho, rfl, _, rfl⟩
    repeat' ((fail_if_success (with_reducible show wpAny _ _ (call (Value.builtin "len") _) _ _ _)); first | walk1 | (dsimp only; walk1))
    refine len_tuple ht (by rw [List.size_toArray]; omega) ?_
    k_steps
    · have e : ((vs.toArray.size : Int) == 2) = decide (vs.length = 2) := by
        rw [List.size_toArray]
        by_cases h : vs.length = 2
        · rw [h]; rfl
        · rw [decide_eq_false h]
          exact beq_eq_false_iff_ne.mpr fun q => h (by omega)
      rw [e]
      exact .bool _
    · exact ⟨_, _, rfl, fun _ _ e => e⟩
  | list hr =>
    have ho := H _ hr
    k_steps
    · exact .bool _
    · exact ⟨_, _, rfl, fun _ _ e => e⟩
  | dict hr hc =>
    have ho := H _ hr
    k_steps
    · exact .bool _
    · exact ⟨_, _, rfl, fun _ _ e => e⟩
  | str =>
    k_steps
    · exact .bool _
    · exact ⟨_, _, rfl, fun _ _ e => e⟩
  | int =>
    k_steps
    · exact .bool _
    · exact ⟨_, _, rfl, fun _ _ e => e⟩
end Mine
end

section
open PySem PySem.W PyProof.Rows
namespace Mine
local macro_rules | `(tactic| walk_at "zz0") => `(tactic| skip)
local macro_rules | `(tactic| walk_at "zz1") => `(tactic| skip)
local macro_rules | `(tactic| walk_at "zz2") => `(tactic| skip)
local macro_rules | `(tactic| walk_at "zz3") => `(tactic| skip)
local macro_rules | `(tactic| walk_at "zz4") => `(tactic| skip)
local macro_rules | `(tactic| walk_at "zz5") => `(tactic| skip)
local macro_rules | `(tactic| walk_at "zz6") => `(tactic| skip)
local macro_rules | `(tactic| walk_at "zz7") => `(tactic| skip)
local macro_rules | `(tactic| walk_at "zz8") => `(tactic| skip)
theorem rstT12 {M : Model} {A : Around} {E : Value → Shared → Prop} {s : Shared} {env : Env} {Q : Flow → Shared → Prop} (h : Q .next s) : wpAny M A (execs [] env) Q E s := by
  w_top off
  walk1
  exact h
end Mine
end

section
open PySem PySem.W PyProof.Rows
namespace Mine
set_option maxRecDepth 100000
set_option maxHeartbeats 2000000

abbrev pairObj (x y : Value) : Obj := { cls := .type "tuple", data := .seq [x, y].toArray }

theorem isl_fin {h₀ u base : Heap} {L L' P : Addr} {m m' : Str → Option Value} {news : Led} {more : Array Value} {tup : Addr} {x y : Value} {s' : Shared} {Q : Value → Shared → Prop}
    (B : Based h₀ h₀ 20 P #[]) (F : Fr h₀ L u m) (N0 : News h₀ L u news) (B' : Based u base 20 P (#[] ++ more)) (hb : ∀ b, b ≠ P → base.get? b = u.get? b) (hbP : ∃ o, base.get? P = some o) (F' : Fr base L' s'.heap m') (N' : News base L' s'.heap [(tup, pairObj x y)])
    (hret : ∀ (ps' : Array Value), Based h₀ (regrown h₀ P ps') 20 P ps' → Fr (regrown h₀ P ps') L s'.heap m → News (regrown h₀ P ps') L s'.heap ((tup, pairObj x y) :: news) → Q (.ref tup) s') :
    LeaveG h₀ h₀ L m 20 P #[] u Q (.ref tup) s' := by
  refine leaveG_ B' F' fun B2 F2 hk => ?_
  have ht := N' _ (List.mem_cons_self ..)
  have hne : tup ≠ P := fun e => by
    obtain ⟨o, ho⟩ := hbP
    have z := ht.2.2
    dsimp only at z
    rw [e, ho] at z
    cases z
  have hu : u.get? tup = none := (hb tup hne).symm.trans ht.2.2
  have h0 : h₀.get? tup = none := by
    cases q : h₀.get? tup with
    | none => rfl
    | some o => have z := F.keep _ _ q; rw [hu] at z; cases z
  refine hret _ B2 F2 fun p hp => ?_
  rcases List.mem_cons.mp hp with rfl | hp
  · refine ⟨ht.1, fun e => ?_, (Heap.get?_update_other _ _ (Ne.symm hne)).trans h0⟩
    obtain ⟨oL, _, _, hL, _⟩ := F.ns
    dsimp only at e
    rw [e, hL] at hu
    cases hu
  · exact News.rebase N0 B hk p hp

theorem isl_list {w : World} {ls : List Str} {mean : ExcName → Option Value} {mg mb : Str → Option Value} {A : Around} {h₀ : Heap} {L : Addr} {m : Str → Option Value} {s : Shared} {Q E : Value → Shared → Prop} {news : Led}
    {N : Nat} {defs : List DefItem} {consts : List (Str × PyData)} {V : Addr} {vs : List Value}
    (F : Fr h₀ L s.heap m) (X : (hd.heap_39 w.params).In h₀) (N0 : News h₀ L s.heap news)
    (T : Top hd.view_39 ls mean mg mb h₀) (G : Glob N mg mb defs consts [] (namesW hd.view_39 [Str.ofString "_encode"]) h₀)
    (hdp : A.depth + 20 < recursionLimit) (hun : A.units + 400 < cLine) (hh : A.handled = none) (hgen : AllBare s.gens) (hV : s.heap.IsList V vs.toArray) (hlen : vs.length ≤ 5) {bs : List Bool} (hR : Kds news vs bs)
    (hret : ∀ (P tup : Addr) (r : Bool) (held : Value) (ps' : Array Value) (s' : Shared), r = (!vs.isEmpty && bs.all id) → (held = if r then .ref V else .none) → Based h₀ (regrown h₀ P ps') 20 P ps' → Fr (regrown h₀ P ps') L s'.heap m →
      News (regrown h₀ P ps') L s'.heap ((tup, pairObj (.bool r) held) :: news) → AllBare s'.gens → s'.os = s.os → Q (.ref tup) s') :
    wpAny (model PySem.Challenge.rw_ah6025_01.row.prog w) A (call (.ref 21) [.ref V]) Q E s := by
  revert X; k_fill; intro X
  have hm : mg (Str.ofString "is_list_of_tuples") = some (.ref 21) := mg_of X T.g (by k_is)
  have ho := X 21 _ (by k_is)
  obtain ⟨c, P, hc, B⟩ := based_of_top T rfl hm ho rfl
  obtain ⟨bm, ob, M⟩ := bmod_of_top T
  obtain rfl : c = 20 := by cases hc; rfl
  have hcd : h₀.CodeRec (.ref 20) (Str.ofString "is_list_of_tuples") := codeRec_of X (by k_is)
  refine call_inG ho rfl hcd B B F G M (by omega) rfl (locs rfl) ?_
  intro h₂ F1 G1 B1 M1
  have X1 := X.keeps F.keep
  have T1 := T.keeps F.keep
  have N1 : News s.heap s.heap.objs.size h₂ [] := News.nil
  have hR0 : Holds news s.heap := Holds.of N0
  have hRP : ∀ p ∈ news, p.1 ≠ P := fun p hp e => by
    have z := (N0 p hp).2.2
    rw [e, B.tab.2] at z
    cases z
  have end1 : ∀ (tup : Addr) (s' : Shared) (m' : Str → Option Value), vs.isEmpty = true → Fr s.heap s.heap.objs.size s'.heap m' → News s.heap s.heap.objs.size s'.heap [(tup, pairObj (.bool false) .none)] → AllBare s'.gens → s'.os = s.os → LeaveG h₀ h₀ L m 20 P #[] s.heap Q (.ref tup) s' := fun tup s' m' he F' N' hg hos =>
    isl_fin (more := #[]) B F N0 B1 (fun _ _ => rfl) ⟨_, B1.tab.2⟩ F' N' fun ps' b f n => hret P tup false .none ps' s' (by rw [he]; rfl) rfl b f n hg hos
  have end2 : ∀ (more : Array Value) (tup : Addr) (r : Bool) (held : Value) (s' : Shared) (m' : Str → Option Value), r = (!vs.isEmpty && bs.all id) → (held = if r then .ref V else .none) → Based s.heap (regrown s.heap P (#[] ++ more)) 20 P (#[] ++ more) → Fr (regrown s.heap P (#[] ++ more)) s.heap.objs.size s'.heap m' → News (regrown s.heap P (#[] ++ more)) s.heap.objs.size s'.heap [(tup, pairObj (.bool r) held)] → AllBare s'.gens → s'.os = s.os → LeaveG h₀ h₀ L m 20 P #[] s.heap Q (.ref tup) s' := fun more tup r held s' m' hr hhd B' F' N' hg hos =>
    isl_fin (more := more) B F N0 B' (fun b hb => Heap.get?_update_other _ _ (Ne.symm hb)) ⟨_, B'.tab.2⟩ F' N' fun ps' b f n => hret P tup r held ps' s' hr hhd b f n hg hos
  clear F N0 X T G M B ho hcd hc hret
  k_steps
  · (rename vs.isEmpty = true => he)
    (rename Fr _ _ _ _ => F2)
    (rename News _ _ _ _ => N2)
    exact end1 _ _ _ he F2 N2 hgen rfl
  (rename vs.isEmpty = false => he)
  (rename Fr _ _ _ _ => F2)
  (rename News _ _ _ _ => N2)
  obtain ⟨oV, hoV, hcV, nV, hdV⟩ := id hV
  refine isiLT_list (F2.keep _ _ hoV) hcV (N2 _ (List.mem_cons_self ..)).1 ?_
  intro tk2
  repeat' ((fail_if_success (with_reducible show wpAny _ _ (eval (Expr.GeneratorExp _ _ _ _) _) _ _ _)); first | (k_unfold; (try dsimp only)) | walk1 | (dsimp only; walk1))
  refine LGe.GeneratorExp_K F2 B1 M1 rfl rfl hh rfl rfl (by decide) rfl rfl rfl (by rw [depth_deeper]; omega) ?_ (by intro _; rfl)
  refine ld F2 rfl ?_ rfl rfl
  refine src_listD (K := valKind) (vs := vs) (as := vs) (pz := fun _ => true) (d := fun v => .bool (pairAt s.heap v)) (Kb := s.heap.objs.size) B1 (hV.at (F2.keep _)) (vals_are vs) F2 hgen (T1.nolimit.keeps F2.keep) (Nat.le_refl _) F2.ns.lt ?_ ?_ ?_
  · intro c' C A' E' a v u m₂ hA hD hU ha hv hF hm₂ hLC hk
    exact wpAny_tests_nil ⟨rfl, _, _, rfl, fun _ _ e => e⟩
  · intro c' C A' E' a v u m₂ hA hD hU ha hv _ hF hm₂ hLC hk
    obtain rfl : v = a := hv
    obtain ⟨b, hb⟩ := hR.mem v ha
    have H : Holds news u.heap := fun p hp => hk _ _ (hRP p hp) (F2.keep _ _ (hR0 p hp))
    rw [hb.pairAt hR0]
    exact gen_elt hF (G1.regrown B1) hm₂ rfl hb H
  · intro c' a s₅ B5 F5 hg5 hos5 hk5 X5
    repeat' ((fail_if_success (with_reducible show wpAny _ _ (call _ _) _ _ _)); first | walk1 | (dsimp only; walk1))
    refine all_genD F5 hg5 X5 (Nat.le_refl _) ?_
    intro s' F6 hg6 hos6 hk6
    have ea : (vs.filter fun _ => true).all (pairAt s.heap) = bs.all id := by
      rw [List.filter_eq_self.mpr fun _ _ => rfl, hR.all hR0]
    rw [ea]
    have N6 : News (regrown s.heap P (#[] ++ #[rawInt 3, rawInt 69, .ref c'])) s.heap.objs.size s'.heap [] := News.nil
    cases hb : bs.all id with
    | true =>
      k_steps
      (rename Fr _ _ _ _ => F7)
      (rename News _ _ _ _ => N7)
      exact end2 _ _ true (.ref V) _ _ (by rw [he, hb]; rfl) rfl B5 F7 N7 hg6 (hos6.trans hos5)
    | false =>
      k_steps
      (rename Fr _ _ _ _ => F7)
      (rename News _ _ _ _ => N7)
      exact end2 _ _ false .none _ _ (by rw [he, hb]; rfl) rfl B5 F7 N7 hg6 (hos6.trans hos5)
end Mine
end

section
open PySem PySem.W PyProof.Rows
namespace Mine
local macro_rules | `(tactic| walk_at "zz0") => `(tactic| skip)
local macro_rules | `(tactic| walk_at "zz1") => `(tactic| skip)
local macro_rules | `(tactic| walk_at "zz2") => `(tactic| skip)
local macro_rules | `(tactic| walk_at "zz3") => `(tactic| skip)
local macro_rules | `(tactic| walk_at "zz4") => `(tactic| skip)
local macro_rules | `(tactic| walk_at "zz5") => `(tactic| skip)
local macro_rules | `(tactic| walk_at "zz6") => `(tactic| skip)
local macro_rules | `(tactic| walk_at "zz7") => `(tactic| skip)
local macro_rules | `(tactic| walk_at "zz8") => `(tactic| skip)
theorem rstT13 {M : Model} {A : Around} {E : Value → Shared → Prop} {s : Shared} {env : Env} {Q : Flow → Shared → Prop} (h : Q .next s) : wpAny M A (execs [] env) Q E s := by
  w_top off
  walk1
  exact h
end Mine
end

section
open PySem PySem.W PyProof.Rows
namespace Mine
set_option maxRecDepth 100000
set_option maxHeartbeats 2000000

theorem isl_tuple {w : World} {ls : List Str} {mean : ExcName → Option Value} {mg mb : Str → Option Value} {A : Around} {h₀ : Heap} {L : Addr} {m : Str → Option Value} {s : Shared} {Q E : Value → Shared → Prop} {news : Led}
    {N : Nat} {defs : List DefItem} {consts : List (Str × PyData)} {V : Addr} {vs : List Value}
    (F : Fr h₀ L s.heap m) (X : (hd.heap_39 w.params).In h₀) (N0 : News h₀ L s.heap news)
    (T : Top hd.view_39 ls mean mg mb h₀) (G : Glob N mg mb defs consts [] (namesW hd.view_39 [Str.ofString "_encode"]) h₀)
    (hdp : A.depth + 20 < recursionLimit) (hun : A.units + 400 < cLine) (hh : A.handled = none) (hgen : AllBare s.gens) (hV : s.heap.IsTuple V vs.toArray) (hlen : vs.length ≤ 5) {bs : List Bool} (hR : Kds news vs bs)
    (hret : ∀ (P tup : Addr) (r : Bool) (held : Value) (ps' : Array Value) (s' : Shared), r = (!vs.isEmpty && bs.all id) → (held = if r then .ref V else .none) → Based h₀ (regrown h₀ P ps') 20 P ps' → Fr (regrown h₀ P ps') L s'.heap m →
      News (regrown h₀ P ps') L s'.heap ((tup, pairObj (.bool r) held) :: news) → AllBare s'.gens → s'.os = s.os → Q (.ref tup) s') :
    wpAny (model PySem.Challenge.rw_ah6025_01.row.prog w) A (call (.ref 21) [.ref V]) Q E s := by
  revert X; k_fill; intro X
  have hm : mg (Str.ofString "is_list_of_tuples") = some (.ref 21) := mg_of X T.g (by k_is)
  have ho := X 21 _ (by k_is)
  obtain ⟨c, P, hc, B⟩ := based_of_top T rfl hm ho rfl
  obtain ⟨bm, ob, M⟩ := bmod_of_top T
  obtain rfl : c = 20 := by cases hc; rfl
  have hcd : h₀.CodeRec (.ref 20) (Str.ofString "is_list_of_tuples") := codeRec_of X (by k_is)
  refine call_inG ho rfl hcd B B F G M (by omega) rfl (locs rfl) ?_
  intro h₂ F1 G1 B1 M1
  have X1 := X.keeps F.keep
  have T1 := T.keeps F.keep
  have N1 : News s.heap s.heap.objs.size h₂ [] := News.nil
  have hR0 : Holds news s.heap := Holds.of N0
  have hRP : ∀ p ∈ news, p.1 ≠ P := fun p hp e => by
    have z := (N0 p hp).2.2
    rw [e, B.tab.2] at z
    cases z
  have end1 : ∀ (tup : Addr) (s' : Shared) (m' : Str → Option Value), vs.isEmpty = true → Fr s.heap s.heap.objs.size s'.heap m' → News s.heap s.heap.objs.size s'.heap [(tup, pairObj (.bool false) .none)] → AllBare s'.gens → s'.os = s.os → LeaveG h₀ h₀ L m 20 P #[] s.heap Q (.ref tup) s' := fun tup s' m' he F' N' hg hos =>
    isl_fin (more := #[]) B F N0 B1 (fun _ _ => rfl) ⟨_, B1.tab.2⟩ F' N' fun ps' b f n => hret P tup false .none ps' s' (by rw [he]; rfl) rfl b f n hg hos
  have end2 : ∀ (more : Array Value) (tup : Addr) (r : Bool) (held : Value) (s' : Shared) (m' : Str → Option Value), r = (!vs.isEmpty && bs.all id) → (held = if r then .ref V else .none) → Based s.heap (regrown s.heap P (#[] ++ more)) 20 P (#[] ++ more) → Fr (regrown s.heap P (#[] ++ more)) s.heap.objs.size s'.heap m' → News (regrown s.heap P (#[] ++ more)) s.heap.objs.size s'.heap [(tup, pairObj (.bool r) held)] → AllBare s'.gens → s'.os = s.os → LeaveG h₀ h₀ L m 20 P #[] s.heap Q (.ref tup) s' := fun more tup r held s' m' hr hhd B' F' N' hg hos =>
    isl_fin (more := more) B F N0 B' (fun b hb => Heap.get?_update_other _ _ (Ne.symm hb)) ⟨_, B'.tab.2⟩ F' N' fun ps' b f n => hret P tup r held ps' s' hr hhd b f n hg hos
  clear F N0 X T G M B ho hcd hc hret
  repeat' ((fail_if_success (with_reducible show wpAny _ _ (truthy _) _ _ _)); first | (k_unfold; (try dsimp only)) | walk1 | (dsimp only; walk1))
  refine truthy_tuple (hV.at (F1.keep _)) (by rw [List.size_toArray]; omega) ?_
  have et : vs.toArray.isEmpty = vs.isEmpty := by
    cases vs <;> rfl
  rw [et]
  cases he : vs.isEmpty with
  | true =>
    k_steps
    (rename Fr _ _ _ _ => F2)
    (rename News _ _ _ _ => N2)
    exact end1 _ _ _ he F2 N2 hgen rfl
  | false =>
  repeat' ((fail_if_success (with_reducible show wpAny _ _ (call (Value.builtin "isinstance") _) _ _ _)); first | (k_unfold; (try dsimp only)) | walk1 | (dsimp only; walk1))
  (rename Fr _ _ _ _ => F2)
  (rename News _ _ _ _ => N2)
  obtain ⟨oV, hoV, hcV, nV, hdV⟩ := id hV
  refine isiLT_tuple (F2.keep _ _ hoV) hcV (N2 _ (List.mem_cons_self ..)).1 ?_
  intro tk2
  repeat' ((fail_if_success (with_reducible show wpAny _ _ (eval (Expr.GeneratorExp _ _ _ _) _) _ _ _)); first | (k_unfold; (try dsimp only)) | walk1 | (dsimp only; walk1))
  refine LGe.GeneratorExp_K F2 B1 M1 rfl rfl hh rfl rfl (by decide) rfl rfl rfl (by rw [depth_deeper]; omega) ?_ (by intro _; rfl)
  refine ld F2 rfl ?_ rfl rfl
  refine src_tupleD (K := valKind) (vs := vs) (as := vs) (pz := fun _ => true) (d := fun v => .bool (pairAt s.heap v)) (Kb := s.heap.objs.size) B1 (hV.at (F2.keep _)) (vals_are vs) F2 hgen (T1.nolimit.keeps F2.keep) (Nat.le_refl _) F2.ns.lt ?_ ?_ ?_
  · intro c' C A' E' a v u m₂ hA hD hU ha hv hF hm₂ hLC hk
    exact wpAny_tests_nil ⟨rfl, _, _, rfl, fun _ _ e => e⟩
  · intro c' C A' E' a v u m₂ hA hD hU ha hv _ hF hm₂ hLC hk
    obtain rfl : v = a := hv
    obtain ⟨b, hb⟩ := hR.mem v ha
    have H : Holds news u.heap := fun p hp => hk _ _ (hRP p hp) (F2.keep _ _ (hR0 p hp))
    rw [hb.pairAt hR0]
    exact gen_elt hF (G1.regrown B1) hm₂ rfl hb H
  · intro c' a s₅ B5 F5 hg5 hos5 hk5 X5
    repeat' ((fail_if_success (with_reducible show wpAny _ _ (call _ _) _ _ _)); first | walk1 | (dsimp only; walk1))
    refine all_genD F5 hg5 X5 (Nat.le_refl _) ?_
    intro s' F6 hg6 hos6 hk6
    have ea : (vs.filter fun _ => true).all (pairAt s.heap) = bs.all id := by
      rw [List.filter_eq_self.mpr fun _ _ => rfl, hR.all hR0]
    rw [ea]
    have N6 : News (regrown s.heap P (#[] ++ #[rawInt 3, rawInt 69, .ref c'])) s.heap.objs.size s'.heap [] := News.nil
    cases hb : bs.all id with
    | true =>
      k_steps
      (rename Fr _ _ _ _ => F7)
      (rename News _ _ _ _ => N7)
      exact end2 _ _ true (.ref V) _ _ (by rw [he, hb]; rfl) rfl B5 F7 N7 hg6 (hos6.trans hos5)
    | false =>
      k_steps
      (rename Fr _ _ _ _ => F7)
      (rename News _ _ _ _ => N7)
      exact end2 _ _ false .none _ _ (by rw [he, hb]; rfl) rfl B5 F7 N7 hg6 (hos6.trans hos5)
end Mine
end

section
open PySem PySem.W PyProof.Rows
namespace Mine
local macro_rules | `(tactic| walk_at "zz0") => `(tactic| skip)
local macro_rules | `(tactic| walk_at "zz1") => `(tactic| skip)
local macro_rules | `(tactic| walk_at "zz2") => `(tactic| skip)
local macro_rules | `(tactic| walk_at "zz3") => `(tactic| skip)
local macro_rules | `(tactic| walk_at "zz4") => `(tactic| skip)
local macro_rules | `(tactic| walk_at "zz5") => `(tactic| skip)
local macro_rules | `(tactic| walk_at "zz6") => `(tactic| skip)
local macro_rules | `(tactic| walk_at "zz7") => `(tactic| skip)
local macro_rules | `(tactic| walk_at "zz8") => `(tactic| skip)
theorem rstEnc {M : Model} {A : Around} {E : Value → Shared → Prop} {s : Shared} {env : Env} {Q : Flow → Shared → Prop} (h : Q .next s) : wpAny M A (execs [] env) Q E s := by
  w_top off
  walk1
  exact h
end Mine
end

section
open PySem PySem.W PyProof.Rows
open PySem.Builtin PySem.Builtin._codecs PySem.Builtin.Str
namespace Mine
set_option maxRecDepth 100000
set_option maxHeartbeats 1000000

def utf8 (x : Str) : Array UInt8 := x.cps.foldl (fun acc y => acc ++ (Str.utf8Of y).toArray) #[]

theorem range_once {β : Type} (f : Nat → β → Sem (ForInStep β)) (a b : β) (n : Nat) (h1 : ∀ i, f i a = Sem.pure (.yield b)) (h2 : ∀ i, f i b = Sem.pure (.done b)) (hn : 0 < n) : (forIn [:n] a f : Sem β) = Sem.pure b := by
  rw [Std.Legacy.Range.forIn_eq_forIn_range']
  obtain ⟨k, rfl⟩ : ∃ k, n = k + 1 := ⟨n - 1, by omega⟩
  simp only [Std.Legacy.Range.size, Nat.sub_zero, Nat.add_sub_cancel, Nat.div_one, List.range'_succ, List.forIn_cons]
  rw [h1]
  show (forIn (List.range' (0 + 1) k 1) b f : Sem β) = _
  cases k with
  | zero => rfl
  | succ k =>
    simp only [List.range'_succ, List.forIn_cons]
    rw [h2]
    rfl

theorem range_zero {β : Type} (f : Nat → β → Sem (ForInStep β)) (a : β) : (forIn [:0] a f : Sem β) = Sem.pure a := by
  rw [Std.Legacy.Range.forIn_eq_forIn_range']
  rfl

theorem narrow (id : String) (self : Value) (x : Str) (h : x.cps.any Str.isSurrogate = false) (hs : (utf8 x).size ≤ sizeLine) : encodeNarrow id utf8Codec none self x = pure (utf8 x) := by
  unfold encodeNarrow
  simp only []
  by_cases hn : x.length = 0
  · have hx : x.cps = #[] := Array.eq_empty_of_size_eq_zero hn
    have e : utf8 x = #[] := by unfold utf8; rw [hx]; rfl
    rw [hn, e, range_zero]
    rfl
  · rw [range_once _ _ (x.length, utf8 x, {}) _ ?_ ?_ (by omega)]
    · rfl
    · intro i
      have hf : x.cps.findIdx? utf8Codec.bad = none := by
        rw [Array.findIdx?_eq_none_iff]
        intro c hc
        have := Array.any_eq_false.mp h
        obtain ⟨j, hj, rfl⟩ := Array.getElem_of_mem hc
        exact (by simpa using this j hj : Str.isSurrogate x.cps[j] = false)
      have h0 : 0 < x.cps.size := by
        have : x.cps.size ≠ 0 := hn
        omega
      have hx : x.cps[0]? = some x.cps[0] := by simp [h0]
      have hb : utf8Codec.bad x.cps[0] = false := by
        have := Array.any_eq_false.mp h 0 h0
        exact (by simpa using this : Str.isSurrogate x.cps[0] = false)
      rw [if_neg (by simp)]
      simp only [hx, hb, Bool.not_false, if_true, Array.extract_eq_self_of_le (Nat.le_refl _), hf, Option.getD_none]
      show Sem.pure _ = Sem.pure _
      congr 3
      · show 0 + x.cps.size = x.cps.size
        omega
    · intro i
      rw [if_neg (by simpa using hs)]
      have : x.cps[x.length]? = none := by simp [Str.length]
      simp only [this]
      rfl
theorem enc_tree1 (x : Str) (t u : Tok) : Builtin.«str.encode» ⟨[.str x t, .str (Str.ofString "utf-8") u], []⟩ = (do ret (← encodeRoad "str.encode" (.str x t) x (Str.ofString "utf-8") none)) := by
  unfold Builtin.«str.encode»
  have e1 : strSelf ⟨[.str x t, .str (Str.ofString "utf-8") u], []⟩ = Sem.pure (.str x t, x, [.str (Str.ofString "utf-8") u]) := rfl
  rw [e1]
  have e2 : Str.bindOptional "str.encode" "encode" 0 ["encoding", "errors"] [.str (Str.ofString "utf-8") u] [] = Sem.pure [some (.str (Str.ofString "utf-8") u), none] := by
    rfl
  have e3 : codecArg "str.encode" "encode" "'encoding'" (some (.str (Str.ofString "utf-8") u)) = Sem.pure (some (Str.ofString "utf-8")) := by
    unfold codecArg
    have e4 : strArg "str.encode" "encode" "'encoding'" (.str (Str.ofString "utf-8") u) = Sem.pure (Str.ofString "utf-8") := rfl
    show ((strArg _ _ _ _).bind _ : Sem _) = _
    rw [e4]
    show (if (Str.ofString "utf-8").cps.any (· ≥ 128) = true then _ else _) = _
    rw [if_neg (by decide +kernel)]
    show (if (Str.ofString "utf-8").cps.contains 0 = true then _ else _) = _
    rw [if_neg (by decide +kernel)]
    rfl
  show ((Str.bindOptional _ _ _ _ _ _).bind _ : Sem _) = _
  rw [e2]
  show ((codecArg _ _ _ _).bind _ : Sem _) = _
  rw [e3]
  rfl

theorem meth_encode {M : Model} {A : Around} {E : Value → Shared → Prop} {s : Shared} {pl : Sem Bool} {Q : Value × List Value → Shared → Prop} {x : Str} {t : Tok} (h : Q (.builtin "str.encode", [.str x t]) s) :
    wpAny M A (getMethod (.str x t) (Str.ofString "encode") pl) Q E s :=
  getMethod_builtin (typeIs_str _ _ _) PySem.F.plainAttrs_str PySem.F.slot_str_encode PySem.F.type_str_encode (fun _ e => nomatch e) h

theorem call_encode {prog : Program} {w : World} {A : Around} {E : Value → Shared → Prop} {s : Shared} {Q : Value → Shared → Prop} {x : Str} {t u : Tok} (h : x.cps.any Str.isSurrogate = false) (hs : (utf8 x).size ≤ sizeLine)
    (hQ : Q (.bytes (utf8 x) s.toks) { s with toks := s.toks + 1 }) : wpAny (model prog w) A (call (.builtin "str.encode") [.str x t, .str (Str.ofString "utf-8") u]) Q E s := by
  refine wpAny_call_entry PySem.F.slot_str_encode (typeIs_str _ _ _) PySem.F.entry_str_encode ?_ (PySem.F.args_str_encode_2 _ _)
  rw [enc_tree1, encodeRoad_utf8, narrow _ _ _ h hs]
  exact wpAny_bind (m := (do mkBytes (← pure (utf8 x)))) (wpAny_bind (wpAny_pure (wpAny_mkBytes (wpAny_pure ⟨_, rfl, hQ⟩) hs)))
end Mine
end

section
open PySem PySem.W PyProof.Rows
namespace Mine
local macro_rules | `(tactic| walk_at "zz0") => `(tactic| skip)
local macro_rules | `(tactic| walk_at "zz1") => `(tactic| skip)
local macro_rules | `(tactic| walk_at "zz2") => `(tactic| skip)
local macro_rules | `(tactic| walk_at "zz3") => `(tactic| skip)
local macro_rules | `(tactic| walk_at "zz4") => `(tactic| skip)
local macro_rules | `(tactic| walk_at "zz5") => `(tactic| skip)
local macro_rules | `(tactic| walk_at "zz6") => `(tactic| skip)
local macro_rules | `(tactic| walk_at "zz7") => `(tactic| skip)
local macro_rules | `(tactic| walk_at "zz8") => `(tactic| skip)
theorem rstT15 {M : Model} {A : Around} {E : Value → Shared → Prop} {s : Shared} {env : Env} {Q : Flow → Shared → Prop} (h : Q .next s) : wpAny M A (execs [] env) Q E s := by
  w_top off
  walk1
  exact h
end Mine
end

section
open PySem PySem.W PyProof.Rows
namespace Mine
set_option maxRecDepth 100000
set_option maxHeartbeats 4000000

local macro_rules | `(tactic| walk_at "getMethod str") => `(tactic| (refine meth_encode ?_))
local macro_rules | `(tactic| walk_at "call builtin:str.encode") => `(tactic| (refine call_encode (by assumption) (by assumption) ?_))

theorem encodeS_ok {w : World} {mean : ExcName → Option Value} {mg mb : Str → Option Value} {p : Program} {ls : List Str} {dp un : Nat} {gd : Option (List Code)} {cn : Str} {cs : Scope} {a : Addr} {ccd : Value} {cl : List (Str × Addr)} {outer : List Env} {A₀ : Around} {base h₀ : Heap} {L : Addr} {m : Str → Option Value} {s : Shared} {Q E : Value → Shared → Prop}
    {x : Str} {t : Tok} {rest : List (Addr × Obj)}
    (B : Below A₀ base outer h₀) (F : Fr h₀ L s.heap m) (X : (hd.heap_39 w.params).In h₀)
    (N : News h₀ L s.heap rest)
    (T : Top p ls mean mg mb h₀) (hk : cs.kind = .function)
    (hx : x.cps.any Str.isSurrogate = false) (hs : (utf8 x).size ≤ sizeLine)
    (hdp : dp + 20 < recursionLimit) (hun : un + 400 < cLine)
    (hret : ∀ t' h' tk', Fr h₀ L h' m → News h₀ L h' rest → Q (.bytes (utf8 x) t') { s with heap := h', toks := tk' }) :
    wpAny (model PySem.Challenge.rw_ah6025_01.row.prog w) (ktrTop dp un gd cn cs L a ccd cl outer) (call (.ref 43) [.str x t]) Q E s := by
  revert X; k_fill; intro X
  refine wpAny_call ?_
  k_dflt (refine' code_def ?k1 ?k2 ?k3 ?k4 ?k5 ?kA ?kF ?kK ?k6 ?k7 ?k8 ?k9 ?kB ?_ ?c2 ?c3 ?c4 ?c5; (case kA => exact rfl); (case kF => exact rfl); (case kK => assumption); (case k1 => k_asm); (case k2 => k_asm); (case k3 => k_asm); (case k4 => k_asm); (case k5 => k_asm); (case k6 => k_is); (case k7 => k_is); (case k8 => ktr_room); (case k9 => exact binds_K (by k_in) rfl (by k_is) rfl rfl rfl); (case c5 => decide); (case kB => exact locs rfl); (case c2 => exact rfl); (case c3 => exact rfl); (case c4 => exact rfl); k_whole; intro g' L' h' FG' F' N' B' X' T'; (try dsimp only); (try k_lift B'); (try k_fold))
  k_steps
  all_goals exact hret _ _ _ (by k_asm) (by k_asm)

theorem encodeB_ok {w : World} {mean : ExcName → Option Value} {mg mb : Str → Option Value} {p : Program} {ls : List Str} {dp un : Nat} {gd : Option (List Code)} {cn : Str} {cs : Scope} {a : Addr} {ccd : Value} {cl : List (Str × Addr)} {outer : List Env} {A₀ : Around} {base h₀ : Heap} {L : Addr} {m : Str → Option Value} {s : Shared} {Q E : Value → Shared → Prop}
    {x : Array UInt8} {t : Tok} {rest : List (Addr × Obj)}
    (B : Below A₀ base outer h₀) (F : Fr h₀ L s.heap m) (X : (hd.heap_39 w.params).In h₀)
    (N : News h₀ L s.heap rest)
    (T : Top p ls mean mg mb h₀) (hk : cs.kind = .function)
    (hdp : dp + 20 < recursionLimit) (hun : un + 400 < cLine)
    (hret : ∀ h' tk', Fr h₀ L h' m → News h₀ L h' rest → Q (.bytes x t) { s with heap := h', toks := tk' }) :
    wpAny (model PySem.Challenge.rw_ah6025_01.row.prog w) (ktrTop dp un gd cn cs L a ccd cl outer) (call (.ref 43) [.bytes x t]) Q E s := by
  revert X; k_fill; intro X
  refine wpAny_call ?_
  k_dflt (refine' code_def ?k1 ?k2 ?k3 ?k4 ?k5 ?kA ?kF ?kK ?k6 ?k7 ?k8 ?k9 ?kB ?_ ?c2 ?c3 ?c4 ?c5; (case kA => exact rfl); (case kF => exact rfl); (case kK => assumption); (case k1 => k_asm); (case k2 => k_asm); (case k3 => k_asm); (case k4 => k_asm); (case k5 => k_asm); (case k6 => k_is); (case k7 => k_is); (case k8 => ktr_room); (case k9 => exact binds_K (by k_in) rfl (by k_is) rfl rfl rfl); (case c5 => decide); (case kB => exact locs rfl); (case c2 => exact rfl); (case c3 => exact rfl); (case c4 => exact rfl); k_whole; intro g' L' h' FG' F' N' B' X' T'; (try dsimp only); (try k_lift B'); (try k_fold))
  k_steps
  all_goals exact hret _ _ (by k_asm) (by k_asm)

end Mine
end

section
open PySem PySem.W PyProof.Rows
namespace Mine
local macro_rules | `(tactic| walk_at "zz0") => `(tactic| skip)
local macro_rules | `(tactic| walk_at "zz1") => `(tactic| skip)
local macro_rules | `(tactic| walk_at "zz2") => `(tactic| skip)
local macro_rules | `(tactic| walk_at "zz3") => `(tactic| skip)
local macro_rules | `(tactic| walk_at "zz4") => `(tactic| skip)
local macro_rules | `(tactic| walk_at "zz5") => `(tactic| skip)
local macro_rules | `(tactic| walk_at "zz6") => `(tactic| skip)
local macro_rules | `(tactic| walk_at "zz7") => `(tactic| skip)
local macro_rules | `(tactic| walk_at "zz8") => `(tactic| skip)
theorem rstSrc {M : Model} {A : Around} {E : Value → Shared → Prop} {s : Shared} {env : Env} {Q : Flow → Shared → Prop} (h : Q .next s) : wpAny M A (execs [] env) Q E s := by
  w_top off
  walk1
  exact h
end Mine
end

section
open PySem PySem.W PyProof.Rows
namespace Mine
set_option maxRecDepth 100000
set_option maxHeartbeats 1000000

/-- a value that a comprehension may run over: its iterator is one new object that walks n items -/
structure Src (prog : Program) (w : World) (A : Around) (xv : Value) (n : Nat) (P : Nat → Value → Prop) : Prop where
  go : ∀ (s : Shared) (E : Value → Shared → Prop) (Q : Value → Shared → Prop),
    (∀ (o : Obj) (St : Nat → Heap → Prop), Walks prog w A s.heap.objs.size [s.heap.objs.size] [s.heap.objs.size] n P St → (∀ i h, St i h → ∃ o, h.get? s.heap.objs.size = some o) →
      (∀ i h h' o, St i h → h.get? s.heap.objs.size = some o → h'.get? s.heap.objs.size = some o → St i h') → St 0 (s.heap.push o) → Q (.ref s.heap.objs.size) { s with heap := s.heap.push o }) →
    wpAny (model prog w) A (pyIter xv) Q E s

theorem src_bytes {prog : Program} {w : World} {A : Around} (hh : A.handled = none) (b : Array UInt8) (t : Tok) : Src prog w A (.bytes b t) b.size (fun i v => ∃ c u, b[i]? = some c ∧ v = .int (c.toNat : Int) u) where
  go := fun s E Q h => KBw.pyIter_bytes (h _ _ (KBw.walks hh _ b t) (fun i g st => let ⟨o, e, _⟩ := st; ⟨o, e⟩)
    (fun i g g' o st e e' => by obtain ⟨o', q, r⟩ := st; rw [e] at q; cases q; exact ⟨o, e', r⟩) ⟨_, Heap.get?_push_size _ rfl, rfl, rfl⟩)

theorem src_str {prog : Program} {w : World} {A : Around} (hh : A.handled = none) (x : Str) (t : Tok) : Src prog w A (.str x t) x.cps.size (SignAt x) where
  go := fun s E Q h => by
    cases ha : x.cps.all (· < 128)
    · exact wpAny_pyIter_wide ha (h _ _ (Walks.strWide hh _ x t) (fun i g st => let ⟨o, e, _⟩ := st; ⟨o, e⟩)
        (fun i g g' o st e e' => by obtain ⟨o', q, r⟩ := st; rw [e] at q; cases q; exact ⟨o, e', r⟩) ⟨_, Heap.get?_push_size _ rfl, rfl, rfl⟩)
    · exact wpAny_pyIter_ascii ha (h _ _ (Walks.strAscii hh _ x t) (fun i g st => let ⟨o, e, _⟩ := st; ⟨o, e⟩)
        (fun i g g' o st e e' => by obtain ⟨o', q, r⟩ := st; rw [e] at q; cases q; exact ⟨o, e', r⟩) ⟨_, Heap.get?_push_size _ rfl, rfl, rfl⟩)

section
variable {prog : Program} {w : World} {A : Around} {E : Value → Shared → Prop} {s : Shared} {h₀ : Heap} {L : Addr} {m : Str → Option Value} {env : Env}

def SrcPost (prog : Program) (w : World) (A : Around) (h₀ : Heap) (L : Addr) (m : Str → Option Value) (R : Nat → (Nat → Value → Prop) → Led → Shared → Prop) (xv : Value) (s₁ : Shared) : Prop :=
  ∃ n P news, Src prog w A xv n P ∧ Fr h₀ L s₁.heap m ∧ News h₀ L s₁.heap news ∧ n ≤ sizeLine ∧ ∀ g, R n P news { s₁ with heap := g }

theorem ListComp_S {elt iter : Expr} {x : Str} {px : Pos} {scope : Scope} {cl : List (Str × Addr)} {pos : Pos} {Q : Value → Shared → Prop}
    (_F : Fr h₀ L s.heap m) (hclos : closureFor scope env = pure cl) (hcell : ∀ y ∈ scope.names, y.2 ≠ .cell) (hkind : scope.kind = .function)
    (hnames : ∀ y ∈ scope.names, y.2 = .local → scope.names.lookup y.1 = some .local) (hx : scope.names.lookup x = some .local)
    (h : wpAny (model prog w) A (eval iter env) (SrcPost prog w A h₀ L m fun n P news s₂ => LCg.CompRest prog w A h₀ L m env elt x scope cl s₂ (fun _ => True) P (LCg.FinE h₀ L m s₂ Q) n 0 [] news) E s)
    (hs : ∀ x, foldedSetIterable iter env x = pure x := by intro _; rfl) :
    wpAny (model prog w) A (eval (.ListComp elt [⟨.Name x px, iter, [], 0⟩] scope pos) env) Q E s := by
  rw [eval_ListComp]
  refine wpAny_comprehension_free (use := none) rfl hs hclos hkind hnames (wpAny_mono h (fun xv s₁ h₁ => ?_) fun _ _ e => e)
  obtain ⟨n, P, news, S, F, N, hsz, R⟩ := h₁
  refine S.go _ _ _ fun o St W hIo hSt h0 => ?_
  refine LCg.block_U W hsz hIo (fun i h h' o nw st e e' _ _ _ => hSt i h h' o st e e') hcell hkind hx h0 (fun b hb => ?_)
    (F.keeps fun _ _ e => Heap.get?_push_of_some _ e) (N.grown fun _ _ e => Heap.get?_push_of_some _ e) (Nat.ne_of_lt F.ns.lt) (next_is_new F) (fun p hp => Nat.ne_of_lt (Heap.lt_size (N p hp).1)) trivial (R _) ?_
  · rw [List.mem_singleton.mp hb]
    show s₁.heap.objs.size < (s₁.heap.push _).objs.size
    rw [Heap.size_push]; exact Nat.lt_succ_self _
  · intro D C h tk m' ys news' F' N' o1 hn hC₀ hD₀ hCL hDL hCD offC fin
    refine ⟨m', hn, fun h'' hs'' => fin D h'' tk (F'.change hs'' hCL hC₀) (fun p hp => ?_) o1⟩
    refine ⟨hs''.extBut _ _ ?_ (N' p hp).1, (N' p hp).2⟩
    rcases List.mem_cons.mp hp with rfl | hp
    · exact Ne.symm hCD
    · exact offC p hp

theorem ListComp_ST {ct elt iter : Expr} {x : Str} {px : Pos} {scope : Scope} {cl : List (Str × Addr)} {pos : Pos} {Q : Value → Shared → Prop}
    (_F : Fr h₀ L s.heap m) (hclos : closureFor scope env = pure cl) (hcell : ∀ y ∈ scope.names, y.2 ≠ .cell) (hkind : scope.kind = .function)
    (hnames : ∀ y ∈ scope.names, y.2 = .local → scope.names.lookup y.1 = some .local) (hx : scope.names.lookup x = some .local)
    (h : wpAny (model prog w) A (eval iter env) (SrcPost prog w A h₀ L m fun n P news s₂ => LCt.CompRestT prog w A h₀ L m env ct elt x scope cl s₂ (fun _ => True) P (LCg.FinE h₀ L m s₂ Q) n 0 [] news) E s)
    (hs : ∀ x, foldedSetIterable iter env x = pure x := by intro _; rfl) :
    wpAny (model prog w) A (eval (.ListComp elt [⟨.Name x px, iter, [ct], 0⟩] scope pos) env) Q E s := by
  rw [eval_ListComp]
  refine wpAny_comprehension_free (use := none) rfl hs hclos hkind hnames (wpAny_mono h (fun xv s₁ h₁ => ?_) fun _ _ e => e)
  obtain ⟨n, P, news, S, F, N, hsz, R⟩ := h₁
  refine S.go _ _ _ fun o St W hIo hSt h0 => ?_
  refine LCt.block_T W hsz hIo (fun i h h' o nw st e e' _ _ _ => hSt i h h' o st e e') hcell hkind hx h0 (fun b hb => ?_)
    (F.keeps fun _ _ e => Heap.get?_push_of_some _ e) (N.grown fun _ _ e => Heap.get?_push_of_some _ e) (Nat.ne_of_lt F.ns.lt) (next_is_new F) (fun p hp => Nat.ne_of_lt (Heap.lt_size (N p hp).1)) trivial (R _) ?_
  · rw [List.mem_singleton.mp hb]
    show s₁.heap.objs.size < (s₁.heap.push _).objs.size
    rw [Heap.size_push]; exact Nat.lt_succ_self _
  · intro D C h tk m' ys news' F' N' o1 hn hC₀ hD₀ hCL hDL hCD offC fin
    refine ⟨m', hn, fun h'' hs'' => fin D h'' tk (F'.change hs'' hCL hC₀) (fun p hp => ?_) o1⟩
    refine ⟨hs''.extBut _ _ ?_ (N' p hp).1, (N' p hp).2⟩
    rcases List.mem_cons.mp hp with rfl | hp
    · exact Ne.symm hCD
    · exact offC p hp
end
end Mine
end

section
open PySem PySem.W PyProof.Rows
namespace Mine
local macro_rules | `(tactic| walk_at "zz0") => `(tactic| skip)
local macro_rules | `(tactic| walk_at "zz1") => `(tactic| skip)
local macro_rules | `(tactic| walk_at "zz2") => `(tactic| skip)
local macro_rules | `(tactic| walk_at "zz3") => `(tactic| skip)
local macro_rules | `(tactic| walk_at "zz4") => `(tactic| skip)
local macro_rules | `(tactic| walk_at "zz5") => `(tactic| skip)
local macro_rules | `(tactic| walk_at "zz6") => `(tactic| skip)
local macro_rules | `(tactic| walk_at "zz7") => `(tactic| skip)
local macro_rules | `(tactic| walk_at "zz8") => `(tactic| skip)
theorem rstT16 {M : Model} {A : Around} {E : Value → Shared → Prop} {s : Shared} {env : Env} {Q : Flow → Shared → Prop} (h : Q .next s) : wpAny M A (execs [] env) Q E s := by
  w_top off
  walk1
  exact h
end Mine
end

section
open PySem PySem.W PyProof.Rows
namespace Mine
set_option maxRecDepth 100000
set_option maxHeartbeats 2000000

abbrev nmE (x : String) (p : Pos) : Expr := .Name (Str.ofString x) p
abbrev strE (x : String) (p : Pos) : Expr := .Constant (.str (Str.ofString x)) 0 p
abbrev intE (i : Int) (p : Pos) : Expr := .Constant (.int i) 0 p
abbrev freeS : String := "ABCDEFGHIJKLMNOPQRSTUVWXYZabcdefghijklmnopqrstuvwxyz0123456789_.-~"
abbrev qScope : Scope := { kind := .function, names := [(Str.ofString ".0", .local), (Str.ofString "n", .local), (Str.ofString "chr", .globalImplicit), (Str.ofString "safe", .free)], isGenerator := false, isCoroutine := false }

local macro_rules | `(tactic| walk_at "eval Name") => `(tactic| (k_here; k_dflt (first
  | (refine LCgL.ld_own (by assumption) (by assumption) (by with_reducible assumption) (by with_reducible assumption) ?_ (by rfl) (by rfl) (by decide))
  | (refine lcf_cell (by assumption) (by rfl) (by assumption) (by assumption) ?_ (by rfl) (by rfl) (by decide))
  | (refine LCgL.ld_built (by assumption) (by assumption) (by assumption) (by k_is) (by boot_by_name) (by decide) ?_ (by rfl) (by rfl) (by rfl) (by rfl) (by decide)))))

abbrev quoteScope : Scope := { kind := .function, names := [(Str.ofString "value", .local), (Str.ofString "safe", .cell), (Str.ofString "isinstance", .globalImplicit), (Str.ofString "str", .globalImplicit), (Str.ofString "bytes", .globalImplicit), (Str.ofString "_encode", .globalImplicit)], isGenerator := false, isCoroutine := false, more := [(Str.ofString "fast", .str (Str.ofString "value")), (Str.ofString "fast", .str (Str.ofString "safe")), (Str.ofString "fast", .str (Str.ofString "n"))] }

def hexc (d : Nat) : Nat := if d < 10 then 48 + d else 55 + d
def okc (safe : Str) (c : Nat) : Bool := decide (c < 128) && decide (c ∈ (Str.ofString freeS ++ safe).cps.toList)
def qcode (safe : Str) (c : Nat) : List Nat := if okc safe c then [c] else [37, hexc (c / 16), hexc (c % 16)]

theorem hex_text : ∀ k : Nat, k < 256 → Str.ofString "%" ++ Txt.item (Str.ofString "0123456789ABCDEF") ((k : Int).fdiv 16) ++ Txt.item (Str.ofString "0123456789ABCDEF") ((k : Int).fmod 16) = ⟨[37, hexc (k / 16), hexc (k % 16)].toArray⟩ := by
  decide +kernel
theorem hex_textI {n : Int} (h0 : 0 ≤ n) (h1 : n < 256) : Str.ofString "%" ++ Txt.item (Str.ofString "0123456789ABCDEF") (n.fdiv 16) ++ Txt.item (Str.ofString "0123456789ABCDEF") (n.fmod 16) = ⟨[37, hexc (n.toNat / 16), hexc (n.toNat % 16)].toArray⟩ := by
  have := hex_text n.toNat (by omega)
  rwa [Int.toNat_of_nonneg h0] at this

theorem qelt {w : World} {mean : ExcName → Option Value} {mg mb : Str → Option Value} {p : Program} {ls : List Str} {h₀ : Heap} {L C cA : Addr} {m m₂ : Str → Option Value} {s : Shared} {E : Value → Shared → Prop} {A : Around} {Q : Value → Shared → Prop}
    {nm : Str} {fa : Addr} {cd : Value} {cl2 : List (Str × Addr)} {news : Led} {oC oc : Obj} {n : Int} {t ts : Tok} {safe : Str} {p1 p2 p3 p4 p5 p6 p7 p8 p9 p10 p11 p12 p13 p14 p15 p16 p17 p18 p19 p20 p21 p22 p23 p24 p25 p26 p27 p28 : Pos}
    (F : Fr h₀ L s.heap m) (X : (hd.heap_39 w.params).In h₀) (N : News h₀ L s.heap news) (T : Top p ls mean mg mb h₀)
    (hC : (C, oC) ∈ news) (hoC : LCg.NsObj oC m₂) (hn : m₂ (Str.ofString "n") = some (.int n t)) (hc : (cA, oc) ∈ news) (hoc : oc.data = .cell (some (.str safe ts)))
    (h0 : 0 ≤ n) (h1 : n < 256) (hsafe : safe.length ≤ 10)
    (hret : ∀ t' tk', Q (.str ⟨(qcode safe n.toNat).toArray⟩ t') { s with toks := tk' }) :
    wpAny (model PySem.Challenge.rw_ah6025_01.row.prog w) A (eval (.IfExp (.BoolOp .And [.Compare (nmE "n" p1) [.Lt] [intE 128 p2] p3, .Compare (.Call (nmE "chr" p4) [nmE "n" p5] [] p6) [.In] [.BinOp (strE freeS p7) .Add (nmE "safe" p8) p9] p10] p11)
      (.Call (nmE "chr" p12) [nmE "n" p13] [] p14)
      (.BinOp (.BinOp (strE "%" p15) .Add (.Subscript (strE "0123456789ABCDEF" p16) (.BinOp (nmE "n" p17) .FloorDiv (intE 16 p18) p19) p20) p21) .Add (.Subscript (strE "0123456789ABCDEF" p22) (.BinOp (nmE "n" p23) .Mod (intE 16 p24) p25) p26) p27) p28)
      (compEnvC qScope [(Str.ofString "safe", cA)] C (envX nm quoteScope L fa cd cl2))) Q E s := by
  revert X; k_fill; intro X
  k_steps
  · (rename (Builtin.Str.occurrences _ _ _ _ _).isEmpty = true => hf)
    have e : qcode safe n.toNat = [37, hexc (n.toNat / 16), hexc (n.toNat % 16)] := by
      unfold qcode okc
      have := StrLaws.found_one (Str.ofString freeS ++ safe) n.toNat
      rw [hf] at this
      rw [← this]
      simp
    rw [e, ← hex_textI h0 h1] at hret
    exact hret _ _
  · (rename (Builtin.Str.occurrences _ _ _ _ _).isEmpty = false => hf)
    have e : qcode safe n.toNat = [n.toNat] := by
      unfold qcode okc
      have := StrLaws.found_one (Str.ofString freeS ++ safe) n.toNat
      rw [hf] at this
      rw [← this]
      have : n.toNat < 128 := by omega
      simp [this]
    rw [e] at hret
    exact hret _ _
  · have e : qcode safe n.toNat = [37, hexc (n.toNat / 16), hexc (n.toNat % 16)] := by
      unfold qcode okc
      have : ¬ n.toNat < 128 := by omega
      simp [this]
    rw [e, ← hex_textI h0 h1] at hret
    exact hret _ _
end Mine
end

section
open PySem PySem.W PyProof.Rows
namespace Mine
local macro_rules | `(tactic| walk_at "zz0") => `(tactic| skip)
local macro_rules | `(tactic| walk_at "zz1") => `(tactic| skip)
local macro_rules | `(tactic| walk_at "zz2") => `(tactic| skip)
local macro_rules | `(tactic| walk_at "zz3") => `(tactic| skip)
local macro_rules | `(tactic| walk_at "zz4") => `(tactic| skip)
local macro_rules | `(tactic| walk_at "zz5") => `(tactic| skip)
local macro_rules | `(tactic| walk_at "zz6") => `(tactic| skip)
local macro_rules | `(tactic| walk_at "zz7") => `(tactic| skip)
local macro_rules | `(tactic| walk_at "zz8") => `(tactic| skip)
theorem rstT17 {M : Model} {A : Around} {E : Value → Shared → Prop} {s : Shared} {env : Env} {Q : Flow → Shared → Prop} (h : Q .next s) : wpAny M A (execs [] env) Q E s := by
  w_top off
  walk1
  exact h
end Mine
end

section
open PySem PySem.W PyProof.Rows
namespace Mine
set_option maxRecDepth 100000
set_option maxHeartbeats 4000000

local macro_rules | `(tactic| walk_at "call ref") => `(tactic| (k_here; (with_reducible show wpAny _ _ (call (Value.ref 43) [Value.str _ _]) _ _ _); k_dflt (refine' encodeS_ok ?k1 ?k2 ?k3 ?k4 ?k5 ?kK ?h1 ?h2 ?kd ?ku ?_; (case k1 => k_asm); (case k2 => k_asm); (case k3 => k_asm); (case k4 => k_asm); (case k5 => k_asm); (case kK => first | exact rfl | assumption); (case h1 => assumption); (case h2 => assumption); (case kd => ktr_room); (case ku => ktr_units)); intro t9 h9 tk9 F9 N9; (try dsimp only)))
local macro_rules | `(tactic| walk_at "call ref") => `(tactic| (k_here; (with_reducible show wpAny _ _ (call (Value.ref 43) [Value.bytes _ _]) _ _ _); k_dflt (refine' encodeB_ok ?k1 ?k2 ?k3 ?k4 ?k5 ?kK ?kd ?ku ?_; (case k1 => k_asm); (case k2 => k_asm); (case k3 => k_asm); (case k4 => k_asm); (case k5 => k_asm); (case kK => first | exact rfl | assumption); (case kd => ktr_room); (case ku => ktr_units)); intro h9 tk9 F9 N9; (try dsimp only)))

def qtext (safe : Str) (b : List UInt8) : Str := ⟨(b.flatMap fun c => qcode safe c.toNat).toArray⟩
theorem qcode_len (safe : Str) (c : Nat) : (qcode safe c).length ≤ 3 := by unfold qcode; split <;> simp
theorem join_empty : ∀ (l : List Str), Str.join (Str.ofString "") l = ⟨(l.flatMap fun x => x.cps.toList).toArray⟩
  | [] => rfl
  | [x] => by
    show x = _
    simp
  | x :: y :: r => by
    show x ++ Str.ofString "" ++ Str.join (Str.ofString "") (y :: r) = _
    rw [join_empty (y :: r)]
    show (⟨(x.cps ++ #[]) ++ _⟩ : Str) = _
    congr 1
    apply Array.ext'
    simp
theorem join_q (safe : Str) (b : List UInt8) : Txt.join (Str.ofString "") (b.map fun c => (⟨(qcode safe c.toNat).toArray⟩ : Str)) = qtext safe b := by
  show Builtin.Str.glued (Str.ofString "") _ = _
  rw [StrLaws.glued_eq_join, join_empty, List.flatMap_map]
  rfl
theorem q_weight (safe : Str) : ∀ (b : List UInt8), ((b.map fun c => (⟨(qcode safe c.toNat).toArray⟩ : Str)).map (·.length)).sum ≤ 3 * b.length
  | [] => by simp
  | c :: b => by
    have h1 := q_weight safe b
    have h2 := qcode_len safe c.toNat
    have h3 : (⟨(qcode safe c.toNat).toArray⟩ : Str).length = (qcode safe c.toNat).length := rfl
    simp only [List.map_cons, List.sum_cons, List.length_cons, h3]
    omega

theorem quoteS_ok {w : World} {mean : ExcName → Option Value} {mg mb : Str → Option Value} {p : Program} {ls : List Str} {dp un : Nat} {gd : Option (List Code)} {cn : Str} {cs : Scope} {a : Addr} {ccd : Value} {cl : List (Str × Addr)} {outer : List Env} {A₀ : Around} {base h₀ : Heap} {L : Addr} {m : Str → Option Value} {s : Shared} {Q E : Value → Shared → Prop}
    {x safe : Str} {t ts : Tok} {rest : List (Addr × Obj)}
    (B : Below A₀ base outer h₀) (F : Fr h₀ L s.heap m) (X : (hd.heap_39 w.params).In h₀)
    (N : News h₀ L s.heap rest)
    (T : Top p ls mean mg mb h₀) (hk : cs.kind = .function)
    (hx : x.cps.any Str.isSurrogate = false) (hs0 : (utf8 x).size ≤ 100) (hsafe : safe.length ≤ 10)
    (hdp : dp + 60 < recursionLimit) (hun : un + 1200 < cLine)
    (hret : ∀ t' h' tk', Fr h₀ L h' m → News h₀ L h' rest → Q (.str (qtext safe (utf8 x).toList) t') { s with heap := h', toks := tk' }) :
    wpAny (model PySem.Challenge.rw_ah6025_01.row.prog w) (ktrTop dp un gd cn cs L a ccd cl outer) (call (.ref 48) [.str x t, .str safe ts]) Q E s := by
  revert X; k_fill; intro X
  have hs : (utf8 x).size ≤ sizeLine := by rw [sizeLine_eq]; omega
  refine wpAny_call ?_
  k_dflt (refine' code_defC ?k1 ?k2 ?k3 ?k4 ?k5 ?kA ?kF ?kK ?k6 ?k7 ?k8 ?k9 ?kB ?kD ?_ ?c2 ?c3 ?c4; (case kA => exact rfl); (case kF => exact rfl); (case kK => assumption); (case k1 => k_asm); (case k2 => k_asm); (case k3 => k_asm); (case k4 => k_asm); (case k5 => k_asm); (case k6 => k_is); (case k7 => k_is); (case k8 => ktr_room); (case k9 => first | exact BindsTo.of_eq rfl | exact binds_K (by k_in) rfl (by k_is) rfl rfl rfl | fail "k_enter: no rule for these arguments"); (case kB => exact rfl); (case kD => decide +kernel); (case c2 => exact rfl); (case c3 => exact rfl); (case c4 => exact rfl); k_whole; intro g' L' h' tk' cells' FG' F' N' Y' B' X' T' l1; (try k_lt l1); k_cells Y'; (try simp only [List.cons_append, List.nil_append] at N'); (try dsimp only); (try k_lift B'); (try k_fold))
  repeat' ((fail_if_success (with_reducible show wpAny _ _ (eval (Expr.ListComp _ _ _ _) _) _ _ _)); first | (k_unfold; (try dsimp only)) | walk1 | (dsimp only; walk1))
  (rename Fr _ _ _ _ => F7)
  (rename News _ _ _ _ => N7)
  refine ListComp_S F7 (by with_unfolding_all rfl) (by decide) (by rfl) (by decide) (by rfl) ?_
  repeat' ((fail_if_success (with_reducible show SrcPost _ _ _ _ _ _ _ _ _)); first | (k_unfold; (try dsimp only)) | walk1 | (dsimp only; walk1))
  (rename Fr g' L' _ _ => F8)
  (rename News g' L' _ _ => N8)
  refine ⟨_, _, _, src_bytes rfl _ _, F8, N8, hs, fun g => ?_⟩
  refine rest_inv (n := (utf8 x).size) (fun i ys news => news = _ ∧ StrsAre ys (((utf8 x).toList.take i).map fun c => ⟨(qcode safe c.toNat).toArray⟩)) ?_ ?_ _ 0 [] _ (by omega) ⟨rfl, .nil⟩
  · rintro i ys news v I oI C oC D m₂ h tk E' hlt ⟨rfl, hy⟩ ⟨c, u, hv, rfl⟩ hC hx' F' N' off ne
    (rename Obj.data _ = Data.cell (some (Value.str safe _)) => hoc)
    refine qelt F' X' N' T' (C := C) (oC := oC) (List.mem_cons_of_mem _ (List.mem_cons_self ..)) hC hx' (List.mem_cons_of_mem _ (List.mem_cons_of_mem _ (List.mem_cons_of_mem _ (List.mem_cons_of_mem _ (List.mem_cons_self ..))))) hoc ?_ ?_ hsafe ?_
    · omega
    · have := c.toNat_lt; omega
    · intro t' tk'
      refine LCg.CompEnd.intro F' N' _ (fun p hp => hp) off trivial ⟨rfl, ?_⟩
      rw [List.take_add_one, List.map_append, show (utf8 x).toList[i]? = some c by simpa using hv]
      exact StrsAre.append' hy (.cons _ _ .nil)
  · rintro ys news ⟨rfl, hy⟩
    intro D h tk F' N' o1
    dsimp only
    rw [List.take_of_length_le (by simp)] at hy
    have hw := q_weight safe (utf8 x).toList
    repeat' ((fail_if_success (with_reducible show wpAny _ _ (call (Value.builtin "str.join") _) _ _ _)); first | (k_unfold; (try dsimp only)) | walk1 | (dsimp only; walk1))
    refine join_listW (News.isList N' (.head _)) hy (by decide) (by simp only [List.length_map, Array.length_toList] at hw ⊢; omega) ?_
    intro t8 k8
    rw [join_q]
    k_steps
    (rename News h₀ L _ _ => kN9)
    refine hret _ _ _ (by k_asm) (fun p hp => kN9 p ?_)
    first | exact hp | exact List.mem_cons_of_mem _ hp | exact List.mem_cons_of_mem _ (List.mem_cons_of_mem _ hp) | exact List.mem_cons_of_mem _ (List.mem_cons_of_mem _ (List.mem_cons_of_mem _ hp))
theorem quoteB_ok {w : World} {mean : ExcName → Option Value} {mg mb : Str → Option Value} {p : Program} {ls : List Str} {dp un : Nat} {gd : Option (List Code)} {cn : Str} {cs : Scope} {a : Addr} {ccd : Value} {cl : List (Str × Addr)} {outer : List Env} {A₀ : Around} {base h₀ : Heap} {L : Addr} {m : Str → Option Value} {s : Shared} {Q E : Value → Shared → Prop}
    {b : Array UInt8} {safe : Str} {t ts : Tok} {rest : List (Addr × Obj)}
    (B : Below A₀ base outer h₀) (F : Fr h₀ L s.heap m) (X : (hd.heap_39 w.params).In h₀)
    (N : News h₀ L s.heap rest)
    (T : Top p ls mean mg mb h₀) (hk : cs.kind = .function)
    (hs0 : b.size ≤ 100) (hsafe : safe.length ≤ 10)
    (hdp : dp + 60 < recursionLimit) (hun : un + 1200 < cLine)
    (hret : ∀ t' h' tk', Fr h₀ L h' m → News h₀ L h' rest → Q (.str (qtext safe b.toList) t') { s with heap := h', toks := tk' }) :
    wpAny (model PySem.Challenge.rw_ah6025_01.row.prog w) (ktrTop dp un gd cn cs L a ccd cl outer) (call (.ref 48) [.bytes b t, .str safe ts]) Q E s := by
  revert X; k_fill; intro X
  have hs : b.size ≤ sizeLine := by rw [sizeLine_eq]; omega
  refine wpAny_call ?_
  k_dflt (refine' code_defC ?k1 ?k2 ?k3 ?k4 ?k5 ?kA ?kF ?kK ?k6 ?k7 ?k8 ?k9 ?kB ?kD ?_ ?c2 ?c3 ?c4; (case kA => exact rfl); (case kF => exact rfl); (case kK => assumption); (case k1 => k_asm); (case k2 => k_asm); (case k3 => k_asm); (case k4 => k_asm); (case k5 => k_asm); (case k6 => k_is); (case k7 => k_is); (case k8 => ktr_room); (case k9 => first | exact BindsTo.of_eq rfl | exact binds_K (by k_in) rfl (by k_is) rfl rfl rfl | fail "k_enter: no rule for these arguments"); (case kB => exact rfl); (case kD => decide +kernel); (case c2 => exact rfl); (case c3 => exact rfl); (case c4 => exact rfl); k_whole; intro g' L' h' tk' cells' FG' F' N' Y' B' X' T' l1; (try k_lt l1); k_cells Y'; (try simp only [List.cons_append, List.nil_append] at N'); (try dsimp only); (try k_lift B'); (try k_fold))
  repeat' ((fail_if_success (with_reducible show wpAny _ _ (eval (Expr.ListComp _ _ _ _) _) _ _ _)); first | (k_unfold; (try dsimp only)) | walk1 | (dsimp only; walk1))
  (rename Fr _ _ _ _ => F7)
  (rename News _ _ _ _ => N7)
  refine ListComp_S F7 (by with_unfolding_all rfl) (by decide) (by rfl) (by decide) (by rfl) ?_
  repeat' ((fail_if_success (with_reducible show SrcPost _ _ _ _ _ _ _ _ _)); first | (k_unfold; (try dsimp only)) | walk1 | (dsimp only; walk1))
  (rename Fr g' L' _ _ => F8)
  (rename News g' L' _ _ => N8)
  refine ⟨_, _, _, src_bytes rfl _ _, F8, N8, hs, fun g => ?_⟩
  refine rest_inv (n := b.size) (fun i ys news => news = _ ∧ StrsAre ys ((b.toList.take i).map fun c => ⟨(qcode safe c.toNat).toArray⟩)) ?_ ?_ _ 0 [] _ (by omega) ⟨rfl, .nil⟩
  · rintro i ys news v I oI C oC D m₂ h tk E' hlt ⟨rfl, hy⟩ ⟨c, u, hv, rfl⟩ hC hx' F' N' off ne
    (rename Obj.data _ = Data.cell (some (Value.str safe _)) => hoc)
    refine qelt F' X' N' T' (C := C) (oC := oC) (List.mem_cons_of_mem _ (List.mem_cons_self ..)) hC hx' (List.mem_cons_of_mem _ (List.mem_cons_of_mem _ (List.mem_cons_of_mem _ (List.mem_cons_of_mem _ (List.mem_cons_self ..))))) hoc ?_ ?_ hsafe ?_
    · omega
    · have := c.toNat_lt; omega
    · intro t' tk'
      refine LCg.CompEnd.intro F' N' _ (fun p hp => hp) off trivial ⟨rfl, ?_⟩
      rw [List.take_add_one, List.map_append, show b.toList[i]? = some c by simpa using hv]
      exact StrsAre.append' hy (.cons _ _ .nil)
  · rintro ys news ⟨rfl, hy⟩
    intro D h tk F' N' o1
    dsimp only
    rw [List.take_of_length_le (by simp)] at hy
    have hw := q_weight safe b.toList
    repeat' ((fail_if_success (with_reducible show wpAny _ _ (call (Value.builtin "str.join") _) _ _ _)); first | (k_unfold; (try dsimp only)) | walk1 | (dsimp only; walk1))
    refine join_listW (News.isList N' (.head _)) hy (by decide) (by simp only [List.length_map, Array.length_toList] at hw ⊢; omega) ?_
    intro t8 k8
    rw [join_q]
    k_steps
    (rename News h₀ L _ _ => kN9)
    refine hret _ _ _ (by k_asm) (fun p hp => kN9 p ?_)
    first | exact hp | exact List.mem_cons_of_mem _ hp | exact List.mem_cons_of_mem _ (List.mem_cons_of_mem _ hp) | exact List.mem_cons_of_mem _ (List.mem_cons_of_mem _ (List.mem_cons_of_mem _ hp))
end Mine
end

section
open PySem PySem.W PyProof.Rows
namespace Mine
local macro_rules | `(tactic| walk_at "zz0") => `(tactic| skip)
local macro_rules | `(tactic| walk_at "zz1") => `(tactic| skip)
local macro_rules | `(tactic| walk_at "zz2") => `(tactic| skip)
local macro_rules | `(tactic| walk_at "zz3") => `(tactic| skip)
local macro_rules | `(tactic| walk_at "zz4") => `(tactic| skip)
local macro_rules | `(tactic| walk_at "zz5") => `(tactic| skip)
local macro_rules | `(tactic| walk_at "zz6") => `(tactic| skip)
local macro_rules | `(tactic| walk_at "zz7") => `(tactic| skip)
local macro_rules | `(tactic| walk_at "zz8") => `(tactic| skip)
theorem rstT18 {M : Model} {A : Around} {E : Value → Shared → Prop} {s : Shared} {env : Env} {Q : Flow → Shared → Prop} (h : Q .next s) : wpAny M A (execs [] env) Q E s := by
  w_top off
  walk1
  exact h
end Mine
end

section
open PySem PySem.W PyProof.Rows
namespace Mine
set_option maxRecDepth 100000
set_option maxHeartbeats 4000000

local macro_rules | `(tactic| walk_at "call ref") => `(tactic| (k_here; (with_reducible show wpAny _ _ (call (Value.ref 43) [Value.str _ _]) _ _ _); k_dflt (refine' encodeS_ok ?k1 ?k2 ?k3 ?k4 ?k5 ?kK ?h1 ?h2 ?kd ?ku ?_; (case k1 => k_asm); (case k2 => k_asm); (case k3 => k_asm); (case k4 => k_asm); (case k5 => k_asm); (case kK => first | exact rfl | assumption); (case h1 => assumption); (case h2 => assumption); (case kd => ktr_room); (case ku => ktr_units)); intro t9 h9 tk9 F9 N9; (try dsimp only)))

theorem quoteI_ok {w : World} {mean : ExcName → Option Value} {mg mb : Str → Option Value} {p : Program} {ls : List Str} {dp un : Nat} {gd : Option (List Code)} {cn : Str} {cs : Scope} {a : Addr} {ccd : Value} {cl : List (Str × Addr)} {outer : List Env} {A₀ : Around} {base h₀ : Heap} {L : Addr} {m : Str → Option Value} {s : Shared} {Q E : Value → Shared → Prop}
    {safe : Str} {t ts : Tok} {rest : List (Addr × Obj)}
    (B : Below A₀ base outer h₀) (F : Fr h₀ L s.heap m) (X : (hd.heap_39 w.params).In h₀)
    (N : News h₀ L s.heap rest)
    (T : Top p ls mean mg mb h₀) (hk : cs.kind = .function)
    (hdp : dp + 60 < recursionLimit) (hsafe : safe.length ≤ 10) (hun : un + 1200 < cLine)
    (hret : ∀ t' h' tk', Fr h₀ L h' m → News h₀ L h' rest → Q (.str (qtext safe (utf8 (Str.ofString "-450")).toList) t') { s with heap := h', toks := tk' }) :
    wpAny (model PySem.Challenge.rw_ah6025_01.row.prog w) (ktrTop dp un gd cn cs L a ccd cl outer) (call (.ref 48) [.int (-450) t, .str safe ts]) Q E s := by
  revert X; k_fill; intro X
  have hx : (Str.ofString "-450").cps.any Str.isSurrogate = false := by decide +kernel
  have hs0 : (utf8 (Str.ofString "-450")).size ≤ 100 := by decide +kernel
  have hs : (utf8 (Str.ofString "-450")).size ≤ sizeLine := by rw [sizeLine_eq]; omega
  refine wpAny_call ?_
  k_dflt (refine' code_defC ?k1 ?k2 ?k3 ?k4 ?k5 ?kA ?kF ?kK ?k6 ?k7 ?k8 ?k9 ?kB ?kD ?_ ?c2 ?c3 ?c4; (case kA => exact rfl); (case kF => exact rfl); (case kK => assumption); (case k1 => k_asm); (case k2 => k_asm); (case k3 => k_asm); (case k4 => k_asm); (case k5 => k_asm); (case k6 => k_is); (case k7 => k_is); (case k8 => ktr_room); (case k9 => first | exact BindsTo.of_eq rfl | exact binds_K (by k_in) rfl (by k_is) rfl rfl rfl | fail "k_enter: no rule for these arguments"); (case kB => exact rfl); (case kD => decide +kernel); (case c2 => exact rfl); (case c3 => exact rfl); (case c4 => exact rfl); k_whole; intro g' L' h' tk' cells' FG' F' N' Y' B' X' T' l1; (try k_lt l1); k_cells Y'; (try simp only [List.cons_append, List.nil_append] at N'); (try dsimp only); (try k_lift B'); (try k_fold))
  repeat' ((fail_if_success (with_reducible show wpAny _ _ (eval (Expr.ListComp _ _ _ _) _) _ _ _)); first | (k_unfold; (try dsimp only)) | walk1 | (dsimp only; walk1))
  (rename Fr _ _ _ _ => F7)
  (rename News _ _ _ _ => N7)
  refine ListComp_S F7 (by with_unfolding_all rfl) (by decide) (by rfl) (by decide) (by rfl) ?_
  repeat' ((fail_if_success (with_reducible show SrcPost _ _ _ _ _ _ _ _ _)); first | (k_unfold; (try dsimp only)) | walk1 | (dsimp only; walk1))
  (rename Fr g' L' _ _ => F8)
  (rename News g' L' _ _ => N8)
  have e450 : Str.ofString (toString (-450 : Int)) = Str.ofString "-450" := by decide +kernel
  rw [e450]
  refine ⟨_, _, _, src_bytes rfl _ _, F8, N8, hs, fun g => ?_⟩
  refine rest_inv (n := (utf8 (Str.ofString "-450")).size) (fun i ys news => news = _ ∧ StrsAre ys (((utf8 (Str.ofString "-450")).toList.take i).map fun c => ⟨(qcode safe c.toNat).toArray⟩)) ?_ ?_ _ 0 [] _ (by omega) ⟨rfl, .nil⟩
  · rintro i ys news v I oI C oC D m₂ h tk E' hlt ⟨rfl, hy⟩ ⟨c, u, hv, rfl⟩ hC hx' F' N' off ne
    (rename Obj.data _ = Data.cell (some (Value.str safe _)) => hoc)
    refine qelt F' X' N' T' (C := C) (oC := oC) (List.mem_cons_of_mem _ (List.mem_cons_self ..)) hC hx' (List.mem_cons_of_mem _ (List.mem_cons_of_mem _ (List.mem_cons_of_mem _ (List.mem_cons_of_mem _ (List.mem_cons_self ..))))) hoc ?_ ?_ hsafe ?_
    · omega
    · have := c.toNat_lt; omega
    · intro t' tk'
      refine LCg.CompEnd.intro F' N' _ (fun p hp => hp) off trivial ⟨rfl, ?_⟩
      rw [List.take_add_one, List.map_append, show (utf8 (Str.ofString "-450")).toList[i]? = some c by simpa using hv]
      exact StrsAre.append' hy (.cons _ _ .nil)
  · rintro ys news ⟨rfl, hy⟩
    intro D h tk F' N' o1
    dsimp only
    rw [List.take_of_length_le (by simp)] at hy
    have hw := q_weight safe (utf8 (Str.ofString "-450")).toList
    repeat' ((fail_if_success (with_reducible show wpAny _ _ (call (Value.builtin "str.join") _) _ _ _)); first | (k_unfold; (try dsimp only)) | walk1 | (dsimp only; walk1))
    refine join_listW (News.isList N' (.head _)) hy (by decide) (by simp only [List.length_map, Array.length_toList] at hw ⊢; omega) ?_
    intro t8 k8
    rw [join_q]
    k_steps
    (rename News h₀ L _ _ => kN9)
    refine hret _ _ _ (by k_asm) (fun p hp => kN9 p ?_)
    first | exact hp | exact List.mem_cons_of_mem _ hp | exact List.mem_cons_of_mem _ (List.mem_cons_of_mem _ hp) | exact List.mem_cons_of_mem _ (List.mem_cons_of_mem _ (List.mem_cons_of_mem _ hp))
end Mine
end

section
open PySem PySem.W PyProof.Rows
namespace Mine
local macro_rules | `(tactic| walk_at "zz0") => `(tactic| skip)
local macro_rules | `(tactic| walk_at "zz1") => `(tactic| skip)
local macro_rules | `(tactic| walk_at "zz2") => `(tactic| skip)
local macro_rules | `(tactic| walk_at "zz3") => `(tactic| skip)
local macro_rules | `(tactic| walk_at "zz4") => `(tactic| skip)
local macro_rules | `(tactic| walk_at "zz5") => `(tactic| skip)
local macro_rules | `(tactic| walk_at "zz6") => `(tactic| skip)
local macro_rules | `(tactic| walk_at "zz7") => `(tactic| skip)
local macro_rules | `(tactic| walk_at "zz8") => `(tactic| skip)
theorem rstT20 {M : Model} {A : Around} {E : Value → Shared → Prop} {s : Shared} {env : Env} {Q : Flow → Shared → Prop} (h : Q .next s) : wpAny M A (execs [] env) Q E s := by
  w_top off
  walk1
  exact h
end Mine
end

section
open PySem PySem.W PyProof.Rows PySem.Calls PySem.NumText
namespace Mine
set_option maxRecDepth 100000
set_option maxHeartbeats 4000000

def hexT (k : Nat) : List Nat := [hexc (k / 16), hexc (k % 16)]
theorem hex_tab : ∀ k : Nat, k < 256 → sign ((hexT k).dropWhile blank) = (false, hexT k) ∧ based 16 (hexT k) = (16, false, hexT k) ∧ ((hexT k).reverse.dropWhile blank).reverse = hexT k ∧ digits? 16 (hexT k) = some #[k / 16, k % 16] ∧ (hexT k).takeWhile (· != 0) = hexT k ∧ (⟨(hexT k).toArray⟩ : Str).cps.all (· < 128) = true := by
  decide +kernel
theorem hex_read {k : Nat} (hk : k < 256) : (int_private% "readNumeral") 0 16 ((hexT k).takeWhile (· != 0)) = (int_private% "Numeral.value") (k : Int) := by
  obtain ⟨h1, h2, h3, h4, h5, _⟩ := hex_tab k hk
  rw [h5, readNumeral_eq, h1, h2, h3, h4]
  unfold judge
  simp
  omega

theorem sub_obj : isSubtype (.type "int") (.type "int") = pure true := F.conv_sub_int
theorem newCall_int_2 (a b : Value) : checkBuiltinCall "int.__new__" ⟨[.type "int", a, b], []⟩ = pure () := by kernel_rfl
theorem typeCall_int_2 (a b : Value) : checkTypeCall "int" ⟨[a, b], []⟩ = pure () := by kernel_rfl
theorem args_object_init_3 (a b c : Value) : argsOk "object.__init__" ⟨[a, b, c], []⟩ := by
  unfold argsOk; rw [signature?_of (id := "object.__init__") (n := ['_', '_', 't', 'i', 'n', 'i', '_', '_']) (o := ['t', 'c', 'e', 'j', 'b', 'o']) (by kernel_rfl) F.owner_object]; kernel_rfl

theorem wp_text16 {M : Model} {A : Around} {E : Value → Shared → Prop} {s : Shared} {Q : Value → Shared → Prop} {v : Value} {text : List Nat} {n : Int}
    (hs : (text.takeWhile (· != 0)).length ≤ 640) (hr : (int_private% "readNumeral") 0 16 (text.takeWhile (· != 0)) = (int_private% "Numeral.value") n)
    (ha : ((text.takeWhile (· != 0)).length == text.length) = true) (h : Q (.int n s.toks) { s with toks := s.toks + 1 }) :
    wpAny M A ((int_private% "intFromText") v text 16) Q E s := by
  obtain ⟨hp, g, d, tk, os⟩ := s
  repeat (any_goals (first
    | assumption
    | (with_reducible refine wpAny_ite_true (decide_eq_true hs) ?_)
    | (with_reducible refine wpAny_ite_true (decide_eq_true ha) ?_)
    | wp_step))
  all_goals (try rw [hr])
  all_goals (try dsimp only)
  repeat (any_goals (first
    | assumption
    | (with_reducible refine wpAny_ite_true (decide_eq_true hs) ?_)
    | (with_reducible refine wpAny_ite_true (decide_eq_true ha) ?_)
    | wp_step))

theorem gives_hex {k : Nat} {u u2 : Tok} (hk : k < 256) : Gives (Builtin.«int.__new__» ⟨[.type "int", .str ⟨(hexT k).toArray⟩ u, .int 16 u2], []⟩) (.int k) :=
  .of_wp fun M A E s Q h => by
    obtain ⟨hp, g, d, tk, os⟩ := s
    have f1 := F.conv_sub_int
    have f2 := F.madeHere_int
    have hr := hex_read hk
    obtain ⟨-, -, -, -, h5, h6⟩ := hex_tab k hk
    have hs : ((if (⟨(hexT k).toArray⟩ : Str).cps.all (· < 128) then (⟨(hexT k).toArray⟩ : Str).cps.toList else Unicode.numberText (⟨(hexT k).toArray⟩ : Str).cps.toList)) = hexT k := by rw [if_pos h6]
    generalize hx : (⟨(hexT k).toArray⟩ : Str) = x at *
    have h7 : ((hexT k).takeWhile (· != 0)).length ≤ 640 := by rw [h5]; simp [hexT]
    have h8 : (((hexT k).takeWhile (· != 0)).length == (hexT k).length) = true := by rw [h5]; simp
    generalize hexT k = tx at *
    repeat (any_goals (first
      | assumption
      | ((with_reducible show wpAny _ _ ((int_private% "intFromText") _ _ _) _ _ _); rw [hs]; refine wp_text16 (n := (k : Int)) h7 hr h8 ?_)
      | wp_step))
    all_goals first | exact ⟨_, rfl, h⟩ | skip

section
variable {prog : Program} {w : World} {A : Around} {E : Value → Shared → Prop} {s : Shared}
theorem call_hex {k : Nat} {u u2 : Tok} {Q : Value → Shared → Prop} (hk : k < 256) (h : Q (.int k s.toks) { s with toks := s.toks + 1 }) : wpAny (model prog w) A (call (.type "int") [.str ⟨(hexT k).toArray⟩ u, .int 16 u2]) Q E s :=
  callType_new F.called_int F.newNe_int (typeCall_int_2 _ _) (newCall_int_2 _ _) (fun obj => args_object_init_3 obj _ _) F.entry_int_new (gives_hex hk).meets (show (Made.int k).post _ s from ⟨rfl, h⟩)
end
end Mine
end

section
open PySem PySem.W PyProof.Rows
namespace Mine
local macro_rules | `(tactic| walk_at "zz0") => `(tactic| skip)
local macro_rules | `(tactic| walk_at "zz1") => `(tactic| skip)
local macro_rules | `(tactic| walk_at "zz2") => `(tactic| skip)
local macro_rules | `(tactic| walk_at "zz3") => `(tactic| skip)
local macro_rules | `(tactic| walk_at "zz4") => `(tactic| skip)
local macro_rules | `(tactic| walk_at "zz5") => `(tactic| skip)
local macro_rules | `(tactic| walk_at "zz6") => `(tactic| skip)
local macro_rules | `(tactic| walk_at "zz7") => `(tactic| skip)
local macro_rules | `(tactic| walk_at "zz8") => `(tactic| skip)
theorem rstT21 {M : Model} {A : Around} {E : Value → Shared → Prop} {s : Shared} {env : Env} {Q : Flow → Shared → Prop} (h : Q .next s) : wpAny M A (execs [] env) Q E s := by
  w_top off
  walk1
  exact h
end Mine
end

section
open PySem PySem.W PyProof.Rows
namespace Mine
set_option maxRecDepth 100000

theorem qlen (safe : Str) (b : List UInt8) : (qtext safe b).length = (b.flatMap fun c => qcode safe c.toNat).length := by
  show (b.flatMap fun c => qcode safe c.toNat).toArray.size = _
  simp
theorem qlen_le (safe : Str) (b : List UInt8) : (qtext safe b).length ≤ 3 * b.length := by
  rw [qlen]
  induction b with
  | nil => simp
  | cons c b ih =>
    have := qcode_len safe c.toNat
    simp only [List.flatMap_cons, List.length_append, List.length_cons]
    omega
theorem split_at {b : List UInt8} {i : Nat} {c : UInt8} (hc : b[i]? = some c) : b = b.take i ++ c :: b.drop (i + 1) := by
  obtain ⟨hi, rfl⟩ := List.getElem?_eq_some_iff.mp hc
  simp
theorem q_split {safe : Str} {b : List UInt8} {i : Nat} {c : UInt8} (hc : b[i]? = some c) :
    (qtext safe b).cps.toList = ((b.take i).flatMap fun c => qcode safe c.toNat) ++ (qcode safe c.toNat ++ (b.drop (i + 1)).flatMap fun c => qcode safe c.toNat) := by
  show (b.flatMap fun c => qcode safe c.toNat) = _
  conv => lhs; rw [split_at hc]
  simp only [List.flatMap_append, List.flatMap_cons]
theorem q_next {safe : Str} {b : List UInt8} {i : Nat} {c : UInt8} (hc : b[i]? = some c) : (qtext safe (b.take (i + 1))).length = (qtext safe (b.take i)).length + (qcode safe c.toNat).length := by
  rw [qlen, qlen, List.take_add_one, hc]
  simp
theorem q_in {safe : Str} {b : List UInt8} {i : Nat} {c : UInt8} (hc : b[i]? = some c) : (qtext safe (b.take i)).length + (qcode safe c.toNat).length ≤ (qtext safe b).length := by
  have h := congrArg List.length (q_split (safe := safe) hc)
  simp only [List.length_append] at h
  have h2 : (qtext safe b).length = (qtext safe b).cps.toList.length := by simp [Str.length]
  rw [h2, qlen]
  omega
theorem q_drop {safe : Str} {b : List UInt8} {i : Nat} {c : UInt8} (hc : b[i]? = some c) : (qtext safe b).cps.toList.drop (qtext safe (b.take i)).length = qcode safe c.toNat ++ (b.drop (i + 1)).flatMap fun c => qcode safe c.toNat := by
  rw [q_split hc, qlen, List.drop_left]
theorem q_item {safe : Str} {b : List UInt8} {i : Nat} {c : UInt8} {a : Nat} {r : List Nat} (hc : b[i]? = some c) (hq : qcode safe c.toNat = a :: r) : Txt.item (qtext safe b) ((qtext safe (b.take i)).length : Int) = ⟨#[a]⟩ := by
  have hin := q_in (safe := safe) hc
  rw [hq] at hin
  simp only [List.length_cons] at hin
  rw [item_at (n := (qtext safe (b.take i)).length) (by omega) (by omega) (by omega)]
  have hd := q_drop (safe := safe) hc
  rw [hq] at hd
  have h0 := congrArg List.head? hd
  rw [List.head?_drop] at h0
  rw [Array.getD_eq_getD_getElem?, ← Array.getElem?_toList, h0]
  rfl
theorem q_ok {safe : Str} {b : List UInt8} {i : Nat} {c : UInt8} (hc : b[i]? = some c) (hs : 37 ∉ safe.cps.toList) (hk : okc safe c.toNat = true) :
    Txt.item (qtext safe b) ((qtext safe (b.take i)).length : Int) = ⟨#[c.toNat]⟩ ∧ c.toNat ≠ 37 ∧ (qtext safe (b.take (i + 1))).length = (qtext safe (b.take i)).length + 1 ∧ (qtext safe (b.take i)).length + 1 ≤ (qtext safe b).length := by
  have e : qcode safe c.toNat = [c.toNat] := by unfold qcode; rw [if_pos hk]
  refine ⟨q_item hc e, ?_, by rw [q_next hc, e]; rfl, by have := q_in (safe := safe) hc; rwa [e] at this⟩
  intro h37
  rw [h37] at hk
  unfold okc at hk
  simp only [Bool.and_eq_true, decide_eq_true_eq] at hk
  have := hk.2
  have ha : (Str.ofString freeS ++ safe).cps.toList = (Str.ofString freeS).cps.toList ++ safe.cps.toList := by
    show ((Str.ofString freeS).cps ++ safe.cps).toList = _
    simp
  rw [ha, List.mem_append] at this
  rcases this with h | h
  · exact absurd h (by decide +kernel)
  · exact hs h
theorem q_no {safe : Str} {b : List UInt8} {i : Nat} {c : UInt8} (hc : b[i]? = some c) (hk : okc safe c.toNat = false) :
    Txt.item (qtext safe b) ((qtext safe (b.take i)).length : Int) = ⟨#[37]⟩ ∧ Txt.slice (qtext safe b) (some (((qtext safe (b.take i)).length : Int) + 1)) (some (((qtext safe (b.take i)).length : Int) + 3)) = ⟨(hexT c.toNat).toArray⟩ ∧ (qtext safe (b.take (i + 1))).length = (qtext safe (b.take i)).length + 3 ∧ (qtext safe (b.take i)).length + 3 ≤ (qtext safe b).length := by
  have e : qcode safe c.toNat = 37 :: hexT c.toNat := by unfold qcode; rw [hk]; rfl
  have hin := q_in (safe := safe) hc
  rw [e] at hin
  have hin2 : (qtext safe (b.take i)).length + 3 ≤ (qtext safe b).length := hin
  refine ⟨q_item hc e, ?_, by rw [q_next hc, e]; rfl, hin2⟩
  have := slice_closesL (x := qtext safe b) (i := ((qtext safe (b.take i)).length : Int) + 1) (j := ((qtext safe (b.take i)).length : Int) + 3) (by omega) (by omega) (by omega)
  rw [eq_of_beq this]
  have e1 : (((qtext safe (b.take i)).length : Int) + 1).toNat = (qtext safe (b.take i)).length + 1 := by omega
  have e2 : (((qtext safe (b.take i)).length : Int) + 3 - (((qtext safe (b.take i)).length : Int) + 1)).toNat = 2 := by omega
  rw [e1, e2, ← List.drop_drop, q_drop hc, e]
  rfl
theorem q_end (safe : Str) {b : List UInt8} {i : Nat} (h : b.length ≤ i) : (qtext safe (b.take i)) = qtext safe b := by rw [List.take_of_length_le h]
end Mine
end

section
open PySem PySem.W PyProof.Rows
namespace Mine
local macro_rules | `(tactic| walk_at "zz0") => `(tactic| skip)
local macro_rules | `(tactic| walk_at "zz1") => `(tactic| skip)
local macro_rules | `(tactic| walk_at "zz2") => `(tactic| skip)
local macro_rules | `(tactic| walk_at "zz3") => `(tactic| skip)
local macro_rules | `(tactic| walk_at "zz4") => `(tactic| skip)
local macro_rules | `(tactic| walk_at "zz5") => `(tactic| skip)
local macro_rules | `(tactic| walk_at "zz6") => `(tactic| skip)
local macro_rules | `(tactic| walk_at "zz7") => `(tactic| skip)
local macro_rules | `(tactic| walk_at "zz8") => `(tactic| skip)
theorem rstT19 {M : Model} {A : Around} {E : Value → Shared → Prop} {s : Shared} {env : Env} {Q : Flow → Shared → Prop} (h : Q .next s) : wpAny M A (execs [] env) Q E s := by
  w_top off
  walk1
  exact h
end Mine
end

section
open PySem PySem.W PyProof.Rows
namespace Mine
set_option maxRecDepth 100000
set_option maxHeartbeats 4000000

theorem read_ok {w : World} {mean : ExcName → Option Value} {mg mb : Str → Option Value} {p : Program} {ls : List Str} {dp un : Nat} {gd : Option (List Code)} {cn : Str} {cs : Scope} {a : Addr} {ccd : Value} {cl : List (Str × Addr)} {outer : List Env} {A₀ : Around} {base h₀ : Heap} {L : Addr} {m : Str → Option Value} {s : Shared} {Q E : Value → Shared → Prop}
    {x safe : Str} {b : List UInt8} {t : Tok} {rest : List (Addr × Obj)}
    (B : Below A₀ base outer h₀) (F : Fr h₀ L s.heap m) (X : (hd.heap_39 w.params).In h₀)
    (N : News h₀ L s.heap rest)
    (T : Top p ls mean mg mb h₀) (hk : cs.kind = .function)
    (hx : x = qtext safe b) (hb : b.length ≤ 100) (hsafe : 37 ∉ safe.cps.toList)
    (hdp : dp + 20 < recursionLimit) (hun : un + 400 < cLine)
    (hret : ∀ t' h' tk', Fr h₀ L h' m → News h₀ L h' rest → Q (.bytes b.toArray t') { s with heap := h', toks := tk' }) :
    wpAny (model PySem.Challenge.rw_ah6025_01.row.prog w) (ktrTop dp un gd cn cs L a ccd cl outer) (call (.ref 74) [.str x t]) Q E s := by
  revert X; k_fill; intro X
  refine wpAny_call ?_
  k_dflt cell_enter
  repeat' ((fail_if_success (with_reducible show wpAny _ _ (exec (Stmt.While _ _ _ _) _) _ _ _)); first | (k_unfold; (try dsimp only)) | walk1 | (dsimp only; walk1))
  (rename Fr _ _ _ _ => F7)
  (rename News _ _ _ ((_, W.listOf _ _) :: rest) => N7)
  refine While_inv (fun n m' nx => ∃ (i : Nat) (vs : List Value) (c : Nat) (ta : Tok), i + n = b.length ∧ nx = (_, listOf vs.toArray c) :: rest ∧ IntsAre vs ((b.take i).map fun c => (c.toNat : Int)) ∧
    m' (Str.ofString "at") = some (.int ((qtext safe (b.take i)).length : Int) ta) ∧ m' (Str.ofString "out") = some (.ref _) ∧ m' (Str.ofString "text") = some (.str x t)) (n₀ := b.length) F7 N7 ⟨0, [], 0, _, by omega, rfl, .nil, rfl, rfl, rfl⟩ ?_
  clear F7 N7
  rintro n m₁ news₁ h tk F1 N1 ⟨i, vs, c, ta, hi, rfl, hvs, hm1, hm2, hm3⟩
  generalize hD : (m₁ (Str.ofString "out")) = oD at hm2
  subst hm2
  have e : m₁ = (fun y => if y = Str.ofString "at" then some (.int ((qtext safe (b.take i)).length : Int) ta) else if y = Str.ofString "out" then m₁ (Str.ofString "out") else if y = Str.ofString "text" then some (.str x t) else m₁ y) := by
    funext y
    by_cases hy : y = Str.ofString "at"
    · subst hy; simp [hm1]
    · by_cases hz : y = Str.ofString "out"
      · rw [if_neg hy, if_pos hz, hz]
      · by_cases hu : y = Str.ofString "text"
        · rw [if_neg hy, if_neg hz, if_pos hu, hu, hm3]
        · rw [if_neg hy, if_neg hz, if_neg hu]
  rw [e] at F1
  rw [hD] at F1
  clear e
  have hx3 : x.length ≤ 300 := by rw [hx]; have := qlen_le safe b; omega
  by_cases hib : i < b.length
  · obtain ⟨cc, hcc⟩ : ∃ cc, b[i]? = some cc := ⟨_, List.getElem?_eq_getElem hib⟩
    have hcl := cc.toNat_lt
    cases hok : okc safe cc.toNat with
    | true =>
      obtain ⟨f1, f2, f3, f4⟩ := q_ok hcc hsafe hok
      rw [← hx] at f1 f4
      generalize hat : (qtext safe (b.take i)).length = at0 at *
      repeat' (first | (k_unfold; (try dsimp only)) | walk1 | (dsimp only; walk1))
      · exfalso
        (rename (Txt.item x _ == Str.ofString "%") = true => hq)
        rw [f1] at hq
        exact f2 (by have h := congrArg (fun (z : Str) => z.cps.getD 0 0) (eq_of_beq hq); exact h)
      · (rename Fr _ _ _ _ => F2)
        (rename News _ _ _ _ => N2)
        rw [f1] at N2
        rw [List.push_toArray] at N2
        refine WhileStep.intro F2 N2 (n' := n - 1) (by omega) ⟨i + 1, _, _, _, by omega, rfl, ?_, by rw [f3]; exact rfl, rfl, rfl⟩
        · rw [List.take_add_one, hcc, List.map_append]
          exact Mine.ints_snoc hvs _ _
    | false =>
      obtain ⟨f1, f2, f3, f4⟩ := q_no hcc hok
      rw [← hx] at f1 f2 f4
      generalize hat : (qtext safe (b.take i)).length = at0 at *
      repeat' ((fail_if_success (with_reducible show wpAny _ _ (call (Value.type "int") _) _ _ _)); first | (k_unfold; (try dsimp only)) | walk1 | (dsimp only; walk1))
      · rw [f2]
        refine call_hex hcl ?_
        repeat' (first | (k_unfold; (try dsimp only)) | walk1 | (dsimp only; walk1))
        · (rename Fr _ _ _ _ => F2)
          (rename News _ _ _ _ => N2)
          rw [List.push_toArray] at N2
          refine WhileStep.intro F2 N2 (n' := n - 1) (by omega) ⟨i + 1, _, _, _, by omega, rfl, ?_, by rw [f3]; exact rfl, rfl, rfl⟩
          · rw [List.take_add_one, hcc, List.map_append]
            exact Mine.ints_snoc hvs _ _
      · exfalso
        (rename (Txt.item x _ == Str.ofString "%") = false => hq)
        rw [f1] at hq
        exact absurd hq (by decide +kernel)
  · have hend := q_end safe (Nat.le_of_not_lt hib)
    rw [hend, ← hx] at F1
    repeat' (first | (k_unfold; (try dsimp only)) | walk1 | (dsimp only; walk1))
    refine call_bytes_ints (News.isList N1 (.head _)) hvs ?_ ?_ rfl ?_
    · intro n hn
      obtain ⟨c', -, rfl⟩ := List.mem_map.mp hn
      have := c'.toNat_lt
      omega
    · rw [hvs.length, List.length_map, List.length_take, sizeLine_eq]; omega
    intro h8 t8 k8 keep8
    have F9 := F1.keeps keep8
    have N9 := N1.grown keep8
    clear F1 N1
    have eb : byteArr (List.map (fun c => (c.toNat : Int)) (List.take i b)) = b.toArray := by
      rw [List.take_of_length_le (by omega)]
      unfold byteArr
      rw [List.map_map]
      congr 1
      conv => rhs; rw [← List.map_id b]
      refine List.map_congr_left fun c _ => ?_
      simp
    rw [eb]
    k_steps
    (rename News h₀ L _ _ => kN9)
    refine hret _ _ _ (by k_asm) (fun p hp => kN9 p ?_)
    first | exact hp | exact List.mem_cons_of_mem _ hp | exact List.mem_cons_of_mem _ (List.mem_cons_of_mem _ hp) | exact List.mem_cons_of_mem _ (List.mem_cons_of_mem _ (List.mem_cons_of_mem _ hp))
end Mine
end

section
open PySem PySem.W PyProof.Rows
namespace Mine
local macro_rules | `(tactic| walk_at "zz0") => `(tactic| skip)
local macro_rules | `(tactic| walk_at "zz1") => `(tactic| skip)
local macro_rules | `(tactic| walk_at "zz2") => `(tactic| skip)
local macro_rules | `(tactic| walk_at "zz3") => `(tactic| skip)
local macro_rules | `(tactic| walk_at "zz4") => `(tactic| skip)
local macro_rules | `(tactic| walk_at "zz5") => `(tactic| skip)
local macro_rules | `(tactic| walk_at "zz6") => `(tactic| skip)
local macro_rules | `(tactic| walk_at "zz7") => `(tactic| skip)
local macro_rules | `(tactic| walk_at "zz8") => `(tactic| skip)
theorem rstT22 {M : Model} {A : Around} {E : Value → Shared → Prop} {s : Shared} {env : Env} {Q : Flow → Shared → Prop} (h : Q .next s) : wpAny M A (execs [] env) Q E s := by
  w_top off
  walk1
  exact h
end Mine
end

section
open PySem PySem.W PyProof.Rows
namespace Mine
set_option maxRecDepth 100000
set_option maxHeartbeats 4000000

/-- a value's class as the two tests see it: list or tuple; dict -/
inductive Vk (R : Led) : Value → Bool → Bool → Prop
  | list {a : Addr} {o : Obj} : (a, o) ∈ R → o.cls = .type "list" → Vk R (.ref a) true false
  | tuple {a : Addr} {o : Obj} : (a, o) ∈ R → o.cls = .type "tuple" → Vk R (.ref a) true false
  | dict {a : Addr} {o : Obj} : (a, o) ∈ R → o.cls = .type "dict" → Vk R (.ref a) false true
  | str {x : Str} {t : Tok} : Vk R (.str x t) false false
  | int {i : Int} {t : Tok} : Vk R (.int i t) false false
  | none : Vk R .none false false

section
variable {prog : Program} {w : World} {A : Around} {E : Value → Shared → Prop} {s : Shared} {Q : Value → Shared → Prop} {R : Led}
theorem isiLT_any {v : Value} {lt dc : Bool} {tp : Addr} (k : Vk R v lt dc) (H : Holds R s.heap) (ht : s.heap.get? tp = some ltObj) (h : ∀ tk, Q (.bool lt) { s with toks := tk }) :
    wpAny (model prog w) A (call (.builtin "isinstance") [v, .ref tp]) Q E s := by
  cases k with
  | list hr hc => exact isiLT_list (H _ hr) hc ht h
  | tuple hr hc => exact isiLT_tuple (H _ hr) hc ht h
  | dict hr hc => exact isiLT_dict (H _ hr) hc ht h
  | str => exact isiLT_str ht h
  | int => exact isiLT_int ht h
  | none => exact isiLT_none ht h
theorem isiD_any {v : Value} {lt dc : Bool} (k : Vk R v lt dc) (H : Holds R s.heap) (h : ∀ tk, Q (.bool dc) { s with toks := tk }) :
    wpAny (model prog w) A (call (.builtin "isinstance") [v, .type "dict"]) Q E s := by
  cases k with
  | list hr hc => exact IsiPair.list_dict (H _ hr) hc (h _)
  | tuple hr hc => exact IsiPair.tuple_dict (H _ hr) hc (h _)
  | dict hr hc => exact IsiPair.dict_dict (H _ hr) hc (h _)
  | str => exact IsiPair.str_dict (h _)
  | int => exact IsiPair.int_dict (h _)
  | none => exact IsiPair.NoneType_dict (h _)
end

theorem listTest_ok {w : World} {mean : ExcName → Option Value} {mg mb : Str → Option Value} {p : Program} {ls : List Str} {dp un : Nat} {gd : Option (List Code)} {cn : Str} {cs : Scope} {a : Addr} {ccd : Value} {cl : List (Str × Addr)} {outer : List Env} {A₀ : Around} {base h₀ : Heap} {L : Addr} {m : Str → Option Value} {s : Shared} {Q E : Value → Shared → Prop}
    {v : Value} {lt dc : Bool} {rest : List (Addr × Obj)}
    (B : Below A₀ base outer h₀) (F : Fr h₀ L s.heap m) (X : (hd.heap_39 w.params).In h₀)
    (N : News h₀ L s.heap rest)
    (T : Top p ls mean mg mb h₀) (hk : cs.kind = .function)
    (k : Vk rest v lt dc)
    (hdp : dp + 20 < recursionLimit) (hun : un + 400 < cLine)
    (hret : ∀ h' tk', Fr h₀ L h' m → News h₀ L h' rest → Q (.bool lt) { s with heap := h', toks := tk' }) :
    wpAny (model PySem.Challenge.rw_ah6025_01.row.prog w) (ktrTop dp un gd cn cs L a ccd cl outer) (call (.ref 28) [v]) Q E s := by
  revert X; k_fill; intro X
  refine wpAny_call ?_
  k_dflt cell_enter
  repeat' ((fail_if_success (with_reducible show wpAny _ _ (call (Value.builtin "isinstance") _) _ _ _)); first | (k_unfold; (try dsimp only)) | walk1 | (dsimp only; walk1))
  (rename Fr _ _ _ _ => F2)
  (rename News _ _ _ _ => N2)
  refine isiLT_any k (fun p hp => (N2 _ (List.mem_cons_of_mem _ hp)).1) (N2 _ (List.mem_cons_self ..)).1 ?_
  intro tk2
  k_steps
  (rename Fr h₀ L _ _ => kF9)
  (rename News h₀ L _ _ => kN9)
  refine hret _ _ (by k_asm) (fun p hp => kN9 p ?_)
  first | exact hp | exact List.mem_cons_of_mem _ hp | exact List.mem_cons_of_mem _ (List.mem_cons_of_mem _ hp) | exact List.mem_cons_of_mem _ (List.mem_cons_of_mem _ (List.mem_cons_of_mem _ hp))

theorem dictTest_ok {w : World} {mean : ExcName → Option Value} {mg mb : Str → Option Value} {p : Program} {ls : List Str} {dp un : Nat} {gd : Option (List Code)} {cn : Str} {cs : Scope} {a : Addr} {ccd : Value} {cl : List (Str × Addr)} {outer : List Env} {A₀ : Around} {base h₀ : Heap} {L : Addr} {m : Str → Option Value} {s : Shared} {Q E : Value → Shared → Prop}
    {v : Value} {lt dc : Bool} {rest : List (Addr × Obj)}
    (B : Below A₀ base outer h₀) (F : Fr h₀ L s.heap m) (X : (hd.heap_39 w.params).In h₀)
    (N : News h₀ L s.heap rest)
    (T : Top p ls mean mg mb h₀) (hk : cs.kind = .function)
    (k : Vk rest v lt dc)
    (hdp : dp + 20 < recursionLimit) (hun : un + 400 < cLine)
    (hret : ∀ h' tk', Fr h₀ L h' m → News h₀ L h' rest → Q (.bool dc) { s with heap := h', toks := tk' }) :
    wpAny (model PySem.Challenge.rw_ah6025_01.row.prog w) (ktrTop dp un gd cn cs L a ccd cl outer) (call (.ref 35) [v]) Q E s := by
  revert X; k_fill; intro X
  refine wpAny_call ?_
  k_dflt cell_enter
  repeat' ((fail_if_success (with_reducible show wpAny _ _ (call (Value.builtin "isinstance") _) _ _ _)); first | (k_unfold; (try dsimp only)) | walk1 | (dsimp only; walk1))
  (rename Fr _ _ _ _ => F2)
  (rename News _ _ _ _ => N2)
  refine isiD_any k (fun p hp => (N2 _ hp).1) ?_
  intro tk2
  k_steps
  (rename Fr h₀ L _ _ => kF9)
  (rename News h₀ L _ _ => kN9)
  refine hret _ _ (by k_asm) (fun p hp => kN9 p ?_)
  first | exact hp | exact List.mem_cons_of_mem _ hp | exact List.mem_cons_of_mem _ (List.mem_cons_of_mem _ hp) | exact List.mem_cons_of_mem _ (List.mem_cons_of_mem _ (List.mem_cons_of_mem _ hp))
end Mine
end

section
open PySem PySem.W PyProof.Rows
namespace Mine
local macro_rules | `(tactic| walk_at "zz0") => `(tactic| skip)
local macro_rules | `(tactic| walk_at "zz1") => `(tactic| skip)
local macro_rules | `(tactic| walk_at "zz2") => `(tactic| skip)
local macro_rules | `(tactic| walk_at "zz3") => `(tactic| skip)
local macro_rules | `(tactic| walk_at "zz4") => `(tactic| skip)
local macro_rules | `(tactic| walk_at "zz5") => `(tactic| skip)
local macro_rules | `(tactic| walk_at "zz6") => `(tactic| skip)
local macro_rules | `(tactic| walk_at "zz7") => `(tactic| skip)
local macro_rules | `(tactic| walk_at "zz8") => `(tactic| skip)
theorem rstT25 {M : Model} {A : Around} {E : Value → Shared → Prop} {s : Shared} {env : Env} {Q : Flow → Shared → Prop} (h : Q .next s) : wpAny M A (execs [] env) Q E s := by
  w_top off
  walk1
  exact h
end Mine
end

section
open PySem PySem.W PySem.Calls PyProof.Rows
namespace Mine
set_option maxRecDepth 100000
set_option maxHeartbeats 4000000

abbrev rowScope : Scope := { kind := .function, names := [(Str.ofString ".0", .local), (Str.ofString "k", .local), (Str.ofString "_law_thing", .globalImplicit), (Str.ofString "draw", .free)], isGenerator := false, isCoroutine := false }

section
variable {M : Model} {A : Around} {E : Value → Shared → Prop} {s : Shared} {K : Frag} {h₀ : Heap} {L : Addr} {m mg mb : Str → Option Value} {news : List (Addr × Obj)} {env : Env} {p : Program} {loose : List Str} {mean : ExcName → Option Value} {x : Str} {pos : Pos} {v : Value} {Q : Value → Shared → Prop}
theorem nm_glob (F : Fr h₀ L s.heap m) (X : K.In h₀) (T : Top p loose mean mg mb h₀) (hk : env.scope.kind = .function) (hx : env.kindOf x = some .globalImplicit) (e : nsIn K mainGlobals x = some (some v)) (hg : env.globals = mainGlobals) (hd : (x == ("__debug__" : Str)) = false) (h : Q v s) :
    wpAny M A (eval (.Name x pos) env) Q E s :=
  Name_function_global hk hx (loadGlobal_global (env := env) (show s.heap.Ns env.globals mg from hg ▸ (T.keeps F.keep).g) (mg_of X T.g e) h) hd
theorem nm_built (F : Fr h₀ L s.heap m) (X : K.In h₀) (T : Top p loose mean mg mb h₀) (hk : env.scope.kind = .function) (hx : env.kindOf x = some .globalImplicit) (e : nsIn K mainGlobals x = some none) (hv : bootBuiltins x = some v) (hn : x ≠ "__name__") (hg : env.globals = mainGlobals) (hb : env.builtins = builtinsNs) (hd : (x == ("__debug__" : Str)) = false) (h : Q v s) :
    wpAny M A (eval (.Name x pos) env) Q E s :=
  Name_function_global hk hx (loadGlobal_builtin (env := env) (show s.heap.Ns env.globals mg from hg ▸ (T.keeps F.keep).g) (mg_none_of X T.g e) (show s.heap.Ns env.builtins mb from hb ▸ (T.keeps F.keep).b) ((T.builtins x hn).trans hv) h) hd
theorem nm_cell {cn : Str} {cs : Scope} {a c : Addr} {ccd : Value} {cl : List (Str × Addr)} {o : Obj} (N : News h₀ L s.heap news) (hk : cs.kind = .function) (hx : (envX cn cs L a ccd cl).kindOf x = some .cell) (hc : cl.lookup x = some c) (hm : (c, o) ∈ news) (hd : o.data = .cell (some v)) (hb : (x == ("__debug__" : Str)) = false) (h : Q v s) :
    wpAny M A (eval (.Name x pos) (envX cn cs L a ccd cl)) Q E s := wpAny_Name (wpAny_loadName_cell hk hx hc ⟨o, N.get hm, hd⟩ h) hb
end

local macro_rules | `(tactic| walk_at "eval Name") => `(tactic| (k_here; (with_reducible show wpAny _ _ (eval _ (compEnvC _ _ _ _)) _ _ _); k_dflt (first
    | (refine LCgL.ld_global (by assumption) (by assumption) (by assumption) (by k_is) ?_ (by rfl) (by rfl) (by rfl) (by decide))
    | (refine lcf_cell (by assumption) (by rfl) (by repeat (first | (with_reducible assumption) | (with_reducible refine List.mem_cons_of_mem _ ?_) | (with_reducible refine List.mem_append_right _ ?_))) (by assumption) ?_ (by rfl) (by with_reducible assumption) (by decide))
    | (refine LCgL.ld_built (by assumption) (by assumption) (by assumption) (by k_is) (by boot_by_name) (by decide) ?_ (by rfl) (by rfl) (by rfl) (by rfl) (by decide)))))
local macro_rules | `(tactic| walk_at "eval Name") => `(tactic| (k_here; (with_reducible show wpAny _ _ (eval _ (envX _ _ _ _ _ _)) _ _ _); k_dflt (first
  | (refine nm_cell (by assumption) (by with_reducible assumption) (by with_reducible assumption) (by with_reducible assumption) (by repeat (first | (with_reducible assumption) | (with_reducible refine List.mem_cons_of_mem _ ?_) | (with_reducible refine List.mem_append_right _ ?_))) (by assumption) (by decide) ?_)
  | (refine nm_glob (by assumption) (by assumption) (by assumption) (by with_reducible assumption) (by with_reducible assumption) (by k_is) (by rfl) (by decide) ?_)
  | (refine nm_built (by assumption) (by assumption) (by assumption) (by with_reducible assumption) (by with_reducible assumption) (by k_is) (by boot_by_name) (by decide) (by rfl) (by rfl) (by decide) ?_))))

theorem rall_snoc {R : Led} {vs : List Value} {ds : List PyData} {v : Value} {d : PyData} (h : RAll R vs ds) (h2 : RIn R v d) : RAll R (vs ++ [v]) (ds ++ [d]) := ⟨fun g hg => by
  obtain ⟨as, r, m⟩ := h.out g hg
  obtain ⟨bs, r2, m2⟩ := h2.out g hg
  suffices H : ∀ (vs : List Value) (ds : List PyData) (as : List Addr), ReadsAll g vs ds as → ∃ cs, ReadsAll g (vs ++ [v]) (ds ++ [d]) cs ∧ ∀ a ∈ cs, a ∈ as ∨ a ∈ bs by
    obtain ⟨cs, r3, m3⟩ := H vs ds as r
    exact ⟨cs, r3, fun a ha => (m3 a ha).elim (m a) (m2 a)⟩
  intro vs
  induction vs with
  | nil =>
    intro ds as r
    cases r
    exact ⟨_, .cons r2 .nil, fun a ha => by simp at ha; exact .inr ha⟩
  | cons w vs ih =>
    intro ds as r
    cases r with
    | cons r0 r1 =>
      obtain ⟨cs, r4, m4⟩ := ih _ _ r1
      refine ⟨_, .cons r0 r4, fun a ha => ?_⟩
      rcases List.mem_append.mp ha with h | h
      · exact .inl (List.mem_append_left _ h)
      · rcases m4 a h with h | h
        · exact .inl (List.mem_append_right _ h)
        · exact .inr h⟩

theorem row_comp {w : World} {mean : ExcName → Option Value} {mg mb : Str → Option Value} {p : Program} {ls : List Str} {dp un : Nat} {gd : Option (List Code)} {cn : Str} {cs : Scope} {a : Addr} {ccd : Value} {cl : List (Str × Addr)} {outer : List Env} {A₀ : Around} {base h₀ : Heap} {L : Addr} {m : Str → Option Value} {s : Shared} {Q : Flow → Shared → Prop} {E : Value → Shared → Prop}
    {D L1 cA : Addr} {oc : Obj} {sd : Int} {t : Tok} {n1 n2 : Nat} {vs : List Value} {ns : List Int} {rest : List (Addr × Obj)} {p1 p2 p3 p4 p5 p6 p7 p8 p9 px pz q0 qz : Pos}
    (B : Below A₀ base outer h₀) (F : Fr h₀ L s.heap m) (X : (hd.heap_39 w.params).In h₀)
    (N : News h₀ L s.heap ((D, listOf #[.ref L1, .int sd t] n1) :: (L1, listOf vs.toArray n2) :: rest))
    (T : Top p ls mean mg mb h₀) (hk : cs.kind = .function)
    (hc : (cA, oc) ∈ rest) (hoc : oc.data = .cell (some (.ref D))) (hcl : cl.lookup (Str.ofString "draw") = some cA)
    (hclos : closureFor rowScope (envX cn cs L a ccd cl) = pure [(Str.ofString "draw", cA)])
    (hsw : swapsWith (.ListComp (.Call (nmE "_law_thing" p1) [nmE "draw" p2] [] p3) [⟨nmE "k" px, .Call (nmE "range" p4) [.Call (nmE "_law_take" p5) [nmE "draw" p6, intE 5 p7] [] p8] [] p9, [], 0⟩] rowScope pz) (some (nmE "row" q0)) qz.line (envX cn cs L a ccd cl) = pure true)
    (hky : (envX cn cs L a ccd cl).kindOf (Str.ofString "row") = some .local)
    (hkd : (envX cn cs L a ccd cl).kindOf (Str.ofString "draw") = some .cell) (hkr : (envX cn cs L a ccd cl).kindOf (Str.ofString "range") = some .globalImplicit) (hkt : (envX cn cs L a ccd cl).kindOf (Str.ofString "_law_take") = some .globalImplicit)
    (hdl : @Ne Nat L1 D) (hr1 : ∀ p ∈ rest, p.1 ≠ D) (hr2 : ∀ p ∈ rest, p.1 ≠ L1)
    (hi : IntsAre vs ns) (hlen : ns.length ≤ 63) (hs0 : 0 ≤ sd) (hs1 : sd < 2147483647)
    (hdp : dp + 40 < recursionLimit) (hun : un + 800 < cLine)
    (hret : ∀ (V : Addr) (ys : List Value) (bs : List Bool) (ds : List PyData) (rest' : Led) (h' : Heap) (tk' : Nat) (sd' : Int) (t' : Tok) (n1' n2' : Nat) (vs' : List Value) (ns' : List Int),
      (∀ p ∈ rest, p ∈ rest') → Kds rest' ys bs → RAll rest' ys ds → (∀ d ∈ ds, goodD d = true) → ys.length ≤ 4 → (∀ p ∈ rest', p.1 ≠ D) → (∀ p ∈ rest', p.1 ≠ L1) → V ≠ D → V ≠ L1 → IntsAre vs' ns' → ns'.length ≤ 63 → 0 ≤ sd' → sd' < 2147483647 → Fr h₀ L h' (fun y => if y = Str.ofString "row" then some (.ref V) else m y) →
      News h₀ L h' ((V, LCg.lst ys) :: (D, listOf #[.ref L1, .int sd' t'] n1') :: (L1, listOf vs'.toArray n2') :: rest') → Q .next { s with heap := h', toks := tk' }) :
    wpAny (model PySem.Challenge.rw_ah6025_01.row.prog w) (ktrTop dp un gd cn cs L a ccd cl outer)
      (exec (.Assign [nmE "row" q0] (.ListComp (.Call (nmE "_law_thing" p1) [nmE "draw" p2] [] p3) [⟨nmE "k" px, .Call (nmE "range" p4) [.Call (nmE "_law_take" p5) [nmE "draw" p6, intE 5 p7] [] p8] [] p9, [], 0⟩] rowScope pz) qz) (envX cn cs L a ccd cl)) Q E s := by
  revert X; k_fill; intro X
  refine LCg.Assign_ListComp_U F rfl hsw hclos (by decide) (by rfl) (by decide) (by rfl) hky (by show (cs.kind == .class || (cs.kind == .module && L != mainGlobals)) = false; rw [hk]; rfl) ?_
  k_steps
  refine take_ok B (by k_asm) (by k_asm) (by k_asm) T hk hdl hr1 hr2 hi hlen hs0 hs1 (by decide) (by decide) (by omega) (by omega) ?_
  intro k tr h1 tk1 sd1 t1 n3 n4 vs1 ns1 hk0 hk1 hi1 hlen1 hs2 hs3 F1 N1
  dsimp only
  repeat' ((fail_if_success (with_reducible show LCg.CompSrc _ _ _ _ _ _ _ _ _ _ _ _ _ _)); first | (k_unfold; (try dsimp only)) | walk1 | (dsimp only; walk1))
  (rename IsRange _ _ _ _ _ _ _ _ => hR9)
  obtain ⟨kn, rfl⟩ : ∃ kn : Nat, k = (kn : Int) := ⟨k.toNat, by omega⟩
  refine LCg.CompSrc.range (n := kn) (by rfl) (by k_asm) (by k_asm) hR9 (by exact small_one (by omega) (by omega) (by omega) (by omega)) (rangeSize_nat _ _) (by rw [sizeLine_eq]; omega) ?_
  intro g
  refine rest_inv (n := kn) (fun i ys news => ys.length = i ∧ ∃ (own : Led) (bs : List Bool) (ds : List PyData) (sd' : Int) (t' : Tok) (n1' n2' : Nat) (vs' : List Value) (ns' : List Int), news = (D, listOf #[.ref L1, .int sd' t'] n1') :: (L1, listOf vs'.toArray n2') :: (own ++ rest) ∧ Kds own ys bs ∧ RAll own ys ds ∧ (∀ d ∈ ds, goodD d = true) ∧ (∀ p ∈ own, p.1 ≠ D) ∧ (∀ p ∈ own, p.1 ≠ L1) ∧ IntsAre vs' ns' ∧ ns'.length ≤ 63 ∧ 0 ≤ sd' ∧ sd' < 2147483647) ?_ ?_ _ 0 [] _ (by omega) ⟨rfl, [], [], [], sd1, t1, n3, n4, vs1, ns1, rfl, .nil, .nil, by simp, by simp, by simp, hi1, hlen1, hs2, hs3⟩
  · rintro i ys news v I oI C oC Dd m₂ h tk E' hlt ⟨hy, own, bs, ds, sd2, t2, n5, n6, vs2, ns2, rfl, hk2, hr2', hg2, ho1, ho2, hi2, hl2, hs4, hs5⟩ hv hC hx' F' N' off ne
    simp only [LCg.Off3] at off
    obtain ⟨⟨oa, ob, oc1⟩, ⟨od, oe, of1⟩, off⟩ := off
    have hoff := LCg.Off3.mem off
    have hkc : (compEnvC rowScope [(Str.ofString "draw", cA)] C (envX cn cs L a ccd cl)).kindOf (Str.ofString "draw") = some .cell := by
      have e : ((envX cn cs L a ccd cl).scope.kind == ScopeKind.function) = true := by
        show (cs.kind == _) = true
        rw [hk]; rfl
      show List.lookup _ (rowScope.names.map fun (n, k) => if (k == NameKind.free && (envX cn cs L a ccd cl).scope.kind == .function && (envX cn cs L a ccd cl).kindOf n == some .cell) then (n, NameKind.cell) else (n, k)) = _
      simp only [List.map_cons, List.map_nil, e, hkd]
      rfl
    repeat' ((fail_if_success (with_reducible show _ ∧ _)); first | (k_unfold; (try dsimp only)) | walk1 | (dsimp only; walk1))
    refine ⟨X.keeps F'.keep, ?_⟩
    refine thing_ok (rest := (I, oI) :: (C, oC) :: (Dd, LCg.lst ys) :: (own ++ rest)) B F' X (Mv.news (.tail (.tail (.tail .here))) N') T hk hdl ?_ ?_ hi2 hl2 hs4 hs5 (by omega) (by omega) ?_
    · refine List.forall_mem_cons.mpr ⟨Ne.symm oa, List.forall_mem_cons.mpr ⟨Ne.symm ob, List.forall_mem_cons.mpr ⟨Ne.symm oc1, List.forall_mem_append.mpr ⟨ho1, hr1⟩⟩⟩⟩
    · refine List.forall_mem_cons.mpr ⟨Ne.symm od, List.forall_mem_cons.mpr ⟨Ne.symm oe, List.forall_mem_cons.mpr ⟨Ne.symm of1, List.forall_mem_append.mpr ⟨ho2, hr2⟩⟩⟩⟩
    intro v b d own' h' tk' sd3 t3 n7 n8 vs3 ns3 th hw1 hw2 hw3 hi3 hl3 hs6 hs7 F3 N3
    refine LCg.CompEnd.intro F3 N3 ((D, listOf #[.ref L1, .int sd3 t3] n7) :: (L1, listOf vs3.toArray n8) :: ((own' ++ own) ++ rest)) ?_ ?_ trivial ⟨by rw [List.length_append, hy]; rfl, own' ++ own, bs ++ [b], ds ++ [d], sd3, t3, n7, n8, vs3, ns3, rfl, ?_, ?_, ?_, ?_, ?_, hi3, hl3, hs6, hs7⟩
    · intro p hp
      simp only [List.mem_cons, List.mem_append] at hp ⊢
      rcases hp with h | h | h | h | h | (h | h) | h <;> simp [h]
    · refine ⟨⟨oa, ob, oc1⟩, ⟨od, oe, of1⟩, LCg.Off3.of fun p hp => ?_⟩
      simp only [List.mem_append] at hp
      rcases hp with (hp | hp) | hp
      · have hA := hw3 p hp
        exact ⟨Ne.symm (Nat.ne_of_lt hA.1), Ne.symm (Nat.ne_of_lt hA.2.1), Ne.symm (Nat.ne_of_lt hA.2.2.1)⟩
      · exact hoff p (List.mem_append_left _ hp)
      · exact hoff p (List.mem_append_right _ hp)
    · exact (hk2.mono fun p hp => List.mem_append_right _ hp).snoc (th.kind.mono fun p hp => List.mem_append_left _ hp)
    · exact rall_snoc (hr2'.mono fun p hp => List.mem_append_right _ hp) (th.reads.mono fun p hp => List.mem_append_left _ hp)
    · intro d' hd'
      rcases List.mem_append.mp hd' with h9 | h9
      · exact hg2 _ h9
      · rw [List.mem_singleton.mp h9]; exact th.good
    · exact List.forall_mem_append.mpr ⟨hw1, ho1⟩
    · exact List.forall_mem_append.mpr ⟨hw2, ho2⟩
  · rintro ys news ⟨hy, own, bs, ds, sd2, t2, n5, n6, vs2, ns2, rfl, hk2, hr2', hg2, ho1, ho2, hi2, hl2, hs4, hs5⟩
    intro V h tk F' N' o1
    refine hret V ys bs ds (own ++ rest) h tk sd2 t2 n5 n6 vs2 ns2 (fun p hp => List.mem_append_right _ hp) (hk2.mono fun p hp => List.mem_append_left _ hp) (hr2'.mono fun p hp => List.mem_append_left _ hp) hg2 (by omega) ?_ ?_ (Ne.symm o1.1) (Ne.symm o1.2.1) hi2 hl2 hs4 hs5 F' N'
    · exact List.forall_mem_append.mpr ⟨ho1, hr1⟩
    · exact List.forall_mem_append.mpr ⟨ho2, hr2⟩
end Mine
end

section
open PySem PySem.W PyProof.Rows
namespace Mine
local macro_rules | `(tactic| walk_at "zz0") => `(tactic| skip)
local macro_rules | `(tactic| walk_at "zz1") => `(tactic| skip)
local macro_rules | `(tactic| walk_at "zz2") => `(tactic| skip)
local macro_rules | `(tactic| walk_at "zz3") => `(tactic| skip)
local macro_rules | `(tactic| walk_at "zz4") => `(tactic| skip)
local macro_rules | `(tactic| walk_at "zz5") => `(tactic| skip)
local macro_rules | `(tactic| walk_at "zz6") => `(tactic| skip)
local macro_rules | `(tactic| walk_at "zz7") => `(tactic| skip)
local macro_rules | `(tactic| walk_at "zz8") => `(tactic| skip)
theorem rstT27 {M : Model} {A : Around} {E : Value → Shared → Prop} {s : Shared} {env : Env} {Q : Flow → Shared → Prop} (h : Q .next s) : wpAny M A (execs [] env) Q E s := by
  w_top off
  walk1
  exact h
end Mine
end

section
open PySem PySem.W PySem.Calls PyProof.Rows
namespace Mine
set_option maxRecDepth 100000
set_option maxHeartbeats 4000000

abbrev textScope : Scope := { kind := .function, names := [(Str.ofString ".0", .local), (Str.ofString "k", .local), (Str.ofString "_law_take", .globalImplicit), (Str.ofString "draw", .free)], isGenerator := false, isCoroutine := false }

theorem seven {k : Int} (h0 : 0 ≤ k) (h1 : k < 7) : k = 0 ∨ k = 1 ∨ k = 2 ∨ k = 3 ∨ k = 4 ∨ k = 5 ∨ k = 6 := by omega
def bits : List Str := [Str.ofString "aZ5-", Str.ofString "ü", Str.ofString "/?", Str.ofString "%2", Str.ofString " ", Str.ofString "😀", Str.ofString "~_."]

local macro_rules | `(tactic| walk_at "eval Name") => `(tactic| (k_here; (with_reducible show wpAny _ _ (eval _ (compEnvC _ _ _ _)) _ _ _); k_dflt (first
    | (refine LCgL.ld_global (by assumption) (by assumption) (by assumption) (by k_is) ?_ (by rfl) (by rfl) (by rfl) (by decide))
    | (refine lcf_cell (by assumption) (by rfl) (by repeat (first | (with_reducible assumption) | (with_reducible refine List.mem_cons_of_mem _ ?_) | (with_reducible refine List.mem_append_right _ ?_))) (by assumption) ?_ (by rfl) (by with_reducible assumption) (by decide))
    | (refine LCgL.ld_built (by assumption) (by assumption) (by assumption) (by k_is) (by boot_by_name) (by decide) ?_ (by rfl) (by rfl) (by rfl) (by rfl) (by decide)))))
local macro_rules | `(tactic| walk_at "eval Name") => `(tactic| (k_here; (with_reducible show wpAny _ _ (eval _ (envX _ _ _ _ _ _)) _ _ _); k_dflt (first
  | (refine nm_cell (by assumption) (by with_reducible assumption) (by with_reducible assumption) (by with_reducible assumption) (by repeat (first | (with_reducible assumption) | (with_reducible refine List.mem_cons_of_mem _ ?_) | (with_reducible refine List.mem_append_right _ ?_))) (by assumption) (by decide) ?_)
  | (refine nm_glob (by assumption) (by assumption) (by assumption) (by with_reducible assumption) (by with_reducible assumption) (by k_is) (by rfl) (by decide) ?_)
  | (refine nm_built (by assumption) (by assumption) (by assumption) (by with_reducible assumption) (by with_reducible assumption) (by k_is) (by boot_by_name) (by decide) (by rfl) (by rfl) (by decide) ?_))))

theorem text_comp {w : World} {mean : ExcName → Option Value} {mg mb : Str → Option Value} {p : Program} {ls : List Str} {dp un : Nat} {gd : Option (List Code)} {cn : Str} {cs : Scope} {a : Addr} {ccd : Value} {cl : List (Str × Addr)} {outer : List Env} {A₀ : Around} {base h₀ : Heap} {L : Addr} {m : Str → Option Value} {s : Shared} {Q E : Value → Shared → Prop}
    {D L1 cA : Addr} {oc : Obj} {sd : Int} {t : Tok} {n1 n2 : Nat} {vs : List Value} {ns : List Int} {rest : List (Addr × Obj)} {p1 p2 p3 p4 p5 p6 p7 p8 p9 px q1 q2 q3 q4 q5 q6 q7 q8 q9 pz py : Pos}
    (B : Below A₀ base outer h₀) (F : Fr h₀ L s.heap m) (X : (hd.heap_39 w.params).In h₀)
    (N : News h₀ L s.heap ((D, listOf #[.ref L1, .int sd t] n1) :: (L1, listOf vs.toArray n2) :: rest))
    (T : Top p ls mean mg mb h₀) (hk : cs.kind = .function)
    (hc : (cA, oc) ∈ rest) (hoc : oc.data = .cell (some (.ref D))) (hcl : cl.lookup (Str.ofString "draw") = some cA)
    (hclos : closureFor textScope (envX cn cs L a ccd cl) = pure [(Str.ofString "draw", cA)])
    (hkd : (envX cn cs L a ccd cl).kindOf (Str.ofString "draw") = some .cell) (hkr : (envX cn cs L a ccd cl).kindOf (Str.ofString "range") = some .globalImplicit) (hkt : (envX cn cs L a ccd cl).kindOf (Str.ofString "_law_take") = some .globalImplicit)
    (hdl : @Ne Nat L1 D) (hr1 : ∀ p ∈ rest, p.1 ≠ D) (hr2 : ∀ p ∈ rest, p.1 ≠ L1)
    (hi : IntsAre vs ns) (hlen : ns.length ≤ 63) (hs0 : 0 ≤ sd) (hs1 : sd < 2147483647)
    (hdp : dp + 40 < recursionLimit) (hun : un + 800 < cLine)
    (hret : ∀ (V : Addr) (ys : List Value) (xs : List Str) (h' : Heap) (tk' : Nat) (sd' : Int) (t' : Tok) (n1' n2' : Nat) (vs' : List Value) (ns' : List Int),
      StrsAre ys xs → (∀ x ∈ xs, x ∈ bits) → xs.length ≤ 4 → V ≠ D → V ≠ L1 → IntsAre vs' ns' → ns'.length ≤ 63 → 0 ≤ sd' → sd' < 2147483647 → Fr h₀ L h' m →
      News h₀ L h' ((V, LCg.lst ys) :: (D, listOf #[.ref L1, .int sd' t'] n1') :: (L1, listOf vs'.toArray n2') :: rest) → Q (.ref V) { s with heap := h', toks := tk' }) :
    wpAny (model PySem.Challenge.rw_ah6025_01.row.prog w) (ktrTop dp un gd cn cs L a ccd cl outer)
      (eval (.ListComp (.Subscript (.List [strE "aZ5-" q1, strE "ü" q2, strE "/?" q3, strE "%2" q4, strE " " q5, strE "😀" q6, strE "~_." q7] q8) (.Call (nmE "_law_take" p1) [nmE "draw" p2, intE 7 q9] [] p3) py) [⟨nmE "k" px, .Call (nmE "range" p4) [.Call (nmE "_law_take" p5) [nmE "draw" p6, intE 5 p7] [] p8] [] p9, [], 0⟩] textScope pz) (envX cn cs L a ccd cl)) Q E s := by
  revert X; k_fill; intro X
  refine LCg.ListComp_U F hclos (by decide) (by rfl) (by decide) (by rfl) ?_
  k_steps
  refine take_ok B (by k_asm) (by k_asm) (by k_asm) T hk hdl hr1 hr2 hi hlen hs0 hs1 (by decide) (by decide) (by omega) (by omega) ?_
  intro k tr h1 tk1 sd1 t1 n3 n4 vs1 ns1 hk0 hk1 hi1 hlen1 hs2 hs3 F1 N1
  dsimp only
  repeat' ((fail_if_success (with_reducible show LCg.CompSrc _ _ _ _ _ _ _ _ _ _ _ _ _ _)); first | (k_unfold; (try dsimp only)) | walk1 | (dsimp only; walk1))
  (rename IsRange _ _ _ _ _ _ _ _ => hR9)
  obtain ⟨kn, rfl⟩ : ∃ kn : Nat, k = (kn : Int) := ⟨k.toNat, by omega⟩
  refine LCg.CompSrc.range (n := kn) (by rfl) (by k_asm) (by k_asm) hR9 (by exact small_one (by omega) (by omega) (by omega) (by omega)) (rangeSize_nat _ _) (by rw [sizeLine_eq]; omega) ?_
  intro g
  refine rest_inv (n := kn) (fun i ys news => ys.length = i ∧ ∃ (xs : List Str) (sd' : Int) (t' : Tok) (n1' n2' : Nat) (vs' : List Value) (ns' : List Int), news = (D, listOf #[.ref L1, .int sd' t'] n1') :: (L1, listOf vs'.toArray n2') :: rest ∧ StrsAre ys xs ∧ (∀ x ∈ xs, x ∈ bits) ∧ IntsAre vs' ns' ∧ ns'.length ≤ 63 ∧ 0 ≤ sd' ∧ sd' < 2147483647) ?_ ?_ _ 0 [] _ (by omega) ⟨rfl, [], sd1, t1, n3, n4, vs1, ns1, rfl, .nil, by simp, hi1, hlen1, hs2, hs3⟩
  · rintro i ys news v I oI C oC Dd m₂ h tk E' hlt ⟨hy, xs, sd2, t2, n5, n6, vs2, ns2, rfl, hst, hbits, hi2, hl2, hs4, hs5⟩ hv hC hx' F' N' off ne
    simp only [LCg.Off3] at off
    have off0 := off
    obtain ⟨⟨oa, ob, oc1⟩, ⟨od, oe, of1⟩, off⟩ := off
    have hkc : (compEnvC textScope [(Str.ofString "draw", cA)] C (envX cn cs L a ccd cl)).kindOf (Str.ofString "draw") = some .cell := by
      have e : ((envX cn cs L a ccd cl).scope.kind == ScopeKind.function) = true := by
        show (cs.kind == _) = true
        rw [hk]; rfl
      show List.lookup _ (textScope.names.map fun (n, k) => if (k == NameKind.free && (envX cn cs L a ccd cl).scope.kind == .function && (envX cn cs L a ccd cl).kindOf n == some .cell) then (n, NameKind.cell) else (n, k)) = _
      simp only [List.map_cons, List.map_nil, e, hkd]
      rfl
    repeat' ((fail_if_success (with_reducible show wpAny _ _ (call (Value.ref 60) _) _ _ _)); first | (k_unfold; (try dsimp only)) | walk1 | (dsimp only; walk1))
    (rename Fr _ _ _ _ => F2)
    (rename News _ _ _ _ => N2)
    (rename (_ : Nat) < _ ∧ _ < _ ∧ _ < _ ∧ _ < _ ∧ _ < _ ∧ AllLt _ _ => hA)
    refine take_ok B F2 X (Mv.news (.tail (.tail (.tail (.tail .here)))) N2) T hk hdl ?_ ?_ hi2 hl2 hs4 hs5 (by decide) (by decide) (by omega) (by omega) ?_
    · refine List.forall_mem_cons.mpr ⟨?_, List.forall_mem_cons.mpr ⟨Ne.symm oa, List.forall_mem_cons.mpr ⟨Ne.symm ob, List.forall_mem_cons.mpr ⟨Ne.symm oc1, hr1⟩⟩⟩⟩
      exact Ne.symm (Nat.ne_of_lt hA.2.2.2.1)
    · refine List.forall_mem_cons.mpr ⟨?_, List.forall_mem_cons.mpr ⟨Ne.symm od, List.forall_mem_cons.mpr ⟨Ne.symm oe, List.forall_mem_cons.mpr ⟨Ne.symm of1, hr2⟩⟩⟩⟩
      exact Ne.symm (Nat.ne_of_lt hA.2.2.2.2.1)
    intro kk tr2 h2 tk2 sd3 t3 n7 n8 vs3 ns3 hkk0 hkk1 hi3 hl3 hs6 hs7 F3 N3
    have fin : ∀ (x : Str) (tx : Tok) (tk3 : Nat), x ∈ bits → LCg.CompEnd h₀ L m { heap := h, gens := s.gens, drawn := s.drawn, toks := tk, os := s.os } I oI C oC Dd (LCg.lst ys) (fun _ => True) (fun y news' => (ys ++ [y]).length = i + 1 ∧ ∃ (xs : List Str) (sd' : Int) (t' : Tok) (n1' n2' : Nat) (vs' : List Value) (ns' : List Int), news' = (D, listOf #[.ref L1, .int sd' t'] n1') :: (L1, listOf vs'.toArray n2') :: rest ∧ StrsAre (ys ++ [y]) xs ∧ (∀ x ∈ xs, x ∈ bits) ∧ IntsAre vs' ns' ∧ ns'.length ≤ 63 ∧ 0 ≤ sd' ∧ sd' < 2147483647) (.str x tx) { heap := h2, gens := s.gens, drawn := s.drawn, toks := tk3, os := s.os } := by
      intro x tx tk3 hxb
      refine LCg.CompEnd.intro (s₁ := { heap := h, gens := s.gens, drawn := s.drawn, toks := tk, os := s.os }) F3 N3 ((D, listOf #[.ref L1, .int sd3 t3] n7) :: (L1, listOf vs3.toArray n8) :: rest) ?_ off0 trivial ⟨by rw [List.length_append, hy]; rfl, xs ++ [x], sd3, t3, n7, n8, vs3, ns3, rfl, ?_, ?_, hi3, hl3, hs6, hs7⟩
      · intro p hp
        simp only [List.mem_cons] at hp ⊢
        rcases hp with h | h | h | h | h | h <;> simp [h]
      · exact StrsAre.append' hst (.cons _ _ .nil)
      · intro x' hx'
        rcases List.mem_append.mp hx' with h9 | h9
        · exact hbits _ h9
        · rw [List.mem_singleton.mp h9]; exact hxb
    clear F2 N2
    dsimp only
    rcases seven hkk0 hkk1 with rfl | rfl | rfl | rfl | rfl | rfl | rfl
    all_goals k_steps
    all_goals exact fin _ _ _ (by decide +kernel)
  · rintro ys news ⟨hy, xs, sd2, t2, n5, n6, vs2, ns2, rfl, hst, hbits, hi2, hl2, hs4, hs5⟩
    intro V h tk F' N' o1
    exact hret V ys xs h tk sd2 t2 n5 n6 vs2 ns2 hst hbits (by rw [← hst.length]; omega) (Ne.symm o1.1) (Ne.symm o1.2.1) hi2 hl2 hs4 hs5 F' N'
end Mine
end

section
open PySem PySem.W PyProof.Rows
namespace Mine
local macro_rules | `(tactic| walk_at "zz0") => `(tactic| skip)
local macro_rules | `(tactic| walk_at "zz1") => `(tactic| skip)
local macro_rules | `(tactic| walk_at "zz2") => `(tactic| skip)
local macro_rules | `(tactic| walk_at "zz3") => `(tactic| skip)
local macro_rules | `(tactic| walk_at "zz4") => `(tactic| skip)
local macro_rules | `(tactic| walk_at "zz5") => `(tactic| skip)
local macro_rules | `(tactic| walk_at "zz6") => `(tactic| skip)
local macro_rules | `(tactic| walk_at "zz7") => `(tactic| skip)
local macro_rules | `(tactic| walk_at "zz8") => `(tactic| skip)
theorem rstT28 {M : Model} {A : Around} {E : Value → Shared → Prop} {s : Shared} {env : Env} {Q : Flow → Shared → Prop} (h : Q .next s) : wpAny M A (execs [] env) Q E s := by
  w_top off
  walk1
  exact h
end Mine
end

section
open PySem PySem.W PySem.Calls PyProof.Rows
namespace Mine
set_option maxRecDepth 100000
set_option maxHeartbeats 4000000

abbrev signScope : Scope := { kind := .function, names := [(Str.ofString ".0", .local), (Str.ofString "sign", .local), (Str.ofString "free", .free)], isGenerator := false, isCoroutine := false }
abbrev allowS : String := "%ABCDEFGHIJKLMNOPQRSTUVWXYZabcdefghijklmnopqrstuvwxyz0123456789-._~"

local macro_rules | `(tactic| walk_at "eval Name") => `(tactic| (k_here; (with_reducible show wpAny _ _ (eval _ (compEnvC _ _ _ _)) _ _ _); k_dflt (first
    | (refine LCgL.ld_own (by assumption) (by with_reducible assumption) (by with_reducible assumption) (by with_reducible assumption) ?_ (by rfl) (by rfl) (by decide))
    | (refine LCgL.ld_global (by assumption) (by assumption) (by assumption) (by k_is) ?_ (by rfl) (by rfl) (by rfl) (by decide))
    | (refine lcf_cell (by assumption) (by rfl) (by repeat (first | (with_reducible assumption) | (with_reducible refine List.mem_cons_of_mem _ ?_) | (with_reducible refine List.mem_append_right _ ?_))) (by assumption) ?_ (by rfl) (by with_reducible assumption) (by decide))
    | (refine LCgL.ld_built (by assumption) (by assumption) (by assumption) (by k_is) (by boot_by_name) (by decide) ?_ (by rfl) (by rfl) (by rfl) (by rfl) (by decide)))))
local macro_rules | `(tactic| walk_at "eval Name") => `(tactic| (k_here; (with_reducible show wpAny _ _ (eval _ (envX _ _ _ _ _ _)) _ _ _); k_dflt (first
  | (refine nm_cell (by assumption) (by with_reducible assumption) (by with_reducible assumption) (by with_reducible assumption) (by repeat (first | (with_reducible assumption) | (with_reducible refine List.mem_cons_of_mem _ ?_) | (with_reducible refine List.mem_append_right _ ?_))) (by assumption) (by decide) ?_)
  | (refine nm_glob (by assumption) (by assumption) (by assumption) (by with_reducible assumption) (by with_reducible assumption) (by k_is) (by rfl) (by decide) ?_)
  | (refine nm_built (by assumption) (by assumption) (by assumption) (by with_reducible assumption) (by with_reducible assumption) (by k_is) (by boot_by_name) (by decide) (by rfl) (by rfl) (by decide) ?_))))


theorem off1_mem {D : Addr} : ∀ {l : Led}, LCg.Off1 D l → ∀ p ∈ l, p.1 ≠ D
  | [], _, _, h => nomatch h
  | _ :: _, x, p, h => by
    rcases List.mem_cons.mp h with rfl | h
    · exact x.1
    · exact off1_mem x.2 p h
section
variable {M : Model} {A : Around} {E : Value → Shared → Prop} {s : Shared} {h₀ : Heap} {L : Addr} {m : Str → Option Value} {x : Str} {pos : Pos} {v : Value} {Q : Value → Shared → Prop} {cn : Str} {cs : Scope} {a : Addr} {ccd : Value} {cl : List (Str × Addr)}
theorem nm_loc (F : Fr h₀ L s.heap m) (hv : m x = some v) (h : Q v s) (hk : cs.kind = .function) (hl : (envX cn cs L a ccd cl).kindOf x = some .local) (hd : (x == ("__debug__" : Str)) = false := by decide) :
    wpAny M A (eval (.Name x pos) (envX cn cs L a ccd cl)) Q E s := wpAny_Name (wpAny_loadName_local hk hl F.ns hv h) hd
end
theorem free_cell {sc cs : Scope} {cn : Str} {L a C cA : Addr} {ccd : Value} {cl : List (Str × Addr)} {x : Str} (hk : cs.kind = .function) (hkd : (envX cn cs L a ccd cl).kindOf x = some .cell) (hf : sc.names.lookup x = some .free) :
    (compEnvC sc [(x, cA)] C (envX cn cs L a ccd cl)).kindOf x = some .cell := by
  have e : ((envX cn cs L a ccd cl).scope.kind == ScopeKind.function) = true := by
    show (cs.kind == _) = true
    rw [hk]; rfl
  show List.lookup _ (sc.names.map fun (n, k) => if (k == NameKind.free && (envX cn cs L a ccd cl).scope.kind == .function && (envX cn cs L a ccd cl).kindOf n == some .cell) then (n, NameKind.cell) else (n, k)) = _
  generalize sc.names = l at hf
  induction l with
  | nil => cases hf
  | cons y r ih =>
    obtain ⟨n, k⟩ := y
    rw [List.lookup_cons] at hf
    by_cases hn : x == n
    · rw [hn] at hf
      obtain rfl := Option.some.inj hf
      obtain rfl := eq_of_beq hn
      rw [List.map_cons]
      simp only [e, hkd]
      simp
    · have hn' : (x == n) = false := by simpa using hn
      rw [hn'] at hf
      rw [List.map_cons]
      have hz : ∀ (p : Str × NameKind) (r' : List (Str × NameKind)), p.1 = n → List.lookup x (p :: r') = List.lookup x r' := by
        rintro ⟨n', k'⟩ r' rfl
        rw [List.lookup_cons, hn']
      rw [hz _ _ (by dsimp only; split <;> rfl)]
      exact ih hf

theorem signs_comp {w : World} {mean : ExcName → Option Value} {mg mb : Str → Option Value} {p : Program} {ls : List Str} {dp un : Nat} {gd : Option (List Code)} {cn : Str} {cs : Scope} {a : Addr} {ccd : Value} {cl : List (Str × Addr)} {outer : List Env} {h₀ : Heap} {L : Addr} {m : Str → Option Value} {s : Shared} {Q E : Value → Shared → Prop}
    {cA : Addr} {oc : Obj} {x safe : Str} {t tf : Tok} {rest : List (Addr × Obj)} {p1 p2 p3 p4 p5 p6 p7 px pz : Pos}
    (F : Fr h₀ L s.heap m) (X : (hd.heap_39 w.params).In h₀)
    (N : News h₀ L s.heap rest)
    (T : Top p ls mean mg mb h₀) (hk : cs.kind = .function)
    (hc : (cA, oc) ∈ rest) (hoc : oc.data = .cell (some (.str safe tf))) (hcl : cl.lookup (Str.ofString "free") = some cA)
    (hclos : closureFor signScope (envX cn cs L a ccd cl) = pure [(Str.ofString "free", cA)])
    (hkd : (envX cn cs L a ccd cl).kindOf (Str.ofString "free") = some .cell) (hkq : (envX cn cs L a ccd cl).kindOf (Str.ofString "quoted") = some .local)
    (hq : m (Str.ofString "quoted") = some (.str x t)) (hsz : x.cps.size ≤ sizeLine) (hsafe : safe.length ≤ 10)
    (hall : ∀ c ∈ x.cps.toList, c ∈ (Str.ofString allowS ++ safe).cps.toList)
    (hret : ∀ (V : Addr) (h' : Heap) (tk' : Nat), (∀ p ∈ rest, p.1 ≠ V) → Fr h₀ L h' m → News h₀ L h' ((V, LCg.lst []) :: rest) → Q (.ref V) { s with heap := h', toks := tk' }) :
    wpAny (model PySem.Challenge.rw_ah6025_01.row.prog w) (ktrTop dp un gd cn cs L a ccd cl outer)
      (eval (.ListComp (nmE "sign" p1) [⟨nmE "sign" px, nmE "quoted" p2, [.Compare (nmE "sign" p3) [.NotIn] [.BinOp (strE allowS p4) .Add (nmE "free" p5) p6] p7], 0⟩] signScope pz) (envX cn cs L a ccd cl)) Q E s := by
  revert X; k_fill; intro X
  refine ListComp_ST F hclos (by decide) (by rfl) (by decide) (by rfl) ?_
  refine nm_loc F hq ?_ hk hkq
  refine ⟨_, _, _, src_str rfl _ _, F, N, hsz, fun g => ?_⟩
  refine restT_inv (n := x.cps.size) (fun i ys news => ys = [] ∧ news = rest) ?_ ?_ _ 0 [] rest (by omega) ⟨rfl, rfl⟩
  · rintro i ys news v I oI C oC Dd m₂ h tk E' hlt ⟨rfl, rfl⟩ hv hC hx' F' N' off ne
    have hkc := free_cell (sc := signScope) (C := C) (cA := cA) hk hkd rfl
    obtain ⟨c, u, hcc, rfl⟩ := hv
    have hcx : c ∈ (Str.ofString allowS ++ safe).cps.toList := hall c (by
      obtain ⟨hi, rfl⟩ := Array.getElem?_eq_some_iff.mp hcc
      simp)
    k_steps
    · exfalso
      (rename (Builtin.Str.occurrences _ _ _ _ _).isEmpty = true => hf)
      have := StrLaws.found_one (Str.ofString allowS ++ safe) c
      rw [hf] at this
      simp [hcx] at this
    · exact LCg.CompEnd.intro F' N' news (fun p hp => hp) off trivial ⟨rfl, rfl⟩
  · rintro ys news ⟨rfl, rfl⟩
    intro V h tk F' N' o1
    exact hret V h tk (off1_mem o1) F' N'
end Mine
end

section
open PySem PySem.W PyProof.Rows
namespace Mine
local macro_rules | `(tactic| walk_at "zz0") => `(tactic| skip)
local macro_rules | `(tactic| walk_at "zz1") => `(tactic| skip)
local macro_rules | `(tactic| walk_at "zz2") => `(tactic| skip)
local macro_rules | `(tactic| walk_at "zz3") => `(tactic| skip)
local macro_rules | `(tactic| walk_at "zz4") => `(tactic| skip)
local macro_rules | `(tactic| walk_at "zz5") => `(tactic| skip)
local macro_rules | `(tactic| walk_at "zz6") => `(tactic| skip)
local macro_rules | `(tactic| walk_at "zz7") => `(tactic| skip)
local macro_rules | `(tactic| walk_at "zz8") => `(tactic| skip)
theorem rstT29 {M : Model} {A : Around} {E : Value → Shared → Prop} {s : Shared} {env : Env} {Q : Flow → Shared → Prop} (h : Q .next s) : wpAny M A (execs [] env) Q E s := by
  w_top off
  walk1
  exact h
end Mine
end

section
open PySem PySem.W PySem.Calls PyProof.Rows
namespace Mine
set_option maxRecDepth 100000
set_option maxHeartbeats 4000000

abbrev cntScope : Scope := { kind := .function, names := [(Str.ofString ".0", .local), (Str.ofString "sign", .local)], isGenerator := false, isCoroutine := false }
abbrev octScope : Scope := { kind := .function, names := [(Str.ofString ".0", .local), (Str.ofString "octet", .local), (Str.ofString "chr", .globalImplicit), (Str.ofString "free", .free)], isGenerator := false, isCoroutine := false }
abbrev plainS : String := "ABCDEFGHIJKLMNOPQRSTUVWXYZabcdefghijklmnopqrstuvwxyz0123456789-._~"

local macro_rules | `(tactic| walk_at "eval Name") => `(tactic| (k_here; (with_reducible show wpAny _ _ (eval _ (compEnvC _ _ _ _)) _ _ _); k_dflt (first
    | (refine LCgL.ld_own (by assumption) (by with_reducible assumption) (by with_reducible assumption) (by with_reducible assumption) ?_ (by rfl) (by rfl) (by decide))
    | (refine LCgL.ld_global (by assumption) (by assumption) (by assumption) (by k_is) ?_ (by rfl) (by rfl) (by rfl) (by decide))
    | (refine lcf_cell (by assumption) (by rfl) (by repeat (first | (with_reducible assumption) | (with_reducible refine List.mem_cons_of_mem _ ?_) | (with_reducible refine List.mem_append_right _ ?_))) (by assumption) ?_ (by rfl) (by with_reducible assumption) (by decide))
    | (refine LCgL.ld_built (by assumption) (by assumption) (by assumption) (by k_is) (by boot_by_name) (by decide) ?_ (by rfl) (by rfl) (by rfl) (by rfl) (by decide)))))
local macro_rules | `(tactic| walk_at "eval Name") => `(tactic| (k_here; (with_reducible show wpAny _ _ (eval _ (envX _ _ _ _ _ _)) _ _ _); k_dflt (first
  | (refine nm_cell (by assumption) (by with_reducible assumption) (by with_reducible assumption) (by with_reducible assumption) (by repeat (first | (with_reducible assumption) | (with_reducible refine List.mem_cons_of_mem _ ?_) | (with_reducible refine List.mem_append_right _ ?_))) (by assumption) (by decide) ?_)
  | (refine nm_glob (by assumption) (by assumption) (by assumption) (by with_reducible assumption) (by with_reducible assumption) (by k_is) (by rfl) (by decide) ?_)
  | (refine nm_built (by assumption) (by assumption) (by assumption) (by with_reducible assumption) (by with_reducible assumption) (by k_is) (by boot_by_name) (by decide) (by rfl) (by rfl) (by decide) ?_))))

theorem count_comp {w : World} {mean : ExcName → Option Value} {mg mb : Str → Option Value} {p : Program} {ls : List Str} {dp un : Nat} {gd : Option (List Code)} {cn : Str} {cs : Scope} {a : Addr} {ccd : Value} {cl : List (Str × Addr)} {outer : List Env} {h₀ : Heap} {L : Addr} {m : Str → Option Value} {s : Shared} {Q E : Value → Shared → Prop}
    {x : Str} {t : Tok} {rest : List (Addr × Obj)} {p1 p2 p3 p4 p5 p6 p7 px pz : Pos}
    (F : Fr h₀ L s.heap m) (X : (hd.heap_39 w.params).In h₀)
    (N : News h₀ L s.heap rest)
    (T : Top p ls mean mg mb h₀) (hk : cs.kind = .function)
    (hclos : closureFor cntScope (envX cn cs L a ccd cl) = pure [])
    (hkq : (envX cn cs L a ccd cl).kindOf (Str.ofString "quoted") = some .local)
    (hq : m (Str.ofString "quoted") = some (.str x t)) (hsz : x.cps.size ≤ sizeLine)
    (hret : ∀ (V : Addr) (ys : List Value) (h' : Heap) (tk' : Nat), ys.length = (x.cps.toList.filter fun c => c == 37).length → (∀ p ∈ rest, p.1 ≠ V) → Fr h₀ L h' m → News h₀ L h' ((V, LCg.lst ys) :: rest) → Q (.ref V) { s with heap := h', toks := tk' }) :
    wpAny (model PySem.Challenge.rw_ah6025_01.row.prog w) (ktrTop dp un gd cn cs L a ccd cl outer)
      (eval (.ListComp (intE 1 p1) [⟨nmE "sign" px, nmE "quoted" p2, [.Compare (nmE "sign" p3) [.Eq] [strE "%" p4] p7], 0⟩] cntScope pz) (envX cn cs L a ccd cl)) Q E s := by
  revert X; k_fill; intro X
  refine ListComp_ST F hclos (by decide) (by rfl) (by decide) (by rfl) ?_
  refine nm_loc F hq ?_ hk hkq
  refine ⟨_, _, _, src_str rfl _ _, F, N, hsz, fun g => ?_⟩
  refine restT_inv (n := x.cps.size) (fun i ys news => ys.length = ((x.cps.toList.take i).filter fun c => c == 37).length ∧ news = rest) ?_ ?_ _ 0 [] rest (by omega) ⟨rfl, rfl⟩
  · rintro i ys news v I oI C oC Dd m₂ h tk E' hlt ⟨hy, rfl⟩ hv hC hx' F' N' off ne
    obtain ⟨c, u, hcc, rfl⟩ := hv
    have hcl : x.cps.toList[i]? = some c := by simpa using hcc
    k_steps
    · (rename (_ == Str.ofString "%") = true => he)
      refine LCg.CompEnd.intro F' N' news (fun p hp => hp) off trivial ⟨?_, rfl⟩
      have h37 : c = 37 := by have h := congrArg (fun (z : Str) => z.cps.getD 0 0) (eq_of_beq he); exact h
      rw [List.take_add_one, hcl, List.filter_append, List.length_append, List.length_append, hy, h37]
      rfl
    · (rename (_ == Str.ofString "%") = false => he)
      refine LCg.CompEnd.intro F' N' news (fun p hp => hp) off trivial ⟨?_, rfl⟩
      have h37 : (c == 37) = false := by
        rw [beq_eq_false_iff_ne]
        intro h
        rw [h] at he
        exact absurd he (by decide +kernel)
      rw [List.take_add_one, hcl, List.filter_append, List.length_append, hy]
      simp [h37]
  · rintro ys news ⟨hy, rfl⟩
    intro V h tk F' N' o1
    exact hret V ys h tk (by rw [hy, List.take_of_length_le (by simp)]) (off1_mem o1) F' N'
end Mine
end

section
open PySem PySem.W PyProof.Rows
namespace Mine
local macro_rules | `(tactic| walk_at "zz0") => `(tactic| skip)
local macro_rules | `(tactic| walk_at "zz1") => `(tactic| skip)
local macro_rules | `(tactic| walk_at "zz2") => `(tactic| skip)
local macro_rules | `(tactic| walk_at "zz3") => `(tactic| skip)
local macro_rules | `(tactic| walk_at "zz4") => `(tactic| skip)
local macro_rules | `(tactic| walk_at "zz5") => `(tactic| skip)
local macro_rules | `(tactic| walk_at "zz6") => `(tactic| skip)
local macro_rules | `(tactic| walk_at "zz7") => `(tactic| skip)
local macro_rules | `(tactic| walk_at "zz8") => `(tactic| skip)
theorem rstT30 {M : Model} {A : Around} {E : Value → Shared → Prop} {s : Shared} {env : Env} {Q : Flow → Shared → Prop} (h : Q .next s) : wpAny M A (execs [] env) Q E s := by
  w_top off
  walk1
  exact h
end Mine
end

section
open PySem PySem.W PySem.Calls PyProof.Rows
namespace Mine
set_option maxRecDepth 100000
set_option maxHeartbeats 4000000

def okp (safe : Str) (c : Nat) : Bool := decide (c ≤ 127) && decide (c ∈ (Str.ofString plainS ++ safe).cps.toList)

local macro_rules | `(tactic| walk_at "eval Name") => `(tactic| (k_here; (with_reducible show wpAny _ _ (eval _ (compEnvC _ _ _ _)) _ _ _); k_dflt (first
    | (refine LCgL.ld_own (by assumption) (by with_reducible assumption) (by with_reducible assumption) (by with_reducible assumption) ?_ (by rfl) (by rfl) (by decide))
    | (refine LCgL.ld_global (by assumption) (by assumption) (by assumption) (by k_is) ?_ (by rfl) (by rfl) (by rfl) (by decide))
    | (refine lcf_cell (by assumption) (by rfl) (by repeat (first | (with_reducible assumption) | (with_reducible refine List.mem_cons_of_mem _ ?_) | (with_reducible refine List.mem_append_right _ ?_))) (by assumption) ?_ (by rfl) (by with_reducible assumption) (by decide))
    | (refine LCgL.ld_built (by assumption) (by assumption) (by assumption) (by k_is) (by boot_by_name) (by decide) ?_ (by rfl) (by rfl) (by rfl) (by rfl) (by decide)))))
local macro_rules | `(tactic| walk_at "eval Name") => `(tactic| (k_here; (with_reducible show wpAny _ _ (eval _ (envX _ _ _ _ _ _)) _ _ _); k_dflt (first
  | (refine nm_cell (by assumption) (by with_reducible assumption) (by with_reducible assumption) (by with_reducible assumption) (by repeat (first | (with_reducible assumption) | (with_reducible refine List.mem_cons_of_mem _ ?_) | (with_reducible refine List.mem_append_right _ ?_))) (by assumption) (by decide) ?_)
  | (refine nm_glob (by assumption) (by assumption) (by assumption) (by with_reducible assumption) (by with_reducible assumption) (by k_is) (by rfl) (by decide) ?_)
  | (refine nm_built (by assumption) (by assumption) (by assumption) (by with_reducible assumption) (by with_reducible assumption) (by k_is) (by boot_by_name) (by decide) (by rfl) (by rfl) (by decide) ?_))))

local macro_rules | `(tactic| walk_at "getMethod str") => `(tactic| (refine meth_encode ?_))
local macro_rules | `(tactic| walk_at "call builtin:str.encode") => `(tactic| (refine call_encode (by assumption) (by assumption) ?_))

theorem oct_comp {w : World} {mean : ExcName → Option Value} {mg mb : Str → Option Value} {p : Program} {ls : List Str} {dp un : Nat} {gd : Option (List Code)} {cn : Str} {cs : Scope} {a : Addr} {ccd : Value} {cl : List (Str × Addr)} {outer : List Env} {h₀ : Heap} {L : Addr} {m : Str → Option Value} {s : Shared} {Q E : Value → Shared → Prop}
    {cA : Addr} {oc : Obj} {b : Array UInt8} {safe : Str} {tf : Tok} {iter : Expr} {rest : List (Addr × Obj)} {p1 p2 p3 p4 p5 p6 p7 px q1 q2 q3 q4 q5 q6 q7 q8 q9 pz : Pos}
    (F : Fr h₀ L s.heap m) (X : (hd.heap_39 w.params).In h₀)
    (N : News h₀ L s.heap rest)
    (T : Top p ls mean mg mb h₀) (hk : cs.kind = .function)
    (hc : (cA, oc) ∈ rest) (hoc : oc.data = .cell (some (.str safe tf))) (hcl : cl.lookup (Str.ofString "free") = some cA)
    (hclos : closureFor octScope (envX cn cs L a ccd cl) = pure [(Str.ofString "free", cA)])
    (hkd : (envX cn cs L a ccd cl).kindOf (Str.ofString "free") = some .cell) 
    (hit : ∀ Q' : Value → Shared → Prop, (∀ t' tk', Q' (.bytes b t') { s with toks := tk' }) → wpAny (model PySem.Challenge.rw_ah6025_01.row.prog w) (ktrTop dp un gd cn cs L a ccd cl outer) (eval iter (envX cn cs L a ccd cl)) Q' E s)
    (hfs : ∀ x, foldedSetIterable iter (envX cn cs L a ccd cl) x = pure x) (hsz : b.size ≤ sizeLine) (hsafe : safe.length ≤ 10)
    (hret : ∀ (V : Addr) (ys : List Value) (h' : Heap) (tk' : Nat), ys.length = (b.toList.filter fun c => !okp safe c.toNat).length → (∀ p ∈ rest, p.1 ≠ V) → Fr h₀ L h' m → News h₀ L h' ((V, LCg.lst ys) :: rest) → Q (.ref V) { s with heap := h', toks := tk' }) :
    wpAny (model PySem.Challenge.rw_ah6025_01.row.prog w) (ktrTop dp un gd cn cs L a ccd cl outer)
      (eval (.ListComp (intE 1 p1) [⟨nmE "octet" px, iter, [.BoolOp .Or [.Compare (nmE "octet" p6) [.Gt] [intE 127 p7] q1, .Compare (.Call (nmE "chr" q2) [nmE "octet" q3] [] q4) [.NotIn] [.BinOp (strE plainS q5) .Add (nmE "free" q6) q7] q8] q9], 0⟩] octScope pz) (envX cn cs L a ccd cl)) Q E s := by
  revert X; k_fill; intro X
  refine ListComp_ST F hclos (by decide) (by rfl) (by decide) (by rfl) ?_ hfs
  refine hit _ fun t' tk1 => ?_
  refine ⟨_, _, _, src_bytes rfl _ _, F, N, hsz, fun g => ?_⟩
  refine restT_inv (n := b.size) (fun i ys news => ys.length = ((b.toList.take i).filter fun c => !okp safe c.toNat).length ∧ news = rest) ?_ ?_ _ 0 [] rest (by omega) ⟨rfl, rfl⟩
  · rintro i ys news v I oI C oC Dd m₂ h tk E' hlt ⟨hy, rfl⟩ hv hC hx' F' N' off ne
    obtain ⟨c, u, hcc, rfl⟩ := hv
    have hkc := free_cell (sc := octScope) (C := C) (cA := cA) hk hkd rfl
    have hcl' : b.toList[i]? = some c := by simpa using hcc
    have hc8 := c.toNat_lt
    have yes : okp safe c.toNat = false → (ys ++ [Value.int 1 0]).length = ((b.toList.take (i + 1)).filter fun c => !okp safe c.toNat).length := by
      intro e
      rw [List.take_add_one, hcl', List.filter_append, List.length_append, List.length_append, hy]
      simp [e]
    have no : okp safe c.toNat = true → ys.length = ((b.toList.take (i + 1)).filter fun c => !okp safe c.toNat).length := by
      intro e
      rw [List.take_add_one, hcl', List.filter_append, List.length_append, hy]
      simp [e]
    have fo := StrLaws.found_one (Str.ofString plainS ++ safe) c.toNat
    k_steps
    · refine LCg.CompEnd.intro F' N' news (fun p hp => hp) off trivial ⟨?_, rfl⟩
      have e : okp safe c.toNat = false := by
        unfold okp
        rw [decide_eq_false (by omega)]
        rfl
      have := yes e
      rw [List.length_append] at this ⊢
      exact this
    all_goals (
      refine LCg.CompEnd.intro F' N' news (fun p hp => hp) off trivial ⟨?_, rfl⟩
      first
      | ((rename (Builtin.Str.occurrences _ _ _ _ _).isEmpty = true => hf)
         have e : okp safe c.toNat = false := by
           have hf' : (Builtin.Str.occurrences (Str.ofString plainS ++ safe) ⟨#[c.toNat]⟩ 0 (Str.ofString plainS ++ safe).length 1).isEmpty = true := hf
           rw [hf'] at fo
           unfold okp
           rw [← fo]
           simp
         have := yes e
         rw [List.length_append] at this ⊢
         exact this)
      | ((rename (Builtin.Str.occurrences _ _ _ _ _).isEmpty = false => hf)
         have e : okp safe c.toNat = true := by
           have hf' : (Builtin.Str.occurrences (Str.ofString plainS ++ safe) ⟨#[c.toNat]⟩ 0 (Str.ofString plainS ++ safe).length 1).isEmpty = false := hf
           rw [hf'] at fo
           unfold okp
           rw [← fo, decide_eq_true (by omega)]
           rfl
         exact no e))
  · rintro ys news ⟨hy, rfl⟩
    intro V h tk F' N' o1
    exact hret V ys h tk (by rw [hy, List.take_of_length_le (by simp)]) (off1_mem o1) F' N'
end Mine
end

section
open PySem PySem.W PyProof.Rows
namespace Mine
local macro_rules | `(tactic| walk_at "zz0") => `(tactic| skip)
local macro_rules | `(tactic| walk_at "zz1") => `(tactic| skip)
local macro_rules | `(tactic| walk_at "zz2") => `(tactic| skip)
local macro_rules | `(tactic| walk_at "zz3") => `(tactic| skip)
local macro_rules | `(tactic| walk_at "zz4") => `(tactic| skip)
local macro_rules | `(tactic| walk_at "zz5") => `(tactic| skip)
local macro_rules | `(tactic| walk_at "zz6") => `(tactic| skip)
local macro_rules | `(tactic| walk_at "zz7") => `(tactic| skip)
local macro_rules | `(tactic| walk_at "zz8") => `(tactic| skip)
theorem rstT31 {M : Model} {A : Around} {E : Value → Shared → Prop} {s : Shared} {env : Env} {Q : Flow → Shared → Prop} (h : Q .next s) : wpAny M A (execs [] env) Q E s := by
  w_top off
  walk1
  exact h
end Mine
end

section
open PySem PySem.W PySem.Calls PyProof.Rows
namespace Mine
set_option maxRecDepth 100000
set_option maxHeartbeats 4000000

abbrev oddScope : Scope := { kind := .function, names := [(Str.ofString ".0", .local), (Str.ofString "one", .local), (Str.ofString "isinstance", .globalImplicit), (Str.ofString "tuple", .globalImplicit), (Str.ofString "len", .globalImplicit)], isGenerator := false, isCoroutine := false }

local macro_rules | `(tactic| walk_at "eval Name") => `(tactic| (k_here; (with_reducible show wpAny _ _ (eval _ (compEnvC _ _ _ _)) _ _ _); k_dflt (first
    | (refine LCgL.ld_own (by assumption) (by with_reducible assumption) (by with_reducible assumption) (by with_reducible assumption) ?_ (by rfl) (by rfl) (by decide))
    | (refine LCgL.ld_global (by assumption) (by assumption) (by assumption) (by k_is) ?_ (by rfl) (by rfl) (by rfl) (by decide))
    | (refine lcf_cell (by assumption) (by rfl) (by repeat (first | (with_reducible assumption) | (with_reducible refine List.mem_cons_of_mem _ ?_) | (with_reducible refine List.mem_append_right _ ?_))) (by assumption) ?_ (by rfl) (by with_reducible assumption) (by decide))
    | (refine LCgL.ld_built (by assumption) (by assumption) (by assumption) (by k_is) (by boot_by_name) (by decide) ?_ (by rfl) (by rfl) (by rfl) (by rfl) (by decide)))))
local macro_rules | `(tactic| walk_at "eval Name") => `(tactic| (k_here; (with_reducible show wpAny _ _ (eval _ (envX _ _ _ _ _ _)) _ _ _); k_dflt (first
  | (refine nm_cell (by assumption) (by with_reducible assumption) (by with_reducible assumption) (by with_reducible assumption) (by repeat (first | (with_reducible assumption) | (with_reducible refine List.mem_cons_of_mem _ ?_) | (with_reducible refine List.mem_append_right _ ?_))) (by assumption) (by decide) ?_)
  | (refine nm_glob (by assumption) (by assumption) (by assumption) (by with_reducible assumption) (by with_reducible assumption) (by k_is) (by rfl) (by decide) ?_)
  | (refine nm_built (by assumption) (by assumption) (by assumption) (by with_reducible assumption) (by with_reducible assumption) (by k_is) (by boot_by_name) (by decide) (by rfl) (by rfl) (by decide) ?_))))

local macro_rules | `(tactic| walk_at "call builtin:isinstance") => `(tactic| (first
  | (refine IsiPair.tuple_tuple (by assumption) (by first | rfl | assumption) ?_)
  | (refine IsiPair.list_tuple (by assumption) (by first | rfl | assumption) ?_)
  | (refine IsiPair.dict_tuple (by assumption) (by first | rfl | assumption) ?_)
  | (refine IsiPair.str_tuple ?_)
  | (refine IsiPair.int_tuple ?_)))

theorem Kds.get {R : Led} {vs : List Value} {bs : List Bool} (k : Kds R vs bs) : ∀ {i : Nat} {v : Value}, vs[i]? = some v → ∃ b, bs[i]? = some b ∧ Kd R v b := by
  induction k with
  | nil => intro i v e; simp at e
  | cons k _ ih =>
    intro i v e
    cases i with
    | zero => simp at e; subst e; exact ⟨_, rfl, k⟩
    | succ i => exact ih (by simpa using e)

theorem odd_comp {w : World} {mean : ExcName → Option Value} {mg mb : Str → Option Value} {p : Program} {ls : List Str} {dp un : Nat} {gd : Option (List Code)} {cn : Str} {cs : Scope} {a : Addr} {ccd : Value} {cl : List (Str × Addr)} {outer : List Env} {h₀ : Heap} {L : Addr} {m : Str → Option Value} {s : Shared} {Q E : Value → Shared → Prop}
    {V : Addr} {vs : List Value} {bs : List Bool} {k : Nat} {rest : List (Addr × Obj)} {p1 p2 p3 p4 p5 p6 p7 px q1 q2 q3 q4 q5 q6 pz : Pos}
    (F : Fr h₀ L s.heap m) (X : (hd.heap_39 w.params).In h₀)
    (N : News h₀ L s.heap rest)
    (T : Top p ls mean mg mb h₀) (hk : cs.kind = .function)
    (hclos : closureFor oddScope (envX cn cs L a ccd cl) = pure [])
    (hkq : (envX cn cs L a ccd cl).kindOf (Str.ofString "row") = some .local)
    (hq : m (Str.ofString "row") = some (.ref V)) (hV : (V, ({ cls := .type "list", data := .seq vs.toArray k } : Obj)) ∈ rest) (hlen : vs.length ≤ 4) (hK : Kds rest vs bs)
    (hret : ∀ (W : Addr) (ys : List Value) (h' : Heap) (tk' : Nat), ys.isEmpty = bs.all id → ys.length ≤ 4 → (∀ p ∈ rest, p.1 ≠ W) → Fr h₀ L h' m → News h₀ L h' ((W, LCg.lst ys) :: rest) → Q (.ref W) { s with heap := h', toks := tk' }) :
    wpAny (model PySem.Challenge.rw_ah6025_01.row.prog w) (ktrTop dp un gd cn cs L a ccd cl outer)
      (eval (.ListComp (nmE "one" p1) [⟨nmE "one" px, nmE "row" p2, [.BoolOp .Or [.UnaryOp .Not (.Call (nmE "isinstance" p3) [nmE "one" p4, nmE "tuple" p5] [] p6) p7, .Compare (.Call (nmE "len" q1) [nmE "one" q2] [] q3) [.NotEq] [intE 2 q4] q5] q6], 0⟩] oddScope pz) (envX cn cs L a ccd cl)) Q E s := by
  revert X; k_fill; intro X
  refine LCt.ListComp_T F hclos (by decide) (by rfl) (by decide) (by rfl) ?_
  refine nm_loc F hq ?_ hk hkq
  refine LCt.CompSrcT.ledger (by rfl) F N hV (by rw [List.size_toArray, sizeLine_eq]; omega) ?_
  intro g
  refine restT_inv (n := vs.toArray.size) (fun i ys news => news = rest ∧ ys.isEmpty = (bs.take i).all id ∧ ys.length ≤ i) ?_ ?_ _ 0 [] rest (by omega) ⟨rfl, rfl, Nat.le_refl _⟩
  · rintro i ys news v I oI C oC Dd m₂ h tk E' hlt ⟨rfl, hy, hyl⟩ hv hC hx' F' N' off ne
    obtain ⟨b, hb, kd⟩ := hK.get (show vs[i]? = some v by simpa using hv)
    have hS : LCg.SrcAt h₀ V vs.toArray news := .inr ⟨_, hV, rfl, k, rfl⟩
    have keep : ∀ (s3 : Shared), b = false → (∃ tk3, s3 = { s with heap := h, toks := tk3 }) → LCg.CompEnd h₀ L m { s with heap := h, toks := tk } I oI C oC Dd (LCg.lst ys) (LCg.SrcAt h₀ V vs.toArray) (fun y news' => news' = news ∧ (ys ++ [y]).isEmpty = (bs.take (i + 1)).all id ∧ (ys ++ [y]).length ≤ i + 1) v s3 := by
      rintro s3 rfl ⟨tk3, rfl⟩
      refine LCg.CompEnd.intro (s₁ := { s with heap := h, toks := tk }) F' N' news (fun p hp => hp) off hS ⟨rfl, ?_, by rw [List.length_append]; exact Nat.succ_le_succ hyl⟩
      rw [List.take_add_one, hb, List.all_append]
      simp
    have drop : ∀ (s3 : Shared), b = true → (∃ tk3, s3 = { s with heap := h, toks := tk3 }) → LCg.CompEnd h₀ L m { s with heap := h, toks := tk } I oI C oC Dd (LCg.lst ys) (LCg.SrcAt h₀ V vs.toArray) (fun _ news' => news' = news ∧ ys.isEmpty = (bs.take (i + 1)).all id ∧ ys.length ≤ i + 1) .none s3 := by
      rintro s3 rfl ⟨tk3, rfl⟩
      refine LCg.CompEnd.intro (s₁ := { s with heap := h, toks := tk }) F' N' news (fun p hp => hp) off hS ⟨rfl, ?_, Nat.le_succ_of_le hyl⟩
      rw [List.take_add_one, hb, List.all_append, hy]
      simp
    cases kd with
    | @tup a vs' n hr hl =>
      have ho := (N' _ (List.mem_cons_of_mem _ (List.mem_cons_of_mem _ (List.mem_cons_of_mem _ hr)))).1
      have ht : h.IsTuple a vs'.toArray := ⟨_, ho, rfl, _, rfl⟩
      repeat' ((fail_if_success (with_reducible show wpAny _ _ (call (Value.builtin "len") _) _ _ _)); first | walk1 | (dsimp only; walk1))
      refine len_tuple ht (by rw [List.size_toArray]; omega) ?_
      have hsz : vs'.toArray.size = vs'.length := List.size_toArray ..
      rw [hsz]
      by_cases h2 : vs'.length = 2
      · rw [h2]
        rw [decide_eq_true h2] at hb keep drop
        k_steps
        exact drop _ rfl ⟨_, rfl⟩
      · rw [decide_eq_false h2] at hb keep drop
        k_steps
        · exact keep _ rfl ⟨_, rfl⟩
        · exfalso
          first
          | omega
          | ((rename (_ != _) = false => hz)
             simp at hz
             omega)
    | list hr =>
      have ho := (N' _ (List.mem_cons_of_mem _ (List.mem_cons_of_mem _ (List.mem_cons_of_mem _ hr)))).1
      k_steps
      exact keep _ rfl ⟨_, rfl⟩
    | dict hr hc =>
      have ho := (N' _ (List.mem_cons_of_mem _ (List.mem_cons_of_mem _ (List.mem_cons_of_mem _ hr)))).1
      k_steps
      exact keep _ rfl ⟨_, rfl⟩
    | str =>
      k_steps
      exact keep _ rfl ⟨_, rfl⟩
    | int =>
      k_steps
      exact keep _ rfl ⟨_, rfl⟩
  · rintro ys news ⟨rfl, hy, hyl⟩
    intro W h tk F' N' o1
    refine hret W ys h tk ?_ (by rw [List.size_toArray] at hyl; omega) (off1_mem o1) F' N'
    rw [hy, List.take_of_length_le]
    rw [List.size_toArray, hK.length]
    exact Nat.le_refl _
end Mine
end

section
open PySem PySem.W PyProof.Rows
namespace Mine
local macro_rules | `(tactic| walk_at "zz0") => `(tactic| skip)
local macro_rules | `(tactic| walk_at "zz1") => `(tactic| skip)
local macro_rules | `(tactic| walk_at "zz2") => `(tactic| skip)
local macro_rules | `(tactic| walk_at "zz3") => `(tactic| skip)
local macro_rules | `(tactic| walk_at "zz4") => `(tactic| skip)
local macro_rules | `(tactic| walk_at "zz5") => `(tactic| skip)
local macro_rules | `(tactic| walk_at "zz6") => `(tactic| skip)
local macro_rules | `(tactic| walk_at "zz7") => `(tactic| skip)
local macro_rules | `(tactic| walk_at "zz8") => `(tactic| skip)
theorem rstT32 {M : Model} {A : Around} {E : Value → Shared → Prop} {s : Shared} {env : Env} {Q : Flow → Shared → Prop} (h : Q .next s) : wpAny M A (execs [] env) Q E s := by
  w_top off
  walk1
  exact h
end Mine
end

section
open PySem PySem.W PyProof.Rows
namespace Mine
set_option maxRecDepth 100000
set_option maxHeartbeats 2000000

theorem isl_other {w : World} {ls : List Str} {mean : ExcName → Option Value} {mg mb : Str → Option Value} {A : Around} {h₀ : Heap} {L : Addr} {m : Str → Option Value} {s : Shared} {Q E : Value → Shared → Prop} {news : Led}
    {N : Nat} {defs : List DefItem} {consts : List (Str × PyData)} {v : Value} {tb dc : Bool}
    (F : Fr h₀ L s.heap m) (X : (hd.heap_39 w.params).In h₀) (N0 : News h₀ L s.heap news)
    (T : Top hd.view_39 ls mean mg mb h₀) (G : Glob N mg mb defs consts [] (namesW hd.view_39 [Str.ofString "_encode"]) h₀)
    (hdp : A.depth + 20 < recursionLimit) (hun : A.units + 400 < cLine) (hh : A.handled = none) (hgen : AllBare s.gens) (hV : Vk news v false dc)
    (htr : ∀ (A' : Around) (E' : Value → Shared → Prop) (Q' : Bool → Shared → Prop) (s' : Shared), (∀ b o, s.heap.get? b = some o → s'.heap.get? b = some o) → (∀ tk, Q' tb { s' with toks := tk }) → wpAny (model PySem.Challenge.rw_ah6025_01.row.prog w) A' (truthy v) Q' E' s')
    (hret : ∀ (P tup : Addr) (ps' : Array Value) (s' : Shared), Based h₀ (regrown h₀ P ps') 20 P ps' → Fr (regrown h₀ P ps') L s'.heap m →
      News (regrown h₀ P ps') L s'.heap ((tup, pairObj (.bool false) .none) :: news) → AllBare s'.gens → s'.os = s.os → Q (.ref tup) s') :
    wpAny (model PySem.Challenge.rw_ah6025_01.row.prog w) A (call (.ref 21) [v]) Q E s := by
  revert X; k_fill; intro X
  have hm : mg (Str.ofString "is_list_of_tuples") = some (.ref 21) := mg_of X T.g (by k_is)
  have ho := X 21 _ (by k_is)
  obtain ⟨c, P, hc, B⟩ := based_of_top T rfl hm ho rfl
  obtain ⟨bm, ob, M⟩ := bmod_of_top T
  obtain rfl : c = 20 := by cases hc; rfl
  have hcd : h₀.CodeRec (.ref 20) (Str.ofString "is_list_of_tuples") := codeRec_of X (by k_is)
  refine call_inG ho rfl hcd B B F G M (by omega) rfl (locs rfl) ?_
  intro h₂ F1 G1 B1 M1
  have X1 := X.keeps F.keep
  have T1 := T.keeps F.keep
  have N1 : News s.heap s.heap.objs.size h₂ [] := News.nil
  have hR0 : Holds news s.heap := Holds.of N0
  have hRP : ∀ p ∈ news, p.1 ≠ P := fun p hp e => by
    have z := (N0 p hp).2.2
    rw [e, B.tab.2] at z
    cases z
  have end1 : ∀ (tup : Addr) (s' : Shared) (m' : Str → Option Value), Fr s.heap s.heap.objs.size s'.heap m' → News s.heap s.heap.objs.size s'.heap [(tup, pairObj (.bool false) .none)] → AllBare s'.gens → s'.os = s.os → LeaveG h₀ h₀ L m 20 P #[] s.heap Q (.ref tup) s' := fun tup s' m' F' N' hg hos =>
    isl_fin (more := #[]) B F N0 B1 (fun _ _ => rfl) ⟨_, B1.tab.2⟩ F' N' fun ps' b f n => hret P tup ps' s' b f n hg hos
  clear F N0 X T G M B ho hcd hc hret
  repeat' ((fail_if_success (with_reducible show wpAny _ _ (truthy _) _ _ _)); first | (k_unfold; (try dsimp only)) | walk1 | (dsimp only; walk1))
  refine htr _ _ _ _ F1.keep fun tk1 => ?_
  cases tb with
  | false =>
    k_steps
    (rename Fr _ _ _ _ => F2)
    (rename News _ _ _ _ => N2)
    exact end1 _ _ _ F2 N2 hgen rfl
  | true =>
  repeat' ((fail_if_success (with_reducible show wpAny _ _ (call (Value.builtin "isinstance") _) _ _ _)); first | (k_unfold; (try dsimp only)) | walk1 | (dsimp only; walk1))
  (rename Fr _ _ _ _ => F2)
  (rename News _ _ _ _ => N2)
  refine isiLT_any hV (fun p hp => F2.keep _ _ (hR0 p hp)) (N2 _ (List.mem_cons_self ..)).1 ?_
  intro tk2
  k_steps
  (rename Fr _ _ _ _ => F3)
  (rename News _ _ _ _ => N3)
  refine end1 _ _ _ F3 (fun p hp => N3 p ?_) hgen rfl
  rw [List.mem_singleton.mp hp]
  exact List.mem_cons_self ..
end Mine
end

section
open PySem PySem.W PyProof.Rows
namespace Mine
local macro_rules | `(tactic| walk_at "zz0") => `(tactic| skip)
local macro_rules | `(tactic| walk_at "zz1") => `(tactic| skip)
local macro_rules | `(tactic| walk_at "zz2") => `(tactic| skip)
local macro_rules | `(tactic| walk_at "zz3") => `(tactic| skip)
local macro_rules | `(tactic| walk_at "zz4") => `(tactic| skip)
local macro_rules | `(tactic| walk_at "zz5") => `(tactic| skip)
local macro_rules | `(tactic| walk_at "zz6") => `(tactic| skip)
local macro_rules | `(tactic| walk_at "zz7") => `(tactic| skip)
local macro_rules | `(tactic| walk_at "zz8") => `(tactic| skip)
theorem rstT33 {M : Model} {A : Around} {E : Value → Shared → Prop} {s : Shared} {env : Env} {Q : Flow → Shared → Prop} (h : Q .next s) : wpAny M A (execs [] env) Q E s := by
  w_top off
  walk1
  exact h
end Mine
end

section
open PySem PySem.W PyProof.Rows
namespace Mine
set_option maxRecDepth 100000
section
variable {prog : Program} {w : World} {A : Around} {E : Value → Shared → Prop} {s : Shared} {Q : Value → Shared → Prop}
theorem repr_in {R : Led} {a : Addr} {d : PyData} (r : RIn R (.ref a) d) (H : Holds R s.heap) (hs : d.showable = true) (hd : d.depth ≤ 10) (hl : d.shown.length ≤ sizeLine) (hsm : ∀ p ∈ R, p.1 ≠ sysModules)
    (hg : A.guards = some []) (hu : A.units + 20 < cLine)
    (hQ : ∀ h' u tk, (∀ b o, s.heap.get? b = some o → h'.get? b = some o) → Q (.str d.shown u) { s with heap := h', toks := tk }) : wpAny (model prog w) A (call (.builtin "repr") [.ref a]) Q E s := by
  obtain ⟨as, rd, m⟩ := r.out s.heap H
  exact repr_of_reads' rd hs (fun _ hm => let ⟨o, ho⟩ := m _ hm; hsm _ ho rfl) hg (by omega) (fun _ _ e => e) hQ hl
end
end Mine
end

section
open PySem PySem.W PyProof.Rows
namespace Mine
local macro_rules | `(tactic| walk_at "zz0") => `(tactic| skip)
local macro_rules | `(tactic| walk_at "zz1") => `(tactic| skip)
local macro_rules | `(tactic| walk_at "zz2") => `(tactic| skip)
local macro_rules | `(tactic| walk_at "zz3") => `(tactic| skip)
local macro_rules | `(tactic| walk_at "zz4") => `(tactic| skip)
local macro_rules | `(tactic| walk_at "zz5") => `(tactic| skip)
local macro_rules | `(tactic| walk_at "zz6") => `(tactic| skip)
local macro_rules | `(tactic| walk_at "zz7") => `(tactic| skip)
local macro_rules | `(tactic| walk_at "zz8") => `(tactic| skip)
theorem rstT34 {M : Model} {A : Around} {E : Value → Shared → Prop} {s : Shared} {env : Env} {Q : Flow → Shared → Prop} (h : Q .next s) : wpAny M A (execs [] env) Q E s := by
  w_top off
  walk1
  exact h
end Mine
end

section
open PySem PySem.W PyProof.Rows
namespace Mine
set_option maxRecDepth 100000

noncomputable def p0 : Program := { (default : Program) with main := { (default : Module) with body := [.Import [{ name := Str.ofString "sys", asname := none, pos := ⟨0, 0, 0, 0⟩ }] ⟨0, 0, 0, 0⟩] } }
theorem p0_recs : recsOf p0 = [] := rfl
theorem p0_owns : ownsOf p0 = [] := rfl
theorem p0_lits : litsOf p0 = [] := rfl
theorem p0_clss (l : List Str) : clssOf p0 l = [] := rfl
theorem p0_val (x : Str) : valOf p0 x = none := rfl
theorem p0_imp : importsNone p0 = false := by decide +kernel

noncomputable def ls0 (p : Program) (ls : List Str) : List Str := ls ++ (recsOf p).map (·.name) ++ (litsOf p).map (·.1) ++ (clssOf p ls).map (·.name)

theorem top_regrown {p : Program} {ls : List Str} {mean : ExcName → Option Value} {mg mb : Str → Option Value} {h₁ h₀ : Heap} {c P : Addr} {ps ps' : Array Value} (T : Top p ls mean mg mb h₀) (B : Based h₁ h₀ c P ps) :
    Top p0 (ls0 p ls) mean mg mb (regrown h₀ P ps') where
  g := LGe.ns_regrown B T.g
  b := LGe.ns_regrown B T.b
  nolimit := let ⟨mc, h1, h2⟩ := T.nolimit; ⟨mc, LGe.ns_regrown B h1, h2⟩
  nodigits := let ⟨mc, h1, h2⟩ := T.nodigits; ⟨mc, LGe.ns_regrown B h1, h2⟩
  fn := fun d hd => by rw [p0_recs] at hd; cases hd
  own := fun o ho => by rw [p0_owns] at ho; cases ho
  const := fun x d h => by rw [p0_val] at h; cases h
  free := fun x h1 h2 _ _ _ => by
    simp only [ls0, List.mem_append, not_or] at h2
    exact T.free x h1 h2.1.1.1 h2.1.1.2 h2.1.2 h2.2
  builtins := T.builtins
  tab := fun d hd => by rw [p0_recs] at hd; cases hd
  bmain := by
    obtain ⟨bm, ob, h1, h2, h3, h4, h5, h6⟩ := T.bmain
    have hne : bm ≠ P := B.ne_of_cls h3 (by rw [h4]; exact nofun)
    exact ⟨bm, ob, h1, h2, (Heap.get?_update_other _ _ (Ne.symm hne)).trans h3, h4, h5, h6⟩
  seer := fun h => by rw [p0_imp] at h; cases h
end Mine
end

section
open PySem PySem.W PyProof.Rows
namespace Mine
local macro_rules | `(tactic| walk_at "zz0") => `(tactic| skip)
local macro_rules | `(tactic| walk_at "zz1") => `(tactic| skip)
local macro_rules | `(tactic| walk_at "zz2") => `(tactic| skip)
local macro_rules | `(tactic| walk_at "zz3") => `(tactic| skip)
local macro_rules | `(tactic| walk_at "zz4") => `(tactic| skip)
local macro_rules | `(tactic| walk_at "zz5") => `(tactic| skip)
local macro_rules | `(tactic| walk_at "zz6") => `(tactic| skip)
local macro_rules | `(tactic| walk_at "zz7") => `(tactic| skip)
local macro_rules | `(tactic| walk_at "zz8") => `(tactic| skip)
theorem rstLawS {M : Model} {A : Around} {E : Value → Shared → Prop} {s : Shared} {env : Env} {Q : Flow → Shared → Prop} (h : Q .next s) : wpAny M A (execs [] env) Q E s := by
  w_top off
  walk1
  exact h
end Mine
end

section
open PySem PySem.W PySem.Calls PyProof.Rows
namespace Mine
set_option maxRecDepth 100000
theorem execs_cut {M : Model} {A : Around} {E : Value → Shared → Prop} {Q : Flow → Shared → Prop} {s : Shared} {st : Stmt} {rest : List Stmt} {env : Env} (R : Shared → Prop)
    (h1 : wpAny M A (exec st env) (fun f s' => f = .next ∧ R s') E s) (h2 : ∀ s', R s' → wpAny M A (execs rest env) Q E s') : wpAny M A (execs (st :: rest) env) Q E s := by
  refine wpAny_execs_cons (wpAny_mono h1 (fun f s' h => ?_) fun _ _ e => e)
  obtain ⟨rfl, r⟩ := h
  exact h2 s' r

abbrev lawScope : Scope := { kind := .function, names := [(Str.ofString "script", .local), (Str.ofString "draw", .cell), (Str.ofString "way", .local), (Str.ofString "row", .local), (Str.ofString "value", .local), (Str.ofString "before", .local), (Str.ofString "pairs", .local), (Str.ofString "told", .local), (Str.ofString "held", .local), (Str.ofString "text", .local), (Str.ofString "free", .cell), (Str.ofString "quoted", .local), (Str.ofString "_law_draw", .globalImplicit), (Str.ofString "_law_take", .globalImplicit), (Str.ofString "range", .globalImplicit), (Str.ofString "tuple", .globalImplicit), (Str.ofString "repr", .globalImplicit), (Str.ofString "is_list_of_tuples", .globalImplicit), (Str.ofString "list_test", .globalImplicit), (Str.ofString "dict_test", .globalImplicit), (Str.ofString "isinstance", .globalImplicit), (Str.ofString "dict", .globalImplicit), (Str.ofString "quote", .globalImplicit), (Str.ofString "_law_read", .globalImplicit), (Str.ofString "len", .globalImplicit)], isGenerator := false, isCoroutine := false, more := [(Str.ofString "fast", .str (Str.ofString "script")), (Str.ofString "fast", .str (Str.ofString "draw")), (Str.ofString "fast", .str (Str.ofString "way")), (Str.ofString "fast", .str (Str.ofString "k")), (Str.ofString "fast", .str (Str.ofString "row")), (Str.ofString "fast", .str (Str.ofString "value")), (Str.ofString "fast", .str (Str.ofString "before")), (Str.ofString "fast", .str (Str.ofString "one")), (Str.ofString "fast", .str (Str.ofString "pairs")), (Str.ofString "fast", .str (Str.ofString "told")), (Str.ofString "fast", .str (Str.ofString "held")), (Str.ofString "fast", .str (Str.ofString "text")), (Str.ofString "fast", .str (Str.ofString "free")), (Str.ofString "fast", .str (Str.ofString "quoted")), (Str.ofString "fast", .str (Str.ofString "sign")), (Str.ofString "fast", .str (Str.ofString "octet"))] }
abbrev lawCl (L : Addr) : List (Str × Addr) := [(Str.ofString "free", L + 1 + 1), (Str.ofString "draw", L + 1)]
abbrev lawE (L a : Addr) (cd : Value) : Env := envX (Str.ofString "law") lawScope L a cd (lawCl L)
abbrev lawA (dp un : Nat) (L a : Addr) (cd : Value) (outer : List Env) : Around := ktrTop dp un (some []) (Str.ofString "law") lawScope L a cd (lawCl L) outer

structure Same (s₁ s' : Shared) : Prop where
  gens : AllBare s'.gens
  os : s'.os = s₁.os

structure Drw (D L1 : Addr) (sd : Int) (vs : List Value) (ns : List Int) (rest : Led) : Prop where
  ne : @Ne Nat L1 D
  i : IntsAre vs ns
  len : ns.length ≤ 63
  s0 : 0 ≤ sd
  s1 : sd < 2147483647
  off : ∀ p ∈ rest, p.1 ≠ D
  off1 : ∀ p ∈ rest, p.1 ≠ L1

/-- behind `draw = ..` -/
inductive S0 (s₁ : Shared) (h₀ : Heap) (L : Addr) (s' : Shared) : Prop
  | mk {m0 : Str → Option Value} {D L1 : Addr} {sd : Int} {t : Tok} {n1 n2 : Nat} {vs : List Value} {ns : List Int} {oF oD : Obj} {c0 : Option Value} (z : Same s₁ s')
    (d : Drw D L1 sd vs ns [(L + 1 + 1, oF), (L + 1, oD)]) (hF : oF.data = .cell c0) (hD : oD.data = .cell (some (.ref D)))
    (F : Fr h₀ L s'.heap m0) (N : News h₀ L s'.heap ((D, listOf #[.ref L1, .int sd t] n1) :: (L1, listOf vs.toArray n2) :: [(L + 1 + 1, oF), (L + 1, oD)]))

/-- behind `way = ..` -/
inductive S1 (s₁ : Shared) (h₀ : Heap) (L : Addr) (s' : Shared) : Prop
  | mk {m0 : Str → Option Value} {D L1 : Addr} {sd way : Int} {t tw : Tok} {n1 n2 : Nat} {vs : List Value} {ns : List Int} {oF oD : Obj} {c0 : Option Value} (z : Same s₁ s')
    (d : Drw D L1 sd vs ns [(L + 1 + 1, oF), (L + 1, oD)]) (hF : oF.data = .cell c0) (hD : oD.data = .cell (some (.ref D))) (w0 : 0 ≤ way) (w1 : way < 3)
    (F : Fr h₀ L s'.heap fun y => if y = Str.ofString "way" then some (.int way tw) else m0 y) (N : News h₀ L s'.heap ((D, listOf #[.ref L1, .int sd t] n1) :: (L1, listOf vs.toArray n2) :: [(L + 1 + 1, oF), (L + 1, oD)]))

/-- behind `row = ..` -/
inductive S2 (s₁ : Shared) (h₀ : Heap) (L : Addr) (s' : Shared) : Prop
  | mk {m0 : Str → Option Value} {D L1 V : Addr} {sd way : Int} {t tw : Tok} {n1 n2 : Nat} {vs ys : List Value} {ns : List Int} {bs : List Bool} {ds : List PyData} {oF oD : Obj} {c0 : Option Value} {rest : Led} (z : Same s₁ s')
    (cF : (L + 1 + 1, oF) ∈ rest) (cD : (L + 1, oD) ∈ rest)
    (d : Drw D L1 sd vs ns rest) (hF : oF.data = .cell c0) (hD : oD.data = .cell (some (.ref D))) (w0 : 0 ≤ way) (w1 : way < 3)
    (K : Kds rest ys bs) (R : RAll rest ys ds) (g : ∀ d ∈ ds, goodD d = true) (len : ys.length ≤ 4) (V0 : V ≠ D) (V1 : V ≠ L1)
    (F : Fr h₀ L s'.heap fun y => if y = Str.ofString "row" then some (.ref V) else if y = Str.ofString "way" then some (.int way tw) else m0 y) (N : News h₀ L s'.heap ((V, LCg.lst ys) :: (D, listOf #[.ref L1, .int sd t] n1) :: (L1, listOf vs.toArray n2) :: rest))

/-- repr of a value, told by the ledger -/
def Rp (R : Led) (v : Value) (x : Str) : Prop := ∀ (prog : Program) (w : World) (A : Around) (E : Value → Shared → Prop) (Q : Value → Shared → Prop) (s : Shared), Holds R s.heap → A.guards = some [] → A.units + 20 < cLine →
  (∀ h' u tk, (∀ b o, s.heap.get? b = some o → h'.get? b = some o) → Q (.str x u) { s with heap := h', toks := tk }) → wpAny (model prog w) A (call (.builtin "repr") [v]) Q E s
/-- a value's truth, told by the ledger -/
def Tr (R : Led) (v : Value) (tb : Bool) : Prop := ∀ (prog : Program) (w : World) (A : Around) (E : Value → Shared → Prop) (Q : Bool → Shared → Prop) (s : Shared), Holds R s.heap → (∀ tk, Q tb { s with toks := tk }) → wpAny (model prog w) A (truthy v) Q E s
theorem Rp.mono {R R' : Led} {v : Value} {x : Str} (h : Rp R v x) (hs : ∀ p ∈ R, p ∈ R') : Rp R' v x := fun prog w A E Q s H => h prog w A E Q s fun p hp => H p (hs p hp)
theorem Tr.mono {R R' : Led} {v : Value} {x : Bool} (h : Tr R v x) (hs : ∀ p ∈ R, p ∈ R') : Tr R' v x := fun prog w A E Q s H => h prog w A E Q s fun p hp => H p (hs p hp)

/-- what `value` is -/
inductive Vl (R : Led) (V : Addr) (ys : List Value) : Int → Value → Prop
  | row : Vl R V ys 0 (.ref V)
  | tup {T : Addr} {n : Nat} (h : (T, ({ cls := .type "tuple", data := .seq ys.toArray n } : Obj)) ∈ R) : Vl R V ys 1 (.ref T)
  | oth {v : Value} {dc tb : Bool} (k : Vk R v false dc) (t : Tr R v tb) : Vl R V ys 2 v

/-- behind `value = ..` -/
inductive S3 (s₁ : Shared) (h₀ : Heap) (L : Addr) (s' : Shared) : Prop
  | mk {m0 : Str → Option Value} {D L1 V : Addr} {v : Value} {x : Str} {sd way : Int} {t tw : Tok} {n1 n2 : Nat} {vs ys : List Value} {ns : List Int} {bs : List Bool} {oF oD : Obj} {c0 : Option Value} {rest : Led} (z : Same s₁ s')
    (cF : (L + 1 + 1, oF) ∈ rest) (cD : (L + 1, oD) ∈ rest)
    (d : Drw D L1 sd vs ns rest) (hF : oF.data = .cell c0) (hD : oD.data = .cell (some (.ref D))) (w0 : 0 ≤ way) (w1 : way < 3)
    (K : Kds rest ys bs) (len : ys.length ≤ 4) (hV : (V, LCg.lst ys) ∈ rest) (hv : Vl rest V ys way v) (hx : Rp rest v x)
    (F : Fr h₀ L s'.heap fun y => if y = Str.ofString "value" then some v else if y = Str.ofString "row" then some (.ref V) else if y = Str.ofString "way" then some (.int way tw) else m0 y)
    (N : News h₀ L s'.heap ((D, listOf #[.ref L1, .int sd t] n1) :: (L1, listOf vs.toArray n2) :: rest))
end Mine
end

section
open PySem PySem.W PyProof.Rows
namespace Mine
local macro_rules | `(tactic| walk_at "zz0") => `(tactic| skip)
local macro_rules | `(tactic| walk_at "zz1") => `(tactic| skip)
local macro_rules | `(tactic| walk_at "zz2") => `(tactic| skip)
local macro_rules | `(tactic| walk_at "zz3") => `(tactic| skip)
local macro_rules | `(tactic| walk_at "zz4") => `(tactic| skip)
local macro_rules | `(tactic| walk_at "zz5") => `(tactic| skip)
local macro_rules | `(tactic| walk_at "zz6") => `(tactic| skip)
local macro_rules | `(tactic| walk_at "zz7") => `(tactic| skip)
local macro_rules | `(tactic| walk_at "zz8") => `(tactic| skip)
theorem rstT42 {M : Model} {A : Around} {E : Value → Shared → Prop} {s : Shared} {env : Env} {Q : Flow → Shared → Prop} (h : Q .next s) : wpAny M A (execs [] env) Q E s := by
  w_top off
  walk1
  exact h
end Mine
end

section
open PySem PySem.W PySem.Calls PyProof.Rows
namespace Mine
set_option maxRecDepth 100000
set_option maxHeartbeats 8000000

section
variable {w : World} {mean : ExcName → Option Value} {mg mb : Str → Option Value} {p : Program} {ls : List Str} {dp un : Nat} {a : Addr} {cd : Value} {outer : List Env} {A₀ : Around} {base h₀ : Heap} {L : Addr} {s₁ s : Shared} {E : Value → Shared → Prop}
theorem law_way {q1 q2 q3 q4 q5 q6 : Pos}
    (B : Below A₀ base outer h₀) (X : (hd.heap_39 w.params).In h₀) (T : Top p ls mean mg mb h₀) (hdp : dp + 100 < recursionLimit) (hun : un + 2000 < cLine) (S : S0 s₁ h₀ L s) :
    wpAny (model PySem.Challenge.rw_ah6025_01.row.prog w) (lawA dp un L a cd outer)
      (exec (.Assign [nmE "way" q1] (.Call (nmE "_law_take" q2) [nmE "draw" q3, intE 3 q4] [] q5) q6) (lawE L a cd)) (fun f s' => f = .next ∧ S1 s₁ h₀ L s') E s := by
  revert X; k_fill; intro X
  obtain ⟨z, d, hF, hD, F, N⟩ := S
  repeat' ((fail_if_success (with_reducible show wpAny _ _ (call _ _) _ _ _)); first | (k_unfold; (try dsimp only)) | walk1 | (dsimp only; walk1))
  refine take_ok B F X N T rfl d.ne d.off d.off1 d.i d.len d.s0 d.s1 (by decide) (by decide) (by omega) (by omega) ?_
  intro k tr h1 tk1 sd1 t1 n3 n4 vs1 ns1 hk0 hk1 hi1 hlen1 hs2 hs3 F1 N1
  clear F N
  k_steps
  · exact trivial
  (rename Fr _ _ _ _ => F2)
  (rename News _ _ _ _ => N2)
  exact S1.mk ⟨z.1, z.2⟩ ⟨d.ne, hi1, hlen1, hs2, hs3, d.off, d.off1⟩ hF hD hk0 hk1 F2 N2
end
end Mine
end

section
open PySem PySem.W PyProof.Rows
namespace Mine
local macro_rules | `(tactic| walk_at "zz0") => `(tactic| skip)
local macro_rules | `(tactic| walk_at "zz1") => `(tactic| skip)
local macro_rules | `(tactic| walk_at "zz2") => `(tactic| skip)
local macro_rules | `(tactic| walk_at "zz3") => `(tactic| skip)
local macro_rules | `(tactic| walk_at "zz4") => `(tactic| skip)
local macro_rules | `(tactic| walk_at "zz5") => `(tactic| skip)
local macro_rules | `(tactic| walk_at "zz6") => `(tactic| skip)
local macro_rules | `(tactic| walk_at "zz7") => `(tactic| skip)
local macro_rules | `(tactic| walk_at "zz8") => `(tactic| skip)
theorem rstT43 {M : Model} {A : Around} {E : Value → Shared → Prop} {s : Shared} {env : Env} {Q : Flow → Shared → Prop} (h : Q .next s) : wpAny M A (execs [] env) Q E s := by
  w_top off
  walk1
  exact h
end Mine
end

section
open PySem PySem.W PySem.Calls PyProof.Rows
namespace Mine
set_option maxRecDepth 100000
set_option maxHeartbeats 8000000

section
variable {w : World} {mean : ExcName → Option Value} {mg mb : Str → Option Value} {p : Program} {ls : List Str} {dp un : Nat} {a : Addr} {cd : Value} {outer : List Env} {A₀ : Around} {base h₀ : Heap} {L : Addr} {s₁ s : Shared} {E : Value → Shared → Prop}
theorem law_row {q0 qz p1 p2 p3 p4 p5 p6 p7 p8 p9 px pz : Pos}
    (B : Below A₀ base outer h₀) (X : (hd.heap_39 w.params).In h₀) (T : Top p ls mean mg mb h₀) (hdp : dp + 100 < recursionLimit) (hun : un + 2000 < cLine)
    (hsw : swapsWith (.ListComp (.Call (nmE "_law_thing" p1) [nmE "draw" p2] [] p3) [⟨nmE "k" px, .Call (nmE "range" p4) [.Call (nmE "_law_take" p5) [nmE "draw" p6, intE 5 p7] [] p8] [] p9, [], 0⟩] rowScope pz) (some (nmE "row" q0)) qz.line (lawE L a cd) = pure true) (S : S1 s₁ h₀ L s) :
    wpAny (model PySem.Challenge.rw_ah6025_01.row.prog w) (lawA dp un L a cd outer)
      (exec (.Assign [nmE "row" q0] (.ListComp (.Call (nmE "_law_thing" p1) [nmE "draw" p2] [] p3) [⟨nmE "k" px, .Call (nmE "range" p4) [.Call (nmE "_law_take" p5) [nmE "draw" p6, intE 5 p7] [] p8] [] p9, [], 0⟩] rowScope pz) qz) (lawE L a cd)) (fun f s' => f = .next ∧ S2 s₁ h₀ L s') E s := by
  obtain ⟨z, d, hF, hD, w0, w1, F, N⟩ := S
  refine' row_comp (cA := L + 1) B F X N T ?hk (List.mem_cons_of_mem _ (List.mem_cons_self ..)) hD ?h1 ?h2 hsw ?h6 ?h3 ?h4 ?h5 d.ne d.off d.off1 d.i d.len d.s0 d.s1 ?e1 ?e2 ?_
  (case e1 => omega); (case e2 => omega); (case hk => rfl); (case h1 => rfl); (case h2 => rfl); (case h3 => rfl); (case h4 => rfl); (case h5 => rfl); (case h6 => rfl)
  intro V ys bs ds rest' h1 tk1 sd1 t1 n3 n4 vs1 ns1 hsub hK hR hg hl ho ho1 hv0 hv1 hi1 hlen1 hs2 hs3 F1 N1
  exact ⟨rfl, S2.mk ⟨z.1, z.2⟩ (hsub _ (List.mem_cons_self ..)) (hsub _ (List.mem_cons_of_mem _ (List.mem_cons_self ..))) ⟨d.ne, hi1, hlen1, hs2, hs3, ho, ho1⟩ hF hD w0 w1 hK hR hg hl hv0 hv1 F1 N1⟩
end
end Mine
end

section
open PySem PySem.W PyProof.Rows
namespace Mine
local macro_rules | `(tactic| walk_at "zz0") => `(tactic| skip)
local macro_rules | `(tactic| walk_at "zz1") => `(tactic| skip)
local macro_rules | `(tactic| walk_at "zz2") => `(tactic| skip)
local macro_rules | `(tactic| walk_at "zz3") => `(tactic| skip)
local macro_rules | `(tactic| walk_at "zz4") => `(tactic| skip)
local macro_rules | `(tactic| walk_at "zz5") => `(tactic| skip)
local macro_rules | `(tactic| walk_at "zz6") => `(tactic| skip)
local macro_rules | `(tactic| walk_at "zz7") => `(tactic| skip)
local macro_rules | `(tactic| walk_at "zz8") => `(tactic| skip)
theorem rstT44 {M : Model} {A : Around} {E : Value → Shared → Prop} {s : Shared} {env : Env} {Q : Flow → Shared → Prop} (h : Q .next s) : wpAny M A (execs [] env) Q E s := by
  w_top off
  walk1
  exact h
end Mine
end

section
open PySem PySem.W PySem.Calls PyProof.Rows
namespace Mine
set_option maxRecDepth 100000
set_option maxHeartbeats 8000000

def mixIs : Int ⊕ Str → Value → Bool
  | .inl i, v => Value.isInt i v
  | .inr x, v => Value.isStrOf x v
def mixHash (w : World) : Int ⊕ Str → Int
  | .inl i => hashInt i
  | .inr x => hashStr w x
/-- keys that are ints or texts -/
def mixKind (prog : Program) (w : World) : KeyKind prog w (Int ⊕ Str) where
  is := mixIs
  hash := mixHash w
  inj := fun v a b ha hb => by
    cases a with
    | inl i =>
      obtain ⟨t, rfl⟩ := Value.isInt_shape ha
      cases b with
      | inl j => rw [(intKind prog w).inj (.int i t) i j ha hb]
      | inr y => exact nomatch hb
    | inr x =>
      obtain ⟨t, rfl⟩ := Value.isStrOf_shape ha
      cases b with
      | inl j => exact nomatch hb
      | inr y => rw [(strKind prog w).inj (.str x t) x y ha hb]
  byValue := fun k v h => by
    cases k with
    | inl i => obtain ⟨t, rfl⟩ := Value.isInt_shape h; rfl
    | inr x => obtain ⟨t, rfl⟩ := Value.isStrOf_shape h; rfl
  pyHash := fun {A E s k v Q} hv h => by
    cases k with
    | inl i => exact (intKind prog w).pyHash hv h
    | inr x => exact (strKind prog w).pyHash hv h
  eqBool := fun {A E s a b u v Q} hu hv h => by
    cases a with
    | inl i =>
      cases b with
      | inl j => exact (intKind prog w).eqBool hu hv (by simpa using h)
      | inr y =>
        obtain ⟨t, rfl⟩ := Value.isInt_shape hu
        obtain ⟨t2, rfl⟩ := Value.isStrOf_shape hv
        exact SeqAt.EqAt.int_str i t y t2 prog w E Q (by simpa using h)
    | inr x =>
      cases b with
      | inl j =>
        obtain ⟨t, rfl⟩ := Value.isStrOf_shape hu
        obtain ⟨t2, rfl⟩ := Value.isInt_shape hv
        exact SeqAt.EqAt.str_int x t j t2 prog w E Q (by simpa using h)
      | inr y => exact (strKind prog w).eqBool hu hv (by simpa using h)
  «strs» := fun k x t v h => by
    cases k with
    | inl i => exact nomatch h
    | inr y => exact (strKind prog w).«strs» y x t v h

theorem news_set2 {h₀ h h2 : Heap} {L d : Addr} {x : Addr × Obj} {o o' : Obj} {news : Led} (N : News h₀ L h (x :: (d, o) :: news)) (hs : Heap.SameBut d h h2) (ho' : h2.get? d = some o') (hx : x.1 ≠ d) (hn : ∀ p ∈ news, p.1 ≠ d) : News h₀ L h2 (x :: (d, o') :: news) := fun p hp => by
  rcases List.mem_cons.mp hp with rfl | hp
  · exact ⟨hs.extBut _ _ hx (N _ (List.mem_cons_self ..)).1, (N _ (List.mem_cons_self ..)).2⟩
  · rcases List.mem_cons.mp hp with rfl | hp
    · exact ⟨ho', (N (d, o) (List.mem_cons_of_mem _ (List.mem_cons_self ..))).2⟩
    · have z := N p (List.mem_cons_of_mem _ (List.mem_cons_of_mem _ hp))
      exact ⟨hs.extBut _ _ (hn p hp) z.1, z.2⟩

section
variable {prog : Program} {w : World} {A : Around} {E : Value → Shared → Prop} {s : Shared} {env : Env} {h₀ : Heap} {L : Addr} {m : Str → Option Value} {news : Led} {Q : Value → Shared → Prop}
theorem dict_empty {r5 : Pos} (F : Fr h₀ L s.heap m) (N : News h₀ L s.heap news) (hbig : h₀.NoLimit)
    (hret : ∀ d h' o, Fr h₀ L h' m → News h₀ L h' ((d, o) :: news) → (∀ p ∈ news, p.1 < d) → (d == sysModules) = false → o.IsDictOf (PySem.strKind prog w) [] → Q (.ref d) { s with heap := h' }) :
    wpAny (model prog w) A (eval (.Dict [] [] r5) env) Q E s :=
  newDict_K F N hbig fun d h' o F' N' l1 lo hs _ _ _ => hret d h' o F' N' l1 lo hs
theorem dict_one {r1 r2 r5 : Pos} (F : Fr h₀ L s.heap m) (N : News h₀ L s.heap news) (hbig : h₀.NoLimit)
    (hret : ∀ d h' o tk t, Fr h₀ L h' m → News h₀ L h' ((d, o) :: news) → (∀ p ∈ news, p.1 < d) → (d == sysModules) = false → o.IsDictOf (PySem.strKind prog w) [(Str.ofString "a", .int 1 t)] → PyProof.V.FlatPairs PyData.str [(Str.ofString "a", .int 1 t)] [(.str "a", .int 1)] → Q (.ref d) { s with heap := h', toks := tk }) :
    wpAny (model prog w) A (eval (.Dict [some (strE "a" r1)] [intE 1 r2] r5) env) Q E s := by
  refine kdn_str rfl F N hbig rfl rfl (List.cons_ne_nil _ _) (Nat.le_of_ble_eq_true rfl) ?_
  intro d h' o F' N' l1 lo hd
  repeat' ((fail_if_success (with_reducible show KdnMade _ _ _ _ _ _ _)); first | walk1 | (dsimp only; walk1))
  refine' kdn_made_strF ?F ?N ?U ?d ?k ?n ?v ?_
  (case F => exact F'); (case N => exact N'); (case U => k_updF); (case d => exact hd); (case k => rfl); (case n => exact of_decide_eq_true (by first | rfl | kernel_rfl!)); (case v => rfl)
  intro h2 o2 F2 N2 hd2 hf2
  exact hret d h2 o2 _ _ F2 N2 l1 lo hd2 hf2
theorem dict_tup {r1 r2 r3 r4 r5 : Pos} (F : Fr h₀ L s.heap m) (N : News h₀ L s.heap news) (hbig : h₀.NoLimit) (hu : A.units < cLine)
    (hret : ∀ d T h' o tk t1 t2 n es ep e, Fr h₀ L h' m → News h₀ L h' ((T, ({ cls := .type "tuple", data := .seq [.str (Str.ofString "a") t1, .int 1 t2].toArray n } : Obj)) :: (d, o) :: news) → (∀ p ∈ news, p.1 < d) → d < T → (d == sysModules) = false →
      o.ExactDict → o.data = .dict es ep → es.toList = [e] → e.key = .ref T → (∃ t3, e.val = .int 2 t3) → Q (.ref d) { s with heap := h', toks := tk }) :
    wpAny (model prog w) A (eval (.Dict [some (.Tuple [strE "a" r1, intE 1 r2] 0 r3)] [intE 2 r4] r5) env) Q E s := by
  refine wpAny_Dict_any rfl rfl (List.cons_ne_nil _ _) (Nat.le_of_ble_eq_true rfl) ?_
  have F1 := F.push { cls := .type "dict", data := .dict #[] }
  have N1 := News.push F N { cls := .type "dict", data := .dict #[] }
  have lo := F.notModules (modules_low hbig)
  have l1 : ∀ p ∈ news, @LT.lt Nat _ p.1 s.heap.objs.size := fun p hp => Heap.lt_size (N p hp).1
  k_steps
  (rename Fr _ _ _ _ => F2)
  (rename News _ _ _ _ => N2)
  have hT := N2 _ (List.mem_cons_self ..)
  have hD := N2 _ (List.mem_cons_of_mem _ (List.mem_cons_self ..))
  have hdT : @LT.lt Nat _ s.heap.objs.size (s.heap.push { cls := .type "dict", data := .dict #[] }).objs.size := by rw [Heap.size_push]; exact Nat.lt_succ_self _
  generalize hTT : (s.heap.push { cls := .type "dict", data := .dict #[] }).objs.size = T at *
  unfold storeAll
  rw [List.forIn_cons]
  refine wpAny_bind (wpAny_bind (wpAny_dictSet_heap (knd := tupleKind (mixKind prog w)) (k := [.inr (Str.ofString "a"), .inl 1]) (xs := []) hu
    ⟨_, _, _, hT.1, rfl, rfl, .cons (by simp [mixKind, mixIs, Value.isStrOf]) (.cons (by simp [mixKind, mixIs, Value.isInt]) .nil)⟩ ⟨_, _, _, hD.1, ⟨rfl, rfl, rfl⟩, rfl, rfl, by simp, List.nodup_nil⟩ ?_ (by simp)))
  intro h2 hm hs
  obtain ⟨o', es', ep', ho', hc', hd', he', _, hn'⟩ := hm
  have he2 : es'.toList = [⟨_, .ref T, .int 2 _⟩] := he'
  refine wpAny_pure ?_
  dsimp only
  rw [List.forIn_nil]
  refine wpAny_pure ?_
  exact hret s.heap.objs.size T h2 o' _ _ _ _ es' ep' _ (F2.change hs hD.2.1 hD.2.2) (news_set2 N2 hs ho' (fun e => Nat.lt_irrefl _ (by have e' : T = s.heap.objs.size := e; rw [e'] at hdT; exact hdT))
    (fun p hp e => Nat.lt_irrefl _ (by have e' : p.1 = s.heap.objs.size := e; have z := l1 p hp; rw [e'] at z; exact z))) l1 hdT lo hc' hd' he2 rfl ⟨_, rfl⟩
end
end Mine
end

section
open PySem PySem.W PyProof.Rows
namespace Mine
local macro_rules | `(tactic| walk_at "zz0") => `(tactic| skip)
local macro_rules | `(tactic| walk_at "zz1") => `(tactic| skip)
local macro_rules | `(tactic| walk_at "zz2") => `(tactic| skip)
local macro_rules | `(tactic| walk_at "zz3") => `(tactic| skip)
local macro_rules | `(tactic| walk_at "zz4") => `(tactic| skip)
local macro_rules | `(tactic| walk_at "zz5") => `(tactic| skip)
local macro_rules | `(tactic| walk_at "zz6") => `(tactic| skip)
local macro_rules | `(tactic| walk_at "zz7") => `(tactic| skip)
local macro_rules | `(tactic| walk_at "zz8") => `(tactic| skip)
theorem rstT45 {M : Model} {A : Around} {E : Value → Shared → Prop} {s : Shared} {env : Env} {Q : Flow → Shared → Prop} (h : Q .next s) : wpAny M A (execs [] env) Q E s := by
  w_top off
  walk1
  exact h
end Mine
end

section
open PySem PySem.W PySem.Calls PyProof.Rows
namespace Mine
set_option maxRecDepth 100000
set_option maxHeartbeats 4000000

theorem showAll {ds : List PyData} (g : ∀ d ∈ ds, goodD d = true) : PyData.showableAll ds = true ∧ PyData.depthAll ds ≤ 4 ∧ piled (PyData.shownAll ds) ≤ 102 * ds.length := by
  induction ds with
  | nil => exact ⟨rfl, Nat.zero_le _, Nat.le_refl _⟩
  | cons d r ih =>
    have h := g d (List.mem_cons_self ..)
    obtain ⟨h1, h2, h3⟩ := ih fun d hd => g d (List.mem_cons_of_mem _ hd)
    unfold goodD at h
    simp only [Bool.and_eq_true, decide_eq_true_eq] at h
    obtain ⟨⟨a, b⟩, c⟩ := h
    refine ⟨?_, ?_, ?_⟩
    · simp only [PyData.showableAll, a, h1, Bool.and_self]
    · simp only [PyData.depthAll]
      omega
    · simp only [PyData.shownAll, piled_cons, List.length_cons]
      omega
theorem rall_len {R : Led} {h : Heap} (H : Holds R h) {vs : List Value} {ds : List PyData} (r : RAll R vs ds) : ds.length = vs.length := by
  obtain ⟨as, r1, -⟩ := r.out h H
  clear H r
  induction vs generalizing ds as with
  | nil => cases r1; rfl
  | cons v vs ih =>
    cases r1 with
    | cons _ r2 => rw [List.length_cons, List.length_cons, ih _ r2]
theorem show_list {ds : List PyData} (g : ∀ d ∈ ds, goodD d = true) (hl : ds.length ≤ 4) : (PyData.list ds).showable = true ∧ (PyData.list ds).depth ≤ 10 ∧ (PyData.list ds).shown.length ≤ 1000 := by
  obtain ⟨h1, h2, h3⟩ := showAll g
  refine ⟨h1, ?_, ?_⟩
  · show PyData.depthAll ds + 1 ≤ 10
    omega
  · show (listText (PyData.shownAll ds)).length ≤ 1000
    have e : (listText (PyData.shownAll ds)).length ≤ 2 + piled (PyData.shownAll ds) := by
      unfold listText
      rw [strLen_append]
      cases PyData.shownAll ds with
      | nil => decide +kernel
      | cons t r =>
        show (textFrom 1 _ r).length + 1 ≤ _
        rw [textFrom_length_pos _ _ _ (by decide), strLen_append, strLen_append, piled_cons]
        show 1 + 0 + t.length + _ + 1 ≤ _
        omega
    omega
theorem show_tuple {ds : List PyData} (g : ∀ d ∈ ds, goodD d = true) (hl : ds.length ≤ 4) : (PyData.tuple ds).showable = true ∧ (PyData.tuple ds).depth ≤ 10 ∧ (PyData.tuple ds).shown.length ≤ 1000 := by
  obtain ⟨h1, h2, h3⟩ := showAll g
  refine ⟨h1, ?_, ?_⟩
  · show PyData.depthAll ds + 1 ≤ 10
    omega
  · show (tupleText (PyData.shownAll ds)).length ≤ 1000
    have e : (tupleText (PyData.shownAll ds)).length ≤ 4 + piled (PyData.shownAll ds) := by
      unfold tupleText
      rw [strLen_append, strLen_append]
      have e3 : (((if (PyData.shownAll ds).length == 1 then ",)" else ")" : String) : Str)).length ≤ 2 := by split <;> decide +kernel
      have e1 : ((("(" : String) : Str)).length = 1 := rfl
      by_cases hn : PyData.shownAll ds = []
      · rw [hn]; decide +kernel
      · have := join_length_add _ hn
        omega
    omega

section
variable {prog : Program} {w : World} {A : Around} {E : Value → Shared → Prop} {s : Shared} {a : Addr} {o : Obj} {es : Array DictEntry} {ep : Nat}
theorem len_meets (ha : (a == sysModules) = false) : MeetsIn prog w (Builtin.«dict.__len__» ⟨[.ref a], []⟩) (fun _ R s => (∃ o ep, s.heap.get? a = some o ∧ o.data = .dict es ep) ∧ R (.ok (.ret (.int es.size s.toks))) { s with toks := s.toks + 1 }) :=
  .of_wp fun A R s ⟨⟨o, ep, ho, hdat⟩, h⟩ => by
    show wpAny _ _ (dictSize a >>= _) _ _ s
    unfold dictSize
    refine wpAny_bind (wpAny_bind (wpAny_dictEntries ho hdat (wpAny_pure ?_)))
    show wpAny _ _ (Builtin.Dict.pendingCount a >>= _) _ _ s
    exact wpAny_bind (wpAny_pendingCount_other ha (wpAny_ret_mkInt (by rw [Nat.add_zero]; exact h)))
theorem len_raw {Q : Value → Shared → Prop} (ho : s.heap.get? a = some o) (hc : o.cls = .type "dict") (hd : o.data = .dict es ep) (ha : (a == sysModules) = false) (hl : (es.size : Int) < 2 ^ 63)
    (h : Q (.int es.size (s.toks + 1)) { s with toks := s.toks + 1 + 1 }) : wpAny (model prog w) A (Builtin.«len» ⟨[.ref a], []⟩) (fun fin s' => ∃ r, fin = .done (.ret r) ∧ Q r s') E s := by
  have hT : s.TypeIs (.ref a) "dict" := ⟨o, ho, hc⟩
  unfold Builtin.«len»
  refine wpAny_bind (m := oneArg "len" _) (wpAny_pure ?_)
  refine wpAny_bind (m := callSpecial? (.ref a) (Str.ofString "__len__")) (wpAny_callSpecial?_slot (name := Str.ofString "__len__") hT PySem.F.slot_dict_len
    (call_meetsIn PySem.F.slot_dict_len hT PySem.F.entry_dict_len (PySem.F.args_dict_len_1 _) (len_meets ha) ⟨⟨o, ep, ho, hd⟩, ?_⟩))
  show wpAny _ _ _ _ _ { s with toks := s.toks + 1 }
  refine wpAny_bind (wpAny_holding (wpAny_pure (wpAny_bind (wpAny_letGo ?_))))
  show wpAny _ _ (if ((es.size : Nat) : Int) < 0 then _ else _) _ _ _
  rw [if_neg (by omega)]
  show wpAny _ _ (if ((es.size : Nat) : Int) ≥ 2 ^ 63 then _ else _) _ _ _
  rw [if_neg (by omega)]
  exact wpAny_bind (wpAny_mkInt (wpAny_pure ⟨_, rfl, h⟩))
theorem truthy_raw {Q : Bool → Shared → Prop} (ho : s.heap.get? a = some o) (hc : o.cls = .type "dict") (hd : o.data = .dict es ep) (ha : (a == sysModules) = false) (hl : (es.size : Int) < 2 ^ 63)
    (h : Q ((es.size : Int) != 0) { s with toks := s.toks + 1 + 1 }) : wpAny (model prog w) A (truthy (.ref a)) Q E s := by
  have hT : s.TypeIs (.ref a) "dict" := ⟨o, ho, hc⟩
  have key : wpAny (model prog w) A (runValue (.builtin "len" ⟨[.ref a], []⟩)) (fun r s' => r = .int es.size (s.toks + 1) ∧ Q ((es.size : Int) != 0) s') E s := by
    refine wpAny_runValue (codeAny_builtin entry_len ?_)
    rw [Around.under_plainId plain_len _]
    exact wpAny_mono (len_raw (Q := fun r s' => r = .int es.size (s.toks + 1) ∧ Q ((es.size : Int) != 0) s') ho hc hd ha hl ⟨rfl, h⟩)
      (fun fin s' h' => by obtain ⟨r, rfl, hq⟩ := h'; exact hq) fun _ _ e => e
  unfold truthy
  first
    | refine wpAny_bind (wpAny_callSpecial?_none (name := Str.ofString "__bool__") hT noBool_dict ?_)
    | refine wpAny_bind (wpAny_pure (wpAny_bind (wpAny_callSpecial?_none (name := Str.ofString "__bool__") hT noBool_dict ?_)))
  first
    | refine wpAny_bind (wpAny_specialOf (name := Str.ofString "__len__") hT PySem.F.slot_dict_len.lookup ?_)
    | refine wpAny_bind (wpAny_pure (wpAny_bind (wpAny_specialOf (name := Str.ofString "__len__") hT PySem.F.slot_dict_len.lookup ?_)))
  first
    | exact wpAny_bind (wpAny_mono key (fun r s' h' => by obtain ⟨rfl, hq⟩ := h'; exact wpAny_pure hq) fun _ _ e => e)
    | exact wpAny_bind (wpAny_pure (wpAny_bind (wpAny_mono key (fun r s' h' => by obtain ⟨rfl, hq⟩ := h'; exact wpAny_pure hq) fun _ _ e => e)))
end

section
variable {R : Led}
theorem Rp.of_in {a : Addr} {d : PyData} (r : RIn R (.ref a) d) (h : d.showable = true ∧ d.depth ≤ 10 ∧ d.shown.length ≤ 1000) (hsm : ∀ p ∈ R, p.1 ≠ sysModules) : Rp R (.ref a) d.shown := fun _ _ _ _ _ _ H hg hu hQ =>
  repr_in r H h.1 h.2.1 (by rw [sizeLine_eq]; omega) hsm hg hu hQ
theorem Rp.none : Rp R .none (Str.ofString "None") := fun _ _ _ _ _ _ _ _ _ hQ => P.repr_of_none (hQ _ _ _ fun _ _ e => e)
theorem Rp.str {x : Str} {t : Tok} (h : (reprText x).length ≤ 100) : Rp R (.str x t) (reprText x) := fun _ _ _ _ _ _ _ _ _ hQ => P.repr_of_str (hsz := by rw [sizeLine_eq]; omega) (hQ _ _ _ fun _ _ e => e)
theorem Rp.int {i : Int} {t : Tok} (h : i.natAbs.log2 < 1920) : Rp R (.int i t) (Str.ofString (toString i)) := fun _ _ _ _ _ _ _ _ _ hQ => P.repr_of_int h (hQ _ _ _ fun _ _ e => e)
theorem Tr.none : Tr R .none false := fun _ _ _ _ _ _ _ hQ => truthy_none (hQ _)
theorem Tr.int {i : Int} {t : Tok} : Tr R (.int i t) (i != 0) := fun _ _ _ _ _ _ _ hQ => P.truthy_int (hQ _)
theorem Tr.str {x : Str} {t : Tok} (h : x.length ≤ 100) : Tr R (.str x t) ((x.length : Int) != 0) := fun _ _ _ _ _ _ _ hQ => P.truthy_str (by omega) (hQ _)
theorem Tr.dict {a : Addr} {o : Obj} {es : Array DictEntry} {ep : Nat} (hm : (a, o) ∈ R) (hc : o.cls = .type "dict") (hd : o.data = .dict es ep) (ha : (a == sysModules) = false) (hl : es.size ≤ 100) : Tr R (.ref a) ((es.size : Int) != 0) := fun prog w _ _ _ _ H hQ =>
  truthy_raw (H _ hm) hc hd ha (by omega) (hQ _)
theorem rin_tupdict {a T : Addr} {o : Obj} {es : Array DictEntry} {ep n : Nat} {e : DictEntry} {t1 t2 t3 : Tok} (hm : (a, o) ∈ R) (hT : (T, ({ cls := .type "tuple", data := .seq [.str (Str.ofString "a") t1, .int 1 t2].toArray n } : Obj)) ∈ R) (hc : o.cls = .type "dict") (hd : o.data = .dict es ep)
    (he : es.toList = [e]) (hk : e.key = .ref T) (hv : e.val = .int 2 t3) : RIn R (.ref a) (.dict [(.tuple [.str (Str.ofString "a"), .int 1], .int 2)]) := ⟨fun h H => by
  have hh := H _ hT
  have r1 : Reads h (.ref T) (.tuple [.str (Str.ofString "a"), .int 1]) [] := .tuple hh rfl rfl (.cons (.str _ _) (.cons (.int _ _) .nil))
  refine ⟨_, .dict (as := []) (bs := []) (H _ hm) hc hd ?_ ?_, fun b hb => ?_⟩
  · rw [he]
    show ReadsAll h [e.key] _ _
    rw [hk]
    exact .cons r1 .nil
  · rw [he]
    show ReadsAll h [e.val] _ _
    rw [hv]
    exact .cons (.int _ _) .nil
  · rcases List.mem_cons.mp hb with rfl | hb
    · exact ⟨_, hm⟩
    · cases hb⟩
theorem good_shown {d : PyData} (g : goodD d = true) : d.showable = true ∧ d.depth ≤ 10 ∧ d.shown.length ≤ 1000 := by
  unfold goodD at g
  simp only [Bool.and_eq_true, decide_eq_true_eq] at g
  exact ⟨g.1.1, by omega, by omega⟩
end
end Mine
end

section
open PySem PySem.W PyProof.Rows
namespace Mine
local macro_rules | `(tactic| walk_at "zz0") => `(tactic| skip)
local macro_rules | `(tactic| walk_at "zz1") => `(tactic| skip)
local macro_rules | `(tactic| walk_at "zz2") => `(tactic| skip)
local macro_rules | `(tactic| walk_at "zz3") => `(tactic| skip)
local macro_rules | `(tactic| walk_at "zz4") => `(tactic| skip)
local macro_rules | `(tactic| walk_at "zz5") => `(tactic| skip)
local macro_rules | `(tactic| walk_at "zz6") => `(tactic| skip)
local macro_rules | `(tactic| walk_at "zz7") => `(tactic| skip)
local macro_rules | `(tactic| walk_at "zz8") => `(tactic| skip)
theorem rstT46 {M : Model} {A : Around} {E : Value → Shared → Prop} {s : Shared} {env : Env} {Q : Flow → Shared → Prop} (h : Q .next s) : wpAny M A (execs [] env) Q E s := by
  w_top off
  walk1
  exact h
end Mine
end

section
open PySem PySem.W PySem.Calls PyProof.Rows
namespace Mine
set_option maxRecDepth 100000
set_option maxHeartbeats 8000000

theorem no_mods {h₀ h : Heap} {L : Addr} {R : Led} (hmod : ∃ o, h₀.get? sysModules = some o) (N : News h₀ L h R) : ∀ p ∈ R, p.1 ≠ sysModules := fun p hp e => by
  obtain ⟨o, ho⟩ := hmod
  have z := (N p hp).2.2
  rw [e, ho] at z
  cases z


local macro_rules | `(tactic| walk_at "eval Name") => `(tactic| (k_here; (with_reducible show wpAny _ _ (eval (Expr.Name (Str.ofString "draw") _) (envX _ _ _ _ _ _)) _ _ _); k_dflt (refine' nm_cell ?N ?k ?x ?c ?m ?d ?b ?_; (case N => k_asm); (case k => rfl); (case x => rfl); (case c => rfl); (case m => (repeat (first | (with_reducible assumption) | (with_reducible refine List.mem_cons_of_mem _ ?_)))); (case d => assumption); (case b => decide))))

theorem led_name {h₀ h : Heap} {L : Addr} {x y : Addr × Obj} {R : Led} (_ : News h₀ L h (x :: y :: R)) : ∃ R2, R2 = R := ⟨_, rfl⟩

section
variable {w : World} {mean : ExcName → Option Value} {mg mb : Str → Option Value} {p : Program} {ls : List Str} {dp un : Nat} {a : Addr} {cd : Value} {outer : List Env} {A₀ : Around} {base h₀ : Heap} {L : Addr} {s₁ s : Shared} {Q E : Value → Shared → Prop}
theorem value_oth {m : Str → Option Value} {D L1 : Addr} {sd : Int} {t : Tok} {n1 n2 : Nat} {vs : List Value} {ns : List Int} {oD : Obj} {rest : Led} {p2 p3 p4 p5 p6 p7 p8 p9 r1 r2 r3 r4 r5 r6 r7 r8 r9 t1 t2 : Pos}
    (B : Below A₀ base outer h₀) (X : (hd.heap_39 w.params).In h₀) (T : Top p ls mean mg mb h₀) (hdp : dp + 100 < recursionLimit) (hun : un + 2000 < cLine) (hmod : ∃ o, h₀.get? sysModules = some o)
    (cD : (L + 1, oD) ∈ rest) (d : Drw D L1 sd vs ns rest) (hD : oD.data = .cell (some (.ref D)))
    (F : Fr h₀ L s.heap m) (N : News h₀ L s.heap ((D, listOf #[.ref L1, .int sd t] n1) :: (L1, listOf vs.toArray n2) :: rest))
    (hret : ∀ (v : Value) (x : Str) (dc tb : Bool) (R2 : Led) (h2 : Heap) (tk2 : Nat) (sd' : Int) (t' : Tok) (n1' n2' : Nat) (vs' : List Value) (ns' : List Int), (∀ p ∈ rest, p ∈ R2) → Vk R2 v false dc → Tr R2 v tb → Rp R2 v x → Drw D L1 sd' vs' ns' R2 →
      Fr h₀ L h2 m → News h₀ L h2 ((D, listOf #[.ref L1, .int sd' t'] n1') :: (L1, listOf vs'.toArray n2') :: R2) → Q v { s with heap := h2, toks := tk2 }) :
    wpAny (model PySem.Challenge.rw_ah6025_01.row.prog w) (lawA dp un L a cd outer)
      (eval (.Subscript (.List [.Constant .none 0 p2, strE "ab" p3, .Dict [] [] p4, .Dict [some (strE "a" p5)] [intE 1 p6] p7, intE 0 p8, intE 5 p9, .Dict [some (.Tuple [strE "a" r1, intE 1 r2] 0 r3)] [intE 2 r4] r5] r6) (.Call (nmE "_law_take" r7) [nmE "draw" r8, intE 7 r9] [] t1) t2) (lawE L a cd)) Q E s := by
  revert X; k_fill; intro X
  repeat' ((fail_if_success (with_reducible show wpAny _ _ (eval (Expr.Dict _ _ _) _) _ _ _)); first | (k_unfold; (try dsimp only)) | walk1 | (dsimp only; walk1))
  refine dict_empty F N T.nolimit ?_
  intro dA hA oA FA NA lA loA hdA
  clear F N
  repeat' ((fail_if_success (with_reducible show wpAny _ _ (eval (Expr.Dict _ _ _) _) _ _ _)); first | (k_unfold; (try dsimp only)) | walk1 | (dsimp only; walk1))
  refine dict_one FA NA T.nolimit ?_
  intro dB hB oB tkB tB FB NB lB loB hdB hfB
  clear FA NA
  repeat' ((fail_if_success (with_reducible show wpAny _ _ (eval (Expr.Dict _ _ _) _) _ _ _)); first | (k_unfold; (try dsimp only)) | walk1 | (dsimp only; walk1))
  refine dict_tup FB NB T.nolimit (by ktr_units) ?_
  intro dC tC hC oC tkC taC tbC nC esC epC eC FC NC lC lTC loC hxC hdC heC hkC hvC
  clear FB NB
  repeat' ((fail_if_success (with_reducible show wpAny _ _ (call (Value.ref 60) _) _ _ _)); first | (k_unfold; (try dsimp only)) | walk1 | (dsimp only; walk1))
  rename_i l' h' F' N' l1'
  have hDA : @LT.lt Nat _ D dA := lA _ (List.mem_cons_self ..)
  have hLA : @LT.lt Nat _ L1 dA := lA _ (List.mem_cons_of_mem _ (List.mem_cons_self ..))
  have hAB : @LT.lt Nat _ dA dB := lB _ (List.mem_cons_self ..)
  have hBC : @LT.lt Nat _ dB dC := lC _ (List.mem_cons_self ..)
  have hsmA : dA ≠ sysModules := beq_eq_false_iff_ne.mp loA
  have hlow := no_mods hmod N'
  have hCT : @LT.lt Nat _ dC tC := lTC
  have hCl := l1'.1
  have d2 : ∀ (oL oT : Obj), Drw D L1 sd vs ns ((l', oL) :: (tC, oT) :: (dC, oC) :: (dB, oB) :: (dA, oA) :: rest) := fun oL oT => ⟨d.ne, d.i, d.len, d.s0, d.s1,
    List.forall_mem_cons.mpr ⟨by k_ne, List.forall_mem_cons.mpr ⟨by k_ne, List.forall_mem_cons.mpr ⟨by k_ne, List.forall_mem_cons.mpr ⟨by k_ne, List.forall_mem_cons.mpr ⟨by k_ne, d.off⟩⟩⟩⟩⟩,
    List.forall_mem_cons.mpr ⟨by k_ne, List.forall_mem_cons.mpr ⟨by k_ne, List.forall_mem_cons.mpr ⟨by k_ne, List.forall_mem_cons.mpr ⟨by k_ne, List.forall_mem_cons.mpr ⟨by k_ne, d.off1⟩⟩⟩⟩⟩⟩
  refine take_ok B F' X (Mv.news (.tail (.tail (.tail (.tail (.tail .here))))) N') T rfl d.ne (d2 _ _).off (d2 _ _).off1 d.i d.len d.s0 d.s1 (by decide) (by decide) (by omega) (by omega) ?_
  intro k tr h1 tk1 sd1 t1 n3 n4 vs1 ns1 hk0 hk1 hi1 hlen1 hs2 hs3 F1 N1
  obtain ⟨R2, hR2⟩ := led_name N1
  rw [← hR2] at N1
  have hmA : (dA, oA) ∈ R2 := by rw [hR2]; exact .tail _ (.tail _ (.tail _ (.tail _ (.head _))))
  have hmB : (dB, oB) ∈ R2 := by rw [hR2]; exact .tail _ (.tail _ (.tail _ (.head _)))
  have hmC : (dC, oC) ∈ R2 := by rw [hR2]; exact .tail _ (.tail _ (.head _))
  have hmT : (tC, ({ cls := .type "tuple", data := .seq [.str (Str.ofString "a") taC, .int 1 tbC].toArray nC } : Obj)) ∈ R2 := by rw [hR2]; exact .tail _ (.head _)
  have hsub : ∀ p ∈ rest, p ∈ R2 := fun p hp => by rw [hR2]; exact .tail _ (.tail _ (.tail _ (.tail _ (.tail _ hp))))
  have d3 : Drw D L1 sd1 vs1 ns1 R2 := by rw [hR2]; exact ⟨d.ne, hi1, hlen1, hs2, hs3, (d2 _ _).off, (d2 _ _).off1⟩
  have hlo := no_mods hmod N1
  have hlo2 : ∀ p ∈ R2, p.1 ≠ sysModules := fun p hp => hlo p (.tail _ (.tail _ hp))
  have fin : ∀ (v : Value) (x : Str) (dc tb : Bool) (tk2 : Nat), Vk R2 v false dc → Tr R2 v tb → Rp R2 v x → Q v { s with heap := h1, toks := tk2 } := fun v x dc tb tk2 a b c => hret v x dc tb R2 h1 tk2 sd1 t1 n3 n4 vs1 ns1 hsub a b c d3 F1 N1
  rw [hR2] at N1
  have dres : ∀ {d : Addr} {o : Obj} {kvs : List (Str × Value)} {E : List (PyData × PyData)} (tk2 : Nat), (d, o) ∈ R2 → o.IsDictOf (PySem.strKind PySem.Challenge.rw_ah6025_01.row.prog w) kvs → PyProof.V.FlatPairs PyData.str kvs E → kvs.length ≤ 100 → (d == sysModules) = false → goodD (.dict E) = true → Q (.ref d) { s with heap := h1, toks := tk2 } := by
    intro d o kvs E tk2 hm hd hf hl hs hg
    obtain ⟨es, ep, hx, hdat, hk, hp, hn⟩ := id hd
    have hsz : es.size ≤ 100 := by
      have := hp.length
      rw [Array.length_toList] at this
      omega
    exact fin _ _ true _ tk2 (.dict hm hx.1) (Tr.dict hm hx.1 hdat hs hsz) (Rp.of_in (RIn.dict hm hd hf) (good_shown hg) hlo2)
  clear hret
  rcases seven hk0 hk1 with rfl | rfl | rfl | rfl | rfl | rfl | rfl
  all_goals (k_steps)
  · exact fin _ _ _ _ _ .none Tr.none Rp.none
  · exact fin _ _ _ _ _ .str (Tr.str (by decide +kernel)) (Rp.str (by decide +kernel))
  · exact dres _ hmA hdA (by first | exact .nil | exact trivial) (by decide) loA (by decide +kernel)
  · exact dres _ hmB hdB hfB (by simp) loB (by decide +kernel)
  · exact fin _ _ _ _ _ .int Tr.int (Rp.int (by decide +kernel))
  · exact fin _ _ _ _ _ .int Tr.int (Rp.int (by decide +kernel))
  · obtain ⟨t3, hv3⟩ := hvC
    have hsz : esC.size ≤ 100 := by rw [← Array.length_toList, heC]; simp
    exact fin _ _ true _ _ (.dict hmC hxC.1) (Tr.dict hmC hxC.1 hdC loC hsz) (Rp.of_in (rin_tupdict hmC hmT hxC.1 hdC heC hkC hv3) (good_shown (by decide +kernel)) hlo2)
end
end Mine
end

section
open PySem PySem.W PyProof.Rows
namespace Mine
local macro_rules | `(tactic| walk_at "zz0") => `(tactic| skip)
local macro_rules | `(tactic| walk_at "zz1") => `(tactic| skip)
local macro_rules | `(tactic| walk_at "zz2") => `(tactic| skip)
local macro_rules | `(tactic| walk_at "zz3") => `(tactic| skip)
local macro_rules | `(tactic| walk_at "zz4") => `(tactic| skip)
local macro_rules | `(tactic| walk_at "zz5") => `(tactic| skip)
local macro_rules | `(tactic| walk_at "zz6") => `(tactic| skip)
local macro_rules | `(tactic| walk_at "zz7") => `(tactic| skip)
local macro_rules | `(tactic| walk_at "zz8") => `(tactic| skip)
theorem rstT47 {M : Model} {A : Around} {E : Value → Shared → Prop} {s : Shared} {env : Env} {Q : Flow → Shared → Prop} (h : Q .next s) : wpAny M A (execs [] env) Q E s := by
  w_top off
  walk1
  exact h
end Mine
end

section
open PySem PySem.W PySem.Calls PyProof.Rows
namespace Mine
set_option maxRecDepth 100000
set_option maxHeartbeats 8000000

theorem ne_of_cls {h₀ h : Heap} {L a b : Addr} {o1 o2 : Obj} {R : Led} (N : News h₀ L h R) (h1 : (a, o1) ∈ R) (h2 : (b, o2) ∈ R) (hc : o1.cls ≠ o2.cls) : a ≠ b := fun e => by
  have z1 := (N _ h1).1
  have z2 := (N _ h2).1
  dsimp only at z1 z2
  rw [e, z2] at z1
  exact hc (by rw [Option.some.inj z1])

theorem led_name2 {h₀ h : Heap} {L : Addr} {x y z : Addr × Obj} {R : Led} (_ : News h₀ L h (x :: y :: z :: R)) : ∃ R2, R2 = z :: R ∧ z ∈ R2 := ⟨_, rfl, List.mem_cons_self ..⟩

section
variable {w : World} {mean : ExcName → Option Value} {mg mb : Str → Option Value} {p : Program} {ls : List Str} {dp un : Nat} {a : Addr} {cd : Value} {outer : List Env} {A₀ : Around} {base h₀ : Heap} {L : Addr} {s₁ s : Shared} {E : Value → Shared → Prop}
theorem law_value {q0 q1 q2 q3 q4 q5 q6 q7 q8 q9 p1 p2 p3 p4 p5 p6 p7 p8 p9 r1 r2 r3 r4 r5 r6 r7 r8 r9 t1 t2 t3 t4 t5 : Pos}
    (B : Below A₀ base outer h₀) (X : (hd.heap_39 w.params).In h₀) (T : Top p ls mean mg mb h₀) (hdp : dp + 100 < recursionLimit) (hun : un + 2000 < cLine) (hmod : ∃ o, h₀.get? sysModules = some o) (S : S2 s₁ h₀ L s) :
    wpAny (model PySem.Challenge.rw_ah6025_01.row.prog w) (lawA dp un L a cd outer)
      (exec (.Assign [nmE "value" q0] (.IfExp (.Compare (nmE "way" q1) [.Eq] [intE 0 q2] q3) (nmE "row" q4) (.IfExp (.Compare (nmE "way" q5) [.Eq] [intE 1 q6] q7) (.Call (nmE "tuple" q8) [nmE "row" q9] [] p1)
        (.Subscript (.List [.Constant .none 0 p2, strE "ab" p3, .Dict [] [] p4, .Dict [some (strE "a" p5)] [intE 1 p6] p7, intE 0 p8, intE 5 p9, .Dict [some (.Tuple [strE "a" r1, intE 1 r2] 0 r3)] [intE 2 r4] r5] r6) (.Call (nmE "_law_take" r7) [nmE "draw" r8, intE 7 r9] [] t1) t2) t3) t4) t5) (lawE L a cd)) (fun f s' => f = .next ∧ S3 s₁ h₀ L s') E s := by
  revert X; k_fill; intro X
  obtain @⟨m0, D, L1, V, sd, way, t, tw, n1, n2, vs, ys, ns, bs, ds, oF, oD, c0, rest, z, cF, cD, d, hF, hD, w0, w1, K, R, g, len, V0, V1, F, N⟩ := S
  have hdl : ds.length ≤ 4 := by
    rw [rall_len (Holds.of N) (R.mono fun p hp => List.mem_cons_of_mem _ (List.mem_cons_of_mem _ (List.mem_cons_of_mem _ hp)))]; exact len
  have dV : Drw D L1 sd vs ns ((V, LCg.lst ys) :: rest) := ⟨d.ne, d.i, d.len, d.s0, d.s1, List.forall_mem_cons.mpr ⟨V0, d.off⟩, List.forall_mem_cons.mpr ⟨V1, d.off1⟩⟩
  have hw : way = 0 ∨ way = 1 ∨ way = 2 := by omega
  rcases hw with rfl | rfl | rfl
  · k_steps
    (rename Fr _ _ _ _ => F2)
    (rename News _ _ _ _ => N2)
    have N3 := Mv.news (.tail .here) N2
    have hlo : ∀ p ∈ (V, LCg.lst ys) :: rest, p.1 ≠ sysModules := fun p hp => no_mods hmod N3 p (.tail _ (.tail _ hp))
    exact S3.mk ⟨z.1, z.2⟩ (List.mem_cons_of_mem _ cF) (List.mem_cons_of_mem _ cD) dV hF hD w0 w1 (K.mono fun p hp => List.mem_cons_of_mem _ hp) len (List.mem_cons_self ..) .row
      (Rp.of_in (RIn.list (List.mem_cons_self ..) (R.mono fun p hp => List.mem_cons_of_mem _ hp)) (show_list g hdl) hlo) F2 N3
  · k_steps
    · exact trivial
    (rename Fr _ _ _ _ => F2)
    (rename News _ _ _ _ => N2)
    have N3 := Mv.news (.tail (.tail .here)) N2
    have e0 := ne_of_cls N2 (.head _) (.tail _ (.tail _ (.head _))) (fun e => absurd (show Value.type "tuple" = Value.type "list" from e) (by simp))
    have e1 := ne_of_cls N2 (.head _) (.tail _ (.tail _ (.tail _ (.head _)))) (fun e => absurd (show Value.type "tuple" = Value.type "list" from e) (by simp))
    obtain ⟨R2, hR2, hT⟩ := led_name2 N3
    have hlo : ∀ p ∈ R2, p.1 ≠ sysModules := fun p hp => no_mods hmod N3 p (.tail _ (.tail _ (hR2 ▸ hp)))
    have hsub : ∀ p ∈ rest, p ∈ R2 := fun p hp => by rw [hR2]; exact .tail _ (.tail _ hp)
    have d3 : Drw D L1 sd vs ns R2 := by
      rw [hR2]
      exact ⟨d.ne, d.i, d.len, d.s0, d.s1, List.forall_mem_cons.mpr ⟨e0, dV.off⟩, List.forall_mem_cons.mpr ⟨e1, dV.off1⟩⟩
    have hVm : (V, LCg.lst ys) ∈ R2 := by rw [hR2]; exact .tail _ (.head _)
    rw [← hR2] at N3
    exact S3.mk ⟨z.1, z.2⟩ (hsub _ cF) (hsub _ cD) d3 hF hD w0 w1 (K.mono hsub) len hVm (.tup hT) (Rp.of_in (RIn.tuple hT (R.mono hsub)) (show_tuple g hdl) hlo) F2 N3
  · iterate 14 (first | (k_unfold; (try dsimp only)) | walk1 | (dsimp only; walk1))
    rw [if_neg (by decide)]
    have N0 := Mv.news (.tail .here) N
    (with_reducible refine' value_oth (rest := (V, LCg.lst ys) :: rest) (t := t) (n1 := n1) (n2 := n2) ?k1 ?k2 ?k3 ?k4 ?k5 ?k6 ?k7 ?k8 ?k9 ?kF ?kN ?_)
    (case k1 => exact B); (case k2 => exact X); (case k3 => exact T); (case k4 => exact hdp); (case k5 => exact hun); (case k6 => exact hmod); (case k7 => exact List.mem_cons_of_mem _ cD); (case k8 => exact dV); (case k9 => exact hD); (case kF => exact F); (case kN => exact N0)
    intro v x dc tb R2 h2 tk2 sd2 t2 n3 n4 vs2 ns2 hsub vk tr2 rp d2 F1 N1
    clear F N
    k_steps
    (rename Fr _ _ _ _ => F2)
    (rename News _ _ _ _ => N2)
    exact S3.mk ⟨z.1, z.2⟩ (hsub _ (List.mem_cons_of_mem _ cF)) (hsub _ (List.mem_cons_of_mem _ cD)) d2 hF hD w0 w1 (K.mono fun p hp => hsub _ (List.mem_cons_of_mem _ hp)) len (hsub _ (List.mem_cons_self ..)) (.oth vk tr2) rp F2 N2
end
end Mine
end

section
open PySem PySem.W PyProof.Rows
namespace Mine
local macro_rules | `(tactic| walk_at "zz0") => `(tactic| skip)
local macro_rules | `(tactic| walk_at "zz1") => `(tactic| skip)
local macro_rules | `(tactic| walk_at "zz2") => `(tactic| skip)
local macro_rules | `(tactic| walk_at "zz3") => `(tactic| skip)
local macro_rules | `(tactic| walk_at "zz4") => `(tactic| skip)
local macro_rules | `(tactic| walk_at "zz5") => `(tactic| skip)
local macro_rules | `(tactic| walk_at "zz6") => `(tactic| skip)
local macro_rules | `(tactic| walk_at "zz7") => `(tactic| skip)
local macro_rules | `(tactic| walk_at "zz8") => `(tactic| skip)
theorem rstLawT {M : Model} {A : Around} {E : Value → Shared → Prop} {s : Shared} {env : Env} {Q : Flow → Shared → Prop} (h : Q .next s) : wpAny M A (execs [] env) Q E s := by
  w_top off
  walk1
  exact h
end Mine
end

section
open PySem PySem.W PySem.Calls PyProof.Rows
namespace Mine
set_option maxRecDepth 100000

/-- behind `before = ..` -/
inductive S4 (s₁ : Shared) (h₀ : Heap) (L : Addr) (s' : Shared) : Prop
  | mk {m0 : Str → Option Value} {D L1 V : Addr} {v : Value} {x : Str} {sd way : Int} {t tw tx : Tok} {n1 n2 : Nat} {vs ys : List Value} {ns : List Int} {bs : List Bool} {oF oD : Obj} {c0 : Option Value} {rest : Led} (z : Same s₁ s')
    (cF : (L + 1 + 1, oF) ∈ rest) (cD : (L + 1, oD) ∈ rest)
    (d : Drw D L1 sd vs ns rest) (hF : oF.data = .cell c0) (hD : oD.data = .cell (some (.ref D))) (w0 : 0 ≤ way) (w1 : way < 3)
    (K : Kds rest ys bs) (len : ys.length ≤ 4) (hV : (V, LCg.lst ys) ∈ rest) (hv : Vl rest V ys way v) (hx : Rp rest v x)
    (F : Fr h₀ L s'.heap fun y => if y = Str.ofString "before" then some (.str x tx) else if y = Str.ofString "value" then some v else if y = Str.ofString "row" then some (.ref V) else if y = Str.ofString "way" then some (.int way tw) else m0 y)
    (N : News h₀ L s'.heap ((D, listOf #[.ref L1, .int sd t] n1) :: (L1, listOf vs.toArray n2) :: rest))

/-- the pairs' word -/
def prOf (way : Int) (ys : List Value) (bs : List Bool) : Bool := decide (way < 2) && (!ys.isEmpty && bs.all id)

/-- behind `pairs = ..` -/
inductive S5 (s₁ : Shared) (h₀ : Heap) (L : Addr) (s' : Shared) : Prop
  | mk {m0 : Str → Option Value} {D L1 V : Addr} {v : Value} {x : Str} {sd way : Int} {t tw tx : Tok} {n1 n2 : Nat} {vs ys : List Value} {ns : List Int} {bs : List Bool} {oF oD : Obj} {c0 : Option Value} {rest : Led} (z : Same s₁ s')
    (cF : (L + 1 + 1, oF) ∈ rest) (cD : (L + 1, oD) ∈ rest)
    (d : Drw D L1 sd vs ns rest) (hF : oF.data = .cell c0) (hD : oD.data = .cell (some (.ref D))) (w0 : 0 ≤ way) (w1 : way < 3)
    (K : Kds rest ys bs) (len : ys.length ≤ 4) (hV : (V, LCg.lst ys) ∈ rest) (hv : Vl rest V ys way v) (hx : Rp rest v x)
    (F : Fr h₀ L s'.heap fun y => if y = Str.ofString "pairs" then some (.bool (prOf way ys bs)) else if y = Str.ofString "before" then some (.str x tx) else if y = Str.ofString "value" then some v else if y = Str.ofString "row" then some (.ref V) else if y = Str.ofString "way" then some (.int way tw) else m0 y)
    (N : News h₀ L s'.heap ((D, listOf #[.ref L1, .int sd t] n1) :: (L1, listOf vs.toArray n2) :: rest))

/-- behind `told, held = ..` -/
inductive S6 (s₁ : Shared) (h₀ : Heap) (L : Addr) (s' : Shared) : Prop
  | mk {m0 : Str → Option Value} {D L1 V : Addr} {v held : Value} {x : Str} {pr : Bool} {sd way : Int} {t tw tx : Tok} {n1 n2 : Nat} {vs ys : List Value} {ns : List Int} {oF oD : Obj} {c0 : Option Value} {rest : Led} (z : Same s₁ s')
    (cF : (L + 1 + 1, oF) ∈ rest) (cD : (L + 1, oD) ∈ rest)
    (d : Drw D L1 sd vs ns rest) (hF : oF.data = .cell c0) (hD : oD.data = .cell (some (.ref D))) (w0 : 0 ≤ way) (w1 : way < 3)
    (hV : (V, LCg.lst ys) ∈ rest) (hv : Vl rest V ys way v) (hx : Rp rest v x) (hh : held = if pr then v else .none) (hp : pr = true → ∃ a, v = .ref a)
    (F : Fr h₀ L s'.heap fun y => if y = Str.ofString "held" then some held else if y = Str.ofString "told" then some (.bool pr) else if y = Str.ofString "pairs" then some (.bool pr) else if y = Str.ofString "before" then some (.str x tx) else if y = Str.ofString "value" then some v else if y = Str.ofString "row" then some (.ref V) else if y = Str.ofString "way" then some (.int way tw) else m0 y)
    (N : News h₀ L s'.heap ((D, listOf #[.ref L1, .int sd t] n1) :: (L1, listOf vs.toArray n2) :: rest))

/-- a text of the pieces -/
inductive Pieces : Str → Prop
  | mk {xs : List Str} (h : ∀ x ∈ xs, x ∈ bits) (hl : xs.length ≤ 4) : Pieces (Txt.join (Str.ofString "") xs)
def frees : List Str := [Str.ofString "", Str.ofString "/", Str.ofString "/?"]

/-- behind `text = ..` -/
inductive S9 (s₁ : Shared) (h₀ : Heap) (L : Addr) (s' : Shared) : Prop
  | mk {m0 : Str → Option Value} {D L1 : Addr} {x : Str} {sd : Int} {t tx : Tok} {n1 n2 : Nat} {vs : List Value} {ns : List Int} {oF oD : Obj} {c0 : Option Value} (z : Same s₁ s')
    (d : Drw D L1 sd vs ns [(L + 1 + 1, oF), (L + 1, oD)]) (hF : oF.data = .cell c0) (hD : oD.data = .cell (some (.ref D))) (hx : Pieces x)
    (F : Fr h₀ L s'.heap fun y => if y = Str.ofString "text" then some (.str x tx) else m0 y)
    (N : News h₀ L s'.heap ((D, listOf #[.ref L1, .int sd t] n1) :: (L1, listOf vs.toArray n2) :: [(L + 1 + 1, oF), (L + 1, oD)]))

/-- behind `free = ..` -/
inductive S10 (s₁ : Shared) (h₀ : Heap) (L : Addr) (s' : Shared) : Prop
  | mk {m0 : Str → Option Value} {x safe : Str} {tx tf : Tok} {oF : Obj} (z : Same s₁ s')
    (hF : oF.data = .cell (some (.str safe tf))) (hx : Pieces x) (hs : safe ∈ frees)
    (F : Fr h₀ L s'.heap fun y => if y = Str.ofString "text" then some (.str x tx) else m0 y)
    (N : News h₀ L s'.heap [(L + 1 + 1, oF)])

/-- behind `quoted = ..` -/
inductive S11 (s₁ : Shared) (h₀ : Heap) (L : Addr) (s' : Shared) : Prop
  | mk {m0 : Str → Option Value} {x safe : Str} {tx tf tq : Tok} {oF : Obj} (z : Same s₁ s')
    (hF : oF.data = .cell (some (.str safe tf))) (hx : Pieces x) (hs : safe ∈ frees)
    (F : Fr h₀ L s'.heap fun y => if y = Str.ofString "quoted" then some (.str (qtext safe (utf8 x).toList) tq) else if y = Str.ofString "text" then some (.str x tx) else m0 y)
    (N : News h₀ L s'.heap [(L + 1 + 1, oF)])
end Mine
end

section
open PySem PySem.W PyProof.Rows
namespace Mine
local macro_rules | `(tactic| walk_at "zz0") => `(tactic| skip)
local macro_rules | `(tactic| walk_at "zz1") => `(tactic| skip)
local macro_rules | `(tactic| walk_at "zz2") => `(tactic| skip)
local macro_rules | `(tactic| walk_at "zz3") => `(tactic| skip)
local macro_rules | `(tactic| walk_at "zz4") => `(tactic| skip)
local macro_rules | `(tactic| walk_at "zz5") => `(tactic| skip)
local macro_rules | `(tactic| walk_at "zz6") => `(tactic| skip)
local macro_rules | `(tactic| walk_at "zz7") => `(tactic| skip)
local macro_rules | `(tactic| walk_at "zz8") => `(tactic| skip)
theorem rstT48 {M : Model} {A : Around} {E : Value → Shared → Prop} {s : Shared} {env : Env} {Q : Flow → Shared → Prop} (h : Q .next s) : wpAny M A (execs [] env) Q E s := by
  w_top off
  walk1
  exact h
end Mine
end

section
open PySem PySem.W PySem.Calls PyProof.Rows
namespace Mine
set_option maxRecDepth 100000
set_option maxHeartbeats 8000000

section
variable {w : World} {mean : ExcName → Option Value} {mg mb : Str → Option Value} {p : Program} {ls : List Str} {dp un : Nat} {a : Addr} {cd : Value} {outer : List Env} {A₀ : Around} {base h₀ : Heap} {L : Addr} {s₁ s : Shared} {E : Value → Shared → Prop}
theorem law_before {q0 q1 q2 q3 q4 : Pos}
    (B : Below A₀ base outer h₀) (X : (hd.heap_39 w.params).In h₀) (T : Top p ls mean mg mb h₀) (hdp : dp + 100 < recursionLimit) (hun : un + 2000 < cLine) (S : S3 s₁ h₀ L s) :
    wpAny (model PySem.Challenge.rw_ah6025_01.row.prog w) (lawA dp un L a cd outer)
      (exec (.Assign [nmE "before" q0] (.Call (nmE "repr" q1) [nmE "value" q2] [] q3) q4) (lawE L a cd)) (fun f s' => f = .next ∧ S4 s₁ h₀ L s') E s := by
  revert X; k_fill; intro X
  obtain @⟨m0, D, L1, V, v, x, sd, way, t, tw, n1, n2, vs, ys, ns, bs, oF, oD, c0, rest, z, cF, cD, d, hF, hD, w0, w1, K, len, hV, hv, hx, F, N⟩ := S
  repeat' ((fail_if_success (with_reducible show wpAny _ _ (call (Value.builtin _) _) _ _ _)); first | (k_unfold; (try dsimp only)) | walk1 | (dsimp only; walk1))
  refine hx _ _ _ _ _ _ (fun p hp => (N p (.tail _ (.tail _ hp))).1) rfl (by show un + 20 < cLine; omega) ?_
  intro h' u tk hk
  have F1 := F.keeps hk
  have N1 := N.grown hk
  clear F N
  k_steps
  any_goals exact trivial
  (rename Fr _ _ _ _ => F2)
  (rename News _ _ _ _ => N2)
  exact S4.mk ⟨z.1, z.2⟩ cF cD d hF hD w0 w1 K len hV hv hx F2 N2
end
end Mine
end

section
open PySem PySem.W PyProof.Rows
namespace Mine
local macro_rules | `(tactic| walk_at "zz0") => `(tactic| skip)
local macro_rules | `(tactic| walk_at "zz1") => `(tactic| skip)
local macro_rules | `(tactic| walk_at "zz2") => `(tactic| skip)
local macro_rules | `(tactic| walk_at "zz3") => `(tactic| skip)
local macro_rules | `(tactic| walk_at "zz4") => `(tactic| skip)
local macro_rules | `(tactic| walk_at "zz5") => `(tactic| skip)
local macro_rules | `(tactic| walk_at "zz6") => `(tactic| skip)
local macro_rules | `(tactic| walk_at "zz7") => `(tactic| skip)
local macro_rules | `(tactic| walk_at "zz8") => `(tactic| skip)
theorem rstT49 {M : Model} {A : Around} {E : Value → Shared → Prop} {s : Shared} {env : Env} {Q : Flow → Shared → Prop} (h : Q .next s) : wpAny M A (execs [] env) Q E s := by
  w_top off
  walk1
  exact h
end Mine
end

section
open PySem PySem.W PySem.Calls PyProof.Rows
namespace Mine
set_option maxRecDepth 100000
set_option maxHeartbeats 8000000

section
variable {A : Around} {s : Shared} {V W : Addr} {ys : List Value}
theorem ne_nil (hl : s.heap.IsList V ys.toArray) (hb : s.heap.IsList W ([] : List Value).toArray) (hu : A.units < cLine) : SeqAt.RcNeAt A s (.ref V) (.ref W) (!ys.isEmpty) := by
  cases ys with
  | nil => exact SeqAt.RcNeAt.lists (e := fun _ => true) hl hb rfl hu (fun j h1 => absurd h1 (Nat.not_lt_zero _))
  | cons y r => exact SeqAt.RcNeAt.lists_lengths hl hb (by simp) hu
theorem eq_nil (hl : s.heap.IsList V ys.toArray) (hb : s.heap.IsList W ([] : List Value).toArray) (hu : A.units < cLine) : SeqAt.RcAt A s (.ref V) (.ref W) ys.isEmpty := by
  cases ys with
  | nil => exact SeqAt.RcAt.lists (e := fun _ => true) hl hb rfl hu (fun j h1 => absurd h1 (Nat.not_lt_zero _))
  | cons y r => exact SeqAt.RcAt.lists_lengths hl hb (by simp) hu
end

section
variable {w : World} {mean : ExcName → Option Value} {mg mb : Str → Option Value} {p : Program} {ls : List Str} {dp un : Nat} {a : Addr} {cd : Value} {outer : List Env} {A₀ : Around} {base h₀ : Heap} {L : Addr} {s₁ s : Shared} {E : Value → Shared → Prop}
theorem law_pairs {q0 q1 q2 q3 q4 q5 q6 q7 q8 q9 p1 p2 p3 p4 p5 p6 p7 px pz r1 r2 r3 r4 r5 r6 r7 : Pos}
    (B : Below A₀ base outer h₀) (X : (hd.heap_39 w.params).In h₀) (T : Top p ls mean mg mb h₀) (hdp : dp + 100 < recursionLimit) (hun : un + 2000 < cLine) (S : S4 s₁ h₀ L s) :
    wpAny (model PySem.Challenge.rw_ah6025_01.row.prog w) (lawA dp un L a cd outer)
      (exec (.Assign [nmE "pairs" q0] (.BoolOp .And [.Compare (nmE "way" q1) [.Lt] [intE 2 q2] q3, .Compare (nmE "row" q4) [.NotEq] [.List [] q5] q6,
        .Compare (.ListComp (nmE "one" p1) [⟨nmE "one" px, nmE "row" p2, [.BoolOp .Or [.UnaryOp .Not (.Call (nmE "isinstance" p3) [nmE "one" p4, nmE "tuple" p5] [] p6) p7, .Compare (.Call (nmE "len" r1) [nmE "one" r2] [] r3) [.NotEq] [intE 2 r4] r5] r6], 0⟩] oddScope pz) [.Eq] [.List [] q7] q8] r7) q9) (lawE L a cd)) (fun f s' => f = .next ∧ S5 s₁ h₀ L s') E s := by
  revert X; k_fill; intro X
  obtain @⟨m0, D, L1, V, v, x, sd, way, t, tw, tx, n1, n2, vs, ys, ns, bs, oF, oD, c0, rest, z, cF, cD, d, hF, hD, w0, w1, K, len, hV, hv, hx, F, N⟩ := S
  have hu1 : (lawA dp un L a cd outer).units < cLine := by show un < cLine; omega
  have fin : ∀ (b : Bool) (s' : Shared), Same s₁ s' → b = prOf way ys bs → (Fr h₀ L s'.heap fun y => if y = Str.ofString "pairs" then some (.bool b) else if y = Str.ofString "before" then some (.str x tx) else if y = Str.ofString "value" then some v else if y = Str.ofString "row" then some (.ref V) else if y = Str.ofString "way" then some (.int way tw) else m0 y) →
      News h₀ L s'.heap ((D, listOf #[.ref L1, .int sd t] n1) :: (L1, listOf vs.toArray n2) :: rest) → S5 s₁ h₀ L s' := by
    rintro b s' z' rfl F' N'
    exact S5.mk z' cF cD d hF hD w0 w1 K len hV hv hx F' N'
  repeat' ((fail_if_success (with_reducible show wpAny _ _ (compareOp _ (Value.ref _) (Value.ref _)) _ _ _)); first | (k_unfold; (try dsimp only)) | walk1 | (dsimp only; walk1))
  · (rename Fr _ _ _ _ => F2)
    (rename News _ _ _ _ => N2)
    refine cmp_ofNotEq (ne_nil (ys := ys) ⟨_, (N2 _ (.tail _ (.tail _ (.tail _ hV)))).1, rfl, _, rfl⟩ ⟨_, (N2 _ (.head _)).1, rfl, _, rfl⟩ hu1 _ _ _ _ ?_)
    (rename way < 2 => hw2)
    cases hye : ys.isEmpty with
    | true =>
      k_steps
      any_goals exact trivial
      (rename Fr _ _ _ _ => F3)
      (rename News _ _ _ _ => N3)
      exact fin _ _ ⟨z.1, z.2⟩ (by unfold prOf; rw [hye]; simp) F3 (cb_drop N3 fun p hp => .tail _ hp)
    | false =>
      repeat' ((fail_if_success (with_reducible show wpAny _ _ (eval (Expr.ListComp _ _ _ _) _) _ _ _)); first | (k_unfold; (try dsimp only)) | walk1 | (dsimp only; walk1))
      refine' odd_comp (k := ys.length) F2 X N2 T ?hk ?h1 ?h2 ?h3 (.tail _ (.tail _ (.tail _ hV))) len (K.mono fun p hp => .tail _ (.tail _ (.tail _ hp))) ?_
      (case hk => rfl); (case h1 => rfl); (case h2 => rfl); (case h3 => rfl)
      intro W us h8 tk8 hus hul hoff F8 N8
      clear F2 N2
      repeat' ((fail_if_success (with_reducible show wpAny _ _ (compareOp _ (Value.ref _) (Value.ref _)) _ _ _)); first | (k_unfold; (try dsimp only)) | walk1 | (dsimp only; walk1))
      (rename Fr _ _ _ _ => F2)
      (rename News _ _ _ _ => N2)
      refine cmp_ofEq (eq_nil (ys := us) ⟨_, (N2 _ (.tail _ (.head _))).1, rfl, _, rfl⟩ ⟨_, (N2 _ (.head _)).1, rfl, _, rfl⟩ hu1 _ _ _ _ ?_)
      k_steps
      any_goals exact trivial
      (rename Fr _ _ _ _ => F3)
      (rename News _ _ _ _ => N3)
      exact fin _ _ ⟨z.1, z.2⟩ (by unfold prOf; rw [hye, hus, decide_eq_true hw2]; simp) F3 (cb_drop N3 fun p hp => .tail _ (.tail _ (.tail _ hp)))
  · (rename ¬ way < 2 => hw2)
    (rename Fr _ _ _ _ => F3)
    (rename News _ _ _ _ => N3)
    exact fin _ _ ⟨z.1, z.2⟩ (by unfold prOf; simp [hw2]) F3 N3
end
end Mine
end

section
open PySem PySem.W PyProof.Rows
namespace Mine
local macro_rules | `(tactic| walk_at "zz0") => `(tactic| skip)
local macro_rules | `(tactic| walk_at "zz1") => `(tactic| skip)
local macro_rules | `(tactic| walk_at "zz2") => `(tactic| skip)
local macro_rules | `(tactic| walk_at "zz3") => `(tactic| skip)
local macro_rules | `(tactic| walk_at "zz4") => `(tactic| skip)
local macro_rules | `(tactic| walk_at "zz5") => `(tactic| skip)
local macro_rules | `(tactic| walk_at "zz6") => `(tactic| skip)
local macro_rules | `(tactic| walk_at "zz7") => `(tactic| skip)
local macro_rules | `(tactic| walk_at "zz8") => `(tactic| skip)
theorem rstT50 {M : Model} {A : Around} {E : Value → Shared → Prop} {s : Shared} {env : Env} {Q : Flow → Shared → Prop} (h : Q .next s) : wpAny M A (execs [] env) Q E s := by
  w_top off
  walk1
  exact h
end Mine
end

section
open PySem PySem.W PySem.Calls PyProof.Rows
namespace Mine
set_option maxRecDepth 100000
set_option maxHeartbeats 8000000

theorem isl_all {w : World} {ls : List Str} {mean : ExcName → Option Value} {mg mb : Str → Option Value} {A : Around} {h₀ : Heap} {L : Addr} {m : Str → Option Value} {s : Shared} {Q E : Value → Shared → Prop} {news rest : Led}
    {N : Nat} {defs : List DefItem} {consts : List (Str × PyData)} {V : Addr} {ys : List Value} {bs : List Bool} {way : Int} {v : Value}
    (F : Fr h₀ L s.heap m) (X : (hd.heap_39 w.params).In h₀) (N0 : News h₀ L s.heap news)
    (T : Top hd.view_39 ls mean mg mb h₀) (G : Glob N mg mb defs consts [] (namesW hd.view_39 [Str.ofString "_encode"]) h₀)
    (hdp : A.depth + 20 < recursionLimit) (hun : A.units + 400 < cLine) (hh : A.handled = none) (hgen : AllBare s.gens) (hsub : ∀ p ∈ rest, p ∈ news) (hV : (V, LCg.lst ys) ∈ rest) (hlen : ys.length ≤ 4) (hK : Kds rest ys bs) (hv : Vl rest V ys way v)
    (hret : ∀ (P tup : Addr) (r : Bool) (held : Value) (ps' : Array Value) (s' : Shared), r = prOf way ys bs → (held = if r then v else .none) → (r = true → ∃ a, v = .ref a) → Based h₀ (regrown h₀ P ps') 20 P ps' → Fr (regrown h₀ P ps') L s'.heap m →
      News (regrown h₀ P ps') L s'.heap ((tup, pairObj (.bool r) held) :: news) → AllBare s'.gens → s'.os = s.os → Q (.ref tup) s') :
    wpAny (model PySem.Challenge.rw_ah6025_01.row.prog w) A (call (.ref 21) [v]) Q E s := by
  cases hv with
  | row =>
    refine isl_list F X N0 T G hdp hun hh hgen ⟨_, (N0 _ (hsub _ hV)).1, rfl, _, rfl⟩ (by omega) (hK.mono hsub) ?_
    intro P tup r held ps' s' hr hhd
    exact hret P tup r held ps' s' (by rw [hr]; unfold prOf; simp) hhd fun _ => ⟨_, rfl⟩
  | tup hT =>
    refine isl_tuple F X N0 T G hdp hun hh hgen ⟨_, (N0 _ (hsub _ hT)).1, rfl, _, rfl⟩ (by omega) (hK.mono hsub) ?_
    intro P tup r held ps' s' hr hhd
    exact hret P tup r held ps' s' (by rw [hr]; unfold prOf; simp) hhd fun _ => ⟨_, rfl⟩
  | @oth v dc tb k t =>
    have H := Holds.of N0
    refine isl_other (dc := dc) (tb := tb) F X N0 T G hdp hun hh hgen ?_ ?_ ?_
    · cases k with
      | dict hm hc => exact .dict (hsub _ hm) hc
      | str => exact .str
      | int => exact .int
      | none => exact .none
    · intro A' E' Q' s' hk hq
      exact t _ _ _ _ _ _ (fun p hp => hk _ _ (H p (hsub p hp))) hq
    · intro P tup ps' s' b f n
      exact hret P tup false .none ps' s' (by unfold prOf; simp) rfl (fun e => nomatch e) b f n
end Mine
end

section
open PySem PySem.W PyProof.Rows
namespace Mine
local macro_rules | `(tactic| walk_at "zz0") => `(tactic| skip)
local macro_rules | `(tactic| walk_at "zz1") => `(tactic| skip)
local macro_rules | `(tactic| walk_at "zz2") => `(tactic| skip)
local macro_rules | `(tactic| walk_at "zz3") => `(tactic| skip)
local macro_rules | `(tactic| walk_at "zz4") => `(tactic| skip)
local macro_rules | `(tactic| walk_at "zz5") => `(tactic| skip)
local macro_rules | `(tactic| walk_at "zz6") => `(tactic| skip)
local macro_rules | `(tactic| walk_at "zz7") => `(tactic| skip)
local macro_rules | `(tactic| walk_at "zz8") => `(tactic| skip)
theorem rstT51 {M : Model} {A : Around} {E : Value → Shared → Prop} {s : Shared} {env : Env} {Q : Flow → Shared → Prop} (h : Q .next s) : wpAny M A (execs [] env) Q E s := by
  w_top off
  walk1
  exact h
end Mine
end

section
open PySem PySem.W PySem.Calls PyProof.Rows
namespace Mine
set_option maxRecDepth 100000
set_option maxHeartbeats 8000000

theorem heap_classed (w : World) : kb_classed (hd.heap_39 w.params) = true := by rfl
/-- S6 above the text's base, its one table grown -/
inductive S6r (s₁ : Shared) (h₀ : Heap) (L : Addr) (s' : Shared) : Prop
  | mk {P : Addr} {ps ps' : Array Value} (B0 : Based h₀ h₀ 20 P ps) (B : Based h₀ (regrown h₀ P ps') 20 P ps') (S : S6 s₁ (regrown h₀ P ps') L s')
theorem same_tab {h : Heap} {c P P' : Addr} {ps ps' : Array Value} (x : h.TableAt c P ps) (y : h.TableAt c P' ps') : P = P' := by
  obtain ⟨⟨o, vs, h1, -, h2, h3⟩, -⟩ := x
  obtain ⟨⟨o', vs', h1', -, h2', h3'⟩, -⟩ := y
  obtain rfl : o = o' := Option.some.inj (h1.symm.trans h1')
  rw [h2] at h2'
  injection h2' with e
  rw [← e, h3] at h3'
  injection h3' with e2
  injection e2

section
variable {w : World} {mean : ExcName → Option Value} {mg mb : Str → Option Value} {ls : List Str} {dp un : Nat} {a : Addr} {cd : Value} {outer : List Env} {A₀ : Around} {base h₀ : Heap} {L : Addr} {s₁ s : Shared} {E : Value → Shared → Prop} {Ng : Nat} {defs : List DefItem} {consts : List (Str × PyData)}
theorem law_told {q0 q1 q2 q3 q4 q5 q6 : Pos}
    (B : Below A₀ base outer h₀) (X : (hd.heap_39 w.params).In h₀) (T : Top hd.view_39 ls mean mg mb h₀) (G : Glob Ng mg mb defs consts [] (namesW hd.view_39 [Str.ofString "_encode"]) h₀) (hdp : dp + 100 < recursionLimit) (hun : un + 2000 < cLine) (S : S5 s₁ h₀ L s) :
    wpAny (model PySem.Challenge.rw_ah6025_01.row.prog w) (lawA dp un L a cd outer)
      (exec (.Assign [.Tuple [nmE "told" q0, nmE "held" q1] 0 q2] (.Call (nmE "is_list_of_tuples" q3) [nmE "value" q4] [] q5) q6) (lawE L a cd)) (fun f s' => f = .next ∧ S6r s₁ h₀ L s') E s := by
  revert X; k_fill; intro X
  obtain @⟨m0, D, L1, V, v, x, sd, way, t, tw, tx, n1, n2, vs, ys, ns, bs, oF, oD, c0, rest, z, cF, cD, d, hF, hD, w0, w1, K, len, hV, hv, hx, F, N⟩ := S
  repeat' ((fail_if_success (with_reducible show wpAny _ _ (call (Value.ref 21) _) _ _ _)); first | (k_unfold; (try dsimp only)) | walk1 | (dsimp only; walk1))
  refine isl_all (rest := rest) F X N T G (by show dp + 20 < _; omega) (by show un + 400 < _; omega) rfl z.gens (fun p hp => .tail _ (.tail _ hp)) hV len K hv ?_
  intro P tup r held ps' s' hr hh hp Bd F1 N1 hg hos
  clear F N
  have hm : mg (Str.ofString "is_list_of_tuples") = some (.ref 21) := mg_of X T.g (by k_is)
  have ho := X 21 _ (by k_is)
  obtain ⟨c, P0, hc, B0⟩ := based_of_top T rfl hm ho rfl
  obtain rfl : c = 20 := by cases hc; rfl
  obtain rfl : P0 = P := by
    obtain ⟨ps₁, ht⟩ := Bd.tab₁
    exact same_tab B0.tab ht
  have T1 := top_regrown (ps' := ps') T B0
  have X1 : (hd.heap_39 w.params).In (regrown h₀ P0 ps') := kb_in_regrown B0 X T.g (heap_classed w)
  clear hm ho hc T X B G
  k_steps
  any_goals exact trivial
  (rename Fr _ _ _ _ => F2)
  (rename News _ _ _ _ => N2)
  rw [hr] at F2
  exact .mk B0 Bd (S6.mk ⟨hg, hos.trans z.2⟩ cF cD d hF hD w0 w1 hV hv hx (by rw [← hr]; exact hh) (by rw [← hr]; exact hp) F2 (cb_drop N2 fun p hp => .tail _ hp))
end
end Mine
end

section
open PySem PySem.W PyProof.Rows
namespace Mine
local macro_rules | `(tactic| walk_at "zz0") => `(tactic| skip)
local macro_rules | `(tactic| walk_at "zz1") => `(tactic| skip)
local macro_rules | `(tactic| walk_at "zz2") => `(tactic| skip)
local macro_rules | `(tactic| walk_at "zz3") => `(tactic| skip)
local macro_rules | `(tactic| walk_at "zz4") => `(tactic| skip)
local macro_rules | `(tactic| walk_at "zz5") => `(tactic| skip)
local macro_rules | `(tactic| walk_at "zz6") => `(tactic| skip)
local macro_rules | `(tactic| walk_at "zz7") => `(tactic| skip)
local macro_rules | `(tactic| walk_at "zz8") => `(tactic| skip)
theorem rstT52 {M : Model} {A : Around} {E : Value → Shared → Prop} {s : Shared} {env : Env} {Q : Flow → Shared → Prop} (h : Q .next s) : wpAny M A (execs [] env) Q E s := by
  w_top off
  walk1
  exact h
end Mine
end

section
open PySem PySem.W PySem.Calls PyProof.Rows
namespace Mine
set_option maxRecDepth 100000
set_option maxHeartbeats 8000000

section
variable {w : World} {mean : ExcName → Option Value} {mg mb : Str → Option Value} {p : Program} {ls : List Str} {dp un : Nat} {a : Addr} {cd : Value} {outer : List Env} {A₀ : Around} {base h₀ : Heap} {L : Addr} {s₁ s : Shared} {E : Value → Shared → Prop}
theorem law_if1 {q0 q1 q2 q3 q4 q5 q6 q7 q8 q9 r0 r1 r2 r3 r4 r5 r6 r7 r8 r9 : Pos}
    (B : Below A₀ base outer h₀) (X : (hd.heap_39 w.params).In h₀) (T : Top p ls mean mg mb h₀) (hdp : dp + 100 < recursionLimit) (hun : un + 2000 < cLine) (S : S6 s₁ h₀ L s) :
    wpAny (model PySem.Challenge.rw_ah6025_01.row.prog w) (lawA dp un L a cd outer)
      (exec (.If (.BoolOp .Or [.Compare (nmE "told" q0) [.IsNot] [nmE "pairs" q1] q2, .IfExp (nmE "pairs" q3) (.Compare (nmE "held" q4) [.IsNot] [nmE "value" q5] q6) (.Compare (nmE "held" q7) [.IsNot] [.Constant .none 0 q8] q9) r0,
        .Compare (.Call (nmE "repr" r1) [nmE "value" r2] [] r3) [.NotEq] [nmE "before" r4] r5] r6) [.Return (some (.Constant (.bool false) 0 r7)) r8] [] r9) (lawE L a cd)) (fun f s' => f = .next ∧ S6 s₁ h₀ L s') E s := by
  revert X; k_fill; intro X
  obtain @⟨m0, D, L1, V, v, held, x, pr, sd, way, t, tw, tx, n1, n2, vs, ys, ns, oF, oD, c0, rest, z, cF, cD, d, hF, hD, w0, w1, hV, hv, hx, hh, hp, F, N⟩ := S
  have fin : ∀ (s' : Shared), Same s₁ s' → (Fr h₀ L s'.heap fun y => if y = Str.ofString "held" then some held else if y = Str.ofString "told" then some (.bool pr) else if y = Str.ofString "pairs" then some (.bool pr) else if y = Str.ofString "before" then some (.str x tx) else if y = Str.ofString "value" then some v else if y = Str.ofString "row" then some (.ref V) else if y = Str.ofString "way" then some (.int way tw) else m0 y) →
      News h₀ L s'.heap ((D, listOf #[.ref L1, .int sd t] n1) :: (L1, listOf vs.toArray n2) :: rest) → S6 s₁ h₀ L s' := fun s' z' F' N' => S6.mk z' cF cD d hF hD w0 w1 hV hv hx hh hp F' N'
  cases pr with
  | true =>
    obtain ⟨va, rfl⟩ := hp rfl
    obtain rfl : held = .ref va := hh
    repeat' ((fail_if_success (with_reducible show wpAny _ _ (call (Value.builtin _) _) _ _ _)); first | (k_unfold; (try dsimp only)) | walk1 | (dsimp only; walk1))
    refine hx _ _ _ _ _ _ (fun p hp => (N p (.tail _ (.tail _ hp))).1) rfl (by show un + 20 < cLine; omega) ?_
    intro h' u tk hk
    have F1 := F.keeps hk
    have N1 := N.grown hk
    clear F N
    k_steps
    all_goals first
      | (exfalso; (rename (x != x) = true => hq); simp at hq; done)
      | exact trivial
      | exact fin _ ⟨z.1, z.2⟩ F1 N1
  | false =>
    obtain rfl : held = .none := hh
    repeat' ((fail_if_success (with_reducible show wpAny _ _ (call (Value.builtin _) _) _ _ _)); first | (k_unfold; (try dsimp only)) | walk1 | (dsimp only; walk1))
    refine hx _ _ _ _ _ _ (fun p hp => (N p (.tail _ (.tail _ hp))).1) rfl (by show un + 20 < cLine; omega) ?_
    intro h' u tk hk
    have F1 := F.keeps hk
    have N1 := N.grown hk
    clear F N
    k_steps
    all_goals first
      | (exfalso; (rename (x != x) = true => hq); simp at hq; done)
      | exact trivial
      | exact fin _ ⟨z.1, z.2⟩ F1 N1
end
end Mine
end

section
open PySem PySem.W PyProof.Rows
namespace Mine
local macro_rules | `(tactic| walk_at "zz0") => `(tactic| skip)
local macro_rules | `(tactic| walk_at "zz1") => `(tactic| skip)
local macro_rules | `(tactic| walk_at "zz2") => `(tactic| skip)
local macro_rules | `(tactic| walk_at "zz3") => `(tactic| skip)
local macro_rules | `(tactic| walk_at "zz4") => `(tactic| skip)
local macro_rules | `(tactic| walk_at "zz5") => `(tactic| skip)
local macro_rules | `(tactic| walk_at "zz6") => `(tactic| skip)
local macro_rules | `(tactic| walk_at "zz7") => `(tactic| skip)
local macro_rules | `(tactic| walk_at "zz8") => `(tactic| skip)
theorem rstT53 {M : Model} {A : Around} {E : Value → Shared → Prop} {s : Shared} {env : Env} {Q : Flow → Shared → Prop} (h : Q .next s) : wpAny M A (execs [] env) Q E s := by
  w_top off
  walk1
  exact h
end Mine
end

section
open PySem PySem.W PySem.Calls PyProof.Rows
namespace Mine
set_option maxRecDepth 100000
set_option maxHeartbeats 8000000

theorem Vl.kind {R : Led} {V : Addr} {ys : List Value} {way : Int} {v : Value} (h : Vl R V ys way v) (hV : (V, LCg.lst ys) ∈ R) : ∃ dc, Vk R v (decide (way < 2)) dc := by
  cases h with
  | row => exact ⟨_, .list hV rfl⟩
  | tup h => exact ⟨_, .tuple h rfl⟩
  | oth k _ => exact ⟨_, k⟩
theorem Vk.mono {R R' : Led} {v : Value} {a b : Bool} (h : Vk R v a b) (hs : ∀ p ∈ R, p ∈ R') : Vk R' v a b := by
  cases h with
  | list h c => exact .list (hs _ h) c
  | tuple h c => exact .tuple (hs _ h) c
  | dict h c => exact .dict (hs _ h) c
  | str => exact .str
  | int => exact .int
  | none => exact .none

section
variable {w : World} {mean : ExcName → Option Value} {mg mb : Str → Option Value} {p : Program} {ls : List Str} {dp un : Nat} {a : Addr} {cd : Value} {outer : List Env} {A₀ : Around} {base h₀ : Heap} {L : Addr} {s₁ s : Shared} {E : Value → Shared → Prop}
theorem law_if2 {q0 q1 q2 q3 q4 q5 q6 q7 q8 q9 r0 r1 r2 r3 r4 r5 r6 r7 r8 : Pos}
    (B : Below A₀ base outer h₀) (X : (hd.heap_39 w.params).In h₀) (T : Top p ls mean mg mb h₀) (hdp : dp + 100 < recursionLimit) (hun : un + 2000 < cLine) (S : S6 s₁ h₀ L s) :
    wpAny (model PySem.Challenge.rw_ah6025_01.row.prog w) (lawA dp un L a cd outer)
      (exec (.If (.BoolOp .Or [.Compare (.Call (nmE "list_test" q0) [nmE "value" q1] [] q2) [.IsNot] [.Compare (nmE "way" q3) [.Lt] [intE 2 q4] q5] q6,
        .Compare (.Call (nmE "dict_test" q7) [nmE "value" q8] [] q9) [.IsNot] [.Call (nmE "isinstance" r0) [nmE "value" r1, nmE "dict" r2] [] r3] r4] r5) [.Return (some (.Constant (.bool false) 0 r6)) r7] [] r8) (lawE L a cd)) (fun f s' => f = .next ∧ S6 s₁ h₀ L s') E s := by
  revert X; k_fill; intro X
  obtain @⟨m0, D, L1, V, v, held, x, pr, sd, way, t, tw, tx, n1, n2, vs, ys, ns, oF, oD, c0, rest, z, cF, cD, d, hF, hD, w0, w1, hV, hv, hx, hh, hp, F, N⟩ := S
  have fin : ∀ (s' : Shared), Same s₁ s' → (Fr h₀ L s'.heap fun y => if y = Str.ofString "held" then some held else if y = Str.ofString "told" then some (.bool pr) else if y = Str.ofString "pairs" then some (.bool pr) else if y = Str.ofString "before" then some (.str x tx) else if y = Str.ofString "value" then some v else if y = Str.ofString "row" then some (.ref V) else if y = Str.ofString "way" then some (.int way tw) else m0 y) →
      News h₀ L s'.heap ((D, listOf #[.ref L1, .int sd t] n1) :: (L1, listOf vs.toArray n2) :: rest) → S6 s₁ h₀ L s' := fun s' z' F' N' => S6.mk z' cF cD d hF hD w0 w1 hV hv hx hh hp F' N'
  obtain ⟨dc, k0⟩ := hv.kind hV
  have k := k0.mono (R' := (D, listOf #[.ref L1, .int sd t] n1) :: (L1, listOf vs.toArray n2) :: rest) fun p hp => .tail _ (.tail _ hp)
  repeat' ((fail_if_success (with_reducible show wpAny _ _ (call (Value.ref 28) _) _ _ _)); first | (k_unfold; (try dsimp only)) | walk1 | (dsimp only; walk1))
  refine listTest_ok B F X N T rfl k (by omega) (by omega) ?_
  intro h1 tk1 F1 N1
  clear F N
  repeat' ((fail_if_success (with_reducible show wpAny _ _ (call (Value.ref 35) _) _ _ _)); first | (k_unfold; (try dsimp only)) | walk1 | (dsimp only; walk1))
  · exfalso; (rename (decide (way < 2) != decide (way < 2)) = true => hq); simp at hq
  · exfalso; (rename (decide (way < 2) != decide (way < 2)) = true => hq); simp at hq
  refine dictTest_ok B F1 X N1 T rfl k (by omega) (by omega) ?_
  intro h2 tk2 F2 N2
  clear F1 N1
  repeat' ((fail_if_success (with_reducible show wpAny _ _ (call (Value.builtin "isinstance") _) _ _ _)); first | (k_unfold; (try dsimp only)) | walk1 | (dsimp only; walk1))
  refine isiD_any k (fun p hp => (N2 p hp).1) ?_
  intro tk3
  k_steps
  all_goals first
    | (exfalso; (rename (dc != dc) = true => hq); simp at hq; done)
    | exact trivial
    | exact fin _ ⟨z.1, z.2⟩ F2 N2
end
end Mine
end

section
open PySem PySem.W PyProof.Rows
namespace Mine
local macro_rules | `(tactic| walk_at "zz0") => `(tactic| skip)
local macro_rules | `(tactic| walk_at "zz1") => `(tactic| skip)
local macro_rules | `(tactic| walk_at "zz2") => `(tactic| skip)
local macro_rules | `(tactic| walk_at "zz3") => `(tactic| skip)
local macro_rules | `(tactic| walk_at "zz4") => `(tactic| skip)
local macro_rules | `(tactic| walk_at "zz5") => `(tactic| skip)
local macro_rules | `(tactic| walk_at "zz6") => `(tactic| skip)
local macro_rules | `(tactic| walk_at "zz7") => `(tactic| skip)
local macro_rules | `(tactic| walk_at "zz8") => `(tactic| skip)
theorem rstT54 {M : Model} {A : Around} {E : Value → Shared → Prop} {s : Shared} {env : Env} {Q : Flow → Shared → Prop} (h : Q .next s) : wpAny M A (execs [] env) Q E s := by
  w_top off
  walk1
  exact h
end Mine
end

section
open PySem PySem.W PySem.Calls PyProof.Rows
namespace Mine
set_option maxRecDepth 100000
set_option maxHeartbeats 8000000

theorem bits_len : ∀ x ∈ bits, x.length ≤ 4 := by decide +kernel
theorem bits_sum : ∀ {xs : List Str}, (∀ x ∈ xs, x ∈ bits) → (xs.map (·.length)).sum ≤ 4 * xs.length
  | [], _ => Nat.le_refl _
  | x :: r, h => by
    have h1 := bits_len x (h x (List.mem_cons_self ..))
    have h2 := bits_sum (xs := r) fun y hy => h y (List.mem_cons_of_mem _ hy)
    simp only [List.map_cons, List.sum_cons, List.length_cons]
    omega

section
variable {w : World} {mean : ExcName → Option Value} {mg mb : Str → Option Value} {p : Program} {ls : List Str} {dp un : Nat} {a : Addr} {cd : Value} {outer : List Env} {A₀ : Around} {base h₀ : Heap} {L : Addr} {s₁ s : Shared} {E : Value → Shared → Prop}
theorem law_text {p1 p2 p3 p4 p5 p6 p7 p8 p9 px q1 q2 q3 q4 q5 q6 q7 q8 q9 pz py r0 r4 : Pos}
    (B : Below A₀ base outer h₀) (X : (hd.heap_39 w.params).In h₀) (T : Top p ls mean mg mb h₀) (hdp : dp + 100 < recursionLimit) (hun : un + 2000 < cLine) (S : S6 s₁ h₀ L s) :
    wpAny (model PySem.Challenge.rw_ah6025_01.row.prog w) (lawA dp un L a cd outer)
      (exec (.Assign [nmE "text" r0] (.Call (.Attribute (strE "" ⟨56, 11, 56, 13⟩) (Str.ofString "join") ⟨56, 11, 56, 18⟩) [.ListComp (.Subscript (.List [strE "aZ5-" q1, strE "ü" q2, strE "/?" q3, strE "%2" q4, strE " " q5, strE "😀" q6, strE "~_." q7] q8) (.Call (nmE "_law_take" p1) [nmE "draw" p2, intE 7 q9] [] p3) py) [⟨nmE "k" px, .Call (nmE "range" p4) [.Call (nmE "_law_take" p5) [nmE "draw" p6, intE 5 p7] [] p8] [] p9, [], 0⟩] textScope pz] [] ⟨56, 11, 56, 123⟩) r4) (lawE L a cd)) (fun f s' => f = .next ∧ S9 s₁ h₀ L s') E s := by
  revert X; k_fill; intro X
  obtain @⟨m0, D, L1, V, v, held, x, pr, sd, way, t, tw, tx, n1, n2, vs, ys, ns, oF, oD, c0, rest, z, cF, cD, d, hF, hD, w0, w1, hV, hv, hx, hh, hp, F, N⟩ := S
  have N0 : News h₀ L s.heap ((D, listOf #[.ref L1, .int sd t] n1) :: (L1, listOf vs.toArray n2) :: [(L + 1 + 1, oF), (L + 1, oD)]) := fun q hq => N q (by
    rcases List.mem_cons.mp hq with rfl | hq
    · exact .head _
    · rcases List.mem_cons.mp hq with rfl | hq
      · exact .tail _ (.head _)
      · rcases List.mem_cons.mp hq with rfl | hq
        · exact .tail _ (.tail _ cF)
        · rw [List.mem_singleton.mp hq]
          exact .tail _ (.tail _ cD))
  have d0 : Drw D L1 sd vs ns [(L + 1 + 1, oF), (L + 1, oD)] := ⟨d.ne, d.i, d.len, d.s0, d.s1, List.forall_mem_cons.mpr ⟨d.off _ cF, List.forall_mem_cons.mpr ⟨d.off _ cD, List.forall_mem_nil _⟩⟩, List.forall_mem_cons.mpr ⟨d.off1 _ cF, List.forall_mem_cons.mpr ⟨d.off1 _ cD, List.forall_mem_nil _⟩⟩⟩
  clear N d cF cD hV hv hx
  generalize (fun y => if y = Str.ofString "held" then some held else if y = Str.ofString "told" then some (Value.bool pr) else if y = Str.ofString "pairs" then some (.bool pr) else if y = Str.ofString "before" then some (.str x tx) else if y = Str.ofString "value" then some v else if y = Str.ofString "row" then some (.ref V) else if y = Str.ofString "way" then some (.int way tw) else m0 y) = m1 at F
  repeat' ((fail_if_success (with_reducible show wpAny _ _ (eval (Expr.ListComp _ _ _ _) _) _ _ _)); first | (k_unfold; (try dsimp only)) | walk1 | (dsimp only; walk1))
  (with_reducible refine' text_comp (cA := L + 1) (oc := oD) (t := t) (n1 := n1) (n2 := n2) (rest := [(L + 1 + 1, oF), (L + 1, oD)]) ?kB ?kF ?kX ?kN ?kT ?hk ?hc ?hoc ?h1 ?h2 ?h3 ?h4 ?h5 ?e1 ?e2 ?e3 ?e4 ?e5 ?e6 ?e7 ?e8 ?e9 ?_)
  (case kB => exact B); (case kF => exact F); (case kX => exact X); (case kN => exact N0); (case kT => exact T); (case hk => rfl); (case hc => exact .tail _ (.head _)); (case hoc => exact hD); (case h1 => rfl); (case h2 => rfl); (case h3 => rfl); (case h4 => rfl); (case h5 => rfl); (case e1 => exact d0.ne); (case e2 => exact d0.off); (case e3 => exact d0.off1); (case e4 => exact d0.i); (case e5 => exact d0.len); (case e6 => exact d0.s0); (case e7 => exact d0.s1); (case e8 => omega); (case e9 => omega)
  intro U us xs h1 tk1 sd1 t1 n3 n4 vs1 ns1 hst hb hl hU0 hU1 hi1 hlen1 hs2 hs3 F1 N1
  clear F N0
  repeat' ((fail_if_success (with_reducible show wpAny _ _ (call (Value.builtin "str.join") _) _ _ _)); first | (k_unfold; (try dsimp only)) | walk1 | (dsimp only; walk1))
  refine join_listW (News.isList N1 (.head _)) hst (by decide) (by have := bits_sum hb; omega) ?_
  intro t8 k8
  k_steps
  any_goals exact trivial
  (rename Fr _ _ _ _ => F2)
  (rename News _ _ _ _ => N2)
  exact S9.mk ⟨z.1, z.2⟩ ⟨d0.ne, hi1, hlen1, hs2, hs3, d0.off, d0.off1⟩ hF hD (.mk hb hl) F2 (cb_drop N2 fun p hp => .tail _ hp)
end
end Mine
end

section
open PySem PySem.W PyProof.Rows
namespace Mine
local macro_rules | `(tactic| walk_at "zz0") => `(tactic| skip)
local macro_rules | `(tactic| walk_at "zz1") => `(tactic| skip)
local macro_rules | `(tactic| walk_at "zz2") => `(tactic| skip)
local macro_rules | `(tactic| walk_at "zz3") => `(tactic| skip)
local macro_rules | `(tactic| walk_at "zz4") => `(tactic| skip)
local macro_rules | `(tactic| walk_at "zz5") => `(tactic| skip)
local macro_rules | `(tactic| walk_at "zz6") => `(tactic| skip)
local macro_rules | `(tactic| walk_at "zz7") => `(tactic| skip)
local macro_rules | `(tactic| walk_at "zz8") => `(tactic| skip)
theorem rstT55 {M : Model} {A : Around} {E : Value → Shared → Prop} {s : Shared} {env : Env} {Q : Flow → Shared → Prop} (h : Q .next s) : wpAny M A (execs [] env) Q E s := by
  w_top off
  walk1
  exact h
end Mine
end

section
open PySem PySem.W PySem.Calls PyProof.Rows
namespace Mine
set_option maxRecDepth 100000
set_option maxHeartbeats 8000000

theorem keep34 {h₀ h : Heap} {L : Addr} {x y z u v : Addr × Obj} (N : News h₀ L h [x, y, z, u, v]) : News h₀ L h [z, u] := fun p hp => N p (by
  rcases List.mem_cons.mp hp with rfl | hp
  · exact .tail _ (.tail _ (.head _))
  · rw [List.mem_singleton.mp hp]
    exact .tail _ (.tail _ (.tail _ (.head _))))

section
variable {w : World} {mean : ExcName → Option Value} {mg mb : Str → Option Value} {p : Program} {ls : List Str} {dp un : Nat} {a : Addr} {cd : Value} {outer : List Env} {A₀ : Around} {base h₀ : Heap} {L : Addr} {s₁ s : Shared} {E : Value → Shared → Prop}
theorem law_free {p1 p2 p3 p4 p5 p6 p7 p8 p9 q1 q2 : Pos}
    (B : Below A₀ base outer h₀) (X : (hd.heap_39 w.params).In h₀) (T : Top p ls mean mg mb h₀) (hdp : dp + 100 < recursionLimit) (hun : un + 2000 < cLine) (S : S9 s₁ h₀ L s) :
    wpAny (model PySem.Challenge.rw_ah6025_01.row.prog w) (lawA dp un L a cd outer)
      (exec (.Assign [nmE "free" p1] (.Subscript (.List [strE "" p2, strE "/" p3, strE "/?" p4] p5) (.Call (nmE "_law_take" p6) [nmE "draw" p7, intE 3 p8] [] p9) q1) q2) (lawE L a cd)) (fun f s' => f = .next ∧ S10 s₁ h₀ L s') E s := by
  revert X; k_fill; intro X
  obtain @⟨m0, D, L1, x, sd, t, tx, n1, n2, vs, ns, oF, oD, c0, z, d, hF, hD, hx, F, N⟩ := S
  repeat' ((fail_if_success (with_reducible show wpAny _ _ (call (Value.ref 60) _) _ _ _)); first | (k_unfold; (try dsimp only)) | walk1 | (dsimp only; walk1))
  rename_i l' h' F' N' l1'
  have a1 : @LT.lt Nat _ D l' := l1'.1
  have a2 : @LT.lt Nat _ L1 l' := l1'.2.1
  have a3 : @LT.lt Nat _ (L + 1 + 1) l' := l1'.2.2.1
  have b1 : ∀ o : Obj, ∀ p ∈ (l', o) :: [(L + 1 + 1, oF), (L + 1, oD)], p.1 ≠ D := fun o => List.forall_mem_cons.mpr ⟨by k_ne, d.off⟩
  have b2 : ∀ o : Obj, ∀ p ∈ (l', o) :: [(L + 1 + 1, oF), (L + 1, oD)], p.1 ≠ L1 := fun o => List.forall_mem_cons.mpr ⟨by k_ne, d.off1⟩
  refine take_ok B F' X (Mv.news (.tail .here) N') T rfl d.ne (b1 _) (b2 _) d.i d.len d.s0 d.s1 (by decide) (by decide) (by omega) (by omega) ?_
  intro k tr h1 tk1 sd1 t1 n3 n4 vs1 ns1 hk0 hk1 hi1 hlen1 hs2 hs3 F1 N1
  have N3 := keep34 N1
  clear F' N' N1
  have hk3 : k = 0 ∨ k = 1 ∨ k = 2 := by omega
  rcases hk3 with rfl | rfl | rfl
  all_goals k_steps
  any_goals exact trivial
  all_goals (
    (rename Fr _ _ _ _ => F2)
    (rename News _ _ _ _ => N2)
    (rename Obj.data _ = Data.cell (some (Value.str _ _)) => hc)
    exact S10.mk ⟨z.1, z.2⟩ hc hx (by unfold frees; first | exact .head _ | exact .tail _ (.head _) | exact .tail _ (.tail _ (.head _))) F2 (cb_drop N2 fun p hp => .tail _ hp))
end
end Mine
end

section
open PySem PySem.W PyProof.Rows
namespace Mine
local macro_rules | `(tactic| walk_at "zz0") => `(tactic| skip)
local macro_rules | `(tactic| walk_at "zz1") => `(tactic| skip)
local macro_rules | `(tactic| walk_at "zz2") => `(tactic| skip)
local macro_rules | `(tactic| walk_at "zz3") => `(tactic| skip)
local macro_rules | `(tactic| walk_at "zz4") => `(tactic| skip)
local macro_rules | `(tactic| walk_at "zz5") => `(tactic| skip)
local macro_rules | `(tactic| walk_at "zz6") => `(tactic| skip)
local macro_rules | `(tactic| walk_at "zz7") => `(tactic| skip)
local macro_rules | `(tactic| walk_at "zz8") => `(tactic| skip)
theorem rstT57 {M : Model} {A : Around} {E : Value → Shared → Prop} {s : Shared} {env : Env} {Q : Flow → Shared → Prop} (h : Q .next s) : wpAny M A (execs [] env) Q E s := by
  w_top off
  walk1
  exact h
end Mine
end

section
open PySem PySem.W PySem.Calls PyProof.Rows
namespace Mine
set_option maxRecDepth 100000

theorem pieces_eq {x : Str} (h : Pieces x) : ∃ xs : List Str, (∀ y ∈ xs, y ∈ bits) ∧ xs.length ≤ 4 ∧ x = ⟨(xs.flatMap fun y => y.cps.toList).toArray⟩ := by
  cases h with
  | @mk xs h hl =>
    refine ⟨xs, h, hl, ?_⟩
    show Builtin.Str.glued (Str.ofString "") _ = _
    rw [StrLaws.glued_eq_join, join_empty]
theorem pieces_plain {x : Str} (h : Pieces x) : x.cps.any Str.isSurrogate = false := by
  obtain ⟨xs, hb, -, rfl⟩ := pieces_eq h
  show ((xs.flatMap fun y => y.cps.toList).toArray).any Str.isSurrogate = false
  rw [List.any_toArray, List.any_flatMap]
  rw [List.any_eq_false]
  intro y hy
  have := (by decide +kernel : ∀ y ∈ bits, y.cps.toList.any Str.isSurrogate = false) y (hb y hy)
  simpa using this
def wt (l : List Nat) : Nat := (l.map fun c => (Str.utf8Of c).length).sum
theorem utf8_fold (l : List Nat) : ∀ acc : Array UInt8, (l.foldl (fun acc y => acc ++ (Str.utf8Of y).toArray) acc).size = acc.size + wt l := by
  induction l with
  | nil => intro acc; simp [wt]
  | cons c r ih =>
    intro acc
    rw [List.foldl_cons, ih]
    simp only [Array.size_append, List.size_toArray, wt, List.map_cons, List.sum_cons]
    omega
theorem utf8_size (x : Str) : (utf8 x).size = wt x.cps.toList := by
  unfold utf8
  rw [← Array.foldl_toList, utf8_fold]
  simp
theorem wt_append (a b : List Nat) : wt (a ++ b) = wt a + wt b := by simp [wt]
theorem pieces_utf8 {x : Str} (h : Pieces x) : (utf8 x).size ≤ 16 := by
  obtain ⟨xs, hb, hl, rfl⟩ := pieces_eq h
  rw [utf8_size]
  show wt (xs.flatMap fun y => y.cps.toList) ≤ 16
  have : wt (xs.flatMap fun y => y.cps.toList) ≤ 4 * xs.length := by
    clear hl h
    induction xs with
    | nil => exact Nat.le_refl _
    | cons y r ih =>
      have h1 := (by decide +kernel : ∀ y ∈ bits, wt y.cps.toList ≤ 4) y (hb y (List.mem_cons_self ..))
      have h2 := ih fun y hy => hb y (List.mem_cons_of_mem _ hy)
      rw [List.flatMap_cons, wt_append, List.length_cons]
      omega
  omega
theorem frees_len {safe : Str} (h : safe ∈ frees) : safe.length ≤ 10 := (by decide +kernel : ∀ y ∈ frees, y.length ≤ 10) safe h
theorem frees_37 {safe : Str} (h : safe ∈ frees) : 37 ∉ safe.cps.toList := (by decide +kernel : ∀ y ∈ frees, 37 ∉ y.cps.toList) safe h

theorem cps_append (a b : Str) : (a ++ b).cps.toList = a.cps.toList ++ b.cps.toList := by
  show (a.cps ++ b.cps).toList = _
  simp
theorem ok_allow : ∀ c ∈ (Str.ofString freeS).cps.toList, c ∈ (Str.ofString allowS).cps.toList := by decide +kernel
theorem hex_allow : ∀ k : Nat, k < 256 → hexc (k / 16) ∈ (Str.ofString allowS).cps.toList ∧ hexc (k % 16) ∈ (Str.ofString allowS).cps.toList := by decide +kernel
theorem q_allow {safe : Str} (b : List UInt8) : ∀ c ∈ (qtext safe b).cps.toList, c ∈ (Str.ofString allowS ++ safe).cps.toList := by
  intro c hc
  rw [cps_append]
  have hc' : c ∈ b.flatMap fun c => qcode safe c.toNat := hc
  obtain ⟨u, -, hu⟩ := List.mem_flatMap.mp hc'
  unfold qcode at hu
  split at hu
  · rename_i ok
    rw [List.mem_singleton.mp hu]
    unfold okc at ok
    simp only [Bool.and_eq_true, decide_eq_true_eq] at ok
    have h2 := ok.2
    rw [cps_append, List.mem_append] at h2
    exact List.mem_append.mpr (h2.imp (ok_allow _) id)
  · refine List.mem_append_left _ ?_
    have hh := hex_allow u.toNat u.toNat_lt
    rcases List.mem_cons.mp hu with rfl | hu
    · decide +kernel
    · rcases List.mem_cons.mp hu with rfl | hu
      · exact hh.1
      · rw [List.mem_singleton.mp hu]; exact hh.2
theorem same_sets : ∀ c : Nat, c < 256 → (c ∈ (Str.ofString freeS).cps.toList ↔ c ∈ (Str.ofString plainS).cps.toList) := by decide +kernel
theorem okc_okp (safe : Str) (u : UInt8) : okc safe u.toNat = okp safe u.toNat := by
  unfold okc okp
  have h1 : decide (u.toNat < 128) = decide (u.toNat ≤ 127) := by
    rw [decide_eq_decide]; omega
  rw [h1]
  congr 1
  rw [decide_eq_decide, cps_append, cps_append, List.mem_append, List.mem_append, same_sets _ u.toNat_lt]
theorem hex_not37 : ∀ k : Nat, k < 256 → (hexc (k / 16) == 37) = false ∧ (hexc (k % 16) == 37) = false := by decide +kernel
theorem q_count {safe : Str} (hs : safe ∈ frees) (b : List UInt8) : ((qtext safe b).cps.toList.filter fun c => c == 37).length = (b.filter fun c => !okp safe c.toNat).length := by
  show ((b.flatMap fun c => qcode safe c.toNat).filter fun c => c == 37).length = _
  induction b with
  | nil => rfl
  | cons u r ih =>
    rw [List.flatMap_cons, List.filter_append, List.length_append, ih, List.filter_cons, ← okc_okp]
    unfold qcode
    cases hk : okc safe u.toNat with
    | true =>
      have h37 : (u.toNat == 37) = false := by
        rw [beq_eq_false_iff_ne]
        intro e
        unfold okc at hk
        simp only [Bool.and_eq_true, decide_eq_true_eq] at hk
        have h2 := hk.2
        rw [cps_append, List.mem_append, e] at h2
        rcases h2 with h2 | h2
        · exact absurd h2 (by decide +kernel)
        · exact frees_37 hs h2
      simp [h37]
    | false =>
      have hh := hex_not37 u.toNat u.toNat_lt
      simp [hh.1, hh.2]
      omega
end Mine
end

section
open PySem PySem.W PyProof.Rows
namespace Mine
local macro_rules | `(tactic| walk_at "zz0") => `(tactic| skip)
local macro_rules | `(tactic| walk_at "zz1") => `(tactic| skip)
local macro_rules | `(tactic| walk_at "zz2") => `(tactic| skip)
local macro_rules | `(tactic| walk_at "zz3") => `(tactic| skip)
local macro_rules | `(tactic| walk_at "zz4") => `(tactic| skip)
local macro_rules | `(tactic| walk_at "zz5") => `(tactic| skip)
local macro_rules | `(tactic| walk_at "zz6") => `(tactic| skip)
local macro_rules | `(tactic| walk_at "zz7") => `(tactic| skip)
local macro_rules | `(tactic| walk_at "zz8") => `(tactic| skip)
theorem rstT56 {M : Model} {A : Around} {E : Value → Shared → Prop} {s : Shared} {env : Env} {Q : Flow → Shared → Prop} (h : Q .next s) : wpAny M A (execs [] env) Q E s := by
  w_top off
  walk1
  exact h
end Mine
end

section
open PySem PySem.W PySem.Calls PyProof.Rows
namespace Mine
set_option maxRecDepth 100000
set_option maxHeartbeats 8000000

section
variable {w : World} {mean : ExcName → Option Value} {mg mb : Str → Option Value} {p : Program} {ls : List Str} {dp un : Nat} {a : Addr} {cd : Value} {outer : List Env} {A₀ : Around} {base h₀ : Heap} {L : Addr} {s₁ s : Shared} {E : Value → Shared → Prop}
theorem law_quoted {p1 p2 p3 p4 p5 p6 : Pos}
    (B : Below A₀ base outer h₀) (X : (hd.heap_39 w.params).In h₀) (T : Top p ls mean mg mb h₀) (hdp : dp + 100 < recursionLimit) (hun : un + 2000 < cLine) (S : S10 s₁ h₀ L s) :
    wpAny (model PySem.Challenge.rw_ah6025_01.row.prog w) (lawA dp un L a cd outer)
      (exec (.Assign [nmE "quoted" p1] (.Call (nmE "quote" p2) [nmE "text" p3, nmE "free" p4] [] p5) p6) (lawE L a cd)) (fun f s' => f = .next ∧ S11 s₁ h₀ L s') E s := by
  revert X; k_fill; intro X
  obtain @⟨m0, x, safe, tx, tf, oF, z, hF, hx, hs, F, N⟩ := S
  repeat' ((fail_if_success (with_reducible show wpAny _ _ (call (Value.ref 48) _) _ _ _)); first | (k_unfold; (try dsimp only)) | walk1 | (dsimp only; walk1))
  refine quoteS_ok B F X N T rfl (pieces_plain hx) (by have := pieces_utf8 hx; omega) (frees_len hs) (by omega) (by omega) ?_
  intro t' h' tk' F1 N1
  clear F N
  k_steps
  any_goals exact trivial
  (rename Fr _ _ _ _ => F2)
  (rename News _ _ _ _ => N2)
  exact S11.mk ⟨z.1, z.2⟩ hF hx hs F2 N2
end
end Mine
end

section
open PySem PySem.W PyProof.Rows
namespace Mine
local macro_rules | `(tactic| walk_at "zz0") => `(tactic| skip)
local macro_rules | `(tactic| walk_at "zz1") => `(tactic| skip)
local macro_rules | `(tactic| walk_at "zz2") => `(tactic| skip)
local macro_rules | `(tactic| walk_at "zz3") => `(tactic| skip)
local macro_rules | `(tactic| walk_at "zz4") => `(tactic| skip)
local macro_rules | `(tactic| walk_at "zz5") => `(tactic| skip)
local macro_rules | `(tactic| walk_at "zz6") => `(tactic| skip)
local macro_rules | `(tactic| walk_at "zz7") => `(tactic| skip)
local macro_rules | `(tactic| walk_at "zz8") => `(tactic| skip)
theorem rstT58 {M : Model} {A : Around} {E : Value → Shared → Prop} {s : Shared} {env : Env} {Q : Flow → Shared → Prop} (h : Q .next s) : wpAny M A (execs [] env) Q E s := by
  w_top off
  walk1
  exact h
end Mine
end

section
open PySem PySem.W PySem.Calls PyProof.Rows
namespace Mine
set_option maxRecDepth 100000
set_option maxHeartbeats 8000000

section
variable {w : World} {mean : ExcName → Option Value} {mg mb : Str → Option Value} {p : Program} {ls : List Str} {dp un : Nat} {a : Addr} {cd : Value} {outer : List Env} {A₀ : Around} {base h₀ : Heap} {L : Addr} {s₁ s : Shared} {E : Value → Shared → Prop}
theorem law_signs {p1 p2 p3 p4 p5 p6 p7 px pz q1 q2 q3 q4 q5 : Pos}
    (B : Below A₀ base outer h₀) (X : (hd.heap_39 w.params).In h₀) (T : Top p ls mean mg mb h₀) (hdp : dp + 100 < recursionLimit) (hun : un + 2000 < cLine) (S : S11 s₁ h₀ L s) :
    wpAny (model PySem.Challenge.rw_ah6025_01.row.prog w) (lawA dp un L a cd outer)
      (exec (.If (.Compare (.ListComp (nmE "sign" p1) [⟨nmE "sign" px, nmE "quoted" p2, [.Compare (nmE "sign" p3) [.NotIn] [.BinOp (strE allowS p4) .Add (nmE "free" p5) p6] p7], 0⟩] signScope pz) [.NotEq] [.List [] q1] q2) [.Return (some (.Constant (.bool false) 0 q3)) q4] [] q5) (lawE L a cd)) (fun f s' => f = .next ∧ S11 s₁ h₀ L s') E s := by
  revert X; k_fill; intro X
  obtain @⟨m0, x, safe, tx, tf, tq, oF, z, hF, hx, hs, F, N⟩ := S
  have hu1 : (lawA dp un L a cd outer).units < cLine := by show un < cLine; omega
  have hut := pieces_utf8 hx
  have hql := qlen_le safe (utf8 x).toList
  rw [Array.length_toList] at hql
  have hqs : (qtext safe (utf8 x).toList).cps.size ≤ sizeLine := by
    rw [sizeLine_eq]
    show (qtext safe (utf8 x).toList).length ≤ _
    omega
  repeat' ((fail_if_success (with_reducible show wpAny _ _ (eval (Expr.ListComp _ _ _ _) _) _ _ _)); first | (k_unfold; (try dsimp only)) | walk1 | (dsimp only; walk1))
  (with_reducible refine' signs_comp (cA := L + 1 + 1) (oc := oF) (x := qtext safe (utf8 x).toList) (t := tq) (safe := safe) (tf := tf) (rest := [(L + 1 + 1, oF)]) ?kF ?kX ?kN ?kT ?hk ?hc ?hoc ?h1 ?h2 ?h3 ?h4 ?h5 ?e1 ?e2 ?e3 ?_)
  (case kF => exact F); (case kX => exact X); (case kN => exact N); (case kT => exact T); (case hk => rfl); (case hc => exact .head _); (case hoc => exact hF); (case h1 => rfl); (case h2 => rfl); (case h3 => rfl); (case h4 => rfl); (case h5 => rfl); (case e1 => exact hqs); (case e2 => exact frees_len hs); (case e3 => exact q_allow _)
  intro V h1 tk1 hoff F1 N1
  clear F N
  repeat' ((fail_if_success (with_reducible show wpAny _ _ (compareOp _ (Value.ref _) (Value.ref _)) _ _ _)); first | (k_unfold; (try dsimp only)) | walk1 | (dsimp only; walk1))
  (rename Fr _ _ _ _ => F2)
  (rename News _ _ _ _ => N2)
  refine cmp_ofNotEq (ne_nil (ys := []) ⟨_, (N2 _ (.tail _ (.head _))).1, rfl, _, rfl⟩ ⟨_, (N2 _ (.head _)).1, rfl, _, rfl⟩ hu1 _ _ _ _ ?_)
  k_steps
  try any_goals exact trivial
  exact S11.mk ⟨z.1, z.2⟩ hF hx hs F2 (cb_drop N2 fun p hp => .tail _ (.tail _ hp))
end
end Mine
end

section
open PySem PySem.W PyProof.Rows
namespace Mine
local macro_rules | `(tactic| walk_at "zz0") => `(tactic| skip)
local macro_rules | `(tactic| walk_at "zz1") => `(tactic| skip)
local macro_rules | `(tactic| walk_at "zz2") => `(tactic| skip)
local macro_rules | `(tactic| walk_at "zz3") => `(tactic| skip)
local macro_rules | `(tactic| walk_at "zz4") => `(tactic| skip)
local macro_rules | `(tactic| walk_at "zz5") => `(tactic| skip)
local macro_rules | `(tactic| walk_at "zz6") => `(tactic| skip)
local macro_rules | `(tactic| walk_at "zz7") => `(tactic| skip)
local macro_rules | `(tactic| walk_at "zz8") => `(tactic| skip)
theorem rstT59 {M : Model} {A : Around} {E : Value → Shared → Prop} {s : Shared} {env : Env} {Q : Flow → Shared → Prop} (h : Q .next s) : wpAny M A (execs [] env) Q E s := by
  w_top off
  walk1
  exact h
end Mine
end

section
open PySem PySem.W PySem.Calls PyProof.Rows
namespace Mine
set_option maxRecDepth 100000
set_option maxHeartbeats 8000000

local macro_rules | `(tactic| walk_at "getMethod str") => `(tactic| (refine meth_encode ?_))
local macro_rules | `(tactic| walk_at "call builtin:str.encode") => `(tactic| (refine call_encode (by assumption) (by assumption) ?_))

section
variable {w : World} {mean : ExcName → Option Value} {mg mb : Str → Option Value} {p : Program} {ls : List Str} {dp un : Nat} {a : Addr} {cd : Value} {outer : List Env} {A₀ : Around} {base h₀ : Heap} {L : Addr} {s₁ s : Shared} {E : Value → Shared → Prop}
theorem law_reads {p1 p2 p3 p4 p5 p6 p7 p8 p9 q1 q2 q3 q4 q5 q6 : Pos}
    (B : Below A₀ base outer h₀) (X : (hd.heap_39 w.params).In h₀) (T : Top p ls mean mg mb h₀) (hdp : dp + 100 < recursionLimit) (hun : un + 2000 < cLine) (S : S11 s₁ h₀ L s) :
    wpAny (model PySem.Challenge.rw_ah6025_01.row.prog w) (lawA dp un L a cd outer)
      (exec (.If (.BoolOp .Or [.Compare (.Call (nmE "_law_read" p1) [nmE "quoted" p2] [] p3) [.NotEq] [.Call (.Attribute (nmE "text" ⟨61, 28, 61, 32⟩) (Str.ofString "encode") ⟨61, 28, 61, 39⟩) [strE "utf-8" p4] [] ⟨61, 28, 61, 48⟩] p5,
        .Compare (.Call (nmE "quote" p6) [.Call (.Attribute (nmE "text" ⟨61, 58, 61, 62⟩) (Str.ofString "encode") ⟨61, 58, 61, 69⟩) [strE "utf-8" p7] [] ⟨61, 58, 61, 78⟩, nmE "free" p8] [] p9) [.NotEq] [nmE "quoted" q1] q2] q3) [.Return (some (.Constant (.bool false) 0 q4)) q5] [] q6) (lawE L a cd)) (fun f s' => f = .next ∧ S11 s₁ h₀ L s') E s := by
  revert X; k_fill; intro X
  obtain @⟨m0, x, safe, tx, tf, tq, oF, z, hF, hx, hs, F, N⟩ := S
  have hut := pieces_utf8 hx
  have hpl := pieces_plain hx
  have hus : (utf8 x).size ≤ sizeLine := by rw [sizeLine_eq]; omega
  repeat' ((fail_if_success (with_reducible show wpAny _ _ (call (Value.ref 74) _) _ _ _)); first | (k_unfold; (try dsimp only)) | walk1 | (dsimp only; walk1))
  refine read_ok (b := (utf8 x).toList) B F X N T rfl rfl (by rw [Array.length_toList]; omega) (frees_37 hs) (by omega) (by omega) ?_
  intro t' h1 tk1 F1 N1
  clear F N
  rw [show (utf8 x).toList.toArray = utf8 x from by simp]
  repeat' ((fail_if_success (with_reducible show wpAny _ _ (call (Value.ref 48) _) _ _ _)); first | (k_unfold; (try dsimp only)) | walk1 | (dsimp only; walk1))
  · exfalso; (rename (_ != _) = true => hq); simp at hq
  · exfalso; (rename (_ != _) = true => hq); simp at hq
  refine quoteB_ok B F1 X N1 T rfl (by omega) (frees_len hs) (by omega) (by omega) ?_
  intro t2 h2 tk2 F2 N2
  clear F1 N1
  k_steps
  all_goals first
    | (exfalso; (rename (qtext safe (utf8 x).toList != qtext safe (utf8 x).toList) = true => hq); simp at hq; done)
    | exact trivial
    | exact S11.mk ⟨z.1, z.2⟩ hF hx hs F2 N2
end
end Mine
end

section
open PySem PySem.W PyProof.Rows
namespace Mine
local macro_rules | `(tactic| walk_at "zz0") => `(tactic| skip)
local macro_rules | `(tactic| walk_at "zz1") => `(tactic| skip)
local macro_rules | `(tactic| walk_at "zz2") => `(tactic| skip)
local macro_rules | `(tactic| walk_at "zz3") => `(tactic| skip)
local macro_rules | `(tactic| walk_at "zz4") => `(tactic| skip)
local macro_rules | `(tactic| walk_at "zz5") => `(tactic| skip)
local macro_rules | `(tactic| walk_at "zz6") => `(tactic| skip)
local macro_rules | `(tactic| walk_at "zz7") => `(tactic| skip)
local macro_rules | `(tactic| walk_at "zz8") => `(tactic| skip)
theorem rstT60 {M : Model} {A : Around} {E : Value → Shared → Prop} {s : Shared} {env : Env} {Q : Flow → Shared → Prop} (h : Q .next s) : wpAny M A (execs [] env) Q E s := by
  w_top off
  walk1
  exact h
end Mine
end

section
open PySem PySem.W PySem.Calls PyProof.Rows
namespace Mine
set_option maxRecDepth 100000
set_option maxHeartbeats 8000000

local macro_rules | `(tactic| walk_at "getMethod str") => `(tactic| (refine meth_encode ?_))
local macro_rules | `(tactic| walk_at "call builtin:str.encode") => `(tactic| (refine call_encode (by assumption) (by assumption) ?_))

section
variable {w : World} {mean : ExcName → Option Value} {mg mb : Str → Option Value} {p : Program} {ls : List Str} {dp un : Nat} {a : Addr} {cd : Value} {outer : List Env} {A₀ : Around} {base h₀ : Heap} {L : Addr} {s₁ s : Shared} {E : Value → Shared → Prop}
theorem law_count {p1 p2 p3 p4 p5 p6 p7 px pz q1 q2 q3 q4 q5 q6 q7 q8 q9 r1 r2 r3 r4 r5 r6 r7 rx rz u1 u2 u3 : Pos}
    (B : Below A₀ base outer h₀) (X : (hd.heap_39 w.params).In h₀) (T : Top p ls mean mg mb h₀) (hdp : dp + 100 < recursionLimit) (hun : un + 2000 < cLine) (S : S11 s₁ h₀ L s) :
    wpAny (model PySem.Challenge.rw_ah6025_01.row.prog w) (lawA dp un L a cd outer)
      (exec (.If (.Compare (.Call (nmE "len" p1) [.ListComp (intE 1 p2) [⟨nmE "sign" px, nmE "quoted" p3, [.Compare (nmE "sign" p4) [.Eq] [strE "%" p5] p6], 0⟩] cntScope pz] [] p7) [.NotEq]
        [.Call (nmE "len" q1) [.ListComp (intE 1 q2) [⟨nmE "octet" rx, .Call (.Attribute (nmE "text" ⟨63, 73, 63, 77⟩) (Str.ofString "encode") ⟨63, 73, 63, 84⟩) [strE "utf-8" q3] [] ⟨63, 73, 63, 93⟩,
          [.BoolOp .Or [.Compare (nmE "octet" q4) [.Gt] [intE 127 q5] q6, .Compare (.Call (nmE "chr" q7) [nmE "octet" q8] [] q9) [.NotIn] [.BinOp (strE plainS r1) .Add (nmE "free" r2) r3] r4] r5], 0⟩] octScope rz] [] r6] r7) [.Return (some (.Constant (.bool false) 0 u1)) u2] [] u3) (lawE L a cd)) (fun f s' => f = .next ∧ S11 s₁ h₀ L s') E s := by
  revert X; k_fill; intro X
  obtain @⟨m0, x, safe, tx, tf, tq, oF, z, hF, hx, hs, F, N⟩ := S
  have hut := pieces_utf8 hx
  have hpl := pieces_plain hx
  have hus : (utf8 x).size ≤ sizeLine := by rw [sizeLine_eq]; omega
  have hql := qlen_le safe (utf8 x).toList
  rw [Array.length_toList] at hql
  have hqs : (qtext safe (utf8 x).toList).cps.size ≤ sizeLine := by
    rw [sizeLine_eq]
    show (qtext safe (utf8 x).toList).length ≤ _
    omega
  repeat' ((fail_if_success (with_reducible show wpAny _ _ (eval (Expr.ListComp _ _ _ _) _) _ _ _)); first | (k_unfold; (try dsimp only)) | walk1 | (dsimp only; walk1))
  (with_reducible refine' count_comp (p5 := p5) (p6 := p5) (x := qtext safe (utf8 x).toList) (t := tq) (rest := [(L + 1 + 1, oF)]) ?kF ?kX ?kN ?kT ?hk ?h1 ?h2 ?h3 ?e1 ?_)
  (case kF => exact F); (case kX => exact X); (case kN => exact N); (case kT => exact T); (case hk => rfl); (case h1 => rfl); (case h2 => rfl); (case h3 => rfl); (case e1 => exact hqs)
  intro V ys h1 tk1 hyl hoff F1 N1
  clear F N
  have hyb : ys.length ≤ 100 := by
    have hlen : (qtext safe (utf8 x).toList).length = (qtext safe (utf8 x).toList).cps.toList.length := by simp [Str.length]
    have := List.length_filter_le (fun c => c == 37) (qtext safe (utf8 x).toList).cps.toList
    omega
  repeat' ((fail_if_success (with_reducible show wpAny _ _ (call (Value.builtin "len") _) _ _ _)); first | (k_unfold; (try dsimp only)) | walk1 | (dsimp only; walk1))
  refine len_list (News.isList N1 (.head _)) (by rw [List.size_toArray]; omega) ?_
  repeat' ((fail_if_success (with_reducible show wpAny _ _ (eval (Expr.ListComp _ _ _ _) _) _ _ _)); first | (k_unfold; (try dsimp only)) | walk1 | (dsimp only; walk1))
  (with_reducible refine' oct_comp (p2 := p2) (p3 := p2) (p4 := p2) (p5 := p2) (cA := L + 1 + 1) (oc := oF) (b := utf8 x) (safe := safe) (tf := tf) (rest := [(V, LCg.lst ys), (L + 1 + 1, oF)]) ?kF ?kX ?kN ?kT ?hk ?hc ?hoc ?h1 ?h2 ?h3 ?h4 ?h5 ?h6 ?h7 ?_)
  (case kF => exact F1); (case kX => exact X); (case kN => exact N1); (case kT => exact T); (case hk => rfl); (case hc => exact .tail _ (.head _)); (case hoc => exact hF); (case h1 => rfl); (case h2 => rfl); (case h3 => rfl); (case h5 => intro _; rfl); (case h6 => exact hus); (case h7 => exact frees_len hs)
  (case h4 =>
    intro Q' hQ'
    k_steps
    exact hQ' _ _)
  intro V2 ys2 h2 tk2 hyl2 hoff2 F2 N2
  clear F1 N1
  have e : ys2.toArray.size = ys.toArray.size := by
    rw [List.size_toArray, List.size_toArray, hyl, hyl2, q_count hs]
  have hs2 : (ys2.toArray.size : Int) < 2 ^ 63 := by rw [e, List.size_toArray]; omega
  repeat' ((fail_if_success (with_reducible show wpAny _ _ (call (Value.builtin "len") _) _ _ _)); first | (k_unfold; (try dsimp only)) | walk1 | (dsimp only; walk1))
  refine len_list (News.isList N2 (.head _)) hs2 ?_
  rw [e]
  k_steps
  all_goals first
    | (exfalso; (rename _ ≠ _ => hq); exact hq rfl)
    | exact trivial
    | exact S11.mk ⟨z.1, z.2⟩ hF hx hs F2 (cb_drop N2 fun p hp => .tail _ (.tail _ hp))
end
end Mine
end

section
open PySem PySem.W PyProof.Rows
namespace Mine
local macro_rules | `(tactic| walk_at "zz0") => `(tactic| skip)
local macro_rules | `(tactic| walk_at "zz1") => `(tactic| skip)
local macro_rules | `(tactic| walk_at "zz2") => `(tactic| skip)
local macro_rules | `(tactic| walk_at "zz3") => `(tactic| skip)
local macro_rules | `(tactic| walk_at "zz4") => `(tactic| skip)
local macro_rules | `(tactic| walk_at "zz5") => `(tactic| skip)
local macro_rules | `(tactic| walk_at "zz6") => `(tactic| skip)
local macro_rules | `(tactic| walk_at "zz7") => `(tactic| skip)
local macro_rules | `(tactic| walk_at "zz8") => `(tactic| skip)
theorem rstT61 {M : Model} {A : Around} {E : Value → Shared → Prop} {s : Shared} {env : Env} {Q : Flow → Shared → Prop} (h : Q .next s) : wpAny M A (execs [] env) Q E s := by
  w_top off
  walk1
  exact h
end Mine
end

section
open PySem PySem.W PySem.Calls PyProof.Rows
namespace Mine
set_option maxRecDepth 100000
set_option maxHeartbeats 8000000

theorem q450 : qtext (Str.ofString "") (utf8 (Str.ofString "-450")).toList = Str.ofString "-450" := by decide +kernel
inductive S12 (s₁ : Shared) (h₀ : Heap) (L : Addr) (s' : Shared) : Prop
  | mk {m : Str → Option Value} (z : Same s₁ s') (F : Fr h₀ L s'.heap m)

section
variable {w : World} {mean : ExcName → Option Value} {mg mb : Str → Option Value} {p : Program} {ls : List Str} {dp un : Nat} {a : Addr} {cd : Value} {outer : List Env} {A₀ : Around} {base h₀ : Heap} {L : Addr} {s₁ s : Shared} {E : Value → Shared → Prop}
theorem law_ret {p1 p2 p3 p4 p5 p6 p7 p8 : Pos}
    (B : Below A₀ base outer h₀) (X : (hd.heap_39 w.params).In h₀) (T : Top p ls mean mg mb h₀) (hdp : dp + 100 < recursionLimit) (hun : un + 2000 < cLine) (S : S11 s₁ h₀ L s) :
    wpAny (model PySem.Challenge.rw_ah6025_01.row.prog w) (lawA dp un L a cd outer)
      (exec (.Return (some (.Compare (.Call (nmE "quote" p1) [.UnaryOp .USub (intE 450 p2) p3, strE "" p4] [] p5) [.Eq] [strE "-450" p6] p7)) p8) (lawE L a cd)) (fun f s' => f = .ret (.bool true) ∧ S12 s₁ h₀ L s') E s := by
  revert X; k_fill; intro X
  obtain @⟨m0, x, safe, tx, tf, tq, oF, z, hF, hx, hs, F, N⟩ := S
  repeat' ((fail_if_success (with_reducible show wpAny _ _ (call (Value.ref 48) _) _ _ _)); first | (k_unfold; (try dsimp only)) | walk1 | (dsimp only; walk1))
  refine quoteI_ok B F X N T rfl (by omega) (by decide +kernel) (by omega) ?_
  intro t' h' tk' F1 N1
  clear F N
  rw [q450]
  k_steps
  exact S12.mk ⟨z.1, z.2⟩ F1
end
end Mine
end

section
open PySem PySem.W PyProof.Rows
namespace Mine
local macro_rules | `(tactic| walk_at "zz0") => `(tactic| skip)
local macro_rules | `(tactic| walk_at "zz1") => `(tactic| skip)
local macro_rules | `(tactic| walk_at "zz2") => `(tactic| skip)
local macro_rules | `(tactic| walk_at "zz3") => `(tactic| skip)
local macro_rules | `(tactic| walk_at "zz4") => `(tactic| skip)
local macro_rules | `(tactic| walk_at "zz5") => `(tactic| skip)
local macro_rules | `(tactic| walk_at "zz6") => `(tactic| skip)
local macro_rules | `(tactic| walk_at "zz7") => `(tactic| skip)
local macro_rules | `(tactic| walk_at "zz8") => `(tactic| skip)
theorem rstT70 {M : Model} {A : Around} {E : Value → Shared → Prop} {s : Shared} {env : Env} {Q : Flow → Shared → Prop} (h : Q .next s) : wpAny M A (execs [] env) Q E s := by
  w_top off
  walk1
  exact h
end Mine
end

section
open PySem PySem.W PySem.Calls PyProof.Rows
namespace Mine
set_option maxRecDepth 100000
set_option maxHeartbeats 8000000

theorem execs_end {M : Model} {A : Around} {E : Value → Shared → Prop} {Q : Flow → Shared → Prop} {s : Shared} {st : Stmt} {env : Env} {v : Value} (R : Shared → Prop)
    (h1 : wpAny M A (exec st env) (fun f s' => f = .ret v ∧ R s') E s) (h2 : ∀ s', R s' → Q (.ret v) s') : wpAny M A (execs [st] env) Q E s := by
  refine wpAny_execs_cons (wpAny_mono h1 (fun f s' h => ?_) fun _ _ e => e)
  obtain ⟨rfl, r⟩ := h
  exact h2 s' r

theorem law_holds : PySem.Challenge.rw_ah6025_01.Holds := hd (by
  lgec_go0
  (all_goals try k_fold)
  (rename IntsAre _ _ => hI)
  (rename Heap.IsList _ _ _ => hL)
  (rename Shared => s₁)
  (rename Top _ _ _ _ _ _ => T)
  (rename Frag.In _ _ => X)
  (rename Glob _ _ _ _ _ _ _ _ => GL)
  (rename s₁.gens = #[] => hg)
  have hg0 : AllBare s₁.gens := .of_eq hg
  refine execs_cut (S0 s₁ s₁.heap s₁.heap.objs.size) ?_ ?_
  · repeat' ((fail_if_success (with_reducible show wpAny _ _ (call _ _) _ _ _)); first | (k_unfold; (try dsimp only)) | walk1 | (dsimp only; walk1))
    refine' draw_ok (B := ?k1) (F := ?k2) (X := ?k3) (N := ?k4) (T := ?k5) (hk := ?kK) (hl := hL) (hi := hI) (hlen := ?h3) (hdp := ?kd) (hun := ?ku) (hret := ?_)
    (case k1 => exact below_caller _)
    (case k2 => k_asm); (case k3 => k_asm); (case k4 => k_asm); (case k5 => k_asm); (case kK => rfl); (case h3 => omega); (case kd => decide +kernel); (case ku => decide +kernel)
    intro D L1 sd tS n1 n2 vs1 ns1 h9 tk9 hdl hi1 hl1 hs0 hs1 hr1 hr2 F9 N9
    k_steps
    first | exact trivial | skip
    (rename Fr _ _ _ _ => F2)
    (rename News _ _ _ _ => N2)
    (rename Obj.data _ = Data.cell (some (Value.ref D)) => hD)
    refine S0.mk (s₁ := s₁) ⟨hg0, rfl⟩ ⟨hdl, hi1, hl1, hs0, hs1, ?_, ?_⟩ (by assumption) hD F2 N2
    · exact List.forall_mem_cons.mpr ⟨hr1 _ (List.mem_cons_self ..), List.forall_mem_cons.mpr ⟨(by have z := hr1 _ (List.mem_cons_of_mem _ (List.mem_cons_self ..)); exact z), List.forall_mem_nil _⟩⟩
    · exact List.forall_mem_cons.mpr ⟨hr2 _ (List.mem_cons_self ..), List.forall_mem_cons.mpr ⟨(by have z := hr2 _ (List.mem_cons_of_mem _ (List.mem_cons_self ..)); exact z), List.forall_mem_nil _⟩⟩
  have hmod : ∃ o, s₁.heap.get? sysModules = some o := by
    obtain ⟨mm, ⟨o, _, _, ho, _⟩, _⟩ := (T.seer (by decide +kernel)).mods
    exact ⟨o, ho⟩
  have B := below_caller s₁.heap
  intro s2 S2'
  show wpAny (model PySem.Challenge.rw_ah6025_01.row.prog _) (lawA _ _ _ _ _ _) (execs _ (lawE _ _ _)) _ _ _
  have hdp : callerA.depth + 1 + 100 < recursionLimit := by decide +kernel
  have hun : callerA.units + 3 + 2000 < cLine := by decide +kernel
  refine execs_cut (S1 s₁ s₁.heap s₁.heap.objs.size) (by with_reducible exact law_way B X T hdp hun S2') ?_
  intro s3 S3'
  refine execs_cut (S2 s₁ s₁.heap s₁.heap.objs.size) (by with_reducible exact law_row B X T hdp hun rfl S3') ?_
  intro s4 S4'
  refine execs_cut (S3 s₁ s₁.heap s₁.heap.objs.size) (by with_reducible exact law_value B X T hdp hun hmod S4') ?_
  intro s5 S5'
  refine execs_cut (S4 s₁ s₁.heap s₁.heap.objs.size) (by with_reducible exact law_before B X T hdp hun S5') ?_
  intro s6 S6'
  refine execs_cut (S5 s₁ s₁.heap s₁.heap.objs.size) (by with_reducible exact law_pairs B X T hdp hun S6') ?_
  intro s7 S7'
  refine execs_cut (S6r s₁ s₁.heap s₁.heap.objs.size) (by with_reducible exact law_told B X T GL hdp hun S7') ?_
  rintro s8 ⟨B0, Bd, S8'⟩
  rename_i P ps ps'
  have T1 := top_regrown (ps' := ps') T B0
  have X1 := kb_in_regrown (ps' := ps') B0 X T.g (heap_classed _)
  have B1 := below_caller (regrown s₁.heap P ps')
  refine execs_cut (S6 s₁ (regrown s₁.heap P ps') s₁.heap.objs.size) (by with_reducible exact law_if1 B1 X1 T1 hdp hun S8') ?_
  intro s9 S9'
  refine execs_cut (S6 s₁ (regrown s₁.heap P ps') s₁.heap.objs.size) (by with_reducible exact law_if2 B1 X1 T1 hdp hun S9') ?_
  intro s10 S10'
  refine execs_cut (S9 s₁ (regrown s₁.heap P ps') s₁.heap.objs.size) (by with_reducible exact law_text B1 X1 T1 hdp hun S10') ?_
  intro s11 S11'
  refine execs_cut (S10 s₁ (regrown s₁.heap P ps') s₁.heap.objs.size) (by with_reducible exact law_free B1 X1 T1 hdp hun S11') ?_
  intro s12 S12'
  refine execs_cut (S11 s₁ (regrown s₁.heap P ps') s₁.heap.objs.size) (by with_reducible exact law_quoted B1 X1 T1 hdp hun S12') ?_
  intro s13 S13'
  refine execs_cut (S11 s₁ (regrown s₁.heap P ps') s₁.heap.objs.size) (by with_reducible exact law_signs B1 X1 T1 hdp hun S13') ?_
  intro s14 S14'
  refine execs_cut (S11 s₁ (regrown s₁.heap P ps') s₁.heap.objs.size) (by with_reducible exact law_reads B1 X1 T1 hdp hun S14') ?_
  intro s15 S15'
  refine execs_cut (S11 s₁ (regrown s₁.heap P ps') s₁.heap.objs.size) (by with_reducible exact law_count B1 X1 T1 hdp hun S15') ?_
  intro s16 S16'
  refine execs_end (S12 s₁ (regrown s₁.heap P ps') s₁.heap.objs.size) (by with_reducible exact law_ret B1 X1 T1 hdp hun S16') ?_
  rintro s17 ⟨z, F⟩
  refine ⟨.inl ⟨.bool true, .bool true, [], rfl, fun _ => rfl, ReadsW.bool true, ?_, fun _ => ⟨List.nodup_nil, fun _ h => nomatch h⟩⟩, Bd.finish F, z.os, z.gens⟩
  first | rfl | wrow_post)
end Mine
end

set_option maxRecDepth 100000 in
set_option maxHeartbeats 8000000 in
theorem PySem.Challenge.cw_ah6025_01_holds : PySem.Challenge.rw_ah6025_01.Holds := by
  exact Mine.law_holds
