import PyProof.Rows.All
import Wide.All
import OpenK.AllK
import Wide.FinOn
import PySem.Challenge.RW_ds0002_01
open PySem PySem.W PyProof.Rows PySem.Calls
set_option Elab.async false
set_option maxRecDepth 100000
set_option linter.unusedVariables false
set_option linter.unusedSimpArgs false

namespace Mine
/-- one octet as the law makes it -/
def octOf (n : Int) : Int := if n.fmod 3 = 0 then 255 else n.fmod 256
theorem octOf_bound (n : Int) : 0 ≤ octOf n ∧ octOf n < 256 := by
  unfold octOf
  split
  · omega
  · exact ⟨Int.fmod_nonneg_of_pos n (by decide), Int.fmod_lt_of_pos n (by decide)⟩
theorem oct_in (ns : List Int) : KBa.In (ns.map octOf) := by
  intro n hn
  obtain ⟨k, _, rfl⟩ := List.mem_map.1 hn
  exact octOf_bound k
theorem in_getD {os : List Int} (h : KBa.In os) (i : Nat) : 0 ≤ os.getD i 0 ∧ os.getD i 0 < 256 := by
  rw [List.getD_eq_getElem?_getD]
  cases e : os[i]? with
  | none => simp
  | some n => simpa using h n (List.mem_of_getElem? e)
section
variable {prog : Program} {w : World} {A : Around} {E : Value → Shared → Prop} {s : Shared} {env : Env} {h₀ : Heap} {x : Str} {body : List Stmt} {Q : Flow → Shared → Prop}
theorem octLoop {l lo : Addr} {vs : List Value} {ns : List Int} {nn : Nat} {rest : List (Addr × Obj)} {m₀ m₁ : Str → Option Value} {X : Int} {tb : Tok}
    (hh : A.handled = none) (hi : IntsAre vs ns) (F : Fr h₀ env.locals s.heap m₀) (hm : m₀ = fun y => if y = Str.ofString "bits" then some (.int (X.fmod 8 + 1) tb) else m₁ y) (N : News h₀ env.locals s.heap ((l, listOf vs.toArray nn) :: (lo, listOf #[] 0) :: rest))
    (turn : ∀ (c : List Value × List Int × Nat) pre post n t (u : Str → Option Value) h tk own, ns = pre ++ n :: post → n ∈ ns → OwnOff own (l :: lo :: rest.map (·.1)) → IntsAre c.1 c.2.1 → c.2.1 = pre.map octOf →
      Fr h₀ env.locals h (fun y => if y = x then some (.int n t) else m₀ y) → News h₀ env.locals h ((l, listOf vs.toArray nn) :: (lo, listOf c.1.toArray c.2.2) :: (rest ++ own)) →
      wpAny (model prog w) A (execs body env) (InvPostN h₀ env.locals (KstS (σ := List Value × List Int × Nat) (fun c => (l, listOf vs.toArray nn) :: (lo, listOf c.1.toArray c.2.2) :: rest) (fun _ => []) (fun c => IntsAre c.1 c.2.1) x [] m₀ (fun pre c => c.2.1 = pre.map octOf) (pre ++ [n])) own (l :: lo :: rest.map (·.1)) { s with heap := h, toks := tk } Q) E { s with heap := h, toks := tk })
    (done : ∀ (us : List Value) (os : List Int) (k : Nat) (u : Str → Option Value) h tk, IntsAre us os → os.length = ns.length → KBa.In os → ∀ bits : Int, 1 ≤ bits → bits ≤ 8 → Fr h₀ env.locals h (fun y => if y = x then u y else if y = Str.ofString "bits" then some (.int bits tb) else m₁ y) → News h₀ env.locals h ((l, listOf vs.toArray nn) :: (lo, listOf us.toArray k) :: rest) → Q .next { s with heap := h, toks := tk }) :
    wpAny (model prog w) A (pyIter (.ref l)) (fun it s₂ => LoopAtV prog w A h₀ env x body Q E it s₂) E s := by
  refine kst_listL (σ := List Value × List Int × Nat) (ns := ns) (fun c => (l, listOf vs.toArray nn) :: (lo, listOf c.1.toArray c.2.2) :: rest) (fun _ => []) (fun c => IntsAre c.1 c.2.1) [] (fun pre c => c.2.1 = pre.map octOf) ([], [], 0) hh (fun c => .head _) hi F N .nil (fun _ h => nomatch h) rfl ?_ ?_
  · intro c pre post n t u h tk own e hm ho hf hp F' N'
    exact turn c pre post n t u h tk own e hm ho hf hp F' N'
  · rintro ⟨us, os, k⟩ u h tk hf hp F' N'
    dsimp only at hf hp N'
    subst hp
    subst hm
    have b0 := Int.fmod_nonneg_of_pos X (b := 8) (by decide)
    have b1 := Int.fmod_lt_of_pos X (b := 8) (by decide)
    exact done us _ k u h tk hf (List.length_map _) (oct_in _) (X.fmod 8 + 1) (by omega) (by omega) F' N'
end
end Mine

namespace Mine
open PySem.Builtin
theorem raises_bytes_getitem (b : Array UInt8) (i : Int) (t u : Tok) (hr : Bytes.fitsIndex i = true) (h : (seqIndex? i b.size).bind (b[·]?) = none) :
    Meets («bytes.__getitem__» ⟨[.bytes b t, .int i u], []⟩) (raisesNew "IndexError") := by
  intro prog w A R s hS
  show wpAny _ _ (Bytes.subscript? (.int i u) >>= fun r => _) _ _ s
  refine wpAny_bind ?_
  unfold Bytes.subscript?
  refine wpAny_bind (wpAny_specialOf (typeIs_int s i u) F.slot_int_index.lookup ?_)
  show wpAny _ _ (if (!Bytes.fitsIndex i) = true then _ else pure (some i)) _ _ s
  rw [hr]
  refine wpAny_pure ?_
  show wpAny _ _ (match (seqIndex? i b.size).bind (b[·]?) with | some x => retInt x.toNat | none => _) _ _ s
  rw [h]
  first
    | exact wpAny_bind (wpAny_rule (by exact_raiseError plainExc_IndexError hS.1 hS.2))
    | exact wpAny_bind (wpAny_rule (wpAny_bind (by exact_raiseError plainExc_IndexError hS.1 hS.2)))
theorem byteArr_size (os : List Int) : (byteArr os).size = os.length := by simp [byteArr]
theorem byteArr_getD {os : List Int} (hin : KBa.In os) (i : Nat) : ((((os.map fun n : Int => n.toNat.toUInt8).getD i 0).toNat : Nat) : Int) = os.getD i 0 := by
  rw [List.getD_eq_getElem?_getD, List.getD_eq_getElem?_getD, List.getElem?_map]
  cases e : os[i]? with
  | none => rfl
  | some n => have := hin n (List.mem_of_getElem? e); simpa using byte_back this.1 this.2
section
variable {prog : Program} {w : World} {A : Around} {E : Value → Shared → Prop} {s : Shared} {value slice : PySem.Expr} {t u : Tok} {Q : Value → Shared → Prop}
theorem byItem {os : List Int} {i : Int} (hA : A.handled = none) (hin : KBa.In os) (hfit : os.length ≤ 1000000) (h0 : 0 ≤ i) (h1 : i ≤ 1000000)
    (hE : (os.length : Int) ≤ i → ∀ h' tk e, Heap.NewExc s.heap h' e "IndexError" → E (.ref e) { s with heap := h', toks := tk })
    (hQ : i < (os.length : Int) → 0 ≤ os.getD i.toNat 0 → os.getD i.toNat 0 < 256 → Q (.int (os.getD i.toNat 0) s.toks) { s with toks := s.toks + 1 })
    (hs : subscripted slice false (.bytes (byteArr os) t) (.int i u) = operate [.bytes (byteArr os) t, .int i u] (getItem (.bytes (byteArr os) t) (.int i u)) := by with_unfolding_all rfl)
    (ht : ∀ r, letTemporaryGo value (.bytes (byteArr os) t) r = pure () := by intro _; with_unfolding_all rfl) :
    wpAny (model prog w) A (subscriptTail value slice (.bytes (byteArr os) t) (.int i u)) Q E s := by
  by_cases hi : i < (os.length : Int)
  · have q : Q (.int (((os.map fun n : Int => n.toNat.toUInt8).getD i.toNat 0).toNat : Nat) s.toks) { s with toks := s.toks + 1 } := by
      rw [byteArr_getD hin]
      exact hQ hi (in_getD hin _).1 (in_getD hin _).2
    have e : byteArr os = (os.map fun n : Int => n.toNat.toUInt8).toArray := rfl
    rw [e] at hs ht ⊢
    exact KBy.item_N (by rw [List.length_map]; omega) h0 (by rw [List.length_map]; exact hi) q hs ht
  · have hout : i < -((byteArr os).size : Int) ∨ ((byteArr os).size : Int) ≤ i := by rw [byteArr_size]; omega
    exact tail_of_ItemOn ⟨"bytes", _, FB.slot_bytes_getitem.lookup, typeIs_bytes _ _ _, getItem_meets (typeIs_bytes s _ t) (by decide) FB.slot_bytes_getitem FB.entry_bytes_getitem (FB.args_bytes_getitem_2 _ _)
      (raises_bytes_getitem (byteArr os) i t u (by simp only [Bytes.fitsIndex, Bool.and_eq_true, decide_eq_true_eq]; omega) (by rw [seqIndex_none hout]; rfl)) ⟨hA, hE (by omega)⟩⟩ hs ht

theorem maxItem {l : Addr} {a0 a1 a2 a3 a4 a5 a6 a7 a8 : Tok} {k : Int} (hl : s.heap.IsList l #[.int 0 a0, .int 1 a1, .int 3 a2, .int 7 a3, .int 15 a4, .int 31 a5, .int 63 a6, .int 127 a7, .int 255 a8])
    (h0 : 1 ≤ k) (h1 : k ≤ 8) (h : ∀ t, Q (.int (2 ^ k.toNat - 1) t) s)
    (hs : subscripted slice false (.ref l) (.int k u) = operate [.ref l, .int k u] (getItem (.ref l) (.int k u)) := by with_unfolding_all rfl) :
    wpAny (model prog w) A (subscriptTail value slice (.ref l) (.int k u)) Q E s := by
  refine pickK (vs := [.int 0 a0, .int 1 a1, .int 3 a2, .int 7 a3, .int 15 a4, .int 31 a5, .int 63 a6, .int 127 a7, .int 255 a8]) hl (by omega) (by simp; omega) (by omega) ?_ hs
  refine ⟨fun e => by omega, fun e => ?_, fun e => ?_, fun e => ?_, fun e => ?_, fun e => ?_, fun e => ?_, fun e => ?_, fun e => ?_, trivial⟩ <;> (obtain rfl := e; exact h _)
theorem maskShift {b : Int} (h0 : 1 ≤ b) (h1 : b ≤ 8) (h : Q (.int (2 ^ b.toNat - 1) s.toks) { s with toks := s.toks + 1 }) : wpAny (model prog w) A (binaryOp .RShift (.int 255 t) (.int (8 - b) u)) Q E s := by
  refine rshift_int (by omega) ?_
  have e : (255 : Int).fdiv (2 ^ (8 - b).toNat) = 2 ^ b.toNat - 1 := by
    have : b = 1 ∨ b = 2 ∨ b = 3 ∨ b = 4 ∨ b = 5 ∨ b = 6 ∨ b = 7 ∨ b = 8 := by omega
    rcases this with rfl | rfl | rfl | rfl | rfl | rfl | rfl | rfl <;> decide
  rw [e]
  exact h
theorem andMask {x : Int} {k : Nat} (h : Q (.int (x.fmod (2 ^ k)) s.toks) { s with toks := s.toks + 1 }) : wpAny (model prog w) A (binaryOp .BitAnd (.int x t) (.int (2 ^ k - 1) u)) Q E s :=
  and_int (by rw [kbt_maskF]; exact h)
end
end Mine

namespace Mine
/-- an exception as it lies: its fields, its newest traceback entry T and the mark in it -/
def Lies (base : Heap) (l : List Env) (e : Addr) (oe : Obj) (vs : Array Value) (fl : Value) (h : Heap) : Prop :=
  base.StaysIn h ∧ base.get? e = none ∧ h.FunFrames base l ∧
    ∃ T oT ts, h.get? e = some oe ∧ oe.data = .fields vs ∧ vs[1]? = some (.ref T) ∧ base.get? T = none ∧ T ≠ e ∧ h.get? T = some oT ∧ oT.data = .fields ts ∧ ts[3]? = some fl
theorem Lies.held {base : Heap} {l : List Env} {e L : Addr} {oe : Obj} {vs : Array Value} {a0 : Value} {h : Heap} (x : Lies base l e oe vs (rawInt L) h) (h0 : vs[0]? = some a0) : Heap.HeldW base l e oe.cls a0 L h := by
  obtain ⟨k1, k2, k3, T, oT, ts, he, hd, h1, hn, hT, ho, ht, h3⟩ := x
  exact ⟨k1, k2, k3, oe, vs, T, oT, ts, he, ⟨rfl, h0⟩, hd, h1, hn, hT, ho, ht, h3⟩
section
variable {M : Model} {A : Around} {E : Value → Shared → Prop} {s : Shared} {base : Heap}
theorem noteNew {env : Env} {outer : List Env} {L e : Addr} {oe : Obj} {vs : Array Value} {Q : Unit → Shared → Prop}
    (hfr : A.frames = some (env :: outer)) (hl : s.heap.FunFrames base (env :: outer)) (hf : env.frame = some L)
    (he : s.heap.get? e = some oe) (hkb : base.StaysIn s.heap) (hen : base.get? e = none) (hd : oe.data = .fields vs) (h1 : vs[1]? = some .none)
    (h : ∀ h' oe' T, Lies base (env :: outer) e oe' (vs.setIfInBounds 1 (.ref T)) (rawInt L) h' → oe'.cls = oe.cls → s.heap.UpToSlots h' → Q () { s with heap := h' }) :
    wpAny M A (noteFrame (.ref e) env) Q E s := by
  have hsz : 1 < vs.size := (Array.getElem?_eq_some_iff.mp h1).1
  have hene : e ∉ (env :: outer).filterMap (·.frame) := fun hm => by
    obtain ⟨_, o, ho, hnf⟩ := hl.mem hm
    rw [he] at ho; injection ho with ho; subst ho; exact hnf vs hd
  unfold noteFrame
  simp only [hf]
  refine wpAny_bind (wpAny_field he hd h1 ?_)
  rw [if_neg (by decide)]
  refine wpAny_bind (wpAny_frameOf_fun hfr hl hf fun h₁ hs₁ => ?_)
  refine wpAny_bind (wpAny_entryPlaceOf fun pl hpl => ?_)
  unfold EntryCells.newEntry newFields
  refine wpAny_bind (wpAny_newObj_type ?_ (hpl.sizeOk5 _ _ _ _ _))
  have he₁ : h₁.get? e = some oe := (hs₁.2.1 e hene).trans he
  have kb₁ : base.StaysIn h₁ := fun b o hbo => (hs₁.2.1 b fun hm => by rw [(hl.mem hm).1] at hbo; cases hbo).trans (hkb b o hbo)
  generalize hc : ([Value.none, Value.ref L, Value.none, rawInt L, Value.none] ++ (if pl.isEmpty then List.replicate 6 Value.none else pl)).toArray = cells
  have hc3 : cells[3]? = some (rawInt L) := by subst hc; simp
  have he₂ := Heap.get?_push_of_some (h := h₁) { cls := .type "traceback", dict := none, data := .fields cells } he₁
  have hTe : h₁.objs.size ≠ e := Nat.ne_of_gt (Heap.lt_size he₁)
  have hd₃ := Obj.data_mapFields hd (·.setIfInBounds 1 (Value.ref h₁.objs.size))
  have he₃ := Heap.get?_update_self (Obj.mapFields (·.setIfInBounds 1 (Value.ref h₁.objs.size))) he₂ (Obj.isFreed_of_fields hd₃)
  have hT₃ := (Heap.get?_update_other (h₁.push { cls := .type "traceback", dict := none, data := .fields cells }) (Obj.mapFields (·.setIfInBounds 1 (Value.ref h₁.objs.size))) (Ne.symm hTe)).trans (Heap.get?_push_size h₁ rfl)
  have keep : ∀ b o, b ≠ e → h₁.get? b = some o → ((h₁.push { cls := .type "traceback", dict := none, data := .fields cells }).update e (Obj.mapFields (·.setIfInBounds 1 (Value.ref h₁.objs.size)))).get? b = some o := fun b o hbe hb => by
    rw [Heap.get?_update_other _ _ (Ne.symm hbe)]
    exact Heap.get?_push_of_some _ hb
  have noRecord : ∀ b o, s.heap.get? b = some o → (∀ vs, o.data ≠ .fields vs) → b ≠ e := fun b o hb hnf q => by
    rw [q, he] at hb; injection hb with hb; subst hb; exact hnf vs hd
  refine wpAny_setField he₂ hd hsz (h _ _ h₁.objs.size ⟨fun b o hbo => keep b o (fun q => by rw [q, hen] at hbo; cases hbo) (kb₁ b o hbo), hen, hl.of_keeps fun b o hb hnf => ?_,
    h₁.objs.size, _, cells, he₃, hd₃, by simp [hsz], kb₁.fresh, hTe, hT₃, rfl, hc3⟩ (Obj.cls_mapFields _ _) fun b o hb hnf => ?_)
  · obtain ⟨sl, hs⟩ := hs₁.2.2 b o hb
    exact ⟨_, keep b _ (noRecord b o hb hnf) hs, rfl⟩
  · obtain ⟨sl, hs⟩ := hs₁.2.2 b o hb
    exact ⟨sl, keep b _ (noRecord b o hb hnf) hs⟩
/-- the mark in the newest entry is set; the exception's own fields stay -/
theorem setMark {l : List Env} {e : Addr} {oe : Obj} {vs : Array Value} {fl : Value} (fr : Option Addr) {Q : Unit → Shared → Prop} (x : Lies base l e oe vs fl s.heap)
    (h : ∀ h', Lies base l e oe vs (fr.elim .none fun f => rawInt f) h' → s.heap.UpToSlots h' → Q () { s with heap := h' }) : wpAny M A (setFlight (.ref e) fr) Q E s := by
  obtain ⟨k1, k2, k3, T, oT, ts, he, hd, h1, hn, hTe, hT, ht, h3⟩ := x
  have hsz3 : 3 < ts.size := (Array.getElem?_eq_some_iff.mp h3).1
  have other : ∀ b, b ≠ T → (s.heap.update T (Obj.mapFields (·.setIfInBounds 3 (fr.elim Value.none fun f => rawInt f)))).get? b = s.heap.get? b := fun b hb => Heap.get?_update_other _ _ (Ne.symm hb)
  have noRecord : ∀ b o, s.heap.get? b = some o → (∀ vs, o.data ≠ .fields vs) → b ≠ T := fun b o hb hnf q => by
    rw [q, hT] at hb; injection hb with hb; subst hb; exact hnf ts ht
  unfold setFlight
  refine wpAny_bind (wpAny_field he hd h1 ?_)
  rw [if_pos (show (Value.ref T != Value.none) = true from by simp)]
  refine wpAny_setField hT ht hsz3 (h _ ⟨fun b o hbo => (other b fun q => by rw [q, hn] at hbo; cases hbo).trans (k1 b o hbo), k2, k3.of_keeps fun b o hb hnf => ⟨o, (other b (noRecord b o hb hnf)).trans hb, rfl⟩,
    T, _, _, (other e (Ne.symm hTe)).trans he, hd, h1, hn, hTe, Heap.get?_update_self _ hT (Obj.isFreed_of_fields (Obj.data_mapFields ht _)), Obj.data_mapFields ht _, by simp [hsz3]⟩ fun b o hb hnf => ⟨o.slots, (other b (noRecord b o hb hnf)).trans hb⟩)
/-- a frame that is noted already -/
theorem noteAgain {env : Env} {l : List Env} {L e : Addr} {oe : Obj} {vs : Array Value} {Q : Unit → Shared → Prop} (hf : env.frame = some L) (x : Lies base l e oe vs (rawInt L) s.heap) (h : Q () s) : wpAny M A (noteFrame (.ref e) env) Q E s := by
  obtain ⟨k1, k2, k3, T, oT, ts, he, hd, h1, hn, hTe, hT, ht, h3⟩ := x
  unfold noteFrame
  simp only [hf]
  refine wpAny_bind (wpAny_field he hd h1 ?_)
  rw [if_pos (show (Value.ref T != Value.none) = true from by simp)]
  refine wpAny_bind (wpAny_field hT ht h3 ?_)
  rw [if_pos (show (rawInt L == rawInt L) = true from by simp)]
  exact wpAny_pure h
/-- it is handed on: passOn, and cameBackBy's own look -/
theorem passes {α : Type} {what : String} {env : Env} {l : List Env} {L e : Addr} {oe : Obj} {vs : Array Value} {fl : Value} {Q : α → Shared → Prop} (hf : env.frame = some L) (x : Lies base l e oe vs fl s.heap)
    (h : ∀ h', Lies base l e oe vs (rawInt L) h' → s.heap.UpToSlots h' → E (.ref e) { s with heap := h' }) : wpAny M A (PySem.passOn what (.ref e) env : Sem α) Q E s := by
  obtain ⟨k1, k2, k3, T, oT, ts, he, hd, h1, r⟩ := id x
  unfold PySem.passOn
  refine wpAny_bind (wpAny_field he hd h1 ?_)
  rw [if_neg (show ¬ ((Value.ref T == Value.none) = true) from by simp)]
  rw [hf]
  first
    | exact wpAny_bind (setMark (some L) x fun h' y u => wpAny_throw (h h' y u))
    | exact wpAny_bind (wpAny_pure (wpAny_bind (setMark (some L) x fun h' y u => wpAny_throw (h h' y u))))
theorem cameBack {env : Env} {l : List Env} {L e : Addr} {oe : Obj} {vs : Array Value} {fl : Value} (hf : env.frame = some L) (x : Lies base l e oe vs fl s.heap)
    (h : ∀ h', Lies base l e oe vs (rawInt L) h' → s.heap.UpToSlots h' → E (.ref e) { s with heap := h' }) : cameBackBy M A env E (.ref e) s := by
  obtain ⟨k1, k2, k3, T, oT, ts, he, hd, h1, r⟩ := id x
  unfold cameBackBy
  refine wpAny_bind (wpAny_field he hd h1 ?_)
  rw [if_neg (show ¬ ((Value.ref T == Value.none) = true) from by simp)]
  rw [hf]
  first
    | exact setMark (some L) x fun h' y u => h h' y u
    | exact wpAny_bind (wpAny_pure (setMark (some L) x fun h' y u => h h' y u))
end
end Mine

namespace Mine
theorem Lies.flying {base : Heap} {l : List Env} {e : Addr} {oe : Obj} {vs : Array Value} {a0 : Value} {h : Heap} (x : Lies base l e oe vs .none h) (h0 : vs[0]? = some a0) : Heap.FlyingW base l e oe.cls a0 h := by
  obtain ⟨k1, k2, k3, T, oT, ts, he, hd, h1, hn, hT, ho, ht, h3⟩ := x
  exact ⟨k1, k2, k3, oe, vs, T, oT, ts, he, ⟨rfl, h0⟩, hd, h1, hn, hT, ho, ht, h3⟩
theorem Lies.tail {base : Heap} {env : Env} {l : List Env} {e : Addr} {oe : Obj} {vs : Array Value} {fl : Value} {h : Heap} (x : Lies base (env :: l) e oe vs fl h) : Lies base l e oe vs fl h := by
  obtain ⟨k1, k2, ⟨_, _, k3⟩, r⟩ := x
  exact ⟨k1, k2, k3, r⟩
theorem newsOf {h₀ h : Heap} {L : Addr} {m : Str → Option Value} (_F : Fr h₀ L h m) : News h₀ L h [] := News.nil
/-- a callee's frame seen from the caller's base -/
theorem frDown {base g h h' : Heap} {L Lc : Addr} {m mc : Str → Option Value} (FG : Fr base Lc g mc) (F : Fr g L h m) (st : base.StaysIn h') (u : h.UpToSlots h') : Fr base L h' m :=
  ⟨u.ns F.ns, st, Nat.le_trans (Nat.le_trans FG.above (Nat.le_of_lt FG.ns.lt)) F.above⟩
theorem frUp {base g h h' : Heap} {L Lc : Addr} {m mc : Str → Option Value} (FG : Fr base Lc g mc) (F : Fr g L h m) (st : base.StaysIn h') (u : h.UpToSlots h') : Fr base Lc h' mc :=
  ⟨((Heap.UpToSlots.of_keeps F.keep).trans u).ns FG.ns, st, FG.above⟩
section
variable {M : Model} {A : Around} {E : Value → Shared → Prop} {s : Shared} {base : Heap}
/-- the frame is left by an exception that it holds -/
theorem leaveOwn {env : Env} {outer : List Env} {L e : Addr} {oe : Obj} {vs : Array Value} {a0 : Value} {Q : Unit → Shared → Prop} (hf : env.frame = some L) (x : Lies base (env :: outer) e oe vs (rawInt L) s.heap) {cls : Value} {Lc : Addr} {mc : Str → Option Value} (hcl : oe.cls = cls) (h0 : vs[0]? = some a0) (F : Fr base Lc s.heap mc)
    (hQ : ∀ h', Heap.FlyingW base outer e cls a0 h' → Fr base Lc h' mc → Q () { s with heap := h' }) : wpAny M A (leaving env (.ref e)) Q E s := by
  unfold leaving
  subst hcl
  exact wpAny_bind (noteAgain hf x (setMark none x fun h' y u => hQ h' (y.tail.flying h0) (F.of_stays y.1 u)))
end
section
variable {prog : Program} {w : World} {A₀ : Around} {E : Value → Shared → Prop} {s' : Shared} {base : Heap} {outer : List Env} {L a e : Addr} {m : Str → Option Value} {cn : Str} {cs : Scope} {ccd : Value} {cl : List (Str × Addr)}
  {b₀ : Stmt} {suite : List Stmt} {pos np : Pos} {rest : List ExceptHandler} {Q : Flow → Shared → Prop} {KF : Frag} {C : Addr} {bmB : List Value} {newId : String} {a0 : Value}
  {p : Program} {loose : List Str} {mg mb : Str → Option Value} {x y : Str} {T' : String}
/-- an own exception is caught by its name in a frame that may hold cells -/
theorem catchOwn (hst : A₀.frames = some outer) (hfl : Heap.FlyingW base (envX cn cs L a ccd cl :: outer) e (.ref C) a0 s'.heap) (F : Fr base L s'.heap m)
    (X : KF.In base) (T : TopRead p loose mg mb base) (ex : nsIn KF mainGlobals x = some (some (.ref C))) (q : excIn KF C bmB newId = true) (hbase : bmB.contains (.type "BaseException") = true)
    (k : ∀ h', Fr base L h' m → wpAny (model prog w) ((A₀.deeper (envX cn cs L a ccd cl)).mark (some (.ref e))) (execs (b₀ :: suite) (envX cn cs L a ccd cl)) Q E { s' with heap := h' })
    (hk : cs.kind = .function := by rfl) (hx : (envX cn cs L a ccd cl).kindOf x = some .globalImplicit := by rfl) (hd : (x == ("__debug__" : Str)) = false := by decide)
    (hE : PassesOwnAt (model prog w) ((A₀.deeper (envX cn cs L a ccd cl)).mark (some (.ref e))) (A₀.deeper (envX cn cs L a ccd cl)) (envX cn cs L a ccd cl) E := by passes_own) :
    wpAny (model prog w) (A₀.deeper (envX cn cs L a ccd cl)) (noteFrame (.ref e) (envX cn cs L a ccd cl))
      (fun _ s₂ => wpAny (model prog w) (A₀.deeper (envX cn cs L a ccd cl)) (setFlight (.ref e) none) (fun _ s₃ =>
        wpAny (model prog w) (A₀.deeper (envX cn cs L a ccd cl)) (handleBy (.ref e) (envX cn cs L a ccd cl) (.ExceptHandler (some (.Name x np)) none (b₀ :: suite) pos :: rest)) Q E s₃) E s₂) E s' := by
  refine wpAny_looks_onW (Around.frames_deeper hst) rfl hfl fun h₄ hheld₄ hsm₄ => ?_
  refine wpAny_landsW hheld₄ fun h₅ hheld hsm₅' => ?_
  have F₅ := F.of_stays hheld.1 (hsm₄.trans hsm₅')
  obtain ⟨ob, hob, hobc⟩ := hheld.there
  refine wpAny_handleBy_cons (codeAny_handlers_test (nameX_K F₅ X T ex ?_ hk hx hd)) (by intro q; cases q)
  obtain ⟨bm, N, nm, qn, bs, hdct, sn, sub, ab, col, dd, k0, k1, k2, k3, k5, mN, hC, hN, hni, TL⟩ := ((own_of_in X T ex q).keeps F₅.keep).obj
  refine wpAny_excMatches_sub_self hC hob hobc (TL.hasType hbase) (codeAny_handlers_suite ?_)
  refine lands_againW hheld fun h₆ hfl₆ hsm₆ => ?_
  exact wpAny_passesOwnAt hE (k h₆ (F₅.of_stays hfl₆.1 hsm₆))
end
section
variable {prog : Program} {w : World} {A₀ : Around} {E : Value → Shared → Prop} {s' : Shared} {base g h : Heap} {outer : List Env} {L Lc a e : Addr} {m mc : Str → Option Value} {name : Str} {scope : Scope} {cd : Value}
  {b₀ : Stmt} {suite : List Stmt} {pos np : Pos} {Q : Flow → Shared → Prop} {KF : Frag} {C : Addr} {bmB : List Value} {newId : String}
  {p : Program} {loose : List Str} {mg mb : Str → Option Value} {x y n : Str} {T' : String}
/-- an own exception, raised here, is none that the one clause takes -/
theorem passOther {vs : List Value} (K : Below A₀ base outer g) (FG : Fr base Lc g mc) (F : Fr g L h m) (hx : Heap.MadeExcOf h s'.heap e (.ref C) vs)
    (X : KF.In base) (T : TopRead p loose mg mb base) (ey : nsIn KF mainGlobals y = some (some (.ref C))) (q : excIn KF C bmB newId = true) (ex : nsIn KF mainGlobals x = some none) (hv : bootBuiltins x = some (.type T')) (hn : x ≠ "__name__")
    (hexc : isSubtype (.type T') (.type "BaseException") = pure true) (hnt : isSubtype (.type ((Manifest.find? T').elim "type" fun y => y.metatype)) (.type "tuple") = pure false) (hb : bmB.contains (.type T') = false)
    (k : ∀ h' oe ws t, Lies base (envOf name scope L a cd :: outer) e oe ws (rawInt L) h' → oe.cls = .ref C → ws[0]? = some (.ref t) → Fr base Lc h' mc → E (.ref e) { s' with heap := h' })
    (hk : scope.kind = .function := by rfl) (hxk : (envOf name scope L a cd).kindOf x = some .globalImplicit := by rfl) (hd : (x == ("__debug__" : Str)) = false := by decide) :
    wpAny (model prog w) (A₀.deeper (envOf name scope L a cd)) (noteFrame (.ref e) (envOf name scope L a cd))
      (fun _ s₂ => wpAny (model prog w) (A₀.deeper (envOf name scope L a cd)) (setFlight (.ref e) none) (fun _ s₃ =>
        wpAny (model prog w) (A₀.deeper (envOf name scope L a cd)) (handleBy (.ref e) (envOf name scope L a cd) [.ExceptHandler (some (.Name x np)) (some n) (b₀ :: suite) pos]) Q E s₃) E s₂) E s' := by
  have K' := K.push (name := name) (a := a) (cd := cd) F hk
  obtain ⟨t, he, htn, ht⟩ := hx.there
  have fresh : ∀ b, h.get? b = none → base.get? b = none := fun b hb => by
    cases hq : base.get? b with
    | none => rfl
    | some o' => have := K'.stays b o' hq; rw [hb] at this; cases this
  refine noteNew K'.stack (K'.frames.of_keeps fun b o hb _ => ⟨o, hx.keeps b o hb, rfl⟩) rfl he (fun b o hb => hx.keeps b o (K'.stays b o hb)) (fresh e hx.new) rfl rfl fun h₁ oe T₁ y₁ c₁ u₁ => ?_
  refine setMark none y₁ fun h₂ y₂ u₂ => ?_
  have u : h.UpToSlots h₂ := ((Heap.UpToSlots.of_keeps hx.keeps).trans u₁).trans u₂
  have F₂ : Fr base L h₂ m := frDown FG F y₂.1 u
  refine wpAny_handleBy_cons (codeAny_handlers_test (name_B F₂ X T ex hv hn ?_ hk hxk hd)) (by intro q; cases q)
  obtain ⟨bm, N, nm, qn, bs, hdct, sn, sub, ab, col, dd, k0, k1, k2, k3, k5, mN, hC, hN, hni, TL⟩ := ((own_of_in X T ey q).keeps F₂.keep).obj
  obtain ⟨_, _, _, T₂, oT, ts, he₂, hd₂, _⟩ := id y₂
  refine wpAny_excMatches_sub_type hC he₂ c₁ hexc hnt ?_
  rw [TL.hasType hb]
  show wpAny _ _ (PySem.passOn "try.no-clause-matches" (.ref e) _) _ _ _
  refine passes rfl y₂ fun h₃ y₃ u₃ => ?_
  exact k h₃ oe _ t y₃ c₁ (by simp) (frUp FG F y₃.1 (u.trans u₃))
/-- a new IndexError is caught here under a name: the suite's start, over the caller's base -/
theorem catchIdx (K : Below A₀ base outer g) (FG : Fr base Lc g mc) (F : Fr g L h m) (hx : Heap.NewExc h s'.heap e T')
    (X : KF.In base) (T : TopRead p loose mg mb base) (ex : nsIn KF mainGlobals x = some none) (hv : bootBuiltins x = some (.type T')) (hn : x ≠ "__name__")
    (hexc : isSubtype (.type T') (.type "BaseException") = pure true) (hnt : isSubtype (.type ((Manifest.find? T').elim "type" fun y => y.metatype)) (.type "tuple") = pure false) (hsub : isSubtype (.type T') (.type T') = pure true)
    (k : ∀ h' tk oe ws oc, Fr base L h' (fun y => if y = n then some (.ref e) else m y) → News base L h' [(e, oe), (Lc, oc)] → oe.cls = .type T' → oe.data = .fields ws → ws[2]? = some .none → (∃ es ep, Obj.data oc = .dict es ep) → (∀ (h'' : Heap) (sl : Array (Option Value)), h''.get? Lc = some { oc with slots := sl } → h''.Ns Lc mc) →
      wpAny (model prog w) ((A₀.deeper (envOf name scope L a cd)).mark (some (.ref e))) (execs (b₀ :: suite) (envOf name scope L a cd))
        (fun f s₄ => wpAny (model prog w) (A₀.deeper (envOf name scope L a cd)) (do bindName (envOf name scope L a cd) n .none; unbindBehindTheSuite (envOf name scope L a cd) n pos) (fun _ s₅ => Q f s₅) E s₄)
        (AsSuiteRaised (model prog w) ((A₀.deeper (envOf name scope L a cd)).mark (some (.ref e))) (envOf name scope L a cd) n pos (notedBy (model prog w) ((A₀.deeper (envOf name scope L a cd)).mark (some (.ref e))) (envOf name scope L a cd) (cameBackBy (model prog w) (A₀.deeper (envOf name scope L a cd)) (envOf name scope L a cd) E)))
        { s' with heap := h', toks := tk })
    (hk : scope.kind = .function := by rfl) (hlo : (envOf name scope L a cd).kindOf n = some .local := by rfl) (hxk : (envOf name scope L a cd).kindOf x = some .globalImplicit := by rfl) (hd : (x == ("__debug__" : Str)) = false := by decide) :
    wpAny (model prog w) (A₀.deeper (envOf name scope L a cd)) (noteFrame (.ref e) (envOf name scope L a cd))
      (fun _ s₂ => wpAny (model prog w) (A₀.deeper (envOf name scope L a cd)) (setFlight (.ref e) none) (fun _ s₃ =>
        wpAny (model prog w) (A₀.deeper (envOf name scope L a cd)) (handleBy (.ref e) (envOf name scope L a cd) [.ExceptHandler (some (.Name x np)) (some n) (b₀ :: suite) pos]) Q E s₃) E s₂) E s' := by
  have K' := K.push (name := name) (a := a) (cd := cd) F hk
  obtain ⟨ob, t, he, hcls, hdt⟩ := hx.there
  have fresh : ∀ b, h.get? b = none → base.get? b = none := fun b hb => by
    cases hq : base.get? b with
    | none => rfl
    | some o' => have := K'.stays b o' hq; rw [hb] at this; cases this
  refine noteNew K'.stack (K'.frames.of_keeps fun b o hb _ => ⟨o, hx.keeps b o hb, rfl⟩) rfl he (fun b o hb => hx.keeps b o (K'.stays b o hb)) (fresh e hx.new) hdt rfl fun h₁ oe T₁ y₁ c₁ u₁ => ?_
  refine setMark none y₁ fun h₂ y₂ u₂ => ?_
  have u : h.UpToSlots h₂ := ((Heap.UpToSlots.of_keeps hx.keeps).trans u₁).trans u₂
  have F₂ : Fr base L h₂ m := frDown FG F y₂.1 u
  obtain ⟨_, _, _, T₂, oT, ts, he₂, hd₂, _⟩ := id y₂
  refine wpAny_handleBy_builtin_as (X := T') (T := T') (b := true) hexc hnt hsub (name_B F₂ X T ex hv hn ⟨rfl, ⟨oe, he₂, c₁.trans hcls⟩, ?_⟩ hk hxk hd)
  refine setMark none y₂ fun h₃ y₃ u₃ => ?_
  have u' := u.trans u₃
  have F₃ : Fr base L h₃ m := frDown FG F y₃.1 u'
  obtain ⟨_, hb₃, _, T₃, oT₃, ts₃, he₃, hd₃, _⟩ := id y₃
  obtain ⟨oL, es, ep, hLc, hLd, hLr⟩ := FG.ns
  have hLch : h.get? Lc = some oL := F.keep _ _ hLc
  obtain ⟨sl, hLc₃⟩ := u' Lc oL hLch fun vs q => by rw [hLd] at q; cases q
  have hLe : e ≠ L := fun q => by
    obtain ⟨o₁, es₁, ep₁, h1, h2, _⟩ := F₃.ns
    rw [← q, he₃] at h1; cases h1; rw [hd₃] at h2; cases h2
  have hLL : Lc ≠ L := Nat.ne_of_lt (Nat.lt_of_lt_of_le (Heap.lt_size hLc) F.above)
  have N₃ : News base L h₃ [(e, oe), (Lc, { oL with slots := sl })] := fun p hp => by
    rcases List.mem_cons.mp hp with rfl | hp
    · exact ⟨he₃, hLe, hb₃⟩
    · rcases List.mem_cons.mp hp with rfl | hp
      · exact ⟨hLc₃, hLL, Heap.get?_none_of_le FG.above⟩
      · exact nomatch hp
  refine stN F₃ N₃ (fun h₄ F₄ N₄ => ?_) hk hlo
  refine k h₄ _ oe _ _ F₄ N₄ (c₁.trans hcls) hd₃ (by simp) ⟨es, ep, hLd⟩ fun h'' sl' hh => ?_
  exact ⟨_, es, ep, hh, hLd, hLr⟩
end
end Mine

namespace Mine
theorem entry_unchain : entryFor table "proto.unchain" = some Builtin.«proto.unchain» := entryFor_of_fast (by kernel_rfl)
theorem plain_unchain : plainId "proto.unchain" = true := by decide +kernel
section
variable {prog : Program} {w : World} {A : Around} {E : Value → Shared → Prop} {s : Shared}
/-- an exception is raised while another, without a context of its own, is handled -/
theorem raiseOver {α : Type} {e e₁ : Addr} {o oe : Obj} {ws vs : Array Value} {Q : α → Shared → Prop} (hh : A.handled = some (.ref e₁)) (hne : e ≠ e₁) (he : s.heap.get? e = some o) (hd : o.data = .fields ws) (hsz : 2 < ws.size)
    (he₁ : s.heap.get? e₁ = some oe) (hd₁ : oe.data = .fields vs) (h2 : vs[2]? = some .none)
    (h : E (.ref e) { s with heap := s.heap.update e (Obj.mapFields (·.setIfInBounds 2 (.ref e₁))) }) : wpAny (model prog w) A (raiseNew (.ref e) : Sem α) Q E s := by
  unfold raiseNew
  refine wpAny_bind (wpAny_handled ?_)
  rw [hh]
  have hc : (Value.ref e₁ != Value.ref e) = true := by simpa using Ne.symm hne
  show wpAny (model prog w) A (if (Value.ref e₁ != Value.ref e) = true then _ else _) _ _ _
  rw [if_pos hc]
  refine wpAny_bind (wpAny_holding (wpAny_runValue (codeAny_builtin entry_unchain ?_)))
  show wpAny _ _ (field (.ref e₁) 2 >>= _) _ _ s
  refine wpAny_bind (wpAny_field he₁ hd₁ h2 ?_)
  rw [if_pos (show (Value.none == Value.none) = true from rfl)]
  refine wpAny_pure ?_
  refine wpAny_bind (show wpAny _ _ (setField (.ref e) 2 (.ref e₁)) _ _ s from wpAny_setField he hd hsz ?_)
  exact wpAny_throw h

variable {env : Env} {nm q : Str} {C N : Addr} {bs bm : List Value} {hdct : Bool} {sn : List Str} {sub : List Value} {ab : Bool} {col : Option Bool} {dd : Option Addr} {k0 k1 k2 k3 k5 : Option Value} {newId : String}
theorem raiseFromStmt {x c : Sem Value} {e₁ : Addr} {oe : Obj} {vs : Array Value} {T' : String} {Q : Flow → Shared → Prop} (hbase : bm.contains (.type "BaseException") = true) (hh : A.handled = some (.ref e₁))
    (hc₁ : oe.cls = .type T') (hd₁ : oe.data = .fields vs) (h2 : vs[2]? = some .none) (hexc : isSubtype (.type T') (.type "BaseException") = pure true)
    (h : wpAny (model prog w) A x (fun v s₁ => ∃ e t, v = .ref e ∧ wpAny (model prog w) A c (fun u s₂ => u = .ref e₁ ∧ s₂.heap.get? C = some (excClassObj nm q C N bs bm hdct sn sub ab col dd k0 k1 k2 k3 k5 newId) ∧
      s₂.heap.get? e = some { cls := .ref C, data := .fields #[.ref t, .none, .none, .none, .bool false, .none] } ∧ s₂.heap.get? e₁ = some oe ∧ e ≠ e₁ ∧
      (∀ h', h'.get? e = some { cls := .ref C, data := .fields #[.ref t, .none, .ref e₁, .ref e₁, .bool true, .none] } → (∀ b, b ≠ e → h'.get? b = s₂.heap.get? b) → E (.ref e) { s₂ with heap := h' })) E s₁) E s) :
    wpAny (model prog w) A (raiseStmt env (some x) (some c)) Q E s := by
  have hcB : (Value.ref C :: bm).contains (.type "BaseException") = true := by rw [List.contains_cons, hbase, Bool.or_true]
  unfold raiseStmt
  refine wpAny_bind (wpAny_mono h (fun v s₁ h₁ => ?_) fun _ _ x => x)
  obtain ⟨e, t, rfl, h₂⟩ := h₁
  refine wpAny_bind (wpAny_holding (wpAny_mono h₂ (fun u s₂ h₃ => wpAny_bind (wpAny_pure ?_)) fun _ _ x => x))
  obtain ⟨rfl, hC, he, he₁, hne, hE⟩ := h₃
  obtain ⟨hp, g, d, tk, os⟩ := s₂
  dsimp only at hC he he₁ hE
  have hCe : e ≠ C := fun z => by rw [z, hC] at he; cases he
  repeat (first | with_reducible refine wpAny_loadPart_at he ?_ | with_reducible refine wpAny_loadPart_at hC ?_ | (with_reducible refine wpAny_loadPart_at he₁ ?_; rw [hc₁]) | (with_reducible refine wpAny_isSubtype_exc hC ?_; rw [hcB]) | wp_step)
  have e3 := Heap.get?_update_self (Obj.mapFields (·.setIfInBounds 3 (Value.ref e₁))) he rfl
  have e4 := Heap.get?_update_self (Obj.mapFields (·.setIfInBounds 4 (Value.bool true))) e3 rfl
  have e5 := Heap.get?_update_self (Obj.mapFields (·.setIfInBounds 2 (Value.ref e₁))) e4 rfl
  have o4 : ∀ b, b ≠ e → ((hp.update e (Obj.mapFields (·.setIfInBounds 3 (Value.ref e₁)))).update e (Obj.mapFields (·.setIfInBounds 4 (Value.bool true)))).get? b = hp.get? b := fun b hb => by
    rw [Heap.get?_update_other _ _ (Ne.symm hb), Heap.get?_update_other _ _ (Ne.symm hb)]
  refine raiseOver hh hne e4 rfl (by simp) ((o4 e₁ (Ne.symm hne)).trans he₁) hd₁ h2 (hE _ e5 fun b hb => ?_)
  show (Heap.update _ _ _).get? b = _
  rw [Heap.get?_update_other _ _ (Ne.symm hb)]
  exact o4 b hb
end
end Mine

namespace Mine
theorem noneBelow {base : Heap} {L : Addr} (h : base.objs.size ≤ L) : base.get? L = none := Heap.get?_none_of_le h
/-- two frames on the stack, the inner one by its namespace -/
theorem twoFrames {base h : Heap} {env ENV : Env} {L Lc : Addr} {m : Str → Option Value} {oc : Obj} (hf : env.frame = some L) (hk : env.scope.kind ≠ .module) (hL : base.objs.size ≤ L) (hn : h.Ns L m)
    (hF : ENV.frame = some Lc) (hK : ENV.scope.kind ≠ .module) (hLc : base.objs.size ≤ Lc) (ho : h.get? Lc = some oc) (hd : ∃ es ep, oc.data = .dict es ep) : h.FunFrames base [env, ENV] := by
  obtain ⟨o, es, ep, h1, h2, _⟩ := hn
  obtain ⟨es', ep', hd⟩ := hd
  exact ⟨hk, ⟨L, o, hf, noneBelow hL, h1, fun vs z => by rw [h2] at z; cases z⟩, hK, ⟨Lc, oc, hF, noneBelow hLc, ho, fun vs z => by rw [hd] at z; cases z⟩, trivial⟩
section
variable {prog : Program} {w : World} {A₀ : Around} {E : Value → Shared → Prop} {s : Shared} {base : Heap} {ENV : Env} {L Lc a e₁ : Addr} {m mc : Str → Option Value} {name : Str} {scope : Scope} {cd : Value}
  {np cpos pos yp ep hpos : Pos} {Q : Flow → Shared → Prop} {KF : Frag} {C : Addr} {bmB : List Value} {B newId initId : String} {news : List (Addr × Obj)}
  {p : Program} {loose : List Str} {mg mb : Str → Option Value} {x y n : Str} {T' : String} {oe oc : Obj} {vs : Array Value} {v : Value}
/-- «raise X(y) from n» in the suite of «except .. as n»: the frame is left through the handler -/
theorem raiseFrom (hst : A₀.frames = some [ENV]) (hENV : ENV.frame = some Lc) (hEf : ENV.scope.kind = .function) (F : Fr base L s.heap m) (N : News base L s.heap news) (hm₁ : (e₁, oe) ∈ news) (hmc : (Lc, oc) ∈ news)
    (hLc : base.objs.size ≤ Lc) (hc₁ : oe.cls = .type T') (hd₁ : oe.data = .fields vs) (h2 : vs[2]? = some .none) (hcd : ∃ es ep, oc.data = .dict es ep) (hcn : ∀ (h'' : Heap) (sl : Array (Option Value)), h''.get? Lc = some { oc with slots := sl } → h''.Ns Lc mc)
    (hexc : isSubtype (.type T') (.type "BaseException") = pure true) (X : KF.In base) (T : TopRead p loose mg mb base) (ex : nsIn KF mainGlobals x = some (some (.ref C))) (q : excIn KF C bmB newId = true) (FB : ExcBaseFacts B newId initId bmB)
    (hy : m y = some v) (hn : m n = some (.ref e₁))
    (k : ∀ h' tk e oe' ws t, Lies base [envOf name scope L a cd, ENV] e oe' ws (rawInt L) h' → oe'.cls = .ref C → ws[0]? = some (.ref t) → Fr base Lc h' mc → E (.ref e) { s with heap := h', toks := tk })
    (hk : scope.kind = .function := by rfl) (hxk : (envOf name scope L a cd).kindOf x = some .globalImplicit := by rfl) (hd : (x == ("__debug__" : Str)) = false := by decide)
    (hyk : (envOf name scope L a cd).kindOf y = some .local := by rfl) (hyd : (y == ("__debug__" : Str)) = false := by decide)
    (hnk : (envOf name scope L a cd).kindOf n = some .local := by rfl) (hnd : (n == ("__debug__" : Str)) = false := by decide) :
    wpAny (model prog w) ((A₀.deeper (envOf name scope L a cd)).mark (some (.ref e₁))) (exec (.Raise (some (.Call (.Name x np) [.Name y yp] [] cpos)) (some (.Name n ep)) pos) (envOf name scope L a cd)) Q
      (AsSuiteRaised (model prog w) ((A₀.deeper (envOf name scope L a cd)).mark (some (.ref e₁))) (envOf name scope L a cd) n hpos (notedBy (model prog w) ((A₀.deeper (envOf name scope L a cd)).mark (some (.ref e₁))) (envOf name scope L a cd) (cameBackBy (model prog w) (A₀.deeper (envOf name scope L a cd)) (envOf name scope L a cd) E))) s := by
  obtain ⟨bm, N', nm, qn, bs, hdct, sn, sub, ab, col, dd, k0, k1, k2, k3, k5, mN, hC, hN, hni, TL⟩ := ((own_of_in X T ex q).keeps F.keep).obj
  have hbase := TL.hasType FB.hasBase
  have hEk : ENV.scope.kind ≠ .module := by rw [hEf]; decide
  rw [arm_exec_Raise]
  refine wpAny_bind (wpAny_standAt (raiseFromStmt (C := C) (nm := nm) (q := qn) (N := N') (bs := bs) (bm := bm) (hdct := hdct) (sn := sn) (sub := sub) (ab := ab) (col := col) (dd := dd) (k0 := k0) (k1 := k1) (k2 := k2) (k3 := k3) (k5 := k5) (newId := newId) hbase rfl hc₁ hd₁ h2 hexc ?_))
  refine wpAny_bind (wpAny_mono (wpAny_Call_ofName (name_K F X T ex ?_ hk hxk hd)) (fun v s₃ h₃ => wpAny_bind (wpAny_standAt (wpAny_pure h₃))) fun _ _ x => x)
  unfold callWith
  refine wpAny_bind (wpAny_holding ?_)
  refine Calls.evalArgs_plain ?_
  show wpAny _ _ (spliced (backTo cpos (starEach [.Name y yp] (envOf name scope L a cd)))) _ _ _
  refine spliced_more (ld F hy (spliced_none ?_) hk hyk hyd)
  refine wpAny_bind (wpAny_standAt ?_)
  obtain ⟨hp, g, d, tk, os⟩ := s
  dsimp only at F N hC hN TL
  refine wpAny_bind (wpAny_keeperOf_exc hC ?_)
  refine wpAny_bind (wpAny_call_exc_subT (hrest := by size_fits) FB TL hC hN hni fun h' e hm => wpAny_bind (wpAny_holding (wpAny_point (wpAny_pure ?_))))
  obtain ⟨t, ht, htn, htt⟩ := hm.there
  have F' : Fr base L h' m := F.keptAll hm.keeps
  have N₁ : News base L h' news := N.grown hm.keeps
  have h₁ := (N₁ _ hm₁).1
  have hne : e ≠ e₁ := fun z => by have := (N _ hm₁).1; rw [← z, hm.new] at this; cases this
  refine ⟨e, t, rfl, wpAny_bind (ld F' hn (wpAny_bind (wpAny_standAt (wpAny_pure ⟨rfl, hm.keeps _ _ hC, ht, h₁, hne, fun h₂ he₂ ho₂ => ?_⟩))) hk hnk hnd)⟩
  dsimp only at ho₂
  have hLe : L ≠ e := fun z => by
    obtain ⟨o, _, _, h1, _⟩ := F.ns
    rw [z, hm.new] at h1; cases h1
  have hLce : Lc ≠ e := fun z => by have := (N _ hmc).1; rw [z, hm.new] at this; cases this
  have hLcL : Lc ≠ L := (N _ hmc).2.1
  have hbe : base.get? e = none := by
    cases hq : base.get? e with
    | none => rfl
    | some o' => have := F.keep e o' hq; rw [hm.new] at this; cases this
  have st₂ : base.StaysIn h₂ := fun b o hb => (ho₂ b fun z => by rw [z, hbe] at hb; cases hb).trans (F'.keep b o hb)
  have ns₂ : h₂.Ns L m := by
    obtain ⟨o, es, ep, h1, h2, h3⟩ := F'.ns
    exact ⟨o, es, ep, (ho₂ L hLe).trans h1, h2, h3⟩
  have hLc₂ : h₂.get? Lc = some oc := (ho₂ Lc hLce).trans (N₁ _ hmc).1
  have hmod : (envOf name scope L a cd).scope.kind ≠ .module := by show scope.kind ≠ .module; rw [hk]; decide
  have fr₂ : h₂.FunFrames base [envOf name scope L a cd, ENV] := twoFrames rfl hmod F.above ns₂ hENV hEk hLc hLc₂ hcd
  refine noteNew (s := ⟨h₂, g, d, tk, os⟩) (Around.frames_deeper hst) fr₂ rfl he₂ st₂ hbe rfl rfl fun h₃ oe' T₃ y₃ c₃ u₃ => ?_
  have ns₃ : h₃.Ns L m := u₃.ns ns₂
  obtain ⟨sl₃, hLc₃⟩ := u₃ Lc oc hLc₂ fun vs z => by obtain ⟨es, ep, hcd⟩ := hcd; rw [hcd] at z; cases z
  refine wpAny_nameGoes hnk ns₃ (by show (scope.kind == .class || (scope.kind == .module && L != mainGlobals)) = false; rw [hk]; rfl) fun h₄ m₄ ns₄ sb₄ => ?_
  have o₄ : ∀ b, b ≠ L → h₄.get? b = h₃.get? b := fun b hb => sb₄.2 b hb
  have hLc₄ : h₄.get? Lc = some { oc with slots := sl₃ } := (o₄ Lc hLcL).trans hLc₃
  have y₄ : Lies base [envOf name scope L a cd, ENV] e oe' ((#[.ref t, .none, .ref e₁, .ref e₁, .bool true, .none] : Array Value).setIfInBounds 1 (.ref T₃)) (rawInt L) h₄ := by
    obtain ⟨z1, z2, z3, T₄, oT, ts, z4, z5, z6, z7, z8, z9, z10, z11⟩ := y₃
    have hT : T₄ ≠ L := fun z => by
      obtain ⟨o, es, ep, h1, h2, _⟩ := ns₃
      rw [← z, z9] at h1; cases h1; rw [z10] at h2; cases h2
    exact ⟨fun b o hb => (o₄ b fun z => by rw [z, noneBelow F.above] at hb; cases hb).trans (z1 b o hb), z2, twoFrames rfl hmod F.above ns₄ hENV hEk hLc hLc₄ hcd,
      T₄, oT, ts, (o₄ e (Ne.symm hLe)).trans z4, z5, z6, z7, z8, (o₄ T₄ hT).trans z9, z10, z11⟩
  refine passes rfl y₄ fun h₅ y₅ u₅ => ?_
  show wpAny _ _ (noteFrame _ _) _ _ _
  refine noteAgain rfl y₅ ?_
  refine cameBack rfl y₅ fun h₆ y₆ u₆ => ?_
  obtain ⟨sl₆, hLc₆⟩ := (u₅.trans u₆) Lc _ hLc₄ fun vs z => by obtain ⟨es, ep, hcd⟩ := hcd; rw [hcd] at z; cases z
  exact k h₆ _ e oe' _ t y₆ c₃ (by simp) ⟨hcn h₆ sl₆ hLc₆, y₆.1, hLc⟩
end
end Mine

namespace Mine
open PySem.Builtin
theorem slot_bytes_repr : Slot "bytes" "__repr__" "bytes.__repr__" :=
  .of (owner := "bytes") (n := "__repr__") (by rw [typeLookup_type, builtinLookup_eq_fast]; kernel_rfl) (by decide +kernel) (by decide +kernel) (by decide +kernel)
    (by first | exact .inl (by decide +kernel) | exact .inr (by decide +kernel)) (by rw [isSubtype_type]; kernel_rfl)
theorem entry_bytes_repr : entryFor table "bytes.__repr__" = some Builtin.«bytes.__repr__» := entryFor_of_tree (by kernel_rfl)
theorem args_bytes_repr (a : Value) : argsOk "bytes.__repr__" ⟨[a], []⟩ := by unfold argsOk; kernel_rfl
theorem fold_size {α : Type} (f : UInt8 → Array α) (hf : ∀ c, (f c).size ≤ 4) : ∀ (l : List UInt8) (acc : Array α), (l.foldl (fun acc c => acc ++ f c) acc).size ≤ acc.size + 4 * l.length
  | [], acc => by simp
  | c :: r, acc => by
    have h1 := fold_size f hf r (acc ++ f c)
    have h2 := hf c
    simp only [List.foldl_cons, List.length_cons]
    simp only [Array.size_append] at h1
    omega
theorem literal_size (b : Array UInt8) : (Bytes.literal b).length ≤ 4 * b.size + 3 := by
  unfold Bytes.literal
  show (Array.push _ _).size ≤ _
  rw [Array.size_push, ← Array.foldl_toList]
  refine Nat.le_trans (Nat.succ_le_succ (fold_size _ (fun c => ?_) b.toList _)) (by simp; omega)
  dsimp only
  repeat' split
  all_goals simp
theorem gives_bytes_repr (b : Array UInt8) (t : Tok) (h : 4 * b.size + 3 ≤ sizeLine) : Gives («bytes.__repr__» ⟨[.bytes b t], []⟩) (.str (Bytes.literal b)) := by
  have hl : Bytes.tooLong (4 * b.size + 3 + 0) = false := by simp only [Bytes.tooLong, decide_eq_false_iff_not]; omega
  have e : «bytes.__repr__» ⟨[.bytes b t], []⟩ = retStr (Bytes.literal b) := by
    show (Bytes.literalAsked b >>= fun x => retStr x) = _
    unfold Bytes.literalAsked
    rw [hl]
    rfl
  rw [e]
  exact .of_eq rfl
section
variable {prog : Program} {w : World} {A : Around} {E : Value → Shared → Prop} {s : Shared} {t : Tok} {Q : Value → Shared → Prop}
theorem reprBytes {os : List Int} (hn : os.length ≤ 1000000) (h : ∀ x : Str, x.length ≤ 4000003 → Q (.str x s.toks) { s with toks := s.toks + 1 }) : wpAny (model prog w) A (pyReprObj (.bytes (byteArr os) t)) Q E s := by
  have hs := byteArr_size os
  have hl := literal_size (byteArr os)
  have hz : sizeLine = 16777216 := sizeLine_eq
  exact wpAny_pyReprObj_gives (typeIs_bytes s _ t) slot_bytes_repr entry_bytes_repr (args_bytes_repr _) (gives_bytes_repr _ t (by omega)) (h _ (by omega)) rfl (by omega)
theorem formatStr {x : Str} (hx : x.length ≤ 4000003) (h : ∀ t' k, Q (.str x t') { s with toks := k }) : wpAny (model prog w) A (formatField (.str x t) Str.empty) Q E s :=
  wpAny_formatField_str (by have := h t s.toks; exact this) (h _ _) (by have hz : sizeLine = 16777216 := sizeLine_eq; omega)
end
end Mine

namespace Mine
theorem octStep1 {ks pre : List Int} {n : Int} (h : ks = pre.map octOf) (hn : n.fmod 3 = 0) : ks ++ [255] = (pre ++ [n]).map octOf := by
  subst h; simp [octOf, hn]
theorem octStep2 {ks pre : List Int} {n : Int} (h : ks = pre.map octOf) (hn : n.fmod 3 ≠ 0) : ks ++ [n.fmod 256] = (pre ++ [n]).map octOf := by
  subst h; simp [octOf, hn]
theorem fold_filter (p : Int → Prop) [DecidablePred p] : ∀ (l acc : List Int), l.foldl (fun l' k' => if p k' then l' ++ [k'] else l') acc = acc ++ l.filter (fun k => decide (p k))
  | [], acc => by simp
  | k :: r, acc => by
    rw [List.foldl_cons, fold_filter p r]
    by_cases h : p k <;> simp [h]
theorem fm_lo {x : Int} (h0 : 0 ≤ x) (h : x < 128) : x.fmod 128 = x := by rw [Int.fmod_eq_emod_of_nonneg _ (by decide)]; omega
theorem fm_hi {x : Int} (h0 : x < 256) (h : 128 ≤ x) : x.fmod 128 = x - 128 := by rw [Int.fmod_eq_emod_of_nonneg _ (by decide)]; omega
/-- where the first octet below 128 stands, if any of the five does -/
theorem endsSplit {ys : List Value} {os : List Int} {P : Prop} (hI : KBa.In os)
    (hE : IntsAre ys (List.foldl (fun l' k' => if os.getD k'.toNat 0 < 128 then l' ++ [k'] else l') [] (rangeKs 1 ((if 6 < (os.length : Int) then 6 else (os.length : Int)) - 1).toNat)))
    (h0 : IntsAre ys [] → (1 < os.length → 128 ≤ os.getD 1 0) → (2 < os.length → 128 ≤ os.getD 2 0) → (3 < os.length → 128 ≤ os.getD 3 0) → (4 < os.length → 128 ≤ os.getD 4 0) → (5 < os.length → 128 ≤ os.getD 5 0) → P)
    (h1 : ∀ r, IntsAre ys (1 :: r) → r.length ≤ 4 → 1 < os.length → os.getD 1 0 < 128 → (os.getD 1 0).fmod 128 = os.getD 1 0 → P)
    (h2 : ∀ r, IntsAre ys (2 :: r) → r.length ≤ 4 → 2 < os.length → 128 ≤ os.getD 1 0 → os.getD 2 0 < 128 → (os.getD 1 0).fmod 128 = os.getD 1 0 - 128 → (os.getD 2 0).fmod 128 = os.getD 2 0 → P)
    (h3 : ∀ r, IntsAre ys (3 :: r) → r.length ≤ 4 → 3 < os.length → 128 ≤ os.getD 1 0 → 128 ≤ os.getD 2 0 → os.getD 3 0 < 128 → (os.getD 1 0).fmod 128 = os.getD 1 0 - 128 → (os.getD 2 0).fmod 128 = os.getD 2 0 - 128 → (os.getD 3 0).fmod 128 = os.getD 3 0 → P)
    (h4 : ∀ r, IntsAre ys (4 :: r) → r.length ≤ 4 → 4 < os.length → 128 ≤ os.getD 1 0 → 128 ≤ os.getD 2 0 → 128 ≤ os.getD 3 0 → os.getD 4 0 < 128 → (os.getD 1 0).fmod 128 = os.getD 1 0 - 128 → (os.getD 2 0).fmod 128 = os.getD 2 0 - 128 → (os.getD 3 0).fmod 128 = os.getD 3 0 - 128 → (os.getD 4 0).fmod 128 = os.getD 4 0 → P)
    (h5 : ∀ r, IntsAre ys (5 :: r) → r.length ≤ 4 → 5 < os.length → 128 ≤ os.getD 1 0 → 128 ≤ os.getD 2 0 → 128 ≤ os.getD 3 0 → 128 ≤ os.getD 4 0 → os.getD 5 0 < 128 → (os.getD 1 0).fmod 128 = os.getD 1 0 - 128 → (os.getD 2 0).fmod 128 = os.getD 2 0 - 128 → (os.getD 3 0).fmod 128 = os.getD 3 0 - 128 → (os.getD 4 0).fmod 128 = os.getD 4 0 - 128 → (os.getD 5 0).fmod 128 = os.getD 5 0 → P) : P := by
  rw [fold_filter (fun k => os.getD k.toNat 0 < 128), List.nil_append] at hE
  have hk : ∃ k : Nat, ((if 6 < (os.length : Int) then 6 else (os.length : Int)) - 1).toNat = k ∧ ((6 < os.length ∧ k = 5) ∨ (os.length ≤ 6 ∧ k = os.length - 1)) := by
    refine ⟨_, rfl, ?_⟩
    split <;> omega
  obtain ⟨k, hk, hn⟩ := hk
  rw [hk] at hE
  have pos : ∀ (i : Int) (l : List Int), os.getD i.toNat 0 < 128 → (i :: l).filter (fun k => decide (os.getD k.toNat 0 < 128)) = i :: l.filter (fun k => decide (os.getD k.toNat 0 < 128)) := fun i l h => List.filter_cons_of_pos (by simpa using h)
  have neg : ∀ (i : Int) (l : List Int), 128 ≤ os.getD i.toNat 0 → (i :: l).filter (fun k => decide (os.getD k.toNat 0 < 128)) = l.filter (fun k => decide (os.getD k.toNat 0 < 128)) := fun i l h => List.filter_cons_of_neg (by simpa using h)
  have hk5 : k = 0 ∨ k = 1 ∨ k = 2 ∨ k = 3 ∨ k = 4 ∨ k = 5 := by omega
  rcases hk5 with rfl | rfl | rfl | rfl | rfl | rfl
  · rw [show rangeKs 1 0 = [] from rfl] at hE
    exact h0 hE (by omega) (by omega) (by omega) (by omega) (by omega)
  · rw [show rangeKs 1 1 = [1] from rfl] at hE
    by_cases p1 : os.getD 1 0 < 128
    · rw [pos 1 _ p1] at hE; exact h1 _ hE (Nat.le_trans (List.length_filter_le _ _) (by decide)) (by omega)  p1 (fm_lo (in_getD hI 1).1 p1)
    rw [neg 1 _ (Int.not_lt.mp p1)] at hE
    exact h0 hE (fun _ => Int.not_lt.mp p1) (by omega) (by omega) (by omega) (by omega)
  · rw [show rangeKs 1 2 = [1, 2] from rfl] at hE
    by_cases p1 : os.getD 1 0 < 128
    · rw [pos 1 _ p1] at hE; exact h1 _ hE (Nat.le_trans (List.length_filter_le _ _) (by decide)) (by omega)  p1 (fm_lo (in_getD hI 1).1 p1)
    rw [neg 1 _ (Int.not_lt.mp p1)] at hE
    by_cases p2 : os.getD 2 0 < 128
    · rw [pos 2 _ p2] at hE; exact h2 _ hE (Nat.le_trans (List.length_filter_le _ _) (by decide)) (by omega) (Int.not_lt.mp p1) p2 (fm_hi (in_getD hI 1).2 (Int.not_lt.mp p1)) (fm_lo (in_getD hI 2).1 p2)
    rw [neg 2 _ (Int.not_lt.mp p2)] at hE
    exact h0 hE (fun _ => Int.not_lt.mp p1) (fun _ => Int.not_lt.mp p2) (by omega) (by omega) (by omega)
  · rw [show rangeKs 1 3 = [1, 2, 3] from rfl] at hE
    by_cases p1 : os.getD 1 0 < 128
    · rw [pos 1 _ p1] at hE; exact h1 _ hE (Nat.le_trans (List.length_filter_le _ _) (by decide)) (by omega)  p1 (fm_lo (in_getD hI 1).1 p1)
    rw [neg 1 _ (Int.not_lt.mp p1)] at hE
    by_cases p2 : os.getD 2 0 < 128
    · rw [pos 2 _ p2] at hE; exact h2 _ hE (Nat.le_trans (List.length_filter_le _ _) (by decide)) (by omega) (Int.not_lt.mp p1) p2 (fm_hi (in_getD hI 1).2 (Int.not_lt.mp p1)) (fm_lo (in_getD hI 2).1 p2)
    rw [neg 2 _ (Int.not_lt.mp p2)] at hE
    by_cases p3 : os.getD 3 0 < 128
    · rw [pos 3 _ p3] at hE; exact h3 _ hE (Nat.le_trans (List.length_filter_le _ _) (by decide)) (by omega) (Int.not_lt.mp p1) (Int.not_lt.mp p2) p3 (fm_hi (in_getD hI 1).2 (Int.not_lt.mp p1)) (fm_hi (in_getD hI 2).2 (Int.not_lt.mp p2)) (fm_lo (in_getD hI 3).1 p3)
    rw [neg 3 _ (Int.not_lt.mp p3)] at hE
    exact h0 hE (fun _ => Int.not_lt.mp p1) (fun _ => Int.not_lt.mp p2) (fun _ => Int.not_lt.mp p3) (by omega) (by omega)
  · rw [show rangeKs 1 4 = [1, 2, 3, 4] from rfl] at hE
    by_cases p1 : os.getD 1 0 < 128
    · rw [pos 1 _ p1] at hE; exact h1 _ hE (Nat.le_trans (List.length_filter_le _ _) (by decide)) (by omega)  p1 (fm_lo (in_getD hI 1).1 p1)
    rw [neg 1 _ (Int.not_lt.mp p1)] at hE
    by_cases p2 : os.getD 2 0 < 128
    · rw [pos 2 _ p2] at hE; exact h2 _ hE (Nat.le_trans (List.length_filter_le _ _) (by decide)) (by omega) (Int.not_lt.mp p1) p2 (fm_hi (in_getD hI 1).2 (Int.not_lt.mp p1)) (fm_lo (in_getD hI 2).1 p2)
    rw [neg 2 _ (Int.not_lt.mp p2)] at hE
    by_cases p3 : os.getD 3 0 < 128
    · rw [pos 3 _ p3] at hE; exact h3 _ hE (Nat.le_trans (List.length_filter_le _ _) (by decide)) (by omega) (Int.not_lt.mp p1) (Int.not_lt.mp p2) p3 (fm_hi (in_getD hI 1).2 (Int.not_lt.mp p1)) (fm_hi (in_getD hI 2).2 (Int.not_lt.mp p2)) (fm_lo (in_getD hI 3).1 p3)
    rw [neg 3 _ (Int.not_lt.mp p3)] at hE
    by_cases p4 : os.getD 4 0 < 128
    · rw [pos 4 _ p4] at hE; exact h4 _ hE (Nat.le_trans (List.length_filter_le _ _) (by decide)) (by omega) (Int.not_lt.mp p1) (Int.not_lt.mp p2) (Int.not_lt.mp p3) p4 (fm_hi (in_getD hI 1).2 (Int.not_lt.mp p1)) (fm_hi (in_getD hI 2).2 (Int.not_lt.mp p2)) (fm_hi (in_getD hI 3).2 (Int.not_lt.mp p3)) (fm_lo (in_getD hI 4).1 p4)
    rw [neg 4 _ (Int.not_lt.mp p4)] at hE
    exact h0 hE (fun _ => Int.not_lt.mp p1) (fun _ => Int.not_lt.mp p2) (fun _ => Int.not_lt.mp p3) (fun _ => Int.not_lt.mp p4) (by omega)
  · rw [show rangeKs 1 5 = [1, 2, 3, 4, 5] from rfl] at hE
    by_cases p1 : os.getD 1 0 < 128
    · rw [pos 1 _ p1] at hE; exact h1 _ hE (Nat.le_trans (List.length_filter_le _ _) (by decide)) (by omega)  p1 (fm_lo (in_getD hI 1).1 p1)
    rw [neg 1 _ (Int.not_lt.mp p1)] at hE
    by_cases p2 : os.getD 2 0 < 128
    · rw [pos 2 _ p2] at hE; exact h2 _ hE (Nat.le_trans (List.length_filter_le _ _) (by decide)) (by omega) (Int.not_lt.mp p1) p2 (fm_hi (in_getD hI 1).2 (Int.not_lt.mp p1)) (fm_lo (in_getD hI 2).1 p2)
    rw [neg 2 _ (Int.not_lt.mp p2)] at hE
    by_cases p3 : os.getD 3 0 < 128
    · rw [pos 3 _ p3] at hE; exact h3 _ hE (Nat.le_trans (List.length_filter_le _ _) (by decide)) (by omega) (Int.not_lt.mp p1) (Int.not_lt.mp p2) p3 (fm_hi (in_getD hI 1).2 (Int.not_lt.mp p1)) (fm_hi (in_getD hI 2).2 (Int.not_lt.mp p2)) (fm_lo (in_getD hI 3).1 p3)
    rw [neg 3 _ (Int.not_lt.mp p3)] at hE
    by_cases p4 : os.getD 4 0 < 128
    · rw [pos 4 _ p4] at hE; exact h4 _ hE (Nat.le_trans (List.length_filter_le _ _) (by decide)) (by omega) (Int.not_lt.mp p1) (Int.not_lt.mp p2) (Int.not_lt.mp p3) p4 (fm_hi (in_getD hI 1).2 (Int.not_lt.mp p1)) (fm_hi (in_getD hI 2).2 (Int.not_lt.mp p2)) (fm_hi (in_getD hI 3).2 (Int.not_lt.mp p3)) (fm_lo (in_getD hI 4).1 p4)
    rw [neg 4 _ (Int.not_lt.mp p4)] at hE
    by_cases p5 : os.getD 5 0 < 128
    · rw [pos 5 _ p5] at hE; exact h5 _ hE (Nat.le_trans (List.length_filter_le _ _) (by decide)) (by omega) (Int.not_lt.mp p1) (Int.not_lt.mp p2) (Int.not_lt.mp p3) (Int.not_lt.mp p4) p5 (fm_hi (in_getD hI 1).2 (Int.not_lt.mp p1)) (fm_hi (in_getD hI 2).2 (Int.not_lt.mp p2)) (fm_hi (in_getD hI 3).2 (Int.not_lt.mp p3)) (fm_hi (in_getD hI 4).2 (Int.not_lt.mp p4)) (fm_lo (in_getD hI 5).1 p5)
    rw [neg 5 _ (Int.not_lt.mp p5)] at hE
    exact h0 hE (fun _ => Int.not_lt.mp p1) (fun _ => Int.not_lt.mp p2) (fun _ => Int.not_lt.mp p3) (fun _ => Int.not_lt.mp p4) (fun _ => Int.not_lt.mp p5)
theorem mapAt1 (os : List Int) : List.map (fun k' : Int => (os.getD k'.toNat 0).fmod 128 * 128 ^ (k' - 1).toNat) (rangeKs 1 ((1 : Int) + 1 - 1).toNat) = [(os.getD 1 0).fmod 128 * 1] := rfl
theorem mapAt2 (os : List Int) : List.map (fun k' : Int => (os.getD k'.toNat 0).fmod 128 * 128 ^ (k' - 1).toNat) (rangeKs 1 ((2 : Int) + 1 - 1).toNat) = [(os.getD 1 0).fmod 128 * 1, (os.getD 2 0).fmod 128 * 128] := rfl
theorem mapAt3 (os : List Int) : List.map (fun k' : Int => (os.getD k'.toNat 0).fmod 128 * 128 ^ (k' - 1).toNat) (rangeKs 1 ((3 : Int) + 1 - 1).toNat) = [(os.getD 1 0).fmod 128 * 1, (os.getD 2 0).fmod 128 * 128, (os.getD 3 0).fmod 128 * 16384] := rfl
theorem mapAt4 (os : List Int) : List.map (fun k' : Int => (os.getD k'.toNat 0).fmod 128 * 128 ^ (k' - 1).toNat) (rangeKs 1 ((4 : Int) + 1 - 1).toNat) = [(os.getD 1 0).fmod 128 * 1, (os.getD 2 0).fmod 128 * 128, (os.getD 3 0).fmod 128 * 16384, (os.getD 4 0).fmod 128 * 2097152] := rfl
theorem mapAt5 (os : List Int) : List.map (fun k' : Int => (os.getD k'.toNat 0).fmod 128 * 128 ^ (k' - 1).toNat) (rangeKs 1 ((5 : Int) + 1 - 1).toNat) = [(os.getD 1 0).fmod 128 * 1, (os.getD 2 0).fmod 128 * 128, (os.getD 3 0).fmod 128 * 16384, (os.getD 4 0).fmod 128 * 2097152, (os.getD 5 0).fmod 128 * 268435456] := rfl
section
variable {prog : Program} {w : World} {A : Around} {E : Value → Shared → Prop} {s : Shared} {value slice : PySem.Expr} {t u : Tok} {Q : Value → Shared → Prop} {h₀ : Heap} {L l : Addr} {news : List (Addr × Obj)}
/-- the first item of a list whose first int is known -/
theorem headItem {ys : List Value} {n : Nat} {x : Int} {r : List Int} (N : News h₀ L s.heap news) (hm : (l, ({ cls := .type "list", data := .seq ys.toArray n } : Obj)) ∈ news) (hi : IntsAre ys (x :: r)) (h : ∀ t, Q (.int x t) s)
    (hs : subscripted slice false (.ref l) (.int 0 u) = operate [.ref l, .int 0 u] (getItem (.ref l) (.int 0 u)) := by with_unfolding_all rfl) :
    wpAny (model prog w) A (subscriptTail value slice (.ref l) (.int 0 u)) Q E s := by
  have hl : s.heap.IsList l ys.toArray := ⟨_, (N _ hm).1, rfl, n, rfl⟩
  obtain ⟨t, hx⟩ := hi.get 0 x rfl
  exact tail_any hl.typeIs slot_list_getitem.lookup (wpAny_getItem_list hl (by decide) (by decide) (by simpa using hx) (h t)) hs
/-- the length of a list that has a first item -/
theorem lenEnds {ys : List Value} {n : Nat} {x : Int} {r : List Int} (N : News h₀ L s.heap news) (hm : (l, ({ cls := .type "list", data := .seq ys.toArray n } : Obj)) ∈ news) (hi : IntsAre ys (x :: r)) (hr : r.length ≤ 4)
    (h : ∀ (c : Int) t k, 0 < c → Q (.int c t) { s with toks := k }) : wpAny (model prog w) A (call (.builtin "len") [.ref l]) Q E s := by
  have hl : s.heap.IsList l ys.toArray := ⟨_, (N _ hm).1, rfl, n, rfl⟩
  have e := hi.length
  rw [List.length_cons] at e
  exact len_list hl (by rw [List.size_toArray]; omega) (h _ _ _ (by rw [List.size_toArray]; omega))
/-- the item of the bytes at a written place, or an IndexError -/
theorem byItemAt (k : Nat) {os : List Int} {i : Int} (hk : i = (k : Int)) (hk6 : k ≤ 1000000) (hA : A.handled = none) (hin : KBa.In os) (hfit : os.length ≤ 1000000)
    (hE : os.length ≤ k → ∀ h' tk e, Heap.NewExc s.heap h' e "IndexError" → E (.ref e) { s with heap := h', toks := tk })
    (hQ : k < os.length → 0 ≤ os.getD k 0 → os.getD k 0 < 256 → Q (.int (os.getD k 0) s.toks) { s with toks := s.toks + 1 })
    (hs : subscripted slice false (.bytes (byteArr os) t) (.int i u) = operate [.bytes (byteArr os) t, .int i u] (getItem (.bytes (byteArr os) t) (.int i u)) := by with_unfolding_all rfl)
    (ht : ∀ r, letTemporaryGo value (.bytes (byteArr os) t) r = pure () := by intro _; with_unfolding_all rfl) :
    wpAny (model prog w) A (subscriptTail value slice (.bytes (byteArr os) t) (.int i u)) Q E s := by
  subst hk
  exact byItem hA hin hfit (by omega) (by omega) (fun h => hE (by omega)) (fun h h1 h2 => hQ (by omega) h1 h2) hs ht
theorem shlAt (c : Int) {a n : Int} (hc : (2 : Int) ^ n.toNat = c) (h0 : 0 ≤ n) (h1 : n ≤ 100) (ha : -1000 ≤ a) (hb : a ≤ 1000) (h : Q (.int (a * c) s.toks) { s with toks := s.toks + 1 }) : wpAny (model prog w) A (binaryOp .LShift (.int a t) (.int n u)) Q E s := by
  subst hc
  exact lshift_int_small h0 (by omega) (by omega) h
theorem powAt (c : Int) {n : Int} (hc : (128 : Int) ^ n.toNat = c) (h0 : 0 ≤ n) (h1 : n ≤ 100) (h : Q (.int c s.toks) { s with toks := s.toks + 1 }) : wpAny (model prog w) A (binaryOp .Pow (.int 128 t) (.int n u)) Q E s := by
  subst hc
  exact pow_int_small h0 (by omega) (by decide) h
end
end Mine

namespace Mine
/-- the octets ahead of place e go on -/
def Low (os : List Int) (e : Int) : Prop := ∀ i : Nat, 1 ≤ i → (i : Int) < e → 128 ≤ os.getD i 0
/-- none of the five octets behind the first ends the number -/
def High (os : List Int) : Prop := ∀ i : Nat, 1 ≤ i → i ≤ 5 → i < os.length → 128 ≤ os.getD i 0
def SumIs (os : List Int) (e S : Int) : Prop := S = (List.map (fun k' : Int => (os.getD k'.toNat 0).fmod 128 * 128 ^ (k' - 1).toNat) (rangeKs 1 (e + 1 - 1).toNat)).sum
theorem endsTwo {ys : List Value} {os : List Int} {P : Prop} (hI : KBa.In os)
    (hE : IntsAre ys (List.foldl (fun l' k' => if os.getD k'.toNat 0 < 128 then l' ++ [k'] else l') [] (rangeKs 1 ((if 6 < (os.length : Int) then 6 else (os.length : Int)) - 1).toNat)))
    (h0 : IntsAre ys [] → High os → P)
    (h1 : ∀ e r, IntsAre ys (e :: r) → r.length ≤ 4 → 1 ≤ e → e ≤ 5 → e < (os.length : Int) → Low os e → os.getD e.toNat 0 < 128 → P) : P := by
  have low : ∀ {e : Int}, e ≤ 5 → (1 < e → 128 ≤ os.getD 1 0) → (2 < e → 128 ≤ os.getD 2 0) → (3 < e → 128 ≤ os.getD 3 0) → (4 < e → 128 ≤ os.getD 4 0) → Low os e := by
    intro e h5 a1 a2 a3 a4 i hi he
    have : i = 1 ∨ i = 2 ∨ i = 3 ∨ i = 4 := by omega
    rcases this with rfl | rfl | rfl | rfl
    · exact a1 (by omega)
    · exact a2 (by omega)
    · exact a3 (by omega)
    · exact a4 (by omega)
  refine endsSplit hI hE ?_ ?_ ?_ ?_ ?_ ?_
  · intro a b1 b2 b3 b4 b5
    refine h0 a fun i hi h5 hl => ?_
    have : i = 1 ∨ i = 2 ∨ i = 3 ∨ i = 4 ∨ i = 5 := by omega
    rcases this with rfl | rfl | rfl | rfl | rfl
    · exact b1 hl
    · exact b2 hl
    · exact b3 hl
    · exact b4 hl
    · exact b5 hl
  · intro r hi hr hl p _
    exact h1 1 r hi hr (by decide) (by decide) (by omega) (low (by decide) (by intro; omega) (by intro; omega) (by intro; omega) (by intro; omega)) p
  · intro r hi hr hl p1 p _ _
    exact h1 2 r hi hr (by decide) (by decide) (by omega) (low (by decide) (fun _ => p1) (by intro; omega) (by intro; omega) (by intro; omega)) p
  · intro r hi hr hl p1 p2 p _ _ _
    exact h1 3 r hi hr (by decide) (by decide) (by omega) (low (by decide) (fun _ => p1) (fun _ => p2) (by intro; omega) (by intro; omega)) p
  · intro r hi hr hl p1 p2 p3 p _ _ _ _
    exact h1 4 r hi hr (by decide) (by decide) (by omega) (low (by decide) (fun _ => p1) (fun _ => p2) (fun _ => p3) (by intro; omega)) p
  · intro r hi hr hl p1 p2 p3 p4 p _ _ _ _ _
    exact h1 5 r hi hr (by decide) (by decide) (by omega) (low (by decide) (fun _ => p1) (fun _ => p2) (fun _ => p3) (fun _ => p4)) p
theorem sumIs1 {os : List Int} {e S : Int} (hI : KBa.In os) (hS : SumIs os e S) (he : e = 1) (hl : Low os e) (hb : os.getD 1 0 < 128) : S = os.getD 1 0 := by
  subst he
  unfold SumIs at hS
  rw [mapAt1, fm_lo (in_getD hI 1).1 hb] at hS
  simp only [List.sum_cons, List.sum_nil] at hS
  omega
theorem sumIs2 {os : List Int} {e S : Int} (hI : KBa.In os) (hS : SumIs os e S) (he : e = 2) (hl : Low os e) (hb : os.getD 2 0 < 128) : S = (os.getD 1 0 - 128) + os.getD 2 0 * 128 := by
  subst he
  unfold SumIs at hS
  rw [mapAt2, fm_lo (in_getD hI 2).1 hb, fm_hi (in_getD hI 1).2 (hl 1 (by decide) (by decide))] at hS
  simp only [List.sum_cons, List.sum_nil] at hS
  omega
theorem sumIs3 {os : List Int} {e S : Int} (hI : KBa.In os) (hS : SumIs os e S) (he : e = 3) (hl : Low os e) (hb : os.getD 3 0 < 128) : S = (os.getD 1 0 - 128) + (os.getD 2 0 - 128) * 128 + os.getD 3 0 * 16384 := by
  subst he
  unfold SumIs at hS
  rw [mapAt3, fm_lo (in_getD hI 3).1 hb, fm_hi (in_getD hI 1).2 (hl 1 (by decide) (by decide)), fm_hi (in_getD hI 2).2 (hl 2 (by decide) (by decide))] at hS
  simp only [List.sum_cons, List.sum_nil] at hS
  omega
theorem sumIs4 {os : List Int} {e S : Int} (hI : KBa.In os) (hS : SumIs os e S) (he : e = 4) (hl : Low os e) (hb : os.getD 4 0 < 128) : S = (os.getD 1 0 - 128) + (os.getD 2 0 - 128) * 128 + (os.getD 3 0 - 128) * 16384 + os.getD 4 0 * 2097152 := by
  subst he
  unfold SumIs at hS
  rw [mapAt4, fm_lo (in_getD hI 4).1 hb, fm_hi (in_getD hI 1).2 (hl 1 (by decide) (by decide)), fm_hi (in_getD hI 2).2 (hl 2 (by decide) (by decide)), fm_hi (in_getD hI 3).2 (hl 3 (by decide) (by decide))] at hS
  simp only [List.sum_cons, List.sum_nil] at hS
  omega
theorem sumIs5 {os : List Int} {e S : Int} (hI : KBa.In os) (hS : SumIs os e S) (he : e = 5) (hl : Low os e) (hb : os.getD 5 0 < 128) : S = (os.getD 1 0 - 128) + (os.getD 2 0 - 128) * 128 + (os.getD 3 0 - 128) * 16384 + (os.getD 4 0 - 128) * 2097152 + os.getD 5 0 * 268435456 := by
  subst he
  unfold SumIs at hS
  rw [mapAt5, fm_lo (in_getD hI 5).1 hb, fm_hi (in_getD hI 1).2 (hl 1 (by decide) (by decide)), fm_hi (in_getD hI 2).2 (hl 2 (by decide) (by decide)), fm_hi (in_getD hI 3).2 (hl 3 (by decide) (by decide)), fm_hi (in_getD hI 4).2 (hl 4 (by decide) (by decide))] at hS
  simp only [List.sum_cons, List.sum_nil] at hS
  omega
section
variable {prog : Program} {w : World} {A : Around} {E : Value → Shared → Prop} {s : Shared} {value slice : PySem.Expr} {t u : Tok} {Q : Value → Shared → Prop} {h₀ : Heap} {L l : Addr} {news : List (Addr × Obj)} {m : Str → Option Value}
theorem sumEnds {zs : List Value} {n : Nat} {os : List Int} {e : Int} (hh : A.handled = none) (F : Fr h₀ L s.heap m) (N : News h₀ L s.heap news) (hm : (l, ({ cls := .type "list", data := .seq zs.toArray n } : Obj)) ∈ news)
    (hi : IntsAre zs (List.map (fun k' : Int => (os.getD k'.toNat 0).fmod 128 * 128 ^ (k' - 1).toNat) (rangeKs 1 (e + 1 - 1).toNat)))
    (h : ∀ S h' tk t', SumIs os e S → Fr h₀ L h' m → News h₀ L h' news → Q (.int S t') { s with heap := h', toks := tk }) : wpAny (model prog w) A (call (.builtin "sum") [.ref l]) Q E s :=
  sumK hh F N ⟨_, (N _ hm).1, rfl, n, rfl⟩ hi fun h' tk t' F' N' => h _ h' tk t' rfl F' N'
/-- the next octet while none ends the number -/
theorem byHigh (k : Nat) {os : List Int} {i : Int} (hk : i = (k : Int)) (hk1 : 1 ≤ k) (hk5 : k ≤ 5) (hA : A.handled = none) (hin : KBa.In os) (hfit : os.length ≤ 1000000) (hH : High os)
    (hE : os.length ≤ k → ∀ h' tk e, Heap.NewExc s.heap h' e "IndexError" → E (.ref e) { s with heap := h', toks := tk })
    (hQ : k < os.length → 128 ≤ os.getD k 0 → os.getD k 0 < 256 → Q (.int (os.getD k 0) s.toks) { s with toks := s.toks + 1 })
    (hs : subscripted slice false (.bytes (byteArr os) t) (.int i u) = operate [.bytes (byteArr os) t, .int i u] (getItem (.bytes (byteArr os) t) (.int i u)) := by with_unfolding_all rfl)
    (ht : ∀ r, letTemporaryGo value (.bytes (byteArr os) t) r = pure () := by intro _; with_unfolding_all rfl) :
    wpAny (model prog w) A (subscriptTail value slice (.bytes (byteArr os) t) (.int i u)) Q E s :=
  byItemAt k hk (by omega) hA hin hfit hE (fun h _ h2 => hQ h (hH k hk1 hk5 h) h2) hs ht
/-- the next octet where place e ends the number: it is that place, or one ahead of it -/
theorem byEnd (k : Nat) (c : Int) (hc : (k : Int) = c) {os : List Int} {i e : Int} (hk : i = (k : Int)) (hk1 : 1 ≤ k) (hk5 : k ≤ 5) (hA : A.handled = none) (hin : KBa.In os) (hfit : os.length ≤ 1000000) (hL : Low os e) (hb : os.getD e.toNat 0 < 128) (he : c ≤ e) (hel : e < (os.length : Int))
    (hQ1 : e = c → os.getD k 0 < 128 → 0 ≤ os.getD k 0 → Q (.int (os.getD k 0) s.toks) { s with toks := s.toks + 1 })
    (hQ2 : c < e → 128 ≤ os.getD k 0 → os.getD k 0 < 256 → Q (.int (os.getD k 0) s.toks) { s with toks := s.toks + 1 })
    (hs : subscripted slice false (.bytes (byteArr os) t) (.int i u) = operate [.bytes (byteArr os) t, .int i u] (getItem (.bytes (byteArr os) t) (.int i u)) := by with_unfolding_all rfl)
    (ht : ∀ r, letTemporaryGo value (.bytes (byteArr os) t) r = pure () := by intro _; with_unfolding_all rfl) :
    wpAny (model prog w) A (subscriptTail value slice (.bytes (byteArr os) t) (.int i u)) Q E s := by
  subst hc
  refine byItemAt k hk (by omega) hA hin hfit (fun h => by omega) (fun _ h1 h2 => ?_) hs ht
  by_cases q : e = (k : Int)
  · exact hQ1 q (by rw [q] at hb; simpa using hb) h1
  · exact hQ2 (by omega) (hL k hk1 (by omega)) h2
end
end Mine

local macro_rules | `(tactic| walk_at "exec Try") => `(tactic| (k_here; refine wpAny_Try_except ?_))
local macro_rules | `(tactic| walk_at "exec While Constant") => `(tactic| (k_here; k_dflt (refine whl_start 9 ?_)))
local macro_rules | `(tactic| walk_at "exec While Constant cons nil") => `(tactic| (k_here; k_dflt (refine whl_start 9 ?_)))
local macro_rules | `(tactic| walk_at "ite") => `(tactic| (k_here; k_openite; k_spoken; first | (refine ite_pos (by (try simp only [decide_eq_true_eq, beq_iff_eq, List.length_nil, List.length_cons]); omega) ?_) | (refine ite_neg (by (try simp only [decide_eq_true_eq, beq_iff_eq, List.length_nil, List.length_cons]); omega) ?_)))
local macro_rules | `(tactic| walk_at "subscriptTail Name Name ref int") => `(tactic| (k_here; (with_reducible show wpAny _ _ (subscriptTail _ _ (Value.ref 42) (Value.int _ _)) _ _ _); (with_unfolding_all refine' Mine.maxItem (listIn ?kx ?kf ?ko) ?k3 ?k4 ?_ ?k6; (case kx => k_asm); (case kf => k_asm); (case ko => k_is); (case k3 => omega); (case k4 => omega); (case k6 => with_unfolding_all rfl); k_whole); intro _))
local macro_rules | `(tactic| walk_at "binaryOp RShift int int") => `(tactic| (k_here; (with_reducible refine Mine.maskShift ?k3 ?k4 ?_); (case k3 => omega); (case k4 => omega)))
local macro_rules | `(tactic| walk_at "binaryOp BitAnd int int") => `(tactic| (k_here; (with_reducible refine Mine.andMask ?_)))
local macro_rules | `(tactic| walk_at "subscriptTail Name Constant bytes int") => `(tactic| (k_here; refine' Mine.byItem ?h ?i ?f ?a ?b ?_ ?_; (case h => first | rfl | with_unfolding_all rfl); (case i => assumption); (case f => omega); (case a => omega); (case b => omega); k_whole; (all_goals (intro _; first | (exfalso; omega) | skip)); (all_goals intros)))
local macro_rules | `(tactic| walk_at "subscriptTail Name Name bytes int") => `(tactic| (k_here; (with_reducible rename Mine.High _ => hH9); (first | (refine' Mine.byHigh 1 ?k ?g ?gg ?h ?i ?f ?H ?_ ?_; (case k => decide)) | (refine' Mine.byHigh 2 ?k ?g ?gg ?h ?i ?f ?H ?_ ?_; (case k => decide)) | (refine' Mine.byHigh 3 ?k ?g ?gg ?h ?i ?f ?H ?_ ?_; (case k => decide)) | (refine' Mine.byHigh 4 ?k ?g ?gg ?h ?i ?f ?H ?_ ?_; (case k => decide)) | (refine' Mine.byHigh 5 ?k ?g ?gg ?h ?i ?f ?H ?_ ?_; (case k => decide))); (case g => decide); (case gg => decide); (case h => first | rfl | with_unfolding_all rfl); (case i => assumption); (case f => omega); (case H => exact hH9); k_whole; (all_goals (intro _; first | (exfalso; omega) | skip)); (all_goals intros)))
local macro_rules | `(tactic| walk_at "subscriptTail Name Name bytes int") => `(tactic| (k_here; (with_reducible rename Mine.Low _ _ => hL9); (with_reducible rename Mine.SumIs _ _ _ => hS9); (first | (refine' Mine.byEnd 1 1 ?c ?k ?g ?gg ?h ?i ?f ?L ?b ?e ?el ?_ ?_; (case k => decide)) | (refine' Mine.byEnd 2 2 ?c ?k ?g ?gg ?h ?i ?f ?L ?b ?e ?el ?_ ?_; (case k => decide)) | (refine' Mine.byEnd 3 3 ?c ?k ?g ?gg ?h ?i ?f ?L ?b ?e ?el ?_ ?_; (case k => decide)) | (refine' Mine.byEnd 4 4 ?c ?k ?g ?gg ?h ?i ?f ?L ?b ?e ?el ?_ ?_; (case k => decide)) | (refine' Mine.byEnd 5 5 ?c ?k ?g ?gg ?h ?i ?f ?L ?b ?e ?el ?_ ?_; (case k => decide))); (case c => rfl); (case g => decide); (case gg => decide); (case h => first | rfl | with_unfolding_all rfl); (case i => assumption); (case f => omega); (case L => exact hL9); (case b => assumption); (case e => omega); (case el => assumption); k_whole; (intro hq9 hb9 hn9; (first | (have hS8 := Mine.sumIs1 (by assumption) hS9 hq9 hL9 hb9) | (have hS8 := Mine.sumIs2 (by assumption) hS9 hq9 hL9 hb9) | (have hS8 := Mine.sumIs3 (by assumption) hS9 hq9 hL9 hb9) | (have hS8 := Mine.sumIs4 (by assumption) hS9 hq9 hL9 hb9) | (have hS8 := Mine.sumIs5 (by assumption) hS9 hq9 hL9 hb9)); (clear hS9 hL9)); rotate_left; (intro _; first | (exfalso; omega) | (intros)); rotate_left))
local macro_rules | `(tactic| walk_at "pyReprObj") => `(tactic| (k_here; (with_reducible show wpAny _ _ (pyReprObj (Value.bytes (byteArr _) _)) _ _ _); (refine' Mine.reprBytes ?kn ?_; (case kn => omega)); intro rX rH))
local macro_rules | `(tactic| walk_at "pyReprObj bytes") => `(tactic| (k_here; (with_reducible show wpAny _ _ (pyReprObj (Value.bytes (byteArr _) _)) _ _ _); (refine' Mine.reprBytes ?kn ?_; (case kn => omega)); intro rX rH))
local macro_rules | `(tactic| walk_at "formatField str") => `(tactic| (k_here; (with_reducible show wpAny _ _ (formatField (Value.str _ _) Str.empty) _ _ _); (refine' Mine.formatStr ?kn ?_; (case kn => assumption)); intro _ _))
local macro_rules | `(tactic| walk_at "noteFrame ref") => `(tactic| (k_here; (with_reducible rename Heap.NewExc _ _ _ _ => nX); (rename Below _ _ _ _ => nB); ((with_unfolding_all refine' Mine.catchIdx (x := Str.ofString "IndexError") (T' := "IndexError") nB ?FG ?F nX ?X ?T ?ex PyProof.Rows.Boot.«IndexError» ?hn PySem.F.isExc_IndexError PySem.F.notTuple_IndexError PySem.F.self_IndexError ?_); (case FG => assumption); (case F => assumption); (case X => k_asm); (case T => k_asm); (case ex => k_is); (case hn => decide); k_whole); intro h' tk' oe' ws' oc' F' N' nC nD nE nG nH; (clear nX)))
local macro_rules | `(tactic| walk_at "exec Raise some some") => `(tactic| (k_here; ((with_unfolding_all refine' Mine.raiseFrom (bmB := [.type "Exception", .type "BaseException", .type "object"]) (newId := "Exception.__new__") ?st ?en ?ek ?F ?N (List.Mem.head _) (List.Mem.tail _ (List.Mem.head _)) ?lc ?c1 ?d1 ?h2 ?cd ?cn PySem.F.isExc_IndexError ?X ?T ?ex ?q PySem.F.excBase_Exception ?hy ?hn ?_); (case F => k_asm); (case N => k_asm); (case st => with_unfolding_all rfl); (case en => with_unfolding_all rfl); (case ek => with_unfolding_all rfl); (case lc => exact Nat.le_refl _); (case c1 => assumption); (case d1 => assumption); (case h2 => assumption); (case cd => assumption); (case cn => assumption); (case X => k_asm); (case T => k_asm); (case ex => k_is); (case q => k_exc); (case hy => with_unfolding_all rfl); (case hn => with_unfolding_all rfl); k_whole); intro h' tk' e' oe' ws' t' nL nC nW nF))
local macro_rules | `(tactic| walk_at "leaving ref") => `(tactic| (k_here; (with_reducible rename Mine.Lies _ _ _ _ _ _ _ => nL); ((with_unfolding_all refine' Mine.leaveOwn ?f nL ?c ?w ?F ?_); (case c => assumption); (case f => with_unfolding_all rfl); (case w => assumption); (case F => assumption); k_whole); intro h' nY nF; (clear nL)))
local macro_rules | `(tactic| walk_at "noteFrame ref") => `(tactic| (k_here; (with_reducible rename Heap.FlyingW _ _ _ _ _ _ => nY); (k_dflt (refine' Mine.catchOwn (bmB := [.type "Exception", .type "BaseException", .type "object"]) (newId := "Exception.__new__") ?st nY ?F ?X ?T ?ex ?q ?hb ?_ ?hk ?hx ?hd ?hE; (case st => rfl); (case F => assumption); (case X => k_asm); (case T => k_asm); (case ex => k_is); (case q => k_exc); (case hb => rfl); (case hk => rfl); (case hx => rfl); (case hd => decide); (case hE => passes_own); k_whole)); intro h' F'; (have N' := Mine.newsOf F')))
local macro_rules | `(tactic| walk_at "exec If") => `(tactic| (k_here; (with_reducible rename IntsAre _ (List.foldl _ _ _) => hE); (refine Mine.endsTwo (by assumption) hE ?_ ?_); (all_goals (clear hE)); (all_goals intros); (all_goals (try k_fold))))
local macro_rules | `(tactic| walk_at "subscriptTail Name Constant ref int") => `(tactic| (k_here; (with_reducible show wpAny _ _ (subscriptTail _ _ (Value.ref _) (Value.int 0 _)) _ _ _); (with_unfolding_all refine' Mine.headItem ?N ?m ?i ?_ ?s; (case N => k_asm); (case m => k_mem); (case i => assumption); (case s => with_unfolding_all rfl); k_whole); intro _))
local macro_rules | `(tactic| walk_at "binaryOp LShift int int") => `(tactic| (k_here; (first | (refine' Mine.shlAt 1 ?c ?a ?b ?d ?e ?_; (case c => decide)) | (refine' Mine.shlAt 128 ?c ?a ?b ?d ?e ?_; (case c => decide)) | (refine' Mine.shlAt 16384 ?c ?a ?b ?d ?e ?_; (case c => decide)) | (refine' Mine.shlAt 2097152 ?c ?a ?b ?d ?e ?_; (case c => decide)) | (refine' Mine.shlAt 268435456 ?c ?a ?b ?d ?e ?_; (case c => decide))); (case a => decide); (case b => decide); (case d => omega); (case e => omega)))
local macro_rules | `(tactic| walk_at "binaryOp Pow int int") => `(tactic| (k_here; (with_reducible show wpAny _ _ (binaryOp Operator.Pow (Value.int 128 _) (Value.int _ _)) _ _ _); (first | (refine' Mine.powAt 1 ?c ?a ?b ?_; (case c => decide)) | (refine' Mine.powAt 128 ?c ?a ?b ?_; (case c => decide)) | (refine' Mine.powAt 16384 ?c ?a ?b ?_; (case c => decide)) | (refine' Mine.powAt 2097152 ?c ?a ?b ?_; (case c => decide)) | (refine' Mine.powAt 268435456 ?c ?a ?b ?_; (case c => decide))); (case a => decide); (case b => decide)))
local macro_rules | `(tactic| walk_at "noteFrame ref") => `(tactic| (k_here; (with_reducible rename Heap.MadeExcOf _ _ _ _ _ => nX); (rename Below _ _ _ _ => nB); ((with_unfolding_all refine' Mine.passOther (x := Str.ofString "IndexError") (T' := "IndexError") (bmB := [.type "Exception", .type "BaseException", .type "object"]) (newId := "Exception.__new__") nB ?FG ?F nX ?X ?T ?ey ?q ?ex PyProof.Rows.Boot.«IndexError» ?hn PySem.F.isExc_IndexError PySem.F.notTuple_IndexError ?hb ?_); (case FG => assumption); (case F => assumption); (case X => k_asm); (case T => k_asm); (case ey => k_ownname); (case q => k_exc); (case ex => k_is); (case hn => decide); (case hb => with_unfolding_all rfl); k_whole); intro h' oe' ws' t' nL nC nW nF; (clear nX)))
local macro_rules | `(tactic| walk_at "call builtin:len") => `(tactic| (k_here; (with_reducible show wpAny _ _ (call (Value.builtin "len") [Value.ref _]) _ _ _); (with_unfolding_all refine' Mine.lenEnds ?N ?m ?i ?r ?_; (case N => k_asm); (case m => k_mem); (case i => assumption); (case r => assumption); k_whole); intro _ _ _ _))
local macro_rules | `(tactic| walk_at "call builtin:sum") => `(tactic| (k_here; (with_reducible show wpAny _ _ (call (Value.builtin "sum") [Value.ref _]) _ _ _); (with_unfolding_all refine' Mine.sumEnds ?h ?F ?N ?m ?i ?_; (case h => with_unfolding_all rfl); (case F => k_asm); (case N => k_asm); (case m => k_mem); (case i => assumption); k_whole); intro S9 h' tk' t' hS9 F' N'))

set_option maxHeartbeats 80000000 in
theorem PySem.Challenge.cw_ds0002_01_holds : PySem.Challenge.rw_ds0002_01.Holds := by
  (k_with "state" => (first | exact Mine.octStep1 (by assumption) (by assumption) | exact Mine.octStep2 (by assumption) (by assumption)))
  (k_with "pyIter ref" => ((with_reducible show wpAny _ _ (pyIter (Value.ref _)) (fun it s₂ => LoopAtV _ _ _ _ _ _ _ _ _ it s₂) _ _); k_here; (rename Fr _ _ _ _ => lF'); (rename News _ _ _ _ => lN'); (with_unfolding_all refine' Mine.octLoop (by rfl) (by first | assumption | exact IntsAre.nil) lF' (by rfl) lN' ?_ ?_); (all_goals (clear lF' lN')); rotate_left; (intro kVs os kNn kU kH kTk kFacts kLen kIn bits kb1 kb8 kFr kNews; (have kMark := kstMark); (have kLen2 := IntsAre.length kFacts); (have kP := kbt_pos bits.toNat); (have kR := kbt_rest (os.getD (Int.toNat 0) 0) bits.toNat); (try simp only [List.length_nil] at kLen)); rotate_left; (intro kC kPre kPost kN kT kU kH kTk kOwn kEq kMem kOff kFacts kInv kFr kNews; (obtain ⟨kVs, kNs, kNn⟩ := kC); (try dsimp only at kFr); (try dsimp only at kNews); (try dsimp only at kFacts); (try dsimp only at kInv); (try dsimp only at kOff); (try simp only [List.nil_append, List.cons_append, List.append_nil] at kNews); (try simp only [List.map_cons, List.map_nil] at kOff); (have kMark := kstMark); (have kLen := IntsAre.length kFacts); (have kB := congrArg List.length kEq; simp only [List.length_append, List.length_cons] at kB); (have kC := congrArg List.length kInv; simp only [List.length_map] at kC)); (all_goals (try k_fold))))
  open_k
