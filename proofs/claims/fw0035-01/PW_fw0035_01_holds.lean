import PyProof.Rows.All
import Wide.All
import OpenK.AllK
import Wide.FinOn
import PySem.Challenge.RW_fw0035_01
set_option Elab.async false
set_option linter.all false
section
open PySem PySem.W PyProof.Rows
namespace Mine
set_option maxRecDepth 100000 in
set_option maxHeartbeats 8000000 in
open_top hd for PySem.Challenge.rw_fw0035_01
end Mine
end
section
open PySem PySem.W PyProof.Rows
namespace Mine
/-- what a call of the def at f gives back: a value that depends on a token alone; nothing new that the caller need know of -/
def Ctr (w : World) (f : Addr) (D U : Nat) (vs : List Value) (R : Tok → Value) : Prop :=
  ∀ (p : Program) (loose : List Str) (mean : ExcName → Option Value) (mg mb : Str → Option Value) (dp un : Nat) (gd : Option (List Code)) (cn : Str) (cs : Scope) (a : Addr) (ccd : Value) (cl : List (Str × Addr)) (outer : List Env) (A₀ : Around) (base h₀ : Heap) (L : Addr) (m : Str → Option Value) (news : List (Addr × Obj)) (s : Shared) (Q E : Value → Shared → Prop),
    Below A₀ base outer h₀ → Fr h₀ L s.heap m → Frag.In (Mine.hd.heap_39 (World.params w)) h₀ → News h₀ L s.heap news → Top p loose mean mg mb h₀ → cs.kind = .function →
    dp + D < recursionLimit → un + U < cLine →
    (∀ (t : Tok) (h' : Heap) (tk' : Nat), Fr h₀ L h' m → News h₀ L h' news → Q (R t) { s with heap := h', toks := tk' }) →
    wpAny (model (RowW.prog (OpenRow.toRowW (OpenLaw.row PySem.Challenge.rw_fw0035_01))) w) (ktrTop dp un gd cn cs L a ccd cl outer) (call (.ref f) vs) Q E s
/-- the same, said of a call in the frame that the law's caller opened -/
def CtrA (w : World) (f : Addr) (vs : List Value) (R : Tok → Value) : Prop :=
  ∀ (p : Program) (loose : List Str) (mean : ExcName → Option Value) (mg mb : Str → Option Value) (cn : Str) (cs : Scope) (a : Addr) (ccd : Value) (base h₀ : Heap) (L : Addr) (m : Str → Option Value) (news : List (Addr × Obj)) (s : Shared) (Q E : Value → Shared → Prop),
    Below callerA base [] h₀ → Frag.In (Mine.hd.heap_39 (World.params w)) base → Top p loose mean mg mb base → Fr h₀ L s.heap m → Frag.In (Mine.hd.heap_39 (World.params w)) h₀ → News h₀ L s.heap news → Top p loose mean mg mb h₀ → cs.kind = .function →
    (∀ (t : Tok) (h' : Heap) (tk' : Nat), Fr h₀ L h' m → News h₀ L h' news → Q (R t) { s with heap := h', toks := tk' }) →
    wpAny (model (RowW.prog (OpenRow.toRowW (OpenLaw.row PySem.Challenge.rw_fw0035_01))) w) (Around.deeper callerA (envOf cn cs L a ccd)) (call (.ref f) vs) Q E s
theorem Ctr.use {w : World} {f : Addr} {D U : Nat} {vs : List Value} {R : Tok → Value} {p : Program} {loose : List Str} {mean : ExcName → Option Value} {mg mb : Str → Option Value} {dp un : Nat} {gd : Option (List Code)} {cn : Str} {cs : Scope} {a : Addr} {ccd : Value} {cl : List (Str × Addr)} {outer : List Env} {A₀ : Around} {base h₀ : Heap} {L : Addr} {m : Str → Option Value} {news : List (Addr × Obj)} {s : Shared} {Q E : Value → Shared → Prop}
    (C : Ctr w f D U vs R) (B : Below A₀ base outer h₀) (F : Fr h₀ L s.heap m) (X : Frag.In (Mine.hd.heap_39 (World.params w)) h₀) (N : News h₀ L s.heap news) (T : Top p loose mean mg mb h₀) (hk : cs.kind = .function)
    (hd : dp + D < recursionLimit) (hu : un + U < cLine) (hret : ∀ (t : Tok) (h' : Heap) (tk' : Nat), Fr h₀ L h' m → News h₀ L h' news → Q (R t) { s with heap := h', toks := tk' }) :
    wpAny (model (RowW.prog (OpenRow.toRowW (OpenLaw.row PySem.Challenge.rw_fw0035_01))) w) (ktrTop dp un gd cn cs L a ccd cl outer) (call (.ref f) vs) Q E s :=
  C _ _ _ _ _ _ _ _ _ _ _ _ _ _ _ _ _ _ _ _ _ _ _ B F X N T hk hd hu hret
theorem drop_led {h₀ h : Heap} {L : Addr} {news news' : List (Addr × Obj)} (N : News h₀ L h news') (hs : ∀ p ∈ news, p ∈ news') : News h₀ L h news := fun p hp => N p (hs p hp)
section
variable {h₀ h' : Heap} {L : Addr} {m : Str → Option Value} {news news' : List (Addr × Obj)} {s : Shared} {Q : Value → Shared → Prop} {t : Tok} {tk' : Nat}
theorem retI {x y : Int} (hret : ∀ (t : Tok) (h' : Heap) (tk' : Nat), Fr h₀ L h' m → News h₀ L h' news → Q (.int x t) { s with heap := h', toks := tk' }) (e : y = x) (F : Fr h₀ L h' m) (N : News h₀ L h' news') (hs : ∀ p ∈ news, p ∈ news') : Q (.int y t) { s with heap := h', toks := tk' } := by
  subst e
  exact hret t h' tk' F (drop_led N hs)
theorem retY {x y : List UInt8} (hret : ∀ (t : Tok) (h' : Heap) (tk' : Nat), Fr h₀ L h' m → News h₀ L h' news → Q (.bytes x.toArray t) { s with heap := h', toks := tk' }) (e : y = x) (F : Fr h₀ L h' m) (N : News h₀ L h' news') (hs : ∀ p ∈ news, p ∈ news') : Q (.bytes y.toArray t) { s with heap := h', toks := tk' } := by
  subst e
  exact hret t h' tk' F (drop_led N hs)
theorem retO {x y : Bool} (hret : ∀ (t : Tok) (h' : Heap) (tk' : Nat), Fr h₀ L h' m → News h₀ L h' news → Q (.bool x) { s with heap := h', toks := tk' }) (e : y = x) (F : Fr h₀ L h' m) (N : News h₀ L h' news') (hs : ∀ p ∈ news, p ∈ news') : Q (.bool y) { s with heap := h', toks := tk' } := by
  subst e
  exact hret 0 h' tk' F (drop_led N hs)
end
theorem ne_of_ltAll {D : Addr} {news : List (Addr × Obj)} (h : ∀ p ∈ news, p.1 < D) : ∀ p ∈ news, p.1 ≠ D := fun p hp => Nat.ne_of_lt (h p hp)
theorem ne_of_allLt {D : Addr} : ∀ {news : List (Addr × Obj)}, AllLt D news → ∀ p ∈ news, p.1 ≠ D
  | [], _, _, hp => nomatch hp
  | q :: _, h, p, hp => by
    rcases List.mem_cons.mp hp with rfl | hp
    · exact Nat.ne_of_lt h.1
    · exact ne_of_allLt h.2 p hp
theorem fmod2 (n : Nat) : Int.fmod ((2 * n : Nat) : Int) 2 = 0 := by
  rw [Int.fmod_eq_emod_of_nonneg _ (by decide)]
  omega
end Mine
end
section
open PySem PySem.W PyProof.Rows
namespace Mine
section
variable {prog : Program} {w : World} {A : Around} {E : Value → Shared → Prop} {s : Shared} {l r : List UInt8} {t u : Tok} {i : Int} {value slice : PySem.Expr} {h₀ : Heap} {L : Addr} {m : PySem.Str → Option Value} {news : List (Addr × Obj)} {lo hi : Option Int}

theorem r_len {Q : Value → Shared → Prop} (hfit : l.length ≤ 1048576) (h : ∀ t' k, Q (.int (l.length : Nat) t') { s with toks := k }) :
    wpAny (model prog w) A (call (.builtin "len") [.bytes l.toArray t]) Q E s :=
  len_bytes (by simp only [List.size_toArray]; omega) (by simpa using h _ _)

theorem r_truthy {Q : Bool → Shared → Prop} (hfit : l.length ≤ 1048576) (h : ∀ k, Q (decide (0 < l.length)) { s with toks := k }) :
    wpAny (model prog w) A (truthy (.bytes l.toArray t)) Q E s :=
  KBw.truthy_K (ks := l.map fun c => (c.toNat : Int)) rfl (by simp only [List.length_map]; omega) (by simpa using h _)

theorem r_item {ui : Tok} {Q : Value → Shared → Prop} (hfit : l.length ≤ 1048576) (h0 : 0 ≤ i) (h1 : i < (l.length : Int))
    (h : ∀ t' k, Q (.int ((l.getD i.toNat 0).toNat : Nat) t') { s with toks := k })
    (hs : subscripted slice false (.bytes l.toArray t) (.int i ui) = operate [.bytes l.toArray t, .int i ui] (getItem (.bytes l.toArray t) (.int i ui)) := by with_unfolding_all rfl)
    (ht : ∀ r, letTemporaryGo value (.bytes l.toArray t) r = pure () := by intro _; with_unfolding_all rfl) : wpAny (model prog w) A (subscriptTail value slice (.bytes l.toArray t) (.int i ui)) Q E s :=
  KBy.item_N (by omega) h0 h1 (h _ _) hs ht

theorem r_itemR {ui : Tok} {Q : Value → Shared → Prop} (hfit : l.length ≤ 1048576) (h0 : -(l.length : Int) ≤ i) (h1 : i < 0)
    (h : ∀ t' k, Q (.int ((l.getD (i + l.length).toNat 0).toNat : Nat) t') { s with toks := k })
    (hs : subscripted slice false (.bytes l.toArray t) (.int i ui) = operate [.bytes l.toArray t, .int i ui] (getItem (.bytes l.toArray t) (.int i ui)) := by with_unfolding_all rfl)
    (ht : ∀ r, letTemporaryGo value (.bytes l.toArray t) r = pure () := by intro _; with_unfolding_all rfl) : wpAny (model prog w) A (subscriptTail value slice (.bytes l.toArray t) (.int i ui)) Q E s := by
  refine KBc.itemR_K (ks := l.map fun c => (c.toNat : Int)) rfl (by simp only [List.length_map]; omega) (by simpa using h0) h1 (fun t' k _ _ => ?_) hs ht
  have e : (l.map fun c => (c.toNat : Int)).getD (i + (l.map fun c => (c.toNat : Int)).length).toNat 0 = ((l.getD (i + l.length).toNat 0).toNat : Nat) := by
    rw [List.length_map, ← KBw.getD_ints]
  rw [e]
  exact h t' k

/-- what a slice with these ends is -/
def cut (l : List UInt8) (lo hi : Option Int) : List UInt8 := (l.drop (lo.elim 0 (clipAt l.length))).take (hi.elim l.length (clipAt l.length) - lo.elim 0 (clipAt l.length))
theorem picked_cut (l : List UInt8) (lo hi : Option Int) : KBy.picked l.toArray lo hi = (cut l lo hi).toArray := by
  rw [KBc.picked_eq]
  simp only [cut, List.size_toArray]

theorem r_slice {a b : Value} {Q : Value → Shared → Prop} (hF : Fr h₀ L s.heap m) (hN : News h₀ L s.heap news) (hl : IsPart a lo) (hu : IsPart b hi) (hz : l.length ≤ 1048576)
    (h : ∀ h' t' k, Fr h₀ L h' m → News h₀ L h' news → Q (.bytes (cut l lo hi).toArray t') { s with heap := h', toks := k })
    (hs : subscripted slice false (.bytes l.toArray t) (.ref s.heap.objs.size) = operate [.ref s.heap.objs.size, .bytes l.toArray t] (getItem (.bytes l.toArray t) (.ref s.heap.objs.size)) := by with_unfolding_all rfl)
    (ht : ∀ r, letTemporaryGo value (.bytes l.toArray t) r = pure () := by intro _; with_unfolding_all rfl) :
    wpAny (model prog w) A (subscriptTail value slice (.bytes l.toArray t) (.ref s.heap.objs.size)) Q E { s with heap := s.heap.push { cls := .type "slice", data := .fields #[a, b, .none] } } := by
  refine KBc.slice_K (ks := l.map fun c => (c.toNat : Int)) hF hN rfl hl hu (by simp only [List.length_map]; omega) (fun h' t' k F' N' _ => ?_) hs ht
  rw [picked_cut]
  exact h h' t' k F' N'

theorem r_add {Q : Value → Shared → Prop} (hz : l.length + r.length ≤ 1048576) (h : ∀ t' k, Q (.bytes (l ++ r).toArray t') { s with toks := k }) :
    wpAny (model prog w) A (binaryOp .Add (.bytes l.toArray t) (.bytes r.toArray u)) Q E s := by
  refine KBy.add_bytes (by simp only [List.size_toArray]; omega) fun t' k => ?_
  rw [List.append_toArray]
  exact h t' k

theorem r_eq {Q : Value → Shared → Prop} (h : Q (.bool (l == r)) s) : wpAny (model prog w) A (compareOp .Eq (.bytes l.toArray t) (.bytes r.toArray u)) Q E s :=
  eq_bytes (by simpa using h)
theorem r_ne {Q : Value → Shared → Prop} (h : Q (.bool (l != r)) s) : wpAny (model prog w) A (compareOp .NotEq (.bytes l.toArray t) (.bytes r.toArray u)) Q E s :=
  ne_bytes (by simpa using h)
end
end Mine
end
section
open PySem PySem.W PyProof.Rows PySem.Calls
namespace Mine
/-! An exception in flight, and that it has no dict of its own. -/
theorem dict_mapFields (o : Obj) (f : Array Value → Array Value) : (Obj.mapFields f o).dict = o.dict := by
  obtain ⟨c, d, x, sl⟩ := o
  cases x <;> rfl

def TrD (h base : Heap) (e : Addr) (cls a0 fl : Value) : Prop :=
  ∃ oe vs T oT ts, h.get? e = some oe ∧ oe.cls = cls ∧ oe.dict = none ∧ vs[0]? = some a0 ∧ oe.data = .fields vs ∧ vs[1]? = some (.ref T) ∧ base.get? T = none ∧ T ≠ e ∧ h.get? T = some oT ∧ oT.data = .fields ts ∧ ts[3]? = some fl
theorem TrD.toW {h base : Heap} {e : Addr} {cls a0 fl : Value} (x : TrD h base e cls a0 fl) : h.TracedAtW base e cls a0 fl := by
  obtain ⟨oe, vs, T, oT, ts, h1, h2, _, h4, r⟩ := x
  exact ⟨oe, vs, T, oT, ts, h1, ⟨h2, h4⟩, r⟩
/-- what stays: all that is no record -/
abbrev StaysR (h h' : Heap) : Prop := h.UpToSlots h'
structure Noted (base : Heap) (l : List Env) (e : Addr) (cls a0 fl : Value) (h h' : Heap) : Prop where
  stays : base.StaysIn h'
  frames : h'.FunFrames base l
  tr : TrD h' base e cls a0 fl
  rest : h.UpToSlots h'

section
variable {M : Model} {A : Around} {E : Value → Shared → Prop} {s : Shared} {base : Heap} {env : Env} {outer : List Env} {L e : Addr} {cls a0 fl : Value}

/-- the new entry of a traceback, laid at the head -/
theorem entryD {oe : Obj} {vs : Array Value} {head : Value} {hadNext : Bool} {Q : Unit → Shared → Prop}
    (hfr : A.frames = some (env :: outer)) (hl : s.heap.FunFrames base (env :: outer)) (hf : env.frame = some L)
    (he : s.heap.get? e = some oe) (hc : oe.cls = cls) (hno : oe.dict = none) (hkb : base.StaysIn s.heap) (hen : base.get? e = none) (hd : oe.data = .fields vs) (hsz : 1 < vs.size) (h0 : vs[0]? = some a0)
    (h : ∀ h', Noted base (env :: outer) e cls a0 (rawInt L) s.heap h' → Q () { s with heap := h' }) :
    wpAny M A (do let a ← frameOf env; let pl ← entryPlaceOf L hadNext; let b ← EntryCells.newEntry head a .none (rawInt L) .none pl; setField (.ref e) 1 b) Q E s := by
  have apart : ∀ {g : Heap} {b : Addr} {o : Obj}, g.get? e = some oe → g.get? b = some o → (∀ ws, o.data ≠ .fields ws) → b ≠ e := by
    intro g b o ge gb hnf q
    subst q
    rw [ge] at gb
    cases gb
    exact hnf _ hd
  have hene : e ∉ (env :: outer).filterMap (·.frame) := fun hm => by
    obtain ⟨_, o, ho, hnf⟩ := hl.mem hm
    exact apart he ho hnf rfl
  refine wpAny_bind (wpAny_frameOf_fun hfr hl hf fun h₁ hs₁ => ?_)
  refine wpAny_bind (wpAny_entryPlaceOf fun pl hpl => ?_)
  unfold EntryCells.newEntry newFields
  refine wpAny_bind (wpAny_newObj_type ?_ (hpl.sizeOk5 _ _ _ _ _))
  have he₁ : h₁.get? e = some oe := (hs₁.2.1 e hene).trans he
  have kb₁ : base.StaysIn h₁ := fun b o hbo => (hs₁.2.1 b fun hm => by rw [(hl.mem hm).1] at hbo; cases hbo).trans (hkb b o hbo)
  generalize hT : ({ cls := .type "traceback", dict := none, data := .fields ([head, .ref L, .none, rawInt L, .none] ++ (if pl.isEmpty then List.replicate 6 Value.none else pl)).toArray } : Obj) = tb
  have htd : tb.data = .fields ([head, .ref L, .none, rawInt L, .none] ++ (if pl.isEmpty then List.replicate 6 Value.none else pl)).toArray := by rw [← hT]
  have hti : tb.isFreed = false := Obj.isFreed_of_fields htd
  have he₂ := Heap.get?_push_of_some (h := h₁) tb he₁
  have ne : h₁.objs.size ≠ e := Nat.ne_of_gt (Heap.lt_size he₁)
  have hd₃ := Obj.data_mapFields hd (·.setIfInBounds 1 (Value.ref h₁.objs.size))
  have he₃ := Heap.get?_update_self (Obj.mapFields (·.setIfInBounds 1 (Value.ref h₁.objs.size))) he₂ (Obj.isFreed_of_fields hd₃)
  have hT₃ := (Heap.get?_update_other (h₁.push tb) (Obj.mapFields (·.setIfInBounds 1 (Value.ref h₁.objs.size))) (Ne.symm ne)).trans (Heap.get?_push_size h₁ hti)
  have keep : ∀ b o, b ≠ e → h₁.get? b = some o → ((h₁.push tb).update e (Obj.mapFields (·.setIfInBounds 1 (Value.ref h₁.objs.size)))).get? b = some o := fun b o hbe hb =>
    (Heap.get?_update_other _ _ (Ne.symm hbe)).trans (Heap.get?_push_of_some _ hb)
  refine wpAny_setField he₂ hd hsz (h _ ⟨fun b o hbo => keep b o (fun q => by rw [q, hen] at hbo; cases hbo) (kb₁ b o hbo), hl.of_keeps fun b o hb hnf => ?_, ?_, fun b o hb hnf => ?_⟩)
  · obtain ⟨sl, hs⟩ := hs₁.2.2 b o hb
    exact ⟨_, keep b _ (apart he hb hnf) hs, rfl⟩
  · refine ⟨_, _, h₁.objs.size, _, _, he₃, (Obj.cls_mapFields _ _).trans hc, (dict_mapFields _ _).trans hno, ?_, hd₃, by simp [hsz], kb₁.fresh, ne, hT₃, htd, ?_⟩
    · rw [Array.getElem?_setIfInBounds_ne (by decide)]; exact h0
    · first | (simp; done) | (rcases hpl with rfl | ⟨_, _, _, _, _, _, _, rfl⟩ <;> simp)
  · obtain ⟨sl, hs⟩ := hs₁.2.2 b o hb
    exact ⟨sl, keep b _ (apart he hb hnf) hs⟩

theorem noteFirstD {oe : Obj} {vs : Array Value} {Q : Unit → Shared → Prop}
    (hfr : A.frames = some (env :: outer)) (hl : s.heap.FunFrames base (env :: outer)) (hf : env.frame = some L)
    (he : s.heap.get? e = some oe) (hc : oe.cls = cls) (hno : oe.dict = none) (hkb : base.StaysIn s.heap) (hen : base.get? e = none) (hd : oe.data = .fields vs) (h1 : vs[1]? = some .none) (h0 : vs[0]? = some a0)
    (h : ∀ h', Noted base (env :: outer) e cls a0 (rawInt L) s.heap h' → Q () { s with heap := h' }) :
    wpAny M A (noteFrame (.ref e) env) Q E s := by
  unfold noteFrame
  simp only [hf]
  refine wpAny_bind (wpAny_field he hd h1 ?_)
  rw [if_neg (by decide)]
  exact entryD hfr hl hf he hc hno hkb hen hd (Array.getElem?_eq_some_iff.mp h1).1 h0 h

theorem noteNextD {Q : Unit → Shared → Prop}
    (hfr : A.frames = some (env :: outer)) (hl : s.heap.FunFrames base (env :: outer)) (hf : env.frame = some L) (ht : TrD s.heap base e cls a0 .none) (hkb : base.StaysIn s.heap) (hen : base.get? e = none)
    (h : ∀ h', Noted base (env :: outer) e cls a0 (rawInt L) s.heap h' → Q () { s with heap := h' }) : wpAny M A (noteFrame (.ref e) env) Q E s := by
  obtain ⟨oe, vs, T, oT, ts, he, hc, hno, h0, hd, h1, hnT, hTe, hT, hdT, h3⟩ := ht
  unfold noteFrame
  simp only [hf]
  refine wpAny_bind (wpAny_field he hd h1 ?_)
  rw [if_pos (show (Value.ref T != Value.none) = true from by simp)]
  refine wpAny_bind (wpAny_field hT hdT h3 ?_)
  rw [if_neg (show ¬ ((Value.none == rawInt L) = true) from by simp [rawInt])]
  refine wpAny_bind (wpAny_setField hT hdT (Array.getElem?_eq_some_iff.mp h3).1 ?_)
  have other : ∀ b o, b ≠ T → s.heap.get? b = some o → (s.heap.update T (Obj.mapFields (·.setIfInBounds 3 Value.none))).get? b = some o := fun b o hb q => (Heap.get?_update_other _ _ (Ne.symm hb)).trans q
  have apart : ∀ b o, s.heap.get? b = some o → (∀ ws, o.data ≠ .fields ws) → b ≠ T := fun b o hb hnf q => by
    subst q
    rw [hT] at hb
    cases hb
    exact hnf _ hdT
  refine entryD hfr (hl.of_keeps fun b o hb hnf => ⟨o, other b o (apart b o hb hnf) hb, rfl⟩) hf (other e _ (Ne.symm hTe) he) hc hno
    (fun b o hbo => other b o (fun q => by rw [q, hnT] at hbo; cases hbo) (hkb b o hbo)) hen hd (Array.getElem?_eq_some_iff.mp h1).1 h0
    fun h' x => h h' ⟨x.stays, x.frames, x.tr, fun b o hb hnf => x.rest b o (other b o (apart b o hb hnf) hb) hnf⟩

theorem flightD {l : List Env} {Q : Unit → Shared → Prop} (hkb : base.StaysIn s.heap) (hl : s.heap.FunFrames base l) (ht : TrD s.heap base e cls a0 fl)
    (h : ∀ h', Noted base l e cls a0 .none s.heap h' → Q () { s with heap := h' }) : wpAny M A (setFlight (.ref e) none) Q E s := by
  obtain ⟨oe, vs, T, oT, ts, he, hc, hno, h0, hd, h1, hnT, hTe, hT, hdT, h3⟩ := ht
  have hsz3 : 3 < ts.size := (Array.getElem?_eq_some_iff.mp h3).1
  have other : ∀ b o, b ≠ T → s.heap.get? b = some o → (s.heap.update T (Obj.mapFields (·.setIfInBounds 3 ((none : Option Addr).elim Value.none fun f => rawInt f)))).get? b = some o := fun b o hb q => (Heap.get?_update_other _ _ (Ne.symm hb)).trans q
  have apart : ∀ b o, s.heap.get? b = some o → (∀ ws, o.data ≠ .fields ws) → b ≠ T := fun b o hb hnf q => by
    subst q
    rw [hT] at hb
    cases hb
    exact hnf _ hdT
  unfold setFlight
  refine wpAny_bind (wpAny_field he hd h1 ?_)
  rw [if_pos (show (Value.ref T != Value.none) = true from by simp)]
  refine wpAny_setField hT hdT hsz3 (h _ ⟨fun b o hbo => other b o (fun q => by rw [q, hnT] at hbo; cases hbo) (hkb b o hbo),
    hl.of_keeps fun b o hb hnf => ⟨o, other b o (apart b o hb hnf) hb, rfl⟩, ?_, fun b o hb hnf => ⟨o.slots, other b o (apart b o hb hnf) hb⟩⟩)
  exact ⟨oe, vs, T, _, _, other e _ (Ne.symm hTe) he, hc, hno, h0, hd, h1, hnT, hTe, Heap.get?_update_self _ hT (Obj.isFreed_of_fields (Obj.data_mapFields hdT _)), Obj.data_mapFields hdT _, by simp [hsz3]⟩
end

/-- in flight, with its fields' first, and with no dict -/
def FlyD (base : Heap) (l : List Env) (e : Addr) (cls a0 : Value) (h : Heap) : Prop := base.StaysIn h ∧ base.get? e = none ∧ h.FunFrames base l ∧ TrD h base e cls a0 .none
def RaisedD (base G : Heap) (l : List Env) (e : Addr) (cls : Value) (t : Addr) (vs : List Value) (news : List (Addr × Obj)) (h : Heap) : Prop :=
  (∃ B, base.StaysIn B ∧ (∀ b o, G.get? b = some o → b ∉ l.filterMap (·.frame) → B.get? b = some o) ∧ (∀ q ∈ news, B.get? q.1 = some q.2 ∧ G.get? q.1 = none ∧ base.get? q.1 = none) ∧ FlyD B l e cls (.ref t) h ∧ B.get? t = none) ∧ h.TupAt t vs

section
variable {M : Model} {A : Around} {E : Value → Shared → Prop} {s' : Shared} {base g g₂ h : Heap} {outer : List Env} {L a e t : Addr} {m : Str → Option Value} {name : Str} {scope : Scope} {cd : Value} {Q : Unit → Shared → Prop} {news : List (Addr × Obj)}
/-- out of the frame that raised it -/
theorem leave_raiseD {cls : Value} {vs : List Value} (K : Below A base outer g) (hx : Heap.MadeExcOf h s'.heap e cls vs) (F : Fr g L h m) (N : News g L h news)
    (hQ : ∀ h' t, RaisedD base g outer e cls t vs news h' → g.UpToSlots h' → Q () { s' with heap := h' }) (hk : scope.kind = .function := by rfl) :
    wpAny M (A.deeper (envOf name scope L a cd)) (leaving (envOf name scope L a cd) (.ref e)) Q E s' := by
  have K' := K.push (name := name) (a := a) (cd := cd) F hk
  have hin : ∀ env ∈ (envOf name scope L a cd :: outer), ∀ b, env.frame = some b → b ∈ (envOf name scope L a cd :: outer).filterMap (·.frame) := fun env he b hb => List.mem_filterMap.mpr ⟨env, he, hb⟩
  generalize hB : hideAll h ((envOf name scope L a cd :: outer).filterMap (·.frame)) = B
  have inB : ∀ {b o}, h.get? b = some o → b ∉ (envOf name scope L a cd :: outer).filterMap (·.frame) → B.get? b = some o := fun q nm => hB ▸ hideAll_get _ q nm
  have st : base.StaysIn B := fun b o q => inB (K'.stays b o q) fun hm => by
    rw [(K'.frames.mem hm).1] at q; cases q
  have sg : ∀ b o, g.get? b = some o → b ∉ outer.filterMap (·.frame) → B.get? b = some o := fun b o q nm => inB (F.keep b o q) fun hm => by
    rcases kts_mem hm with z | z
    · rw [z, kts_self F] at q
      cases q
    · exact nm z
  have hl : ∀ q ∈ news, B.get? q.1 = some q.2 ∧ g.get? q.1 = none ∧ base.get? q.1 = none := fun q hq => by
    refine ⟨inB (N q hq).1 fun hm => ?_, (N q hq).2.2, fresh_of_stays K.stays (N q hq).2.2⟩
    obtain ⟨env, he, hf⟩ := List.mem_filterMap.mp hm
    rcases List.mem_cons.mp he with rfl | he
    · exact (N q hq).2.1 (Option.some.inj hf).symm
    · obtain ⟨o, ho, _⟩ := (K.frames.mem (List.mem_filterMap.mpr ⟨env, he, hf⟩)).2
      rw [(N q hq).2.2] at ho; cases ho
  have out : ∀ b o, B.get? b = some o → h.get? b = some o := fun b o q => by subst hB; exact of_hideAll _ q
  have fr : h.FunFrames B (envOf name scope L a cd :: outer) := by subst hB; exact funFrames_hide K'.frames hin
  have fresh : ∀ b, h.get? b = none → B.get? b = none := fun b hb => by
    cases hq : B.get? b with
    | none => rfl
    | some o' => have := out b o' hq; rw [hb] at this; cases this
  obtain ⟨t, he, htn, ht⟩ := hx.there
  unfold leaving
  refine wpAny_bind (noteFirstD (a0 := .ref t) (cls := cls) K'.stack (fr.of_keeps fun b o hb _ => ⟨o, hx.keeps b o hb, rfl⟩) rfl he rfl rfl (fun b o hb => hx.keeps b o (out b o hb)) (fresh e hx.new) rfl rfl rfl fun h₁ n₁ => ?_)
  refine flightD n₁.stays n₁.frames n₁.tr fun h₂ n₂ => ?_
  have tup : h₂.TupAt t vs := (Heap.TupAt.of_slots (Heap.TupAt.of_slots ⟨_, _, ht, rfl, rfl⟩ n₁.rest) n₂.rest)
  obtain ⟨_, _, fr₂⟩ := n₂.frames
  exact hQ h₂ t ⟨⟨B, st, sg, hl, ⟨n₂.stays, fresh e hx.new, fr₂, n₂.tr⟩, fresh t htn⟩, tup⟩ ((((Heap.UpToSlots.of_keeps F.keep).trans (Heap.UpToSlots.of_keeps hx.keeps)).trans n₁.rest).trans n₂.rest)

/-- out of a frame that it flies through -/
theorem leave_onD {cls : Value} {vs : List Value} (K : Below A base outer g) (F : Fr g L g₂ m) (R : RaisedD base g₂ (envOf name scope L a cd :: outer) e cls t vs news s'.heap) (hsm : g₂.UpToSlots s'.heap)
    (hQ : ∀ h', RaisedD base g outer e cls t vs news h' → g.UpToSlots h' → Q () { s' with heap := h' }) :
    wpAny M (A.deeper (envOf name scope L a cd)) (leaving (envOf name scope L a cd) (.ref e)) Q E s' := by
  obtain ⟨⟨B, hB, hBG, hl, ⟨f1, f2, f3, f4⟩, hnew⟩, htup⟩ := R
  unfold leaving
  refine wpAny_bind (noteNextD (Around.frames_deeper K.stack) f3 rfl f4 f1 f2 fun h₁ n₁ => ?_)
  refine flightD n₁.stays n₁.frames n₁.tr fun h₂ n₂ => ?_
  obtain ⟨_, _, fr₂⟩ := n₂.frames
  refine hQ h₂ ⟨⟨B, hB, fun b o q nm => hBG b o (F.keep b o q) (fun hm => ?_), fun q hq => ⟨(hl q hq).1, kts_none F.keep (hl q hq).2.1, (hl q hq).2.2⟩, ⟨n₂.stays, f2, fr₂, n₂.tr⟩, hnew⟩, (htup.of_slots n₁.rest).of_slots n₂.rest⟩
    ((Heap.UpToSlots.of_keeps F.keep).trans ((hsm.trans n₁.rest).trans n₂.rest))
  rcases kts_mem hm with z | z
  · rw [z, kts_self F] at q
    cases q
  · exact nm z

/-- seen by the frame whose try it is -/
theorem lookD {cls : Value} {vs : List Value} {A₀ : Around} {G : Heap} {Q' : Unit → Shared → Prop} (R : RaisedD base G (envOf name scope L a cd :: outer) e cls t vs news s'.heap) (K : Below A₀ base outer g) (hsm : G.UpToSlots s'.heap)
    (hQ : ∀ h', RaisedD base G (envOf name scope L a cd :: outer) e cls t vs news h' → G.UpToSlots h' → Q' () { s' with heap := h' }) :
    wpAny M (A₀.deeper (envOf name scope L a cd)) (noteFrame (.ref e) (envOf name scope L a cd)) (fun _ s₂ => wpAny M (A₀.deeper (envOf name scope L a cd)) (setFlight (.ref e) none) Q' E s₂) E s' := by
  obtain ⟨⟨B, hB, hBG, hl, ⟨f1, f2, f3, f4⟩, hnew⟩, htup⟩ := R
  refine noteNextD (Around.frames_deeper K.stack) f3 rfl f4 f1 f2 fun h₁ n₁ => ?_
  refine flightD n₁.stays n₁.frames n₁.tr fun h₂ n₂ => ?_
  exact hQ h₂ ⟨⟨B, hB, hBG, hl, ⟨n₂.stays, f2, n₂.frames, n₂.tr⟩, hnew⟩, (htup.of_slots n₁.rest).of_slots n₂.rest⟩ ((hsm.trans n₁.rest).trans n₂.rest)
end
theorem FlyD.toW {base h : Heap} {l : List Env} {e : Addr} {cls a0 : Value} (x : FlyD base l e cls a0 h) : Heap.FlyingW base l e cls a0 h := ⟨x.1, x.2.1, x.2.2.1, x.2.2.2.toW⟩
theorem RaisedD.toS {base G : Heap} {l : List Env} {e t : Addr} {cls : Value} {vs : List Value} {news : List (Addr × Obj)} {h : Heap} (R : RaisedD base G l e cls t vs news h) : RaisedS base G l e cls t vs news h := by
  obtain ⟨⟨B, hB, hBG, hl, hf, hnew⟩, htup⟩ := R
  exact ⟨⟨B, hB, hBG, hl, hf.toW, hnew⟩, htup⟩
theorem TrD.keeps {h h' base : Heap} {e : Addr} {cls a0 fl : Value} (x : TrD h base e cls a0 fl) (k : ∀ b o, h.get? b = some o → h'.get? b = some o) : TrD h' base e cls a0 fl := by
  obtain ⟨oe, vs, T, oT, ts, h1, h2, h3, h4, h5, h6, h7, h8, h9, r⟩ := x
  exact ⟨oe, vs, T, oT, ts, k _ _ h1, h2, h3, h4, h5, h6, h7, h8, k _ _ h9, r⟩
theorem frames_keeps {base h h' : Heap} {l : List Env} (x : h.FunFrames base l) (k : ∀ b o, h.get? b = some o → h'.get? b = some o) : h'.FunFrames base l := x.of_keeps fun b o e _ => ⟨o, k b o e, rfl⟩
theorem RaisedD.keeps {base G : Heap} {l : List Env} {e t : Addr} {cls : Value} {vs : List Value} {news : List (Addr × Obj)} {h h' : Heap} (R : RaisedD base G l e cls t vs news h) (k : ∀ b o, h.get? b = some o → h'.get? b = some o) : RaisedD base G l e cls t vs news h' := by
  obtain ⟨⟨B, hB, hBG, hl, ⟨f1, f2, f3, f4⟩, hnew⟩, htup⟩ := R
  exact ⟨⟨B, hB, hBG, hl, ⟨fun b o q => k b o (f1 b o q), f2, frames_keeps f3 k, f4.keeps k⟩, hnew⟩, htup.of_slots (Heap.UpToSlots.of_keeps k)⟩
/-- the exception's object and its arguments' -/
structure ExcObj (oe ot : Obj) (cls : Value) (t : Addr) (vs : List Value) : Prop where
  cls : oe.cls = cls
  dict : oe.dict = none
  data : ∃ ws, oe.data = .fields ws ∧ ws[0]? = some (.ref t)
  tcls : ot.cls = .type "tuple"
  tdata : ∃ n, ot.data = .seq vs.toArray n

section
variable {prog : Program} {w : World} {A₀ : Around} {E : Value → Shared → Prop} {s' : Shared} {base g g₀ G : Heap} {outer : List Env} {L a e t : Addr} {cls : Value} {m : Str → Option Value} {name : Str} {scope : Scope} {cd : Value}
  {vs : List Value} {n : Str} {b₀ : Stmt} {suite : List Stmt} {pos : Pos} {rest : List ExceptHandler} {Q : Flow → Shared → Prop} {news : List (Addr × Obj)} {KF : Frag}
  {p : Program} {loose : List Str} {mean : ExcName → Option Value} {mg mb : Str → Option Value} {tt : Expr}
theorem hitD (R : RaisedD base G (envOf name scope L a cd :: outer) e cls t vs news s'.heap) (F : Fr g L G m) (K : Below A₀ base outer g) (hsm : G.UpToSlots s'.heap) (XB : KF.In base) (TB : Top p loose mean mg mb base)
    (D : KtsDicts (outer.filterMap (·.frame)) g) (T0 : KtsTurn (outer.filterMap (·.frame)) g₀ g) (T : KtsTest prog w KF p loose mg mb name scope L a cd cls tt true)
    (k : ∀ h' g' oe ot tk, KtsTurn (outer.filterMap (·.frame)) g₀ g' → Fr g' L h' (fun y => if y = n then some (.ref e) else m y) → News g' L h' ((e, oe) :: (t, ot) :: news) → ExcObj oe ot cls t vs → Below A₀ base outer g' → KF.In g' → Top p loose mean mg mb g' → KtsDicts (outer.filterMap (·.frame)) g' →
      wpAny (model prog w) ((A₀.deeper (envOf name scope L a cd)).mark (some (.ref e))) (execs (b₀ :: suite) (envOf name scope L a cd))
        (fun f s₄ => wpAny (model prog w) (A₀.deeper (envOf name scope L a cd)) (do bindName (envOf name scope L a cd) n .none; unbindBehindTheSuite (envOf name scope L a cd) n pos) (fun _ s₅ => Q f s₅) E s₄)
        (AsSuiteRaised (model prog w) ((A₀.deeper (envOf name scope L a cd)).mark (some (.ref e))) (envOf name scope L a cd) n pos (notedBy (model prog w) ((A₀.deeper (envOf name scope L a cd)).mark (some (.ref e))) (envOf name scope L a cd) (cameBackBy (model prog w) (A₀.deeper (envOf name scope L a cd)) (envOf name scope L a cd) E)))
        { s' with heap := h', toks := tk })
    (hk : scope.kind = .function := by rfl) (hlo : (envOf name scope L a cd).kindOf n = some .local := by rfl) :
    wpAny (model prog w) (A₀.deeper (envOf name scope L a cd)) (handleBy (.ref e) (envOf name scope L a cd) (.ExceptHandler (some tt) (some n) (b₀ :: suite) pos :: rest)) Q E s' := by
  obtain ⟨g₅, T₅, F₅, K₅⟩ : ∃ g', KtsTurn (outer.filterMap (·.frame)) g g' ∧ Fr g' L s'.heap m ∧ Below A₀ base outer g' := by
    obtain ⟨⟨B₁, _, hBG₁, _, hfl₁, _⟩, _⟩ := R
    exact kts_ground K F hBG₁ hfl₁.1 hsm
  refine wpAny_handleBy_cons (codeAny_handlers_test (T _ _ _ _ g₅ e m F₅ (XB.keeps K₅.stays) (topRead_of (TB.keeps K₅.stays)) R.toS.toSN.ty fun h₅ kp => ?_)) (by intro q; cases q)
  have hsm₅ : G.UpToSlots h₅ := hsm.trans (Heap.UpToSlots.of_keeps kp)
  obtain ⟨⟨B, hB, hBG, hl, ⟨f1, f2, f3, f4⟩, hnew⟩, htup⟩ := R.keeps kp
  have hL : B.get? L = none := by
    obtain ⟨_, ⟨L', _, hf, hn', _⟩, _⟩ := f3
    obtain rfl : L = L' := Option.some.inj hf
    exact hn'
  refine codeAny_handlers_suite_as (flightD f1 f3 f4 fun h₆ n₆ => ?_)
  have hsm₆ := hsm₅.trans n₆.rest
  obtain ⟨g₆, T₆, F₆, K₆⟩ := kts_ground K F hBG n₆.stays hsm₆
  obtain ⟨oe, ws, _, _, _, hoe, hoec, hoeD, hoe0, hoed, _⟩ := n₆.tr
  obtain ⟨ot, nt, hot, hotc, hotd⟩ := htup.of_slots n₆.rest
  have none_of : ∀ {b : Addr} {ob : Obj}, B.get? b = none → h₆.get? b = some ob → (∀ es n', ob.data ≠ .dict es n') → g₆.get? b = none := fun {b ob} hb hob hnd => T₆.none_ _ (kts_fresh F hBG hb fun o ho mm => by
    obtain ⟨o', es, n', ho', hd⟩ := D _ mm
    rw [ho] at ho'
    cases ho'
    obtain ⟨sl, hs⟩ := hsm₆ _ _ (F.keep _ _ ho) (fun vs q => by rw [hd] at q; cases q)
    rw [hob] at hs
    cases hs
    exact hnd _ _ hd)
  have ne₆ : g₆.get? e = none := none_of f2 hoe fun es n' q => by rw [hoed] at q; cases q
  have nt₆ : g₆.get? t = none := none_of hnew hot fun es n' q => by rw [hotd] at q; cases q
  have N₆ := News.more F₆ (News.more F₆ News.nil hot (fun es n q => by rw [hotd] at q; cases q) nt₆) hoe (fun es n q => by rw [hoed] at q; cases q) ne₆
  have Nl : News g₆ L h₆ news := fun q hq => ⟨n₆.stays _ _ (hl q hq).1, (fun z => by have := (hl q hq).1; rw [z, hL] at this; cases this), T₆.none_ _ (kts_none F.keep (hl q hq).2.1)⟩
  have NA : News g₆ L h₆ ((e, oe) :: (t, ot) :: news) := fun q hq => by
    rcases List.mem_cons.mp hq with rfl | hq
    · exact N₆ _ (.head _)
    rcases List.mem_cons.mp hq with rfl | hq
    · exact N₆ _ (.tail _ (.head _))
    · exact Nl q hq
  refine stN F₆ NA (fun h₇ F₇ N₇ => ?_) hk hlo
  exact k h₇ g₆ oe ot _ (T0.trans T₆) F₇ N₇ ⟨hoec, hoeD, ⟨ws, hoed, hoe0⟩, hotc, ⟨nt, hotd⟩⟩ K₆ (XB.keeps K₆.stays) (TB.keeps K₆.stays) (D.turn T₆)
end

theorem canon_bexc : (Manifest.canonical "BaseException.__getattribute__" != "object.__getattribute__") = false := by decide +kernel
section
variable {prog : Program} {w : World} {A : Around} {E : Value → Shared → Prop} {s : Shared} {g : Heap} {L e t C f : Addr} {m : Str → Option Value} {led : List (Addr × Obj)} {K : Frag} {name : Str} {pl : Sem Bool} {oe ot : Obj} {vs : List Value}
/-- a method of its own class, of an exception that was caught -/
theorem method_exc {Q : Value × List Value → Shared → Prop}
    (F : Fr g L s.heap m) (X : K.In g) (N : News g L s.heap led) (hm : (e, oe) ∈ led) (O : ExcObj oe ot (.ref C) t vs) (hga : findIn K (.ref C) "__getattribute__" = some (some (.builtin "BaseException.__getattribute__"))) (hk : findIn K (.ref C) "__getattr__" = some none)
    (hf : findIn K (.ref C) name = some (some (.ref f))) (ht : isFn K (.ref f) = true) (h : Q (.ref f, [.ref e]) s) :
    wpAny (model prog w) A (getMethod (.ref e) name pl) Q E s := by
  obtain ⟨hc, hD, ⟨ws, hd, _⟩, _, _⟩ := O
  have X' := X.keeps F.keep
  have I : InstAt s.heap e oe C none := ⟨N.get hm, hc, by unfold notCls; rw [hd], by rw [hD]; trivial⟩
  unfold getMethod specialOf
  refine wpAny_bind (wpAny_bind (I.type.here ((looks_findIn X' hga).here ?_)))
  dsimp only
  rw [canon_bexc, if_neg (by decide)]
  refine wpAny_bind (wpAny_bind (I.type.here ((looks_findIn X' hk).here ?_)))
  refine wpAny_bind (wpAny_bind (I.type.here ((looks_findIn X' hf).here (wpAny_bind ((looks_typeIn X' (beq_iff_eq.mp ht)).here ?_)))))
  rw [if_neg (by decide +kernel)]
  refine wpAny_bind (wpAny_loadPart I.at_ ?_)
  rw [hD]
  exact wpAny_bind (wpAny_rule (wpAny_pure h))

/-- the class as it stands: under bmB, and with none of the quiet names of its own -/
def quietIn (K : Frag) (C : Addr) (bmB : List Value) (newId : String) : Bool := match K.lookup C with
  | some ⟨.type "type", _, .cls cd, sl⟩ => (match cd.mro, sl.toList with
    | .ref C' :: bm, [_, _, _, _, some (.builtin n), _] => C' == C && n == newId && !cd.hasDel && bm == bmB && nsOkIn K cd.ns && quietNames.all fun x => nsIn K cd.ns x == some none
    | _, _ => false)
  | _ => false
theorem quiet_of_in {h : Heap} {bmB : List Value} {newId : String} (X : K.In h) (q : quietIn K C bmB newId = true) :
    ∃ N nm q bs hdct sn sub ab col dd k0 k1 k2 k3 k5 mN, h.get? C = some (excClassObj nm q C N bs bmB hdct sn sub ab col dd k0 k1 k2 k3 k5 newId) ∧ h.Ns N mN ∧ ∀ n ∈ quietNames, mN n = none := by
  unfold quietIn at q
  split at q
  · rename_i dd cd sl ho
    split at q
    · rename_i C' bm k0 k1 k2 k3 n k5 hm hs
      simp only [Bool.and_eq_true, beq_iff_eq, Bool.not_eq_true'] at q
      obtain ⟨⟨⟨⟨⟨rfl, rfl⟩, hdel⟩, ht⟩, hok⟩, hni⟩ := q
      obtain ⟨nm, bs, mro, ns, qn, hd, sn, sub, ab, col, del⟩ := cd
      dsimp only at hm hdel hok hni
      subst hm hdel ht
      have hsl : sl = #[k0, k1, k2, k3, some (.builtin n), k5] := by
        obtain ⟨l⟩ := sl
        simp only at hs
        rw [hs]
      subst hsl
      exact ⟨ns, nm, qn, bs, hd, sn, sub, ab, col, dd, k0, k1, k2, k3, k5, _, X _ _ ho, .of_isNs (isNs_of_in X hok), fun x hx => nsMap_none_of_in X hok (beq_iff_eq.mp (List.all_eq_true.mp hni x hx))⟩
    · cases q
  · cases q
theorem quiet_213 (P : Params) : quietIn (Mine.hd.heap_39 P) 213 [.type "Exception", .type "BaseException", .type "object"] "Exception.__new__" = true := by kernel_rfl

theorem args_exc {P : Params} {expr : Bool} {Q : Value → Shared → Prop} (F : Fr g L s.heap m) (X : (Mine.hd.heap_39 P).In g) (N : News g L s.heap led) (hm : (e, oe) ∈ led) (O : ExcObj oe ot (.ref 213) t vs)
    (hq : Q (.ref t) { s with toks := s.toks + 1 }) : wpAny (model prog w) A (getAttr (.ref e) "args" expr) Q E s := by
  obtain ⟨hc, _, ⟨ws, hd, h0⟩, _, _⟩ := O
  obtain ⟨_, _, _, _, _, _, _, _, _, _, _, _, _, _, _, _, hC, hN, hq'⟩ := quiet_of_in (X.keeps F.keep) (quiet_213 P)
  exact PySem.args_attr_own PySem.F.attrBase_Exception hC hN hq' .base (N.get hm) hc hd h0 hq

theorem exc_tup (N : News g L s.heap led) (hm : (t, ot) ∈ led) (O : ExcObj oe ot (.ref C) t vs) : IsTup s.heap t vs.toArray := ⟨ot, N.get hm, O.tcls, O.tdata⟩
end
section
variable {prog : Program} {w : World} {A : Around} {E : Value → Shared → Prop} {s : Shared}
theorem len_tup2 {T : Addr} {a b : Value} {Q : Value → Shared → Prop} (ht : IsTup s.heap T [a, b].toArray) (h : Q (.int 2 (s.toks + 1)) { s with toks := s.toks + 1 + 1 }) : wpAny (model prog w) A (call (.builtin "len") [.ref T]) Q E s :=
  PyProof.Rows.len_tuple ht (by simp) h
end
section
variable {prog : Program} {w : World} {A : Around} {E : Value → Shared → Prop} {s : Shared}
/-- a call of what getMethod gave: the pair taken apart -/
theorem cw_pair {ps : Pos} {f : Value} {xs : List Value} {sp kw} {Q : Value → Shared → Prop} (h : wpAny (model prog w) A (callWith ps f xs sp kw) Q E s) : wpAny (model prog w) A (callWith ps (Prod.fst (f, xs)) (Prod.snd (f, xs)) sp kw) Q E s := h
end
end Mine
end
section
open PySem PySem.W PyProof.Rows PySem.Builtin PySem.Builtin.Str
set_option maxRecDepth 100000
namespace Mine
/-! '%x' of an int -/
def hexD (n : Nat) : List Nat := (Nat.toDigits 16 n).map Char.toNat
def hexS (n : Nat) : PySem.Str := ⟨(hexD n).toArray⟩
theorem hex_text (c : Percent) (h1 : c.alt = false) (h2 : c.type = 120) (h3 : c.prec = none) {n : Int} (hn : 0 ≤ n) (d : List Nat) : percentInt c (decide (n < 0)) d = d := by
  have hneg : decide (n < 0) = false := decide_eq_false (by omega)
  unfold percentInt
  simp [h1, h2, h3, hneg]
theorem after_hex {M : Model} {A : Around} {E : Value → Shared → Prop} {s : Shared} {l : List Nat} {p : List Value} {r : List Nat}
    {f : Nat → List Value × Writer × List Nat → Sem (ForInStep (List Value × Writer × List Nat))} {Q : List Value × Writer × List Nat → Shared → Prop}
    {w : Writer} {N : Nat} {o : Option Value} {c : Percent} {n : Int} {d : List Nat} (g : KPc.Good w PySem.Str.empty N) (h1 : c.alt = false) (h2 : c.type = 120) (h3 : c.prec = none) (hn : 0 ≤ n) (hd : d.length ≤ 1000) (ho : o = none)
    (h : ∀ w', KPc.Good w' ⟨d.toArray⟩ (N + 1000) → wpAny M A (forIn l (p, w', r) f) Q E s) :
    wpAny M A (forIn l (p, w.add ⟨(percentInt c (decide (n < 0)) d).toArray⟩ o, r) f) Q E s := by
  rw [hex_text c h1 h2 h3 hn]
  exact KPc.after_str0 (y := ⟨d.toArray⟩) g (by simpa [PySem.Str.length] using hd) (KPc.obj_none ho) h
section
variable {prog : Program} {w : World} {A : Around} {E : Value → Shared → Prop} {s : Shared} {X : PySem.Str} {n : Int} {t u : Tok} {Q : Value → Shared → Prop}
theorem hex_mod (hX : X = ⟨#[37, 120]⟩) (hn0 : 0 ≤ n) (hd : n.natAbs.log2 < 1920) (hl : (hexD n.natAbs).length ≤ 1000)
    (h : ∀ t' k, Q (.str ⟨(hexD n.natAbs).toArray⟩ t') { s with toks := k }) : wpAny (model prog w) A (binaryOp .Mod (.str X t) (.int n u)) Q E s := by
  refine KPc.mod_lit hX hd ?_ h
  intro _ _
  apply KPc.meets_of
  intro _ _ _ _ _ _ _
  rw [KPc.entry_is]
  unfold Builtin.Str.percentFormat
  refine wpAny_bind (wpAny_isInstance (typeIs_int _ _ _) F.sub_int_tuple ?_)
  refine wpAny_bind (wpAny_of_eq (a := none) rfl ?_)
  refine wpAny_bind (wpAny_of_eq (KPc.fills _ _) ?_)
  kpc_if
  refine wpAny_bind (wpAny_pure ?_)
  refine wpAny_bind ?_
  rw [KPc.range_list]
  refine KPc.start ?_
  intro _ _
  refine KPc.turn ?_
  kpc_check
  (repeat kpc_if)
  refine wpAny_bind ?_
  refine wpAny_holding ?_
  (repeat kpc_if)
  refine wpAny_bind (wpAny_of_eq (a := _) rfl ?_)
  (repeat kpc_if)
  refine wpAny_bind (wpAny_of_eq (a := _) rfl ?_)
  refine wpAny_pure ?_
  refine wpAny_pure ?_
  refine after_hex (by with_reducible assumption) rfl rfl rfl hn0 hl (by kpc_none) ?_
  intro _ _
  refine KPc.turn ?_
  kpc_check
  (repeat kpc_if)
  kpc_close
end
end Mine
end
section
open PySem PySem.W PyProof.Rows PySem.Builtin PySem.Calls
set_option maxRecDepth 100000
namespace Mine
/-! more of bytes: hex, startswith, ord -/
theorem fold2 (f g : UInt8 → Nat) : ∀ (l : List UInt8) (k : Nat) (acc : Array Nat), (l.zipIdx k).foldl (fun (out : Array Nat) (x : UInt8 × Nat) => (out.push (f x.1)).push (g x.1)) acc = acc ++ (l.flatMap fun c => [f c, g c]).toArray
  | [], _, acc => by simp
  | c :: r, k, acc => by
    rw [List.zipIdx_cons, List.foldl_cons, fold2 f g r, List.flatMap_cons]
    apply Array.ext'
    simp
def hexOfB (l : List UInt8) : List Nat := l.flatMap fun c => [Bytes.hexDigit (c.toNat / 16), Bytes.hexDigit (c.toNat % 16)]
theorem hexOfB_len (l : List UInt8) : (hexOfB l).length = 2 * l.length := by
  induction l with
  | nil => rfl
  | cons c r ih =>
    unfold hexOfB at ih ⊢
    rw [List.flatMap_cons, List.length_append, ih]
    simp only [List.length_cons, List.length_nil]
    omega
theorem gives_hex (l : List UInt8) (t : Tok) : Gives («bytes.hex» ⟨[.bytes l.toArray t], []⟩) (.str ⟨(hexOfB l).toArray⟩) := by
  have e : «bytes.hex» ⟨[.bytes l.toArray t], []⟩ = retStr ⟨(l.zipIdx 0).foldl (fun (out : Array Nat) (x : UInt8 × Nat) => (out.push (Bytes.hexDigit (x.1.toNat / 16))).push (Bytes.hexDigit (x.1.toNat % 16))) #[]⟩ := rfl
  rw [e, fold2 (fun c => Bytes.hexDigit (c.toNat / 16)) (fun c => Bytes.hexDigit (c.toNat % 16)) l 0 #[], Array.empty_append]
  exact .of_eq rfl
section
variable {prog : Program} {w : World} {A : Around} {E : Value → Shared → Prop} {s : Shared} {l r : List UInt8} {t u : Tok} {Q : Value → Shared → Prop}
theorem r_hex (hz : l.length ≤ 1048576) (h : ∀ t' k, Q (.str ⟨(hexOfB l).toArray⟩ t') { s with toks := k }) : wpAny (model prog w) A (call (.builtin "bytes.hex") [.bytes l.toArray t]) Q E s := by
  refine call_gives FB.slot_bytes_hex (typeIs_bytes s _ t) FB.entry_bytes_hex (FB.args_bytes_hex_1 _) (gives_hex l t) ⟨?_, h _ _⟩
  show (hexOfB l).toArray.size ≤ sizeLine
  rw [List.size_toArray, hexOfB_len, sizeLine_eq]
  omega
theorem gives_ord (c : UInt8) (t : Tok) : Gives («ord» ⟨[.bytes #[c] t], []⟩) (.int c.toNat) := .of_eq rfl
theorem r_ord {c : UInt8} (hl : l = [c]) (h : ∀ t' k, Q (.int (c.toNat : Nat) t') { s with toks := k }) : wpAny (model prog w) A (call (.builtin "ord") [.bytes l.toArray t]) Q E s := by
  subst hl
  exact call_function_meets F.kind_ord F.plain_ord F.entry_ord (F.args_ord1 _) (gives_ord c t).meets (h _ _)
theorem sub_bytes_tuple : isSubtype (.type "bytes") (.type "tuple") = pure false := by rw [isSubtype_type]; kernel_rfl
theorem isInstance_tuple {b : Array UInt8} : isInstance (.bytes b t) (.type "tuple") = pure false := by
  have e : isInstance (.bytes b t) (.type "tuple") = isSubtype (.type "bytes") (.type "tuple") := rfl
  rw [e, sub_bytes_tuple]
theorem gives_startswith (c : UInt8) (u : Tok) : Gives («bytes.startswith» ⟨[.bytes l.toArray t, .bytes #[c] u], []⟩) (.val (.bool (l.head? == some c))) := by
  refine .of_wp fun M A E s Q h => ?_
  unfold «bytes.startswith» Bytes.tailMatchM
  refine wpAny_bind (wpAny_of_eq (a := (Value.bytes l.toArray t, [Value.bytes #[c] u])) rfl ?_)
  refine wpAny_bind (wpAny_of_eq (a := none) rfl ?_)
  refine wpAny_bind (wpAny_of_eq (a := none) rfl ?_)
  refine wpAny_bind (wpAny_of_eq (a := l.toArray) rfl ?_)
  refine wpAny_bind (wpAny_of_eq (a := false) isInstance_tuple ?_)
  refine wpAny_ite (KBy.ite_no Bool.false_ne_true ?_)
  refine wpAny_bind (wpAny_of_eq (a := some #[c]) KBy.buffer_eq ?_)
  refine wpAny_pure ⟨_, rfl, ?_⟩
  refine cast (congrArg (fun x => Q (Value.bool x) s) ?_) h
  simp only [Bytes.window, List.size_toArray, Option.getD_none]
  cases l with
  | nil => rfl
  | cons x r =>
    have h1 : ¬ (((r.length : Int) + 1) < 0) := by omega
    simp [h1]
    by_cases e : x = c
    · subst e
      simp
      omega
    · simp [e]
theorem r_startswith {c : UInt8} (h : Q (.bool (l.head? == some c)) s) : wpAny (model prog w) A (call (.builtin "bytes.startswith") [.bytes l.toArray t, .bytes #[c] u]) Q E s :=
  call_gives FB.slot_bytes_startswith (typeIs_bytes s _ t) FB.entry_bytes_startswith (FB.args_bytes_startswith_2 _ _) (gives_startswith c u) h
end
end Mine
end
section
open PySem PySem.W PyProof.Rows PySem.Builtin PySem.Calls PySem.Builtin._codecs
set_option maxRecDepth 100000
namespace Mine
/-! str.encode of plain signs -/
def Ascii (x : PySem.Str) : Prop := ∀ c ∈ x.cps.toList, c < 128
theorem turnN {M : Model} {A : Around} {E : Value → Shared → Prop} {s : Shared} {β : Type} {l : List Nat} {x : Nat} {b : β} {f : Nat → β → Sem (ForInStep β)} {Q : β → Shared → Prop}
    (h : wpAny M A (f x b) (fun r s' => match r with | .done b' => Q b' s' | .yield b' => wpAny M A (forIn l b' f) Q E s') E s) : wpAny M A (forIn (x :: l) b f) Q E s := by
  rw [List.forIn_cons]
  refine wpAny_bind (wpAny_mono h (fun r s' hr => ?_) fun _ _ e => e)
  cases r with
  | done b' => exact wpAny_pure hr
  | yield b' => exact hr
theorem wp_narrow {M : Model} {A : Around} {E : Value → Shared → Prop} {s : Shared} {id : String} {c : TextCodec} {errors : Option PySem.Str} {self : Value} {x : PySem.Str} {Q : Array UInt8 → Shared → Prop}
    (hb : ∀ i, i < x.cps.size → c.bad (x.cps.getD i 0) = false) (hz : (x.cps.foldl (fun acc y => acc ++ (c.bytesOf y).toArray) #[]).size ≤ 16777216) (h : Q (x.cps.foldl (fun acc y => acc ++ (c.bytesOf y).toArray) #[]) s) :
    wpAny M A (encodeNarrow id c errors self x) Q E s := by
  unfold encodeNarrow
  refine wpAny_bind ?_
  rw [KPc.range_list]
  have hsz : x.length = x.cps.size := rfl
  obtain ⟨n, hn⟩ : ∃ n, x.length = n := ⟨_, rfl⟩
  rw [hn]
  have hs0 : ¬ ((#[] : Array UInt8).size > sizeLine) := by rw [sizeLine_eq]; decide
  cases n with
  | zero =>
    refine wpAny_pure (wpAny_pure ?_)
    have e : x.cps = #[] := Array.size_eq_zero_iff.mp (by rw [← hsz]; exact hn)
    rw [e] at h
    exact h
  | succ n =>
    have h1 : x.cps[0]? = some (x.cps.getD 0 0) := by
      rw [Array.getElem?_eq_getElem (by omega)]
      simp [Array.getD, show 0 < x.cps.size by omega]
    have hf : Array.findIdx? c.bad (x.cps.extract 0) = none := by
      rw [Array.findIdx?_eq_none_iff]
      intro y hy
      obtain ⟨i, hi, rfl⟩ := Array.mem_iff_getElem.mp hy
      simp only [Array.getElem_extract, Nat.zero_add]
      have hi' : i < x.cps.size := by simpa using hi
      have := hb i hi'
      simpa [Array.getD, hi'] using this
    rw [List.range'_succ]
    refine turnN ?_
    dsimp only
    rw [if_neg hs0, h1]
    dsimp only
    rw [hb 0 (by omega)]
    rw [if_pos (show (!false) = true from rfl)]
    refine wpAny_pure ?_
    dsimp only
    rw [hf]
    have hE : (x.cps.extract 0).extract 0 ((none : Option Nat).getD (x.cps.extract 0).size) = x.cps := by simp
    rw [hE]
    cases n with
    | zero =>
      refine wpAny_pure (wpAny_pure ?_)
      exact h
    | succ n =>
      rw [List.range'_succ]
      refine turnN ?_
      dsimp only
      have hout : ¬ ((Array.foldl (fun acc y => acc ++ (c.bytesOf y).toArray) #[] x.cps).size > sizeLine) := by rw [sizeLine_eq]; omega
      rw [if_neg hout]
      have h2 : x.cps[0 + (none : Option Nat).getD (x.cps.extract 0).size]? = none := by simp
      rw [h2]
      exact wpAny_pure (wpAny_pure h)

theorem foldBytes (f : Nat → List UInt8) : ∀ (l : List Nat) (acc : Array UInt8), (∀ y ∈ l, f y = [y.toUInt8]) → l.foldl (fun acc y => acc ++ (f y).toArray) acc = acc ++ (l.map fun y => y.toUInt8).toArray
  | [], _, _ => by simp
  | y :: r, acc, h => by
    rw [List.foldl_cons, foldBytes f r _ fun z hz => h z (.tail _ hz), h y (.head _)]
    apply Array.ext'
    simp
theorem fold_enc {c : TextCodec} {l : List Nat} (h : ∀ y ∈ l, c.bytesOf y = [y.toUInt8]) : l.toArray.foldl (fun acc y => acc ++ (c.bytesOf y).toArray) #[] = (l.map fun y => y.toUInt8).toArray := by
  rw [List.foldl_toArray, foldBytes c.bytesOf l #[] h, Array.empty_append]
theorem utf8_one {y : Nat} (h : y < 128) : utf8Codec.bytesOf y = [y.toUInt8] := by
  show PySem.Str.utf8Of y = _
  unfold PySem.Str.utf8Of
  rw [if_pos (by omega)]
theorem utf8_good {y : Nat} (h : y < 128) : utf8Codec.bad y = false := by
  show PySem.Str.isSurrogate y = false
  unfold PySem.Str.isSurrogate
  simp
  omega
theorem ascii_good {y : Nat} (h : y < 128) : asciiCodec.bad y = false := by
  show decide (y ≥ 128) = false
  exact decide_eq_false (by omega)
theorem getD_mem {l : List Nat} {i : Nat} (h : i < l.toArray.size) : l.toArray.getD i 0 ∈ l := by
  have h' : i < l.length := by simpa using h
  simp [Array.getD, h']
theorem gives_utf8 {l : List Nat} {t u : Tok} (ha : ∀ y ∈ l, y < 128) (hz : l.length ≤ 16777216) : Gives («str.encode» ⟨[.str ⟨l.toArray⟩ t, .str (PySem.Str.ofString "utf8") u], []⟩) (.bytes (l.map fun y => y.toUInt8).toArray) := by
  refine .of_wp fun M A E s Q h => ?_
  unfold «str.encode»
  refine wpAny_bind (wpAny_of_eq (a := (Value.str ⟨l.toArray⟩ t, ⟨l.toArray⟩, [Value.str (PySem.Str.ofString "utf8") u])) rfl ?_)
  refine wpAny_bind (wpAny_of_eq (a := [some (Value.str (PySem.Str.ofString "utf8") u), none]) rfl ?_)
  refine wpAny_bind (wpAny_of_eq (a := some (PySem.Str.ofString "utf8")) (by kernel_rfl) ?_)
  refine wpAny_bind (wpAny_of_eq (a := none) rfl ?_)
  have e : encodeRoad "str.encode" (Value.str ⟨l.toArray⟩ t) ⟨l.toArray⟩ ((some (PySem.Str.ofString "utf8")).getD (PySem.Str.ofString "utf-8")) none = (do mkBytes (← encodeNarrow "str.encode" utf8Codec none (Value.str ⟨l.toArray⟩ t) ⟨l.toArray⟩)) := by
    first | rfl | (unfold encodeRoad; rfl) | (unfold encodeRoad; simp only []; rfl)
  refine wpAny_bind ?_
  rw [e]
  have hf := fold_enc (c := utf8Codec) (l := l) fun y hy => utf8_one (ha y hy)
  refine wpAny_bind (wp_narrow (fun i hi => utf8_good (ha _ (getD_mem hi))) ?_ ?_)
  · show Array.size (α := UInt8) (l.toArray.foldl (fun acc y => acc ++ (utf8Codec.bytesOf y).toArray) #[]) ≤ _
    rw [hf]
    simpa using hz
  · show wpAny _ _ (mkBytes (l.toArray.foldl (fun acc y => acc ++ (utf8Codec.bytesOf y).toArray) #[])) _ _ _
    rw [hf]
    exact wpAny_mkBytes (wpAny_pure ⟨_, rfl, h.2⟩) h.1
theorem gives_ascii {l : List Nat} {t u : Tok} (ha : ∀ y ∈ l, y < 128) (hz : l.length ≤ 16777216) : Gives («str.encode» ⟨[.str ⟨l.toArray⟩ t, .str (PySem.Str.ofString "ascii") u], []⟩) (.bytes (l.map fun y => y.toUInt8).toArray) := by
  refine .of_wp fun M A E s Q h => ?_
  unfold «str.encode»
  refine wpAny_bind (wpAny_of_eq (a := (Value.str ⟨l.toArray⟩ t, ⟨l.toArray⟩, [Value.str (PySem.Str.ofString "ascii") u])) rfl ?_)
  refine wpAny_bind (wpAny_of_eq (a := [some (Value.str (PySem.Str.ofString "ascii") u), none]) rfl ?_)
  refine wpAny_bind (wpAny_of_eq (a := some (PySem.Str.ofString "ascii")) (by kernel_rfl) ?_)
  refine wpAny_bind (wpAny_of_eq (a := none) rfl ?_)
  have e : encodeRoad "str.encode" (Value.str ⟨l.toArray⟩ t) ⟨l.toArray⟩ ((some (PySem.Str.ofString "ascii")).getD (PySem.Str.ofString "utf-8")) none = (do mkBytes (← encodeNarrow "str.encode" asciiCodec none (Value.str ⟨l.toArray⟩ t) ⟨l.toArray⟩)) := by
    first | rfl | (unfold encodeRoad; rfl) | (unfold encodeRoad; simp only []; rfl)
  refine wpAny_bind ?_
  rw [e]
  have hf := fold_enc (c := asciiCodec) (l := l) fun y hy => rfl
  refine wpAny_bind (wp_narrow (fun i hi => ascii_good (ha _ (getD_mem hi))) ?_ ?_)
  · show Array.size (α := UInt8) (l.toArray.foldl (fun acc y => acc ++ (asciiCodec.bytesOf y).toArray) #[]) ≤ _
    rw [hf]
    simpa using hz
  · show wpAny _ _ (mkBytes (l.toArray.foldl (fun acc y => acc ++ (asciiCodec.bytesOf y).toArray) #[])) _ _ _
    rw [hf]
    exact wpAny_mkBytes (wpAny_pure ⟨_, rfl, h.2⟩) h.1
section
variable {prog : Program} {w : World} {A : Around} {E : Value → Shared → Prop} {s : Shared} {l : List Nat} {t u : Tok} {Q : Value → Shared → Prop}
theorem r_utf8 (ha : ∀ y ∈ l, y < 128) (hz : l.length ≤ 1048576) (h : ∀ t' k, Q (.bytes (l.map fun y => y.toUInt8).toArray t') { s with toks := k }) : wpAny (model prog w) A (call (.builtin "str.encode") [.str ⟨l.toArray⟩ t, .str (PySem.Str.ofString "utf8") u]) Q E s := by
  refine call_gives F.slot_str_encode (typeIs_str s _ t) F.entry_str_encode (F.args_str_encode_2 _ _) (gives_utf8 ha (by omega)) ⟨?_, h _ _⟩
  rw [List.size_toArray, List.length_map, sizeLine_eq]
  omega
theorem r_ascii (ha : ∀ y ∈ l, y < 128) (hz : l.length ≤ 1048576) (h : ∀ t' k, Q (.bytes (l.map fun y => y.toUInt8).toArray t') { s with toks := k }) : wpAny (model prog w) A (call (.builtin "str.encode") [.str ⟨l.toArray⟩ t, .str (PySem.Str.ofString "ascii") u]) Q E s := by
  refine call_gives F.slot_str_encode (typeIs_str s _ t) F.entry_str_encode (F.args_str_encode_2 _ _) (gives_ascii ha (by omega)) ⟨?_, h _ _⟩
  rw [List.size_toArray, List.length_map, sizeLine_eq]
  omega
end
end Mine
end
section
open PySem PySem.W PyProof.Rows PySem.Builtin PySem.Calls
set_option maxRecDepth 100000
namespace Mine
/-! pack('>B', n) -/
theorem fmt_B (u : Tok) : Struct.moduleFormat (.str (PySem.Str.ofString ">B") u) = pure { bigEndian := true, native := false, codes := [⟨'B', 1, 0, 1⟩], size := 1, items := 1 } := by kernel_rfl
theorem turnG {α β : Type} {M : Model} {A : Around} {E : Value → Shared → Prop} {s : Shared} {l : List α} {x : α} {b : β} {f : α → β → Sem (ForInStep β)} {Q : β → Shared → Prop}
    (h : wpAny M A (f x b) (fun r s' => match r with | .done b' => Q b' s' | .yield b' => wpAny M A (forIn l b' f) Q E s') E s) : wpAny M A (forIn (x :: l) b f) Q E s := by
  rw [List.forIn_cons]
  refine wpAny_bind (wpAny_mono h (fun r s' hr => ?_) fun _ _ e => e)
  cases r with
  | done b' => exact wpAny_pure hr
  | yield b' => exact hr
theorem viaIf {α : Type} {T : Sem α} {c : Bool} {x y : α} (h : ∃ bad, T = if c = true then bad else pure x) (hc : c = false) (e : x = y) : T = pure y := by
  obtain ⟨bad, h⟩ := h
  rw [h, hc, if_neg Bool.false_ne_true, e]
theorem intB {n : Int} (h0 : 0 ≤ n) (h1 : n < 256) : Struct.intBytes true 1 n = #[n.toNat.toUInt8] := by
  have : (n % 2 ^ (8 * 1)).toNat / 256 ^ 0 % 256 = n.toNat := by
    simp
    omega
  simp only [Struct.intBytes, Memoryview.toLittleEndian, if_true, List.range, List.range.loop, List.map, this]
  rfl
theorem gives_pack {n : Int} {t u : Tok} (h0 : 0 ≤ n) (h1 : n < 256) : Gives («_struct.pack» ⟨[.str (PySem.Str.ofString ">B") u, .int n t], []⟩) (.bytes #[n.toNat.toUInt8]) := by
  refine .of_wp fun M A E s Q h => ?_
  unfold «_struct.pack»
  refine wpAny_bind (wpAny_of_eq (a := ()) rfl ?_)
  refine wpAny_bind (wpAny_of_eq (fmt_B u) ?_)
  unfold Struct.packed
  refine wpAny_ite (KBy.ite_no Bool.false_ne_true ?_)
  refine wpAny_ite (KBy.ite_no (by unfold Bytes.tooLong; rw [sizeLine_eq]; decide) ?_)
  refine wpAny_bind ?_
  unfold Struct.packEach
  refine wpAny_bind ?_
  refine turnG ?_
  refine wpAny_ite (KBy.ite_no (by decide) ?_)
  refine wpAny_ite (KBy.ite_no (by decide) ?_)
  refine wpAny_bind ?_
  rw [KPc.range_list]
  refine turnG ?_
  refine wpAny_bind ?_
  refine wpAny_of_eq (a := #[n.toNat.toUInt8]) (viaIf (c := decide (n < (if 'B'.isLower = true then -(2 ^ (8 * 1 - 1)) else 0)) || decide (n > (if 'B'.isLower = true then 2 ^ (8 * 1 - 1) else 2 ^ (8 * 1)) - 1)) (x := Struct.intBytes true 1 n) ⟨_, rfl⟩ ?_ (intB h0 h1)) ?_
  · have hl : 'B'.isLower = false := by decide
    rw [hl]
    simp
    omega
  refine wpAny_bind (wpAny_of_eq (a := #[n.toNat.toUInt8]) rfl ?_)
  refine wpAny_pure ?_
  refine wpAny_pure ?_
  refine wpAny_pure ?_
  refine wpAny_pure ?_
  refine wpAny_pure ?_
  exact wpAny_bind (wpAny_mkBytes (wpAny_pure ⟨_, rfl, h.2⟩) h.1)
theorem kind_pack : builtinKind "_struct.pack" = none := by decide +kernel
theorem plain_pack : plainId "_struct.pack" = true := by decide +kernel
theorem entry_pack : entryFor table "_struct.pack" = some Builtin.«_struct.pack» := by first | exact entryFor_of_fast (by kernel_rfl) | exact entryFor_of_tree (by kernel_rfl)
theorem args_pack (a b : Value) : argsOk "_struct.pack" ⟨[a, b], []⟩ := by unfold argsOk; kernel_rfl
theorem r_pack {prog : Program} {w : World} {A : Around} {E : Value → Shared → Prop} {s : Shared} {n : Int} {t u : Tok} {Q : Value → Shared → Prop} (h0 : 0 ≤ n) (h1 : n < 256) (h : ∀ t' k, Q (.bytes [n.toNat.toUInt8].toArray t') { s with toks := k }) :
    wpAny (model prog w) A (call (.builtin "_struct.pack") [.str (PySem.Str.ofString ">B") u, .int n t]) Q E s :=
  call_function_meets kind_pack plain_pack entry_pack (args_pack _ _) (gives_pack h0 h1).meets ⟨by show 1 ≤ sizeLine; decide, h _ _⟩
end Mine
end
section
open PySem PySem.W PyProof.Rows PySem.Builtin PySem.Calls PySem.NumText
set_option maxRecDepth 100000
namespace Mine
/-! int(octets, 16) of hex signs -/
def HexC (c : Nat) : Prop := (48 ≤ c ∧ c ≤ 57) ∨ (97 ≤ c ∧ c ≤ 102)
def hv (c : Nat) : Nat := if c ≤ 57 then c - 48 else c - 87
theorem hexC_digit {d : Nat} (h : d < 16) : HexC (Bytes.hexDigit d) ∧ hv (Bytes.hexDigit d) = d := by
  unfold Bytes.hexDigit HexC hv
  by_cases h1 : d < 10
  · rw [if_pos h1]
    exact ⟨.inl ⟨by omega, by omega⟩, by rw [if_pos (by omega)]; omega⟩
  · rw [if_neg h1]
    exact ⟨.inr ⟨by omega, by omega⟩, by rw [if_neg (by omega)]; omega⟩
theorem hexC_of {l : List UInt8} {c : Nat} (h : c ∈ hexOfB l) : HexC c := by
  unfold hexOfB at h
  obtain ⟨x, _, hx⟩ := List.mem_flatMap.mp h
  have hb : x.toNat < 256 := x.toNat_lt
  rcases List.mem_cons.mp hx with rfl | hx
  · exact (hexC_digit (by omega)).1
  · rw [List.mem_singleton.mp hx]
    exact (hexC_digit (by omega)).1
def be (l : List UInt8) : Nat := l.foldl (fun a c => a * 256 + c.toNat) 0
theorem be_hex : ∀ (l : List UInt8) (a : Nat), (hexOfB l).foldl (fun a c => a * 16 + hv c) a = l.foldl (fun a c => a * 256 + c.toNat) a
  | [], _ => rfl
  | x :: r, a => by
    have hb : x.toNat < 256 := x.toNat_lt
    have e : hexOfB (x :: r) = Bytes.hexDigit (x.toNat / 16) :: Bytes.hexDigit (x.toNat % 16) :: hexOfB r := rfl
    rw [e, List.foldl_cons, List.foldl_cons, List.foldl_cons, be_hex r, (hexC_digit (by omega)).2, (hexC_digit (by omega)).2]
    congr 1
    omega
theorem hexC_step {c : Nat} (h : HexC c) (p : Array Nat × Bool) : NumText.step 16 p c = some (p.1.push (hv c), true) := by
  unfold NumText.step
  have h95 : (c == 95) = false := by
    rcases h with h | h <;> simp <;> omega
  rw [h95]
  have hd : digit? c = some (hv c) := by
    unfold digit? hv
    rcases h with ⟨h1, h2⟩ | ⟨h1, h2⟩
    · simp [h1, h2]
    · have a : ¬ c ≤ 57 := by omega
      have b : c ≤ 122 := by omega
      simp [a, h1, b]
  rw [hd]
  have : hv c < 16 := by
    unfold hv
    rcases h with h | h <;> split <;> omega
  simp [this]
theorem fold_steps : ∀ (cs : List Nat) (p : Array Nat × Bool), (∀ c ∈ cs, HexC c) → cs.foldlM (NumText.step 16) p = some (p.1 ++ (cs.map hv).toArray, if cs = [] then p.2 else true)
  | [], p, _ => by simp
  | c :: r, p, h => by
    rw [List.foldlM_cons, hexC_step (h c (.head _))]
    show r.foldlM (NumText.step 16) _ = _
    rw [fold_steps r _ fun x hx => h x (.tail _ hx)]
    congr 1
    refine Prod.ext ?_ ?_
    · apply Array.ext'
      simp
    · simp
theorem digits_hex {cs : List Nat} (h : ∀ c ∈ cs, HexC c) (hne : cs ≠ []) : digits? 16 cs = some (cs.map hv).toArray := by
  unfold digits?
  rw [fold_steps cs _ h]
  simp [hne]
theorem blank_hex {c : Nat} (h : HexC c) : blank c = false := by
  unfold blank
  rcases h with h | h <;> simp <;> omega
theorem drop_hex {cs : List Nat} (h : ∀ c ∈ cs, HexC c) : cs.dropWhile blank = cs := by
  cases cs with
  | nil => rfl
  | cons c r =>
    rw [List.dropWhile_cons, blank_hex (h c (.head _))]
    rfl
theorem sign_hex {cs : List Nat} (h : ∀ c ∈ cs, HexC c) : sign cs = (false, cs) := by
  cases cs with
  | nil => rfl
  | cons c r =>
    unfold sign
    have := h c (.head _)
    unfold HexC at this
    split
    · rename_i he
      injection he with he
      omega
    · rename_i he
      injection he with he
      omega
    · rfl
theorem prefix_hex {cs : List Nat} (h : ∀ c ∈ cs, HexC c) : prefix? cs = none ∨ prefix? cs = some 2 := by
  unfold prefix?
  split
  · rename_i c r
    have := h c (.tail _ (.head _))
    unfold HexC at this
    have e1 : (c == 120 || c == 88) = false := by simp; omega
    have e2 : (c == 111 || c == 79) = false := by simp; omega
    rw [e1, e2]
    cases (c == 98 || c == 66)
    · exact .inl rfl
    · exact .inr rfl
  · exact .inl rfl
theorem based_hex {cs : List Nat} (h : ∀ c ∈ cs, HexC c) : based 16 cs = (16, false, cs) := by
  unfold based
  rcases prefix_hex h with e | e
  · rw [e]
    rfl
  · rw [e]
    rfl
theorem read_hex {cs : List Nat} (h : ∀ c ∈ cs, HexC c) (hne : cs ≠ []) : (int_private% "readNumeral") 0 16 cs = (int_private% "Numeral.value") ((cs.foldl (fun a c => a * 16 + hv c) 0 : Nat) : Int) := by
  have hr : ∀ c ∈ cs.reverse, HexC c := fun c hc => h c (List.mem_reverse.mp hc)
  rw [readNumeral_eq, drop_hex h, sign_hex h, based_hex h]
  dsimp only
  rw [drop_hex hr, List.reverse_reverse, digits_hex h hne]
  show (int_private% "Numeral.value") (((cs.map hv).toArray.foldl (fun acc d => acc * 16 + d) 0 : Nat) : Int) = _
  rw [List.foldl_toArray, List.foldl_map]

theorem wp_text16 {M : Model} {A : Around} {E : Value → Shared → Prop} {s : Shared} {Q : Value → Shared → Prop} {v : Value} {text : List Nat} {n : Int}
    (hs : (text.takeWhile (· != 0)).length ≤ 640) (hr : (int_private% "readNumeral") 0 16 (text.takeWhile (· != 0)) = (int_private% "Numeral.value") n)
    (ha : ((text.takeWhile (· != 0)).length == text.length) = true) (h : Q (.int n s.toks) { s with toks := s.toks + 1 }) :
    wpAny M A ((int_private% "intFromText") v text 16) Q E s := by
  obtain ⟨hp, g, d, tk, os⟩ := s
  repeat (any_goals (first
    | assumption
    | (with_reducible refine wpAny_ite_true (decide_eq_true hs) ?_)
    | (with_reducible refine wpAny_ite_true (decide_eq_true ha) ?_)
    | wp_step))
  all_goals (try rw [hr])
  all_goals (try dsimp only)
  repeat (any_goals (first
    | assumption
    | (with_reducible refine wpAny_ite_true (decide_eq_true hs) ?_)
    | (with_reducible refine wpAny_ite_true (decide_eq_true ha) ?_)
    | wp_step))
theorem take_hex {cs : List Nat} (h : ∀ c ∈ cs, HexC c) : cs.takeWhile (· != 0) = cs := by
  induction cs with
  | nil => rfl
  | cons c r ih =>
    have hc : (c != 0) = true := by
      have := h c (.head _)
      unfold HexC at this
      simp
      omega
    rw [List.takeWhile_cons, hc]
    simp only [if_true]
    rw [ih fun x hx => h x (.tail _ hx)]
theorem wp_text16' {M : Model} {A : Around} {E : Value → Shared → Prop} {s : Shared} {Q : Value → Shared → Prop} {v : Value} {text cs : List Nat} {n : Int} {b : Nat} (he : text = cs) (hb : b = 16)
    (hs : (cs.takeWhile (· != 0)).length ≤ 640) (hr : (int_private% "readNumeral") 0 16 (cs.takeWhile (· != 0)) = (int_private% "Numeral.value") n)
    (ha : ((cs.takeWhile (· != 0)).length == cs.length) = true) (h : Q (.int n s.toks) { s with toks := s.toks + 1 }) :
    wpAny M A ((int_private% "intFromText") v text b) Q E s := by
  subst he hb
  exact wp_text16 hs hr ha h
set_option maxHeartbeats 4000000 in
theorem gives_int16 {cs : List Nat} {u v : Tok} (h : ∀ c ∈ cs, HexC c) (hne : cs ≠ []) (hl : cs.length ≤ 640) :
    Gives (Builtin.«int.__new__» ⟨[.type "int", .bytes (cs.map fun y => y.toUInt8).toArray u, .int 16 v], []⟩) (.int ((cs.foldl (fun a c => a * 16 + hv c) 0 : Nat) : Int)) :=
  .of_wp fun M A E s Q hq => by
    have ht : ((cs.map fun y => y.toUInt8).toArray.toList.map fun y => y.toNat) = cs := by
      simp only [List.map_map]
      have : ∀ c ∈ cs, (UInt8.toNat ∘ fun y => y.toUInt8) c = c := fun c hc => by
        have := h c hc
        unfold HexC at this
        show c % 256 = c
        omega
      conv => rhs; rw [← List.map_id cs]
      exact List.map_congr_left this
    have hr := read_hex h hne
    generalize hn : ((List.foldl (fun a c => a * 16 + hv c) 0 cs : Nat) : Int) = n at hr hq ⊢
    have hr : (int_private% "readNumeral") 0 16 (cs.takeWhile (· != 0)) = (int_private% "Numeral.value") n := by rw [take_hex h]; exact hr
    have hl : (cs.takeWhile (· != 0)).length ≤ 640 := by rw [take_hex h]; exact hl
    have hk := KIN.Hid.mk (And.intro hl hr)
    have hke := KIN.Hid.mk (show ((cs.takeWhile (· != 0)).length == cs.length) = true by rw [take_hex h]; simp)
    have htk := KIN.Hid.mk ht
    clear hl hr ht h hne hn
    obtain ⟨hp, g, d, tk, os⟩ := s
    have f1 := F.conv_sub_int
    have f2 := F.madeHere_int
    repeat (any_goals (first
      | assumption
      | ((with_reducible show wpAny _ _ ((int_private% "intFromText") _ _ _) _ _ _); refine wp_text16' htk.out rfl hk.out.1 hk.out.2 hke.out ?_)
      | wp_step))
    all_goals first | exact ⟨_, rfl, hq⟩ | skip

theorem typeCall_int_2 (a b : Value) : checkTypeCall "int" ⟨[a, b], []⟩ = pure () := by kernel_rfl
theorem newCall_int_2 (a b : Value) : checkBuiltinCall "int.__new__" ⟨[.type "int", a, b], []⟩ = pure () := by kernel_rfl
/-- the number that octets are, read by their hex signs -/
theorem r_int16 {prog : Program} {w : World} {A : Around} {E : Value → Shared → Prop} {s : Shared} {l : List UInt8} {t u : Tok} {Q : Value → Shared → Prop} (hne : l ≠ []) (hl : l.length ≤ 300) (h : ∀ t' k, Q (.int (be l : Nat) t') { s with toks := k }) :
    wpAny (model prog w) A (call (.type "int") [.bytes ((hexOfB l).map fun y => y.toUInt8).toArray t, .int 16 u]) Q E s := by
  refine callType_new F.called_int F.newNe_int (typeCall_int_2 _ _) (newCall_int_2 _ _) (fun obj => F.args_object_init_3 obj _ _) F.entry_int_new (gives_int16 (cs := hexOfB l) (fun c hc => hexC_of hc) ?_ ?_).meets ?_
  · intro e
    have := hexOfB_len l
    rw [e] at this
    have := List.length_pos_iff.mpr hne
    simp at *
    omega
  · rw [hexOfB_len]
    omega
  · rw [be_hex]
    exact ⟨rfl, h _ _⟩
end Mine
end
section
open PySem PySem.W PyProof.Rows PySem.Builtin PySem.Calls
set_option maxRecDepth 100000
namespace Mine
/-! int.from_bytes of up to 300 octets, highest first -/
theorem be_lt : ∀ (l : List UInt8) (a : Nat), l.foldl (fun (a : Nat) (c : UInt8) => a * 256 + c.toNat) a < (a + 1) * 256 ^ l.length := KFB.fold_lt
theorem be_bound {l : List UInt8} {k : Nat} (h : l.length ≤ k) : be l < 256 ^ k := by
  have h1 := be_lt l 0
  rw [Nat.zero_add, Nat.one_mul] at h1
  exact Nat.lt_of_lt_of_le h1 (Nat.pow_le_pow_right (by decide) h)
theorem grown300 {M : Model} {A : Around} {E : Value → Shared → Prop} {s : Shared} {n : Nat} {Q : Value → Shared → Prop} (hn : n < 256 ^ 300) (h : Q (.int (n : Int) s.toks) { s with toks := s.toks + 1 }) : wpAny M A (mkIntGrown (n : Int)) Q E s := by
  unfold mkIntGrown
  have hl : ¬ ((n : Int).natAbs.log2 ≥ bitsLine) := by
    rw [Int.natAbs_natCast]
    have hb : bitsLine = 134217728 := by first | rfl | decide
    by_cases hz : n = 0
    · subst hz
      rw [hb]
      decide
    · have h1 : n.log2 < 2400 := (Nat.log2_lt hz).mpr (Nat.lt_of_lt_of_le hn (by decide +kernel))
      omega
  rw [if_neg hl]
  exact wpAny_mkInt h
section
variable {prog : Program} {w : World} {A : Around} {E : Value → Shared → Prop} {s : Shared} {l : List UInt8} {t u : Tok}
theorem tree_be {P : PySem.Fin → Shared → Prop} (hl : l.length ≤ 300) (h : P (.done (.ret (.int (be l : Nat) s.toks))) { s with toks := s.toks + 1 }) :
    wpAny (model prog w) A (Builtin.«int.from_bytes» ⟨[.type "int", .bytes l.toArray t, .str (PySem.Str.ofString "big") u], []⟩) P E s := by
  unfold Builtin.«int.from_bytes»
  refine wpAny_bind (wpAny_of_eq (a := true) KFB.type_int ?_)
  refine KFB.if_not rfl ?_
  refine wpAny_bind (wpAny_of_eq (a := true) F.conv_sub_int ?_)
  refine KFB.if_not rfl ?_
  refine wpAny_bind (wpAny_of_eq (a := [some (.bytes l.toArray t), some (.str (PySem.Str.ofString "big") u), none]) (by kernel_rfl) ?_)
  refine wpAny_bind (wpAny_of_eq (a := PySem.Str.ofString "big") (by kernel_rfl) ?_)
  refine wpAny_bind (wpAny_of_eq (a := false) rfl ?_)
  refine wpAny_bind (wpAny_of_eq (a := false) (by kernel_rfl) ?_)
  refine wpAny_bind (wpAny_of_eq (a := l.toArray) rfl ?_)
  show wpAny _ _ (mkIntGrown (l.foldl (fun (acc : Int) (b : UInt8) => acc * 256 + (b.toNat : Int)) ((0 : Nat) : Int)) >>= fun v => _) _ _ _
  rw [KFB.foldI_eq]
  refine wpAny_bind (grown300 (be_bound hl) ?_)
  refine KFB.if_so (by decide +kernel) ?_
  exact wpAny_bind (wpAny_pure (wpAny_pure h))
theorem r_from {x : Addr} {h₀ : Heap} {L : Addr} {news : List (Addr × Obj)} {Q : Value → Shared → Prop} (N : News h₀ L s.heap news) (hm : (x, KFB.bound) ∈ news) (hl : l.length ≤ 300)
    (h : ∀ t' k, Q (.int (be l : Nat) t') { s with toks := k }) : wpAny (model prog w) A (call (.ref x) [.bytes l.toArray t, .str (PySem.Str.ofString "big") u]) Q E s :=
  KFB.call_of (KFB.at_of N hm) (fun z => tree_be hl z) (h _ _)
end
/-! b''.join of two -/
section
variable {M : Model} {A : Around} {E : Value → Shared → Prop} {s : Shared} {b c : Array UInt8} {t u v : Tok}
theorem take_eq {id : String} {flags : Int} (hf : (flags == Bytes.fullReadOnly) = false) : Bytes.takeBufferQuiet? id (.bytes b t) flags = pure (some (b, none)) := by
  have e : Bytes.takeBuffer? id (.bytes b t) flags = pure (some (b, none)) := by
    unfold Bytes.takeBuffer?
    rw [KBy.special_eq KBy.look_buffer, KBy.own_buffer]
    show (do return (← Bytes.buffer? id (.bytes b t) (full := flags == Bytes.fullReadOnly)).map (·, none) : Sem (Option (Array UInt8 × Option Value))) = _
    rw [hf, KBy.buffer_eq]
    rfl
  unfold Bytes.takeBufferQuiet?
  rw [e]
  rfl
theorem wp_join {a : Addr} {T : String} {n : Nat} {o : PySem.Obj} {P : PySem.Fin → Shared → Prop} (hT : T = "list" ∨ T = "tuple") (ho : s.heap.get? a = some o) (hc : o.cls = .type T) (hd : o.data = .seq #[.bytes b u, .bytes c v] n) (hz : b.size + c.size ≤ 16777216)
    (h : ∀ t' k, P (.done (.ret (.bytes (b ++ c) t'))) { s with toks := k }) : wpAny M A (Builtin.«bytes.join» ⟨[.bytes #[] t, .ref a], []⟩) P E s := by
  unfold Builtin.«bytes.join» Bytes.joinM
  refine wpAny_bind (wpAny_of_eq (a := (Value.bytes #[] t, Value.ref a)) rfl ?_)
  have hty : s.TypeIs (.ref a) T := ⟨o, ho, hc⟩
  refine wpAny_bind ?_
  show wpAny _ _ (Bytes.joinItems (.ref a)) _ _ _
  unfold Bytes.joinItems
  refine wpAny_bind (wpAny_typeOf hty ?_)
  have e1 : (Value.type T == Value.type "list" || Value.type T == Value.type "tuple") = true := by rcases hT with rfl | rfl <;> decide
  rw [e1]
  refine wpAny_pure ?_
  refine wpAny_bind (wpAny_seqItems ho hd ?_)
  refine KFB.if_so (by decide) ?_
  refine wpAny_bind ?_
  show wpAny _ _ (forIn [:2] _ _) _ _ _
  rw [KPc.range_list]
  refine turnG ?_
  refine wpAny_bind (wpAny_seqItems ho hd ?_)
  refine KFB.if_not (by rfl) ?_
  refine wpAny_bind (wpAny_holding ?_)
  refine wpAny_of_eq (take_eq (b := b) (t := u) (by decide)) ?_
  refine wpAny_bind (wpAny_seqItems ho hd ?_)
  refine KFB.if_not (by rfl) ?_
  refine wpAny_pure ?_
  refine turnG ?_
  refine wpAny_bind (wpAny_seqItems ho hd ?_)
  refine KFB.if_not (by rfl) ?_
  refine wpAny_bind (wpAny_holding ?_)
  refine wpAny_of_eq (take_eq (b := c) (t := v) (by decide)) ?_
  refine wpAny_bind (wpAny_seqItems ho hd ?_)
  refine KFB.if_not (by rfl) ?_
  refine wpAny_pure ?_
  refine wpAny_pure ?_
  refine wpAny_bind (wpAny_of_eq (a := #[]) rfl ?_)
  have hl : Bytes.tooLong (0 + b.size + c.size) = false := KBy.tooLong_not (by omega)
  refine KFB.if_not (by have e : (0 * (2 - 1) + b.size + c.size) = 0 + b.size + c.size := by omega
                        first | exact hl | (rw [← e] at hl; exact hl) | simpa using hl) ?_
  have hj : Bytes.joined #[] [b, c] = b ++ c := by
    simp [Bytes.joined]
  refine wpAny_bind ?_
  show wpAny _ _ (mkBytes (Bytes.joined #[] [b, c])) _ _ _
  rw [hj]
  refine wpAny_mkBytes ?_ (by rw [Array.size_append, sizeLine_eq]; exact hz)
  refine wpAny_bind (wpAny_holding ?_)
  refine wpAny_point ?_
  refine wpAny_bind ?_
  show wpAny _ _ (Bytes.joinLetGo [(.bytes b u, none), (.bytes c v, none)] _) _ _ _
  unfold Bytes.joinLetGo
  refine wpAny_bind (wpAny_letGo ?_)
  unfold Bytes.joinLetGo
  refine wpAny_bind (wpAny_letGo ?_)
  exact wpAny_pure (wpAny_pure (h _ _))
end
end Mine
end
section
open PySem PySem.W PyProof.Rows PySem.Builtin PySem.Calls
set_option maxRecDepth 100000
namespace Mine
/-! the methods, and the join's call -/
section
variable {M : Model} {A : Around} {E : Value → Shared → Prop} {s : Shared} {b : Array UInt8} {x : PySem.Str} {t : Tok} {pl : Sem Bool} {Q : Value × List Value → Shared → Prop}
theorem slot_join : Slot "bytes" "join" "bytes.join" :=
  .of (owner := "bytes") (n := "join") (by rw [typeLookup_type, builtinLookup_eq_fast]; kernel_rfl) (by decide +kernel) (by decide +kernel) (by decide +kernel) (by first | exact .inl (by decide +kernel) | exact .inr (by decide +kernel)) (by rw [isSubtype_type]; kernel_rfl)
theorem type_join : typeOf (.builtin "bytes.join") = pure (.type "method_descriptor") := by show builtinType _ = _; rw [builtinType_eq_fast]; kernel_rfl
theorem entry_join : entryFor table "bytes.join" = some Builtin.«bytes.join» := entryFor_of_tree (by kernel_rfl)
theorem args_join (a b : Value) : argsOk "bytes.join" ⟨[a, b], []⟩ := by
  unfold argsOk; rw [signature?_of (id := "bytes.join") (n := ['n', 'i', 'o', 'j']) (o := ['s', 'e', 't', 'y', 'b']) (by kernel_rfl) FB.owner_bytes]; kernel_rfl
theorem m_hex (h : Q (.builtin "bytes.hex", [.bytes b t]) s) : wpAny M A (getMethod (.bytes b t) "hex" pl) Q E s := by
  with_reducible exact KBd.method_of (.bytes b t) (typeIs_bytes _ _ _) FB.slot_bytes_hex FB.type_bytes_hex KBd.noRef h
theorem m_startswith (h : Q (.builtin "bytes.startswith", [.bytes b t]) s) : wpAny M A (getMethod (.bytes b t) "startswith" pl) Q E s := by
  with_reducible exact KBd.method_of (.bytes b t) (typeIs_bytes _ _ _) FB.slot_bytes_startswith FB.type_bytes_startswith KBd.noRef h
theorem m_join (h : Q (.builtin "bytes.join", [.bytes b t]) s) : wpAny M A (getMethod (.bytes b t) "join" pl) Q E s := by
  with_reducible exact KBd.method_of (.bytes b t) (typeIs_bytes _ _ _) slot_join type_join KBd.noRef h
theorem m_encode (h : Q (.builtin "str.encode", [.str x t]) s) : wpAny M A (getMethod (.str x t) "encode" pl) Q E s :=
  getMethod_builtin (typeIs_str _ _ _) F.plainAttrs_str F.slot_str_encode F.type_str_encode (fun _ e => nomatch e) h
end
section
variable {prog : Program} {w : World} {A : Around} {E : Value → Shared → Prop} {s : Shared} {l r : List UInt8} {t u v : Tok} {Q : Value → Shared → Prop}
theorem r_join {a : Addr} {T : String} {n : Nat} {o : PySem.Obj} (hT : T = "list" ∨ T = "tuple") (ho : s.heap.get? a = some o) (hc : o.cls = .type T) (hd : o.data = .seq #[.bytes l.toArray u, .bytes r.toArray v] n) (hz : l.length + r.length ≤ 1048576)
    (h : ∀ t' k, Q (.bytes (l ++ r).toArray t') { s with toks := k }) : wpAny (model prog w) A (call (.builtin "bytes.join") [.bytes #[] t, .ref a]) Q E s := by
  refine wpAny_call (codeAny_call_builtin slot_join.plain entry_join (slot_join.check _ _ _ _ _ _ _ _ (typeIs_bytes s _ t) (args_join _ _) ?_))
  refine wp_join hT ho hc hd (by simp only [List.size_toArray]; omega) fun t' k => ?_
  rw [List.append_toArray]
  exact h t' k
end
end Mine
end
section
open PySem PySem.W PyProof.Rows
namespace Mine
/-! A while that counts an int and grows a list of ints. -/
abbrev ILst : Type := Int × Tok × List Value × List Int × Nat
def ILed (D : Addr) (news : List (Addr × Obj)) (c : ILst) : List (Addr × Obj) := (D, W.listOf c.2.2.1.toArray c.2.2.2.2) :: news
def IPs (x : Str) (c : ILst) : List (Str × Value) := [(x, Value.int c.1 c.2.1)]
def IFa (c : ILst) : Prop := IntsAre c.2.2.1 c.2.2.2.1
def IP (P : Int → List Int → Prop) (c : ILst) : Prop := P c.1 c.2.2.2.1
def IM (μ : Int → Nat) (c : ILst) : Nat := μ c.1
section
variable {prog : Program} {w : World} {A : Around} {E : Value → Shared → Prop} {Q : Flow → Shared → Prop} {s : Shared} {env : Env} {h₀ : Heap} {L : Addr}
theorem whileIL {test : Expr} {body : List Stmt} {pos : Pos} {m₀ : Str → Option Value} {D : Addr} {news : List (Addr × Obj)} (x : Str) (stored : List Str) (P : Int → List Int → Prop) (μ : Int → Nat) {i₀ : Int} {t₀ : Tok}
    (F : Fr h₀ L s.heap m₀) (N : News h₀ L s.heap ((D, W.listOf #[] 0) :: news)) (hi : m₀ x = some (.int i₀ t₀)) (hp : P i₀ [])
    (turn : ∀ (i : Int) (ti : Tok) (vs : List Value) (ns : List Int) (n : Nat) (u : Str → Option Value) h tk, IntsAre vs ns → P i ns → Fr h₀ L h (fun z => if z = x then some (.int i ti) else if stored.contains z then u z else m₀ z) → News h₀ L h ((D, W.listOf vs.toArray n) :: news) →
      wpAny (model prog w) A (isTrue test env (eval test env)) (fun b s₂ =>
        if b = true then wpAny (model prog w) A (execs body env) (KswPost h₀ L s (ILed D news) (IPs x) IFa stored m₀ (IP P) (IM μ) Q (i, ti, vs, ns, n)) E s₂ else Q .next s₂) E { s with heap := h, toks := tk })
    (hE : PassesOwn (model prog w) A env E := by passes_own) :
    wpAny (model prog w) A (exec (.While test body [] pos) env) Q E s :=
  ksw_while (ILed D news) (IPs x) IFa stored (IP P) (IM μ) (i₀, t₀, [], [], 0) F N IntsAre.nil (fun p hp => by rw [List.mem_singleton.mp hp]; exact hi) hp
    (fun ⟨i, ti, vs, ns, n⟩ u h tk hf hp F N => turn i ti vs ns n u h tk hf hp F N) hE
theorem endIL {m₀ m' : Str → Option Value} {D : Addr} {news : List (Addr × Obj)} {x : Str} {stored : List Str} {P : Int → List Int → Prop} {μ : Int → Nat} {c : ILst} {h' : Heap} {tk : Nat} {i' : Int} {ti' : Tok} {vs' : List Value} {ns' : List Int} {n' : Nat}
    (F : Fr h₀ L h' m') (N : News h₀ L h' ((D, W.listOf vs'.toArray n') :: news)) (hf : IntsAre vs' ns') (hk : m' x = some (.int i' ti')) (hr : ∀ z, z ≠ x → stored.contains z = false → m' z = m₀ z) (hp : P i' ns') (hm : μ i' < μ c.1) :
    KswEnd h₀ L s (ILed D news) (IPs x) IFa stored m₀ (IP P) (IM μ) c { s with heap := h', toks := tk } :=
  ksw_end (i', ti', vs', ns', n') F N (fun _ h => h) hf (fun p hp => by rw [List.mem_singleton.mp hp]; exact hk) (fun z h1 h2 => hr z (h1 _ (.head _)) h2) hp hm
end
end Mine
end
section
open PySem PySem.W PyProof.Rows
set_option pp.fieldNotation false
namespace Mine
theorem put_back_C1 : True := by
  w_top off
  k_with_none
  trivial
local macro_rules | `(tactic| walk_at "call ref") => `(tactic| (k_here; k_dflt (refine wpAny_call ?_; (refine' code_def ?k1 ?k2 ?k3 ?k4 ?k5 ?kA ?kF ?kK ?k6 ?k7 ?k8 ?k9 ?kB ?_ ?c2 ?c3 ?c4 ?c5; (case kA => exact rfl); (case kF => exact rfl); (case kK => first | exact rfl | assumption); (case k1 => k_asm); (case k2 => k_asm); (case k3 => k_asm); (case k4 => k_asm); (case k5 => k_asm); (case k6 => k_is); (case k7 => k_is); (case k8 => ktr_room); (case k9 => first | exact BindsTo.of_eq rfl | exact binds_K (by k_in) rfl (by k_is) rfl rfl rfl); (case c5 => decide); (case kB => exact locs rfl); (case c2 => exact rfl); (case c3 => exact rfl); (case c4 => exact rfl); k_whole; intro g' L' h' FG' F' N' B' X' T'; (try dsimp only); (try k_lift B'); (try k_fold)))))
local macro_rules | `(tactic| walk_at "call builtin:len") => `(tactic| (k_here; (with_reducible show wpAny _ _ (call (Value.builtin _) [Value.bytes (List.toArray _) _]) _ _ _); (refine r_len (by (try simp only [List.length_append, List.length_take, List.length_drop, List.length_cons, List.length_nil, List.length_map, List.length_replicate]); omega) ?_); intro _ _; (try dsimp only)))
local macro_rules | `(tactic| walk_at "truthy bytes") => `(tactic| (k_here; (with_reducible show wpAny _ _ (truthy (Value.bytes (List.toArray _) _)) _ _ _); (refine r_truthy (by (try simp only [List.length_append, List.length_take, List.length_drop, List.length_cons, List.length_nil, List.length_map, List.length_replicate]); omega) ?_); intro _; (try dsimp only)))
local macro_rules | `(tactic| walk_at "subscriptTail") => `(tactic| (k_here; (with_reducible show wpAny _ _ (subscriptTail _ _ (Value.bytes (List.toArray _) _) (Value.int _ _)) _ _ _); (refine r_item (by (try simp only [List.length_append, List.length_take, List.length_drop, List.length_cons, List.length_nil, List.length_map, List.length_replicate]); omega) (by (try simp only [List.length_append, List.length_take, List.length_drop, List.length_cons, List.length_nil, List.length_map, List.length_replicate]); omega) (by (try simp only [List.length_append, List.length_take, List.length_drop, List.length_cons, List.length_nil, List.length_map, List.length_replicate]); omega) ?_); intro _ _; (try dsimp only)))
local macro_rules | `(tactic| walk_at "subscriptTail") => `(tactic| (k_here; (with_reducible show wpAny _ _ (subscriptTail _ _ (Value.bytes (List.toArray _) _) (Value.int (-1) _)) _ _ _); (refine r_itemR (by (try simp only [List.length_append, List.length_take, List.length_drop, List.length_cons, List.length_nil, List.length_map, List.length_replicate]); omega) (by (try simp only [List.length_append, List.length_take, List.length_drop, List.length_cons, List.length_nil, List.length_map, List.length_replicate]); omega) (by decide) ?_); intro _ _; (try dsimp only)))
local macro_rules | `(tactic| walk_at "subscriptTail") => `(tactic| (k_here; (with_reducible show wpAny _ _ (subscriptTail _ (Expr.Slice _ _ none _) (Value.bytes (List.toArray _) _) (Value.ref _)) _ _ _); (with_reducible rename Fr _ _ _ _ => F'); (with_reducible rename News _ _ _ _ => N'); (refine r_slice (s := ⟨_, _, _, _, _⟩) F' N' (by constructor) (by constructor) (by (try simp only [List.length_append, List.length_take, List.length_drop, List.length_cons, List.length_nil, List.length_map, List.length_replicate]); omega) ?_); intro _ _ _ F' N'; (try dsimp only); (try k_sweep)))
local macro_rules | `(tactic| walk_at "binaryOp Add bytes bytes") => `(tactic| (k_here; (with_reducible show wpAny _ _ (binaryOp Operator.Add (Value.bytes (List.toArray _) _) (Value.bytes (List.toArray _) _)) _ _ _); (refine r_add (by (try simp only [List.length_append, List.length_take, List.length_drop, List.length_cons, List.length_nil, List.length_map, List.length_replicate]); omega) ?_); intro _ _; (try dsimp only)))
local macro_rules | `(tactic| walk_at "compareOp Eq bytes bytes") => `(tactic| (k_here; (with_reducible show wpAny _ _ (compareOp CmpOp.Eq (Value.bytes (List.toArray _) _) (Value.bytes (List.toArray _) _)) _ _ _); (refine r_eq ?_); (try dsimp only)))
local macro_rules | `(tactic| walk_at "compareOp NotEq bytes bytes") => `(tactic| (k_here; (with_reducible show wpAny _ _ (compareOp CmpOp.NotEq (Value.bytes (List.toArray _) _) (Value.bytes (List.toArray _) _)) _ _ _); (refine r_ne ?_); (try dsimp only)))
local macro_rules | `(tactic| walk_at "call type:type") => `(tactic| (k_here; (with_reducible show wpAny _ _ (call (Value.type "type") [Value.bytes _ _]) _ _ _); (refine call_type_of (Tx := "bytes") (typeIs_bytes _ _ _) (by decide +kernel) ?_)))
local macro_rules | `(tactic| walk_at "call type:type") => `(tactic| (k_here; (with_reducible show wpAny _ _ (call (Value.type "type") [Value.int _ _]) _ _ _); (refine call_type_of (Tx := "int") (typeIs_int _ _ _) (by decide +kernel) ?_)))
local macro_rules | `(tactic| walk_at "compareOp Is") => `(tactic| (k_here; (with_reducible show wpAny _ _ (compareOp CmpOp.Is (Value.type _) (Value.type _)) _ _ _); first | refine wpAny_is_self (by rfl) ?_ | refine wpAny_is_other (by rfl) (by decide) ?_))
local macro_rules | `(tactic| walk_at "compareOp IsNot") => `(tactic| (k_here; (with_reducible show wpAny _ _ (compareOp CmpOp.IsNot (Value.type _) (Value.type _)) _ _ _); first | refine wpAny_isNot_self (by rfl) ?_ | refine wpAny_isNot_other (by rfl) (by decide) ?_))
local macro_rules | `(tactic| k_all) => `(tactic| first | exact ne_of_ltAll (by assumption) | exact ne_of_allLt (by assumption))
local macro_rules | `(tactic| walk_at "call builtin:list.append") => `(tactic| (k_here; (with_reducible show wpAny _ _ (call (Value.builtin _) [Value.ref _, _]) _ _ _); k_dflt (refine' append_K ?k1 ?k2 ?k3 ?_ ?z; (case k1 => k_asm); (case k2 => k_asm); (case k3 => k_upd); (case z => ((try simp only [List.size_toArray, List.length_append, List.length_cons, List.length_nil]); rw [sizeLine_eq]; omega)); k_whole); intro h' F' N'; (try k_sweep)))
local macro_rules | `(tactic| walk_at "KswEnd") => `(tactic| (k_here; (with_reducible rename News _ _ _ _ => nE'); (try simp only [List.push_toArray] at nE'); (refine endIL (by assumption) nE' (by l_ints) (by rfl) (by (intro z h2 h3; (simp only [List.contains_cons, List.contains_nil, Bool.or_false, Bool.or_eq_false_iff, beq_eq_false_iff_ne, ne_eq] at h3); (simp [h2, h3]; done))) ?_ ?_)))
/-! unhexlify -/
def HexI (c : Int) : Prop := (48 ≤ c ∧ c ≤ 57) ∨ (97 ≤ c ∧ c ≤ 102)
def hvI (c : Int) : Int := if c ≤ 57 then c - 48 else c - 87
theorem hvI_in {c : Int} (h : HexI c) : 0 ≤ hvI c ∧ hvI c < 16 := by
  unfold HexI at h
  unfold hvI
  split <;> omega
def HexAll (cs : List UInt8) : Prop := ∀ j, j < cs.length → HexI ((cs.getD j 0).toNat : Nat)
theorem HexAll.at {cs : List UInt8} {j : Nat} (h : HexAll cs) (hj : j < cs.length) : HexI ((cs.getD j 0).toNat : Nat) := h j hj
set_option maxRecDepth 100000 in
set_option maxHeartbeats 8000000 in
theorem c_hexval (w : World) {c : Int} {t : Tok} (h : HexI c) : Ctr w 133 1 10 [.int c t] (fun t' => .int (hvI c) t') := by
  unfold Ctr
  k_fill
  intro p loose mean mg mb dp un gd cnm csc aa ccd cl outer A₀ base h₀ L m news s Q E B F X N T hk hd hu hret
  unfold HexI at h
  walk_at "call ref"
  k_steps
  all_goals ((try dsimp only at hret); (first | refine retI (Q := Q) hret ?_ (by k_asm) (by k_asm) (by intro p0 hp0; repeat first | exact hp0 | refine List.mem_cons_of_mem _ ?_) | refine retY (Q := Q) hret ?_ (by k_asm) (by k_asm) (by intro p0 hp0; repeat first | exact hp0 | refine List.mem_cons_of_mem _ ?_) | refine retO (Q := Q) hret ?_ (by k_asm) (by k_asm) (by intro p0 hp0; repeat first | exact hp0 | refine List.mem_cons_of_mem _ ?_)))
  all_goals (unfold hvI; split <;> omega)
theorem u_hexval {w : World} {c : Int} {t : Tok} {p : Program} {loose : List Str} {mean : ExcName → Option Value} {mg mb : Str → Option Value} {dp un : Nat} {gd : Option (List Code)} {cn : Str} {cs : Scope} {a : Addr} {ccd : Value} {cl : List (Str × Addr)} {outer : List Env} {A₀ : Around} {base h₀ : Heap} {L : Addr} {m : Str → Option Value} {news : List (Addr × Obj)} {s : Shared} {Q E : Value → Shared → Prop} (h : HexI c) (B : Below A₀ base outer h₀) (F : Fr h₀ L s.heap m) (X : Frag.In (Mine.hd.heap_39 (World.params w)) h₀) (N : News h₀ L s.heap news) (T : Top p loose mean mg mb h₀) (hk : cs.kind = .function) (hd : dp + 1 < recursionLimit) (hu : un + 10 < cLine)
    (hret : ∀ (t : Tok) (h' : Heap) (tk' : Nat), Fr h₀ L h' m → News h₀ L h' news → 0 ≤ hvI c → hvI c < 16 → Q (.int (hvI c) t) { s with heap := h', toks := tk' }) :
    wpAny (model (RowW.prog (OpenRow.toRowW (OpenLaw.row PySem.Challenge.rw_fw0035_01))) w) (ktrTop dp un gd cn cs L a ccd cl outer) (call (.ref 133) [.int c t]) Q E s := Ctr.use (c_hexval w h) B F X N T hk hd hu fun t h' tk' F N => hret t h' tk' F N (hvI_in h).1 (hvI_in h).2
def UnhexInv (l : List UInt8) (i : Int) (out : List Int) : Prop := ∃ k : Nat, i = 2 * (k : Int) ∧ k ≤ l.length ∧ out = (l.take k).map fun c => ((c.toNat : Nat) : Int)
theorem UnhexInv.zero (l : List UInt8) : UnhexInv l 0 [] := ⟨0, rfl, Nat.zero_le _, rfl⟩
theorem UnhexInv.lo {l : List UInt8} {i : Int} {out : List Int} (h : UnhexInv l i out) : 0 ≤ i ∧ i ≤ 2 * (l.length : Int) ∧ i % 2 = 0 ∧ out.length ≤ l.length := by
  obtain ⟨k, h1, h2, h3⟩ := h
  refine ⟨by omega, by omega, by omega, ?_⟩
  rw [h3, List.length_map, List.length_take]
  omega
theorem UnhexInv.next {cs l : List UInt8} {i : Int} {ns : List Int} (h : UnhexInv l i ns) (hi : i < 2 * (l.length : Int)) (h3 : ∀ k, k < l.length → hvI ((cs.getD (2 * k) 0).toNat : Nat) * 16 + hvI ((cs.getD (2 * k + 1) 0).toNat : Nat) = ((l.getD k 0).toNat : Nat)) :
    UnhexInv l (i + 2) (ns ++ [hvI ((cs.getD i.toNat 0).toNat : Nat) * 2 ^ Int.toNat 4 + hvI ((cs.getD (i + 1).toNat 0).toNat : Nat)]) := by
  obtain ⟨k, rfl, h2, rfl⟩ := h
  have hk : k < l.length := by omega
  refine ⟨k + 1, by push_cast; omega, hk, ?_⟩
  have e1 : (2 * (k : Int)).toNat = 2 * k := by omega
  have e2 : (2 * (k : Int) + 1).toNat = 2 * k + 1 := by omega
  have e3 : (2 : Int) ^ Int.toNat 4 = 16 := by decide
  rw [e1, e2, e3, h3 k hk, List.take_add_one, List.map_append, List.getElem?_eq_getElem hk]
  simp [List.getD, hk]
theorem UnhexInv.all {l : List UInt8} {i : Int} {ns : List Int} (h : UnhexInv l i ns) (hi : ¬ i < 2 * (l.length : Int)) : ns = l.map fun c => ((c.toNat : Nat) : Int) := by
  obtain ⟨k, rfl, h2, rfl⟩ := h
  rw [List.take_of_length_le (by omega)]
theorem ints_range (l : List UInt8) : ∀ n ∈ (l.map fun c => ((c.toNat : Nat) : Int)), 0 ≤ n ∧ n < 256 := by
  intro n hn
  obtain ⟨c, _, rfl⟩ := List.mem_map.mp hn
  have := c.toNat_lt
  omega
theorem ints_back (l : List UInt8) : (l.map fun c => ((c.toNat : Nat) : Int)).map (fun n => n.toNat.toUInt8) = l := by
  rw [List.map_map]
  conv => rhs; rw [← List.map_id l]
  refine List.map_congr_left fun c _ => ?_
  show (Int.toNat ((c.toNat : Nat) : Int)).toUInt8 = c
  simp
local macro_rules | `(tactic| walk_at "exec While Compare cons nil") => `(tactic| (k_here; k_extra "MYW"))
local macro_rules | `(tactic| walk_at "call type:bytes") => `(tactic| (k_here; k_extra "MYB"))
local macro_rules | `(tactic| walk_at "call ref") => `(tactic| (k_here; (with_reducible show wpAny _ _ (call (Value.ref 133) _) _ _ _); k_dflt (refine' u_hexval ?h ?B ?F ?X ?N ?T ?K ?D ?U ?_; (case B => k_asm); (case F => k_asm); (case X => k_asm); (case N => k_asm); (case T => k_asm); (case K => first | exact rfl | assumption); (case D => ktr_room); (case U => ktr_units)); (case h => exact HexAll.at (by assumption) (by omega)); intro t9 h9 tk9 F9 N9 hb8 hb9; (try dsimp only); (try k_fold)))
set_option maxRecDepth 100000 in
set_option maxHeartbeats 8000000 in
theorem c_unhex (w : World) {cs l : List UInt8} {t : Tok} (h1 : cs.length = 2 * l.length) (h2 : HexAll cs) (h3 : ∀ k, k < l.length → hvI ((cs.getD (2 * k) 0).toNat : Nat) * 16 + hvI ((cs.getD (2 * k + 1) 0).toNat : Nat) = ((l.getD k 0).toNat : Nat)) (hl : l.length ≤ 300) : Ctr w 140 3 60 [.bytes cs.toArray t] (fun t' => .bytes l.toArray t') := by
  unfold Ctr
  k_fill
  intro p loose mean mg mb dp un gd cnm csc aa ccd cl outer A₀ base h₀ L m news s Q E B F X N T hk hd hu hret
  have hfm : Int.fmod ((cs.length : Nat) : Int) 2 = 0 := by rw [h1]; exact fmod2 _
  k_with "MYW" => ((with_reducible rename Fr _ _ _ _ => lF); (with_reducible rename News _ _ _ _ => lN); refine whileIL (PySem.Str.ofString "i") [PySem.Str.ofString "top", PySem.Str.ofString "bot"] (UnhexInv l) (fun i => (2 * (l.length : Int) - i).toNat) lF lN rfl (UnhexInv.zero l) ?_; intro i ti vs ns n u h tk hf9 hp9 F9 N9; clear lF lN; have hp8 := hp9.lo; have hp7 := hf9.length; (try k_fold))
  k_with "MYB" => k_dflt (refine' bytes_K ?F ?N ?l ?i ?r ?z ?h ?_; (case F => k_asm); (case N => k_asm); (case l => is_list); (case i => l_ints); (case r => (rw [hp9.all (by omega)]; exact ints_range l)); (case z => (rw [sizeLine_eq]; omega)); (case h => rfl); k_whole; intro h' t' k' F' N' _; (try k_sweep))
  walk_at "call ref"
  k_steps
  · exact absurd hfm (by assumption)
  · exact hp9.next (by omega) h3
  · (try dsimp only at hret); (first | refine retI (Q := Q) hret ?_ (by k_asm) (by k_asm) (by intro p0 hp0; repeat first | exact hp0 | refine List.mem_cons_of_mem _ ?_) | refine retY (Q := Q) hret ?_ (by k_asm) (by k_asm) (by intro p0 hp0; repeat first | exact hp0 | refine List.mem_cons_of_mem _ ?_) | refine retO (Q := Q) hret ?_ (by k_asm) (by k_asm) (by intro p0 hp0; repeat first | exact hp0 | refine List.mem_cons_of_mem _ ?_))
    rw [hp9.all (by omega)]
    exact ints_back l
end Mine
end
section
open PySem PySem.W PyProof.Rows
set_option pp.fieldNotation false
namespace Mine
theorem put_back_C2 : True := by
  w_top off
  k_with_none
  trivial
local macro_rules | `(tactic| walk_at "call ref") => `(tactic| (k_here; k_dflt (refine wpAny_call ?_; (refine' code_def ?k1 ?k2 ?k3 ?k4 ?k5 ?kA ?kF ?kK ?k6 ?k7 ?k8 ?k9 ?kB ?_ ?c2 ?c3 ?c4 ?c5; (case kA => exact rfl); (case kF => exact rfl); (case kK => first | exact rfl | assumption); (case k1 => k_asm); (case k2 => k_asm); (case k3 => k_asm); (case k4 => k_asm); (case k5 => k_asm); (case k6 => k_is); (case k7 => k_is); (case k8 => ktr_room); (case k9 => first | exact BindsTo.of_eq rfl | exact binds_K (by k_in) rfl (by k_is) rfl rfl rfl); (case c5 => decide); (case kB => exact locs rfl); (case c2 => exact rfl); (case c3 => exact rfl); (case c4 => exact rfl); k_whole; intro g' L' h' FG' F' N' B' X' T'; (try dsimp only); (try k_lift B'); (try k_fold)))))
local macro_rules | `(tactic| walk_at "call builtin:len") => `(tactic| (k_here; (with_reducible show wpAny _ _ (call (Value.builtin _) [Value.bytes (List.toArray _) _]) _ _ _); (refine r_len (by (try simp only [List.length_append, List.length_take, List.length_drop, List.length_cons, List.length_nil, List.length_map, List.length_replicate]); omega) ?_); intro _ _; (try dsimp only)))
local macro_rules | `(tactic| walk_at "truthy bytes") => `(tactic| (k_here; (with_reducible show wpAny _ _ (truthy (Value.bytes (List.toArray _) _)) _ _ _); (refine r_truthy (by (try simp only [List.length_append, List.length_take, List.length_drop, List.length_cons, List.length_nil, List.length_map, List.length_replicate]); omega) ?_); intro _; (try dsimp only)))
local macro_rules | `(tactic| walk_at "subscriptTail") => `(tactic| (k_here; (with_reducible show wpAny _ _ (subscriptTail _ _ (Value.bytes (List.toArray _) _) (Value.int _ _)) _ _ _); (refine r_item (by (try simp only [List.length_append, List.length_take, List.length_drop, List.length_cons, List.length_nil, List.length_map, List.length_replicate]); omega) (by (try simp only [List.length_append, List.length_take, List.length_drop, List.length_cons, List.length_nil, List.length_map, List.length_replicate]); omega) (by (try simp only [List.length_append, List.length_take, List.length_drop, List.length_cons, List.length_nil, List.length_map, List.length_replicate]); omega) ?_); intro _ _; (try dsimp only)))
local macro_rules | `(tactic| walk_at "subscriptTail") => `(tactic| (k_here; (with_reducible show wpAny _ _ (subscriptTail _ _ (Value.bytes (List.toArray _) _) (Value.int (-1) _)) _ _ _); (refine r_itemR (by (try simp only [List.length_append, List.length_take, List.length_drop, List.length_cons, List.length_nil, List.length_map, List.length_replicate]); omega) (by (try simp only [List.length_append, List.length_take, List.length_drop, List.length_cons, List.length_nil, List.length_map, List.length_replicate]); omega) (by decide) ?_); intro _ _; (try dsimp only)))
local macro_rules | `(tactic| walk_at "subscriptTail") => `(tactic| (k_here; (with_reducible show wpAny _ _ (subscriptTail _ (Expr.Slice _ _ none _) (Value.bytes (List.toArray _) _) (Value.ref _)) _ _ _); (with_reducible rename Fr _ _ _ _ => F'); (with_reducible rename News _ _ _ _ => N'); (refine r_slice (s := ⟨_, _, _, _, _⟩) F' N' (by constructor) (by constructor) (by (try simp only [List.length_append, List.length_take, List.length_drop, List.length_cons, List.length_nil, List.length_map, List.length_replicate]); omega) ?_); intro _ _ _ F' N'; (try dsimp only); (try k_sweep)))
local macro_rules | `(tactic| walk_at "binaryOp Add bytes bytes") => `(tactic| (k_here; (with_reducible show wpAny _ _ (binaryOp Operator.Add (Value.bytes (List.toArray _) _) (Value.bytes (List.toArray _) _)) _ _ _); (refine r_add (by (try simp only [List.length_append, List.length_take, List.length_drop, List.length_cons, List.length_nil, List.length_map, List.length_replicate]); omega) ?_); intro _ _; (try dsimp only)))
local macro_rules | `(tactic| walk_at "compareOp Eq bytes bytes") => `(tactic| (k_here; (with_reducible show wpAny _ _ (compareOp CmpOp.Eq (Value.bytes (List.toArray _) _) (Value.bytes (List.toArray _) _)) _ _ _); (refine r_eq ?_); (try dsimp only)))
local macro_rules | `(tactic| walk_at "compareOp NotEq bytes bytes") => `(tactic| (k_here; (with_reducible show wpAny _ _ (compareOp CmpOp.NotEq (Value.bytes (List.toArray _) _) (Value.bytes (List.toArray _) _)) _ _ _); (refine r_ne ?_); (try dsimp only)))
local macro_rules | `(tactic| walk_at "call type:type") => `(tactic| (k_here; (with_reducible show wpAny _ _ (call (Value.type "type") [Value.bytes _ _]) _ _ _); (refine call_type_of (Tx := "bytes") (typeIs_bytes _ _ _) (by decide +kernel) ?_)))
local macro_rules | `(tactic| walk_at "call type:type") => `(tactic| (k_here; (with_reducible show wpAny _ _ (call (Value.type "type") [Value.int _ _]) _ _ _); (refine call_type_of (Tx := "int") (typeIs_int _ _ _) (by decide +kernel) ?_)))
local macro_rules | `(tactic| walk_at "compareOp Is") => `(tactic| (k_here; (with_reducible show wpAny _ _ (compareOp CmpOp.Is (Value.type _) (Value.type _)) _ _ _); first | refine wpAny_is_self (by rfl) ?_ | refine wpAny_is_other (by rfl) (by decide) ?_))
local macro_rules | `(tactic| walk_at "compareOp IsNot") => `(tactic| (k_here; (with_reducible show wpAny _ _ (compareOp CmpOp.IsNot (Value.type _) (Value.type _)) _ _ _); first | refine wpAny_isNot_self (by rfl) ?_ | refine wpAny_isNot_other (by rfl) (by decide) ?_))
local macro_rules | `(tactic| k_all) => `(tactic| first | exact ne_of_ltAll (by assumption) | exact ne_of_allLt (by assumption))
local macro_rules | `(tactic| walk_at "call builtin:list.append") => `(tactic| (k_here; (with_reducible show wpAny _ _ (call (Value.builtin _) [Value.ref _, _]) _ _ _); k_dflt (refine' append_K ?k1 ?k2 ?k3 ?_ ?z; (case k1 => k_asm); (case k2 => k_asm); (case k3 => k_upd); (case z => ((try simp only [List.size_toArray, List.length_append, List.length_cons, List.length_nil]); rw [sizeLine_eq]; omega)); k_whole); intro h' F' N'; (try k_sweep)))
local macro_rules | `(tactic| walk_at "call builtin:_struct.pack") => `(tactic| (k_here; (refine r_pack (by omega) (by omega) ?_); intro _ _; (try dsimp only)))
local macro_rules | `(tactic| walk_at "call builtin:bytes.hex") => `(tactic| (k_here; (refine r_hex (by (try simp only [List.length_append, List.length_take, List.length_drop, List.length_cons, List.length_nil, List.length_map, List.length_replicate]); omega) ?_); intro _ _; (try dsimp only)))
local macro_rules | `(tactic| walk_at "call builtin:ord") => `(tactic| (k_here; (with_reducible show wpAny _ _ (call (Value.builtin _) [Value.bytes _ _]) _ _ _); (refine r_ord (by k_extra "ord") ?_); intro _ _; (try dsimp only)))
local macro_rules | `(tactic| walk_at "call builtin:bytes.startswith") => `(tactic| (k_here; (with_reducible show wpAny _ _ (call (Value.builtin _) [Value.bytes (List.toArray _) _, Value.bytes _ _]) _ _ _); (refine r_startswith ?_); (try dsimp only)))
local macro_rules | `(tactic| walk_at "getMethod bytes") => `(tactic| (k_here; (with_reducible first | refine m_hex ?_ | refine m_startswith ?_ | refine m_join ?_)))
local macro_rules | `(tactic| walk_at "getMethod str") => `(tactic| (k_here; (with_reducible refine m_encode ?_)))
local macro_rules | `(tactic| walk_at "call builtin:bytes.join") => `(tactic| (k_here; (with_reducible show wpAny _ _ (call (Value.builtin _) [Value.bytes _ _, Value.ref _]) _ _ _); (refine' r_join (o := ?o) ?hT (News.get ?N ?hm) ?hc ?hd ?hz ?_; (case N => k_asm); (case hm => k_mem); (case hc => exact rfl); (case hT => first | exact Or.inl rfl | exact Or.inr rfl); (case hd => exact rfl); (case hz => exact (by (try simp only [List.length_append, List.length_take, List.length_drop, List.length_cons, List.length_nil, List.length_map, List.length_replicate]); omega))); intro _ _; (try dsimp only)))
set_option maxRecDepth 100000 in
set_option maxHeartbeats 8000000 in
theorem c_i2b (w : World) {n : Int} {t : Tok} (h0 : 0 ≤ n) (h1 : n < 256) : Ctr w 70 1 20 [.int n t] (fun t' => .bytes [n.toNat.toUInt8].toArray t') := by
  unfold Ctr
  k_fill
  intro p loose mean mg mb dp un gd cnm csc aa ccd cl outer A₀ base h₀ L m news s Q E B F X N T hk hd hu hret
  walk_at "call ref"
  k_steps
  all_goals ((try dsimp only at hret); (first | refine retI (Q := Q) hret ?_ (by k_asm) (by k_asm) (by intro p0 hp0; repeat first | exact hp0 | refine List.mem_cons_of_mem _ ?_) | refine retY (Q := Q) hret ?_ (by k_asm) (by k_asm) (by intro p0 hp0; repeat first | exact hp0 | refine List.mem_cons_of_mem _ ?_) | refine retO (Q := Q) hret ?_ (by k_asm) (by k_asm) (by intro p0 hp0; repeat first | exact hp0 | refine List.mem_cons_of_mem _ ?_)))
  rfl
theorem hexOfB_ascii (l : List UInt8) : ∀ y ∈ hexOfB l, y < 128 := fun y hy => by
  have := hexC_of hy
  unfold HexC at this
  omega
local macro_rules | `(tactic| walk_at "call builtin:str.encode") => `(tactic| (k_here; (refine r_ascii (hexOfB_ascii _) (by (rw [hexOfB_len]; omega)) ?_); intro _ _; (try dsimp only)))
set_option maxRecDepth 100000 in
set_option maxHeartbeats 8000000 in
theorem c_b2a (w : World) {l : List UInt8} {t : Tok} (h1 : l.length ≤ 300) : Ctr w 126 2 30 [.bytes l.toArray t] (fun t' => .bytes ((hexOfB l).map fun y => y.toUInt8).toArray t') := by
  unfold Ctr
  k_fill
  intro p loose mean mg mb dp un gd cnm csc aa ccd cl outer A₀ base h₀ L m news s Q E B F X N T hk hd hu hret
  walk_at "call ref"
  k_steps
  all_goals ((try dsimp only at hret); (first | refine retI (Q := Q) hret ?_ (by k_asm) (by k_asm) (by intro p0 hp0; repeat first | exact hp0 | refine List.mem_cons_of_mem _ ?_) | refine retY (Q := Q) hret ?_ (by k_asm) (by k_asm) (by intro p0 hp0; repeat first | exact hp0 | refine List.mem_cons_of_mem _ ?_) | refine retO (Q := Q) hret ?_ (by k_asm) (by k_asm) (by intro p0 hp0; repeat first | exact hp0 | refine List.mem_cons_of_mem _ ?_)))
  rfl
end Mine
end
section
open PySem PySem.W PyProof.Rows PySem.Builtin
set_option maxRecDepth 100000
namespace Mine
/-! The octets of a number, highest first, and its hex signs. -/
def octD (n : Nat) : List UInt8 := if h : n = 0 then [] else octD (n / 256) ++ [(n % 256).toUInt8]
decreasing_by omega
theorem octD_zero : octD 0 = [] := by rw [octD]; simp
theorem octD_pos {n : Nat} (h : n ≠ 0) : octD n = octD (n / 256) ++ [(n % 256).toUInt8] := by rw [octD]; simp [h]
theorem octD_ne {n : Nat} (h : n ≠ 0) : octD n ≠ [] := by rw [octD_pos h]; simp
def octs (n : Nat) : List UInt8 := if n = 0 then [0] else octD n
theorem octs_ne (n : Nat) : octs n ≠ [] := by
  unfold octs
  split
  · simp
  · exact octD_ne (by assumption)
theorem octs_pos (n : Nat) : 0 < (octs n).length := List.length_pos_iff.mpr (octs_ne n)
theorem octD_len : ∀ (k n : Nat), n < 256 ^ k → (octD n).length ≤ k
  | 0, n, h => by
    have : n = 0 := by simpa using h
    rw [this, octD_zero]
    exact Nat.le_refl _
  | k + 1, n, h => by
    by_cases h0 : n = 0
    · rw [h0, octD_zero]
      exact Nat.zero_le _
    · rw [octD_pos h0, List.length_append]
      have : n / 256 < 256 ^ k := by
        rw [Nat.div_lt_iff_lt_mul (by decide)]
        rw [Nat.pow_succ] at h
        exact h
      have := octD_len k (n / 256) this
      simp only [List.length_cons, List.length_nil]
      omega
theorem octs_len {k n : Nat} (hk : 1 ≤ k) (h : n < 256 ^ k) : (octs n).length ≤ k := by
  unfold octs
  split
  · exact hk
  · exact octD_len k n h
theorem be_app (l : List UInt8) (c : UInt8) : be (l ++ [c]) = be l * 256 + c.toNat := by
  unfold be
  rw [List.foldl_append]
  rfl
theorem be_octD : ∀ n, be (octD n) = n := by
  intro n
  induction n using Nat.strongRecOn with
  | _ n ih =>
    by_cases h : n = 0
    · rw [h, octD_zero]
      rfl
    · rw [octD_pos h, be_app, ih (n / 256) (by omega)]
      have : ((n % 256).toUInt8).toNat = n % 256 := by
        show (n % 256) % 256 = _
        omega
      rw [this]
      omega
theorem hexOfB_app (l r : List UInt8) : hexOfB (l ++ r) = hexOfB l ++ hexOfB r := List.flatMap_append ..
theorem hexD_digit : ∀ d, d < 16 → (Nat.digitChar d).toNat = Bytes.hexDigit d := by decide
theorem hexD_lt {n : Nat} (h : n < 16) : hexD n = [Bytes.hexDigit n] := by
  unfold hexD
  rw [Nat.toDigits_of_lt_base h]
  simp [hexD_digit n h]
theorem hexD_ge {n : Nat} (h : 16 ≤ n) : hexD n = hexD (n / 16) ++ [Bytes.hexDigit (n % 16)] := by
  unfold hexD
  have hm : n % 16 < 16 := Nat.mod_lt n (by decide)
  have t : Nat.toDigits 16 (n / 16) ++ Nat.toDigits 16 (n % 16) = Nat.toDigits 16 (16 * (n / 16) + n % 16) := Nat.toDigits_append_toDigits (by decide) (by omega) hm
  rw [Nat.div_add_mod] at t
  rw [← t, List.map_append, Nat.toDigits_of_lt_base hm]
  simp [hexD_digit _ hm]
theorem hexOfB_one {k : Nat} (h : k < 256) : hexOfB [k.toUInt8] = [Bytes.hexDigit (k / 16), Bytes.hexDigit (k % 16)] := by
  have : (k.toUInt8).toNat = k := by
    show k % 256 = k
    omega
  unfold hexOfB
  simp [this]
theorem hex_pad : ∀ n, (if (hexD n).length % 2 = 1 then 48 :: hexD n else hexD n) = hexOfB (octs n) := by
  intro n
  induction n using Nat.strongRecOn with
  | _ n ih =>
    by_cases h16 : n < 16
    · rw [hexD_lt h16]
      have e : octs n = [n.toUInt8] := by
        unfold octs
        split
        · rename_i h0
          rw [h0]
          rfl
        · rename_i h0
          rw [octD_pos h0, show n / 256 = 0 by omega, octD_zero, show n % 256 = n by omega]
          rfl
      rw [e, hexOfB_one (by omega), show n / 16 = 0 by omega, show n % 16 = n by omega]
      rfl
    · by_cases h256 : n < 256
      · rw [hexD_ge (by omega), hexD_lt (by omega)]
        have h0 : n ≠ 0 := by omega
        have e : octs n = [n.toUInt8] := by
          unfold octs
          rw [if_neg h0, octD_pos h0, show n / 256 = 0 by omega, octD_zero, show n % 256 = n by omega]
          rfl
        rw [e, hexOfB_one h256]
        simp
      · have h0 : n ≠ 0 := by omega
        have e : octs n = octs (n / 256) ++ [(n % 256).toUInt8] := by
          unfold octs
          rw [if_neg h0, if_neg (by omega), octD_pos h0]
        rw [hexD_ge (by omega), hexD_ge (by omega), e, hexOfB_app, hexOfB_one (Nat.mod_lt n (by decide)), ← ih (n / 256) (by omega)]
        have e1 : n / 16 / 16 = n / 256 := by omega
        have e2 : n % 256 / 16 = n / 16 % 16 := by omega
        have e3 : n % 256 % 16 = n % 16 := by omega
        rw [e1, e2, e3]
        have hl : (hexD (n / 256) ++ [Bytes.hexDigit (n / 16 % 16)] ++ [Bytes.hexDigit (n % 16)]).length % 2 = (hexD (n / 256)).length % 2 := by
          simp only [List.length_append, List.length_cons, List.length_nil]
          omega
        rw [hl]
        split <;> simp
theorem hexD_len {n k : Nat} (hk : 1 ≤ k) (h : n < 256 ^ k) : (hexD n).length ≤ 2 * k := by
  have h1 := congrArg List.length (hex_pad n)
  rw [hexOfB_len] at h1
  have h2 := octs_len hk h
  split at h1
  · simp only [List.length_cons] at h1
    omega
  · omega
theorem hexD_ascii (n : Nat) : ∀ y ∈ hexD n, y < 128 := by
  intro y hy
  have : y ∈ hexOfB (octs n) := by
    rw [← hex_pad n]
    split
    · exact .tail _ hy
    · exact hy
  have := hexC_of this
  unfold HexC at this
  omega
/-- the number's octets as they stand in a signature -/
def rowOf (n : Nat) : List UInt8 := if 127 < ((octs n).getD 0 0).toNat then 0 :: octs n else octs n
def encI (n : Nat) : List UInt8 := 2 :: ((rowOf n).length).toUInt8 :: rowOf n
theorem log2_of_lt {n k : Nat} (h : n < 2 ^ k) (hk : 0 < k) : n.log2 < k := by
  by_cases h0 : n = 0
  · rw [h0]
    simpa using hk
  · exact (Nat.log2_lt h0).mpr h
end Mine
end
section
open PySem PySem.W PyProof.Rows
set_option pp.fieldNotation false
namespace Mine
local macro_rules | `(tactic| walk_at "my spare 0") => `(tactic| fail "none")
local macro_rules | `(tactic| walk_at "my spare 1") => `(tactic| fail "none")
theorem put_back_C3 : True := by
  w_top off
  k_with_none
  trivial
local macro_rules | `(tactic| walk_at "call ref") => `(tactic| (k_here; k_dflt (refine wpAny_call ?_; (refine' code_def ?k1 ?k2 ?k3 ?k4 ?k5 ?kA ?kF ?kK ?k6 ?k7 ?k8 ?k9 ?kB ?_ ?c2 ?c3 ?c4 ?c5; (case kA => exact rfl); (case kF => exact rfl); (case kK => first | exact rfl | assumption); (case k1 => k_asm); (case k2 => k_asm); (case k3 => k_asm); (case k4 => k_asm); (case k5 => k_asm); (case k6 => k_is); (case k7 => k_is); (case k8 => ktr_room); (case k9 => first | exact BindsTo.of_eq rfl | exact binds_K (by k_in) rfl (by k_is) rfl rfl rfl); (case c5 => decide); (case kB => exact locs rfl); (case c2 => exact rfl); (case c3 => exact rfl); (case c4 => exact rfl); k_whole; intro g' L' h' FG' F' N' B' X' T'; (try dsimp only); (try k_lift B'); (try k_fold)))))
local macro_rules | `(tactic| walk_at "call builtin:len") => `(tactic| (k_here; (with_reducible show wpAny _ _ (call (Value.builtin _) [Value.bytes (List.toArray _) _]) _ _ _); (refine r_len (by (try simp only [List.length_append, List.length_take, List.length_drop, List.length_cons, List.length_nil, List.length_map, List.length_replicate]); omega) ?_); intro _ _; (try dsimp only)))
local macro_rules | `(tactic| walk_at "truthy bytes") => `(tactic| (k_here; (with_reducible show wpAny _ _ (truthy (Value.bytes (List.toArray _) _)) _ _ _); (refine r_truthy (by (try simp only [List.length_append, List.length_take, List.length_drop, List.length_cons, List.length_nil, List.length_map, List.length_replicate]); omega) ?_); intro _; (try dsimp only)))
local macro_rules | `(tactic| walk_at "subscriptTail") => `(tactic| (k_here; (with_reducible show wpAny _ _ (subscriptTail _ _ (Value.bytes (List.toArray _) _) (Value.int _ _)) _ _ _); (refine r_item (by (try simp only [List.length_append, List.length_take, List.length_drop, List.length_cons, List.length_nil, List.length_map, List.length_replicate]); omega) (by (try simp only [List.length_append, List.length_take, List.length_drop, List.length_cons, List.length_nil, List.length_map, List.length_replicate]); omega) (by (try simp only [List.length_append, List.length_take, List.length_drop, List.length_cons, List.length_nil, List.length_map, List.length_replicate]); omega) ?_); intro _ _; (try dsimp only)))
local macro_rules | `(tactic| walk_at "subscriptTail") => `(tactic| (k_here; (with_reducible show wpAny _ _ (subscriptTail _ _ (Value.bytes (List.toArray _) _) (Value.int (-1) _)) _ _ _); (refine r_itemR (by (try simp only [List.length_append, List.length_take, List.length_drop, List.length_cons, List.length_nil, List.length_map, List.length_replicate]); omega) (by (try simp only [List.length_append, List.length_take, List.length_drop, List.length_cons, List.length_nil, List.length_map, List.length_replicate]); omega) (by decide) ?_); intro _ _; (try dsimp only)))
local macro_rules | `(tactic| walk_at "subscriptTail") => `(tactic| (k_here; (with_reducible show wpAny _ _ (subscriptTail _ (Expr.Slice _ _ none _) (Value.bytes (List.toArray _) _) (Value.ref _)) _ _ _); (with_reducible rename Fr _ _ _ _ => F'); (with_reducible rename News _ _ _ _ => N'); (refine r_slice (s := ⟨_, _, _, _, _⟩) F' N' (by constructor) (by constructor) (by (try simp only [List.length_append, List.length_take, List.length_drop, List.length_cons, List.length_nil, List.length_map, List.length_replicate]); omega) ?_); intro _ _ _ F' N'; (try dsimp only); (try k_sweep)))
local macro_rules | `(tactic| walk_at "binaryOp Add bytes bytes") => `(tactic| (k_here; (with_reducible show wpAny _ _ (binaryOp Operator.Add (Value.bytes (List.toArray _) _) (Value.bytes (List.toArray _) _)) _ _ _); (refine r_add (by (try simp only [List.length_append, List.length_take, List.length_drop, List.length_cons, List.length_nil, List.length_map, List.length_replicate]); omega) ?_); intro _ _; (try dsimp only)))
local macro_rules | `(tactic| walk_at "compareOp Eq bytes bytes") => `(tactic| (k_here; (with_reducible show wpAny _ _ (compareOp CmpOp.Eq (Value.bytes (List.toArray _) _) (Value.bytes (List.toArray _) _)) _ _ _); (refine r_eq ?_); (try dsimp only)))
local macro_rules | `(tactic| walk_at "compareOp NotEq bytes bytes") => `(tactic| (k_here; (with_reducible show wpAny _ _ (compareOp CmpOp.NotEq (Value.bytes (List.toArray _) _) (Value.bytes (List.toArray _) _)) _ _ _); (refine r_ne ?_); (try dsimp only)))
local macro_rules | `(tactic| walk_at "call type:type") => `(tactic| (k_here; (with_reducible show wpAny _ _ (call (Value.type "type") [Value.bytes _ _]) _ _ _); (refine call_type_of (Tx := "bytes") (typeIs_bytes _ _ _) (by decide +kernel) ?_)))
local macro_rules | `(tactic| walk_at "call type:type") => `(tactic| (k_here; (with_reducible show wpAny _ _ (call (Value.type "type") [Value.int _ _]) _ _ _); (refine call_type_of (Tx := "int") (typeIs_int _ _ _) (by decide +kernel) ?_)))
local macro_rules | `(tactic| walk_at "compareOp Is") => `(tactic| (k_here; (with_reducible show wpAny _ _ (compareOp CmpOp.Is (Value.type _) (Value.type _)) _ _ _); first | refine wpAny_is_self (by rfl) ?_ | refine wpAny_is_other (by rfl) (by decide) ?_))
local macro_rules | `(tactic| walk_at "compareOp IsNot") => `(tactic| (k_here; (with_reducible show wpAny _ _ (compareOp CmpOp.IsNot (Value.type _) (Value.type _)) _ _ _); first | refine wpAny_isNot_self (by rfl) ?_ | refine wpAny_isNot_other (by rfl) (by decide) ?_))
local macro_rules | `(tactic| k_all) => `(tactic| first | exact ne_of_ltAll (by assumption) | exact ne_of_allLt (by assumption))
local macro_rules | `(tactic| walk_at "call builtin:list.append") => `(tactic| (k_here; (with_reducible show wpAny _ _ (call (Value.builtin _) [Value.ref _, _]) _ _ _); k_dflt (refine' append_K ?k1 ?k2 ?k3 ?_ ?z; (case k1 => k_asm); (case k2 => k_asm); (case k3 => k_upd); (case z => ((try simp only [List.size_toArray, List.length_append, List.length_cons, List.length_nil]); rw [sizeLine_eq]; omega)); k_whole); intro h' F' N'; (try k_sweep)))
local macro_rules | `(tactic| walk_at "call builtin:_struct.pack") => `(tactic| (k_here; (refine r_pack (by omega) (by omega) ?_); intro _ _; (try dsimp only)))
local macro_rules | `(tactic| walk_at "call builtin:bytes.hex") => `(tactic| (k_here; (refine r_hex (by (try simp only [List.length_append, List.length_take, List.length_drop, List.length_cons, List.length_nil, List.length_map, List.length_replicate]); omega) ?_); intro _ _; (try dsimp only)))
local macro_rules | `(tactic| walk_at "call builtin:ord") => `(tactic| (k_here; (with_reducible show wpAny _ _ (call (Value.builtin _) [Value.bytes _ _]) _ _ _); (refine r_ord (by k_extra "ord") ?_); intro _ _; (try dsimp only)))
local macro_rules | `(tactic| walk_at "call builtin:bytes.startswith") => `(tactic| (k_here; (with_reducible show wpAny _ _ (call (Value.builtin _) [Value.bytes (List.toArray _) _, Value.bytes _ _]) _ _ _); (refine r_startswith ?_); (try dsimp only)))
local macro_rules | `(tactic| walk_at "getMethod bytes") => `(tactic| (k_here; (with_reducible first | refine m_hex ?_ | refine m_startswith ?_ | refine m_join ?_)))
local macro_rules | `(tactic| walk_at "getMethod str") => `(tactic| (k_here; (with_reducible refine m_encode ?_)))
local macro_rules | `(tactic| walk_at "call builtin:bytes.join") => `(tactic| (k_here; (with_reducible show wpAny _ _ (call (Value.builtin _) [Value.bytes _ _, Value.ref _]) _ _ _); (refine' r_join (o := ?o) ?hT (News.get ?N ?hm) ?hc ?hd ?hz ?_; (case N => k_asm); (case hm => k_mem); (case hc => exact rfl); (case hT => first | exact Or.inl rfl | exact Or.inr rfl); (case hd => exact rfl); (case hz => exact (by (try simp only [List.length_append, List.length_take, List.length_drop, List.length_cons, List.length_nil, List.length_map, List.length_replicate]); omega))); intro _ _; (try dsimp only)))
/-! encode_integer -/
theorem hexB_len {codes : List Nat} {l : List UInt8} (h : codes = hexOfB l) : (codes.map fun y => y.toUInt8).length = 2 * l.length := by rw [List.length_map, h, hexOfB_len]
theorem hexOfB_get : ∀ (l : List UInt8) (k : Nat), k < l.length → (hexOfB l)[2 * k]? = some (PySem.Builtin.Bytes.hexDigit ((l.getD k 0).toNat / 16)) ∧ (hexOfB l)[2 * k + 1]? = some (PySem.Builtin.Bytes.hexDigit ((l.getD k 0).toNat % 16))
  | [], k, h => by simp at h
  | c :: r, 0, _ => ⟨rfl, rfl⟩
  | c :: r, k + 1, h => by
    have e : hexOfB (c :: r) = PySem.Builtin.Bytes.hexDigit (c.toNat / 16) :: PySem.Builtin.Bytes.hexDigit (c.toNat % 16) :: hexOfB r := rfl
    have h' : k < r.length := by simpa using h
    have := hexOfB_get r k h'
    rw [e]
    refine ⟨?_, ?_⟩
    · rw [show 2 * (k + 1) = 2 * k + 1 + 1 by omega]
      simpa using this.1
    · rw [show 2 * (k + 1) + 1 = 2 * k + 1 + 1 + 1 by omega]
      simpa using this.2
theorem hexC_back {c : Nat} (h : HexC c) : (c.toUInt8).toNat = c := by
  unfold HexC at h
  show c % 256 = c
  omega
theorem hexC_I {c : Nat} (h : HexC c) : HexI ((c.toUInt8).toNat : Nat) ∧ hvI ((c.toUInt8).toNat : Nat) = hv c := by
  rw [hexC_back h]
  unfold HexC at h
  unfold HexI hvI hv
  constructor
  · omega
  · split <;> split <;> omega
theorem map_getD (codes : List Nat) (j : Nat) : (codes.map fun y => y.toUInt8).getD j 0 = (codes.getD j 0).toUInt8 := by
  rw [List.getD_eq_getElem?_getD, List.getD_eq_getElem?_getD, List.getElem?_map]
  cases codes[j]? <;> rfl
theorem hexB_all {codes : List Nat} {l : List UInt8} (h : codes = hexOfB l) : HexAll (codes.map fun y => y.toUInt8) := by
  intro j hj
  rw [map_getD]
  have hj' : j < codes.length := by simpa using hj
  have hm : codes.getD j 0 ∈ hexOfB l := by
    rw [← h, List.getD_eq_getElem?_getD, List.getElem?_eq_getElem hj']
    exact List.getElem_mem hj'
  exact (hexC_I (hexC_of hm)).1
theorem hexB_pair {codes : List Nat} {l : List UInt8} (h : codes = hexOfB l) : ∀ k, k < l.length → hvI (((codes.map fun y => y.toUInt8).getD (2 * k) 0).toNat : Nat) * 16 + hvI (((codes.map fun y => y.toUInt8).getD (2 * k + 1) 0).toNat : Nat) = ((l.getD k 0).toNat : Nat) := by
  intro k hk
  subst h
  obtain ⟨h1, h2⟩ := hexOfB_get l k hk
  have hb : (l.getD k 0).toNat < 256 := (l.getD k 0).toNat_lt
  have a1 := hexC_digit (d := (l.getD k 0).toNat / 16) (by omega)
  have a2 := hexC_digit (d := (l.getD k 0).toNat % 16) (by omega)
  rw [map_getD, map_getD, List.getD_eq_getElem?_getD (l := hexOfB l), List.getD_eq_getElem?_getD (l := hexOfB l), h1, h2]
  simp only [Option.getD_some]
  rw [(hexC_I a1.1).2, (hexC_I a2.1).2, a1.2, a2.2]
  omega
theorem c_unhex' (w : World) {codes : List Nat} {l : List UInt8} {t : Tok} (h : codes = hexOfB l) (hl : l.length ≤ 300) : Ctr w 140 3 60 [.bytes (codes.map fun y => y.toUInt8).toArray t] (fun t' => .bytes l.toArray t') :=
  c_unhex w (hexB_len h) (hexB_all h) (hexB_pair h) hl
theorem cut_one {l : List UInt8} (h : 0 < l.length) : cut l none (some 1) = [l.getD 0 0] := by
  cases l with
  | nil => simp at h
  | cons c r =>
    have : clipAt (r.length + 1) 1 = 1 := by
      have := KBc.clip_lit (r.length + 1) 1
      rw [this]
      simp
    simp [cut, this]
theorem r_cat0 {prog : Program} {w : World} {A : Around} {E : Value → Shared → Prop} {s : Shared} {l : List Nat} {t u : Tok} {Q : Value → Shared → Prop} (hz : l.length ≤ 1048576) (h : ∀ t' k, Q (.str ⟨(48 :: l).toArray⟩ t') { s with toks := k }) :
    wpAny (model prog w) A (binaryOp .Add (.str (PySem.Str.ofString "0") t) (.str ⟨l.toArray⟩ u)) Q E s := by
  have e0 : (PySem.Str.ofString "0").cps = #[48] := by decide +kernel
  have el : (PySem.Str.ofString "0").length = 1 := by decide +kernel
  refine PyProof.Rows.add_str (fun t' k => ?_) (by
    rw [el, sizeLine_eq]
    show 1 + l.toArray.size ≤ _
    rw [List.size_toArray]
    omega)
  have e : PySem.Str.ofString "0" ++ (⟨l.toArray⟩ : PySem.Str) = ⟨(48 :: l).toArray⟩ := by
    refine congrArg PySem.Str.mk ((PySem.Str.cps_append _ _).trans ?_)
    rw [e0]
    apply Array.ext'
    simp
  rw [e]
  exact h t' k
theorem r_lens {prog : Program} {w : World} {A : Around} {E : Value → Shared → Prop} {s : Shared} {l : List Nat} {t : Tok} {Q : Value → Shared → Prop} (hz : l.length ≤ 1048576) (h : ∀ t' k, Q (.int (l.length : Nat) t') { s with toks := k }) :
    wpAny (model prog w) A (call (.builtin "len") [.str ⟨l.toArray⟩ t]) Q E s := by
  have e : (⟨l.toArray⟩ : PySem.Str).length = l.length := by
    show l.toArray.size = _
    simp
  refine PyProof.Rows.len_str (by rw [e]; omega) ?_
  rw [e]
  exact h _ _
theorem fmod_two (n : Nat) : Int.fmod ((n : Nat) : Int) 2 = ((n % 2 : Nat) : Int) := by
  rw [Int.fmod_eq_emod_of_nonneg _ (by decide)]
  omega
theorem hexA {n : Nat} (h : Int.fmod (((hexD n).length : Nat) : Int) 2 ≠ 0) : 48 :: hexD n = hexOfB (octs n) := by
  rw [fmod_two] at h
  rw [← hex_pad, if_pos (by omega)]
theorem hexB {n : Nat} (h : Int.fmod (((hexD n).length : Nat) : Int) 2 = 0) : hexD n = hexOfB (octs n) := by
  rw [fmod_two] at h
  rw [← hex_pad, if_neg (by omega)]
local macro_rules | `(tactic| walk_at "binaryOp Add str str") => `(tactic| (k_here; (refine r_cat0 (by k_extra "hexlen") ?_); intro _ _; (try dsimp only)))
local macro_rules | `(tactic| walk_at "call builtin:len") => `(tactic| (k_here; (with_reducible show wpAny _ _ (call (Value.builtin _) [Value.str _ _]) _ _ _); (refine r_lens (by k_extra "hexlen") ?_); intro _ _; (try dsimp only)))
local macro_rules | `(tactic| walk_at "call ref") => `(tactic| (k_here; (with_reducible show wpAny _ _ (call (Value.ref 140) _) _ _ _); k_dflt (refine' Ctr.use (c_unhex' _ ?h ?l) ?B ?F ?X ?N ?T ?K ?D ?U ?_; (case B => k_asm); (case F => k_asm); (case X => k_asm); (case N => k_asm); (case T => k_asm); (case K => first | exact rfl | assumption); (case D => ktr_room); (case U => ktr_units)); (case h => k_extra "HEX"); (case l => k_extra "octlen"); intro t9 h9 tk9 F9 N9; (try dsimp only); (try k_fold)))
local macro_rules | `(tactic| walk_at "call ref") => `(tactic| (k_here; (with_reducible show wpAny _ _ (call (Value.ref 70) _) _ _ _); k_dflt (refine' Ctr.use (c_i2b _ ?h ?l) ?B ?F ?X ?N ?T ?K ?D ?U ?_; (case B => k_asm); (case F => k_asm); (case X => k_asm); (case N => k_asm); (case T => k_asm); (case K => first | exact rfl | assumption); (case D => ktr_room); (case U => ktr_units)); (case h => omega); (case l => omega); intro t9 h9 tk9 F9 N9; (try dsimp only); (try k_fold)))
local macro_rules | `(tactic| walk_at "binaryOp Mod str int") => `(tactic| (k_here; (refine hex_mod (by decide +kernel) (by omega) (by k_extra "log") (by k_extra "hexlen") ?_); intro _ _; (try dsimp only)))
local macro_rules | `(tactic| walk_at "call builtin:str.encode") => `(tactic| (k_here; (refine r_utf8 (by k_extra "ascii") (by k_extra "hexlen") ?_); intro _ _; (try dsimp only)))
set_option maxRecDepth 100000 in
set_option maxHeartbeats 8000000 in
theorem c_enc (w : World) {r : Int} {t : Tok} (h0 : 0 ≤ r) (h1 : r.toNat < 256 ^ 66) : Ctr w 147 4 90 [.int r t] (fun t' => .bytes (encI r.toNat).toArray t') := by
  unfold Ctr
  k_fill
  intro p loose mean mg mb dp un gd cnm csc aa ccd cl outer A₀ base h₀ L m news s Q E B F X N T hk hd hu hret
  have hab : r.natAbs = r.toNat := by omega
  have hlg : r.natAbs.log2 < 1920 := by
    rw [hab]
    exact log2_of_lt (k := 1920) (Nat.lt_of_lt_of_le h1 (by decide +kernel)) (by decide)
  have hnl : (hexD r.natAbs).length ≤ 132 := by
    rw [hab]
    exact hexD_len (k := 66) (by decide) h1
  k_with "log" => exact hlg
  have hol : (octs r.natAbs).length ≤ 66 := by
    rw [hab]
    exact octs_len (k := 66) (by decide) h1
  have hop := octs_pos r.natAbs
  clear h1
  k_with "hexlen" => first | omega | (simp only [List.length_cons]; omega)
  k_with "ascii" => first | exact hexD_ascii _ | (intro y hy; rcases List.mem_cons.mp hy with rfl | hy; decide; exact hexD_ascii _ y hy)
  k_with "HEX" => first | exact hexA (by assumption) | exact hexB (by assumption)
  k_with "octlen" => omega
  k_with "ord" => exact cut_one hop
  walk_at "call ref"
  k_steps
  all_goals ((try dsimp only at hret); (first | refine retI (Q := Q) hret ?_ (by k_asm) (by k_asm) (by intro p0 hp0; repeat first | exact hp0 | refine List.mem_cons_of_mem _ ?_) | refine retY (Q := Q) hret ?_ (by k_asm) (by k_asm) (by intro p0 hp0; repeat first | exact hp0 | refine List.mem_cons_of_mem _ ?_) | refine retO (Q := Q) hret ?_ (by k_asm) (by k_asm) (by intro p0 hp0; repeat first | exact hp0 | refine List.mem_cons_of_mem _ ?_)))
  all_goals (
    rw [← hab]
    unfold encI rowOf
    first
    | (rw [if_neg (by omega)]; simp; done)
    | (rw [if_pos (by omega)]; simp; done)
    | (rw [if_pos (by omega)]; simp; omega))
end Mine
end
section
open PySem PySem.W PyProof.Rows PySem.Calls PyProof.Rows.LCg
namespace Mine
/-! a list comprehension over a tuple that the ledger holds -/
def TupIn (ax : Addr) (its : Array Value) (news : List (Addr × Obj)) : Prop := ∃ o, (ax, o) ∈ news ∧ o.cls = .type "tuple" ∧ ∃ n, o.data = .seq its n
theorem TupIn.tup {h₀ h : Heap} {L ax : Addr} {its : Array Value} {news : List (Addr × Obj)} (x : TupIn ax its news) (N : News h₀ L h news) : h.IsTuple ax its := by
  obtain ⟨o, hm, r⟩ := x
  exact ⟨o, (N _ hm).1, r⟩
section
variable {prog : Program} {w : World} {A : Around} {E : Value → Shared → Prop} {s : Shared} {h₀ : Heap} {L : Addr} {m : Str → Option Value} {env : Env}
theorem tup_st {ax I : Addr} {its : Array Value} : ∀ i (h h' : Heap) (o : Obj) (nw : List (Addr × Obj)), (h.IsTupleIter I ax i ∧ h.IsTuple ax its) → h.get? I = some o → h'.get? I = some o → (∀ b o, h₀.get? b = some o → h'.get? b = some o) → News h₀ L h' nw → TupIn ax its nw → (h'.IsTupleIter I ax i ∧ h'.IsTuple ax its) :=
  fun i h h' o nw st e e' k N S => ⟨by obtain ⟨o', q, r⟩ := st.1; rw [e] at q; cases q; exact ⟨o, e', r⟩, S.tup N⟩
def TSrc (prog : Program) (w : World) (A : Around) (h₀ : Heap) (L : Addr) (m : Str → Option Value) (env : Env) (elt : Expr) (x : Str) (scope : Scope) (cl : List (Str × Addr)) (Fin : Shared → List Value → List (Addr × Obj) → Prop) (xv : Value) (s₁ : Shared) : Prop :=
  ∃ ax its news, xv = .ref ax ∧ A.handled = none ∧ Fr h₀ L s₁.heap m ∧ News h₀ L s₁.heap news ∧ TupIn ax its news ∧ its.size ≤ sizeLine ∧
    ∀ s₂ : Shared, (∃ h, s₂ = { s₁ with heap := h }) → CompRest prog w A h₀ L m env elt x scope cl s₂ (TupIn ax its) (fun i v => its[i]? = some v) (Fin s₂) its.size 0 [] news
theorem TSrc.ledger {elt : Expr} {x : Str} {scope : Scope} {cl : List (Str × Addr)} {Fin : Shared → List Value → List (Addr × Obj) → Prop} {ax : Addr} {its : Array Value} {k : Nat} {news : List (Addr × Obj)} {s₁ : Shared}
    (hh : A.handled = none) (F : Fr h₀ L s₁.heap m) (N : News h₀ L s₁.heap news) (hm : (ax, ({ cls := .type "tuple", data := .seq its k } : Obj)) ∈ news) (hsz : its.size ≤ sizeLine)
    (h : ∀ g, CompRest prog w A h₀ L m env elt x scope cl { s₁ with heap := g } (TupIn ax its) (fun i v => its[i]? = some v) (Fin { s₁ with heap := g }) its.size 0 [] news) :
    TSrc prog w A h₀ L m env elt x scope cl Fin (.ref ax) s₁ := ⟨ax, its, news, rfl, hh, F, N, ⟨_, hm, rfl, _, rfl⟩, hsz, fun _ ⟨g, e⟩ => e ▸ h g⟩
theorem LC_tup {elt iter : Expr} {x : Str} {px : Pos} {scope : Scope} {cl : List (Str × Addr)} {pos : Pos} {Q : Value → Shared → Prop} (F₀ : Fr h₀ L s.heap m)
    (hclos : closureFor scope env = pure cl) (hcell : ∀ y ∈ scope.names, y.2 ≠ .cell) (hkind : scope.kind = .function)
    (hnames : ∀ y ∈ scope.names, y.2 = .local → scope.names.lookup y.1 = some .local) (hx : scope.names.lookup x = some .local)
    (h : wpAny (model prog w) A (eval iter env) (TSrc prog w A h₀ L m env elt x scope cl (fun s₂ => FinE h₀ L m s₂ Q)) E s)
    (hs : ∀ x, foldedSetIterable iter env x = pure x := by intro _; rfl) :
    wpAny (model prog w) A (eval (.ListComp elt [⟨.Name x px, iter, [], 0⟩] scope pos) env) Q E s := by
  rw [eval_ListComp]
  refine wpAny_comprehension_free (use := none) rfl hs hclos hkind hnames (wpAny_mono h (fun xv s₁ h₁ => ?_) fun _ _ e => e)
  rcases h₁ with ⟨ax, its, news, rfl, hh, F, N, S, hsz, R⟩
  have hl := S.tup N
  have hlt : ax < s₁.heap.objs.size := by obtain ⟨_, e, _⟩ := hl; exact Heap.lt_size e
  refine wpAny_pyIter_tuple hl ?_
  have up : ∀ b o, s₁.heap.get? b = some o → (s₁.heap.push { cls := .type "tuple_iterator", data := .fields #[.ref ax, .int 0 0] }).get? b = some o := fun b o e => Heap.get?_push_of_some _ e
  refine block_U (Walks.tuple hh s₁.heap.objs.size ax (Nat.ne_of_lt hlt) its) hsz (fun i h st => by obtain ⟨o, e, _⟩ := st.1; exact ⟨o, e⟩) tup_st hcell hkind hx ⟨⟨_, Heap.get?_push_size _ rfl, rfl, rfl⟩, hl.push _⟩ (fun b hb => ?_)
    (F.keeps up) (N.grown up) (Nat.ne_of_lt F.ns.lt) (next_is_new F) (fun p hp => Nat.ne_of_lt (Heap.lt_size (N p hp).1)) S (R _ ⟨_, rfl⟩) ?_
  · show b < (s₁.heap.push _).objs.size
    rw [Heap.size_push]
    rcases List.mem_cons.mp hb with rfl | hb
    · exact Nat.lt_succ_self _
    · rw [List.mem_singleton.mp hb]; exact Nat.lt_succ_of_lt hlt
  · intro D C h tk m' ys news' F' N' o1 hn hC₀ hD₀ hCL hDL hCD offC fin
    refine ⟨m', hn, fun h'' hs'' => fin D h'' tk (F'.change hs'' hCL hC₀) (fun p hp => ?_) o1⟩
    refine ⟨hs''.extBut _ _ ?_ (N' p hp).1, (N' p hp).2⟩
    rcases List.mem_cons.mp hp with rfl | hp
    · exact Ne.symm hCD
    · exact offC p hp
end
end Mine
end
section
open PySem PySem.W PyProof.Rows
set_option pp.fieldNotation false
namespace Mine
local macro_rules | `(tactic| walk_at "my spare 0") => `(tactic| fail "none")
local macro_rules | `(tactic| walk_at "my spare 1") => `(tactic| fail "none")
local macro_rules | `(tactic| walk_at "my spare 2") => `(tactic| fail "none")
theorem put_back_C4 : True := by
  w_top off
  k_with_none
  trivial
local macro_rules | `(tactic| walk_at "call ref") => `(tactic| (k_here; k_dflt (refine wpAny_call ?_; (refine' code_def ?k1 ?k2 ?k3 ?k4 ?k5 ?kA ?kF ?kK ?k6 ?k7 ?k8 ?k9 ?kB ?_ ?c2 ?c3 ?c4 ?c5; (case kA => exact rfl); (case kF => exact rfl); (case kK => first | exact rfl | assumption); (case k1 => k_asm); (case k2 => k_asm); (case k3 => k_asm); (case k4 => k_asm); (case k5 => k_asm); (case k6 => k_is); (case k7 => k_is); (case k8 => ktr_room); (case k9 => first | exact BindsTo.of_eq rfl | exact binds_K (by k_in) rfl (by k_is) rfl rfl rfl); (case c5 => decide); (case kB => exact locs rfl); (case c2 => exact rfl); (case c3 => exact rfl); (case c4 => exact rfl); k_whole; intro g' L' h' FG' F' N' B' X' T'; (try dsimp only); (try k_lift B'); (try k_fold)))))
local macro_rules | `(tactic| walk_at "call builtin:len") => `(tactic| (k_here; (with_reducible show wpAny _ _ (call (Value.builtin _) [Value.bytes (List.toArray _) _]) _ _ _); (refine r_len (by (try simp only [List.length_append, List.length_take, List.length_drop, List.length_cons, List.length_nil, List.length_map, List.length_replicate]); omega) ?_); intro _ _; (try dsimp only)))
local macro_rules | `(tactic| walk_at "truthy bytes") => `(tactic| (k_here; (with_reducible show wpAny _ _ (truthy (Value.bytes (List.toArray _) _)) _ _ _); (refine r_truthy (by (try simp only [List.length_append, List.length_take, List.length_drop, List.length_cons, List.length_nil, List.length_map, List.length_replicate]); omega) ?_); intro _; (try dsimp only)))
local macro_rules | `(tactic| walk_at "subscriptTail") => `(tactic| (k_here; (with_reducible show wpAny _ _ (subscriptTail _ _ (Value.bytes (List.toArray _) _) (Value.int _ _)) _ _ _); (refine r_item (by (try simp only [List.length_append, List.length_take, List.length_drop, List.length_cons, List.length_nil, List.length_map, List.length_replicate]); omega) (by (try simp only [List.length_append, List.length_take, List.length_drop, List.length_cons, List.length_nil, List.length_map, List.length_replicate]); omega) (by (try simp only [List.length_append, List.length_take, List.length_drop, List.length_cons, List.length_nil, List.length_map, List.length_replicate]); omega) ?_); intro _ _; (try dsimp only)))
local macro_rules | `(tactic| walk_at "subscriptTail") => `(tactic| (k_here; (with_reducible show wpAny _ _ (subscriptTail _ _ (Value.bytes (List.toArray _) _) (Value.int (-1) _)) _ _ _); (refine r_itemR (by (try simp only [List.length_append, List.length_take, List.length_drop, List.length_cons, List.length_nil, List.length_map, List.length_replicate]); omega) (by (try simp only [List.length_append, List.length_take, List.length_drop, List.length_cons, List.length_nil, List.length_map, List.length_replicate]); omega) (by decide) ?_); intro _ _; (try dsimp only)))
local macro_rules | `(tactic| walk_at "subscriptTail") => `(tactic| (k_here; (with_reducible show wpAny _ _ (subscriptTail _ (Expr.Slice _ _ none _) (Value.bytes (List.toArray _) _) (Value.ref _)) _ _ _); (with_reducible rename Fr _ _ _ _ => F'); (with_reducible rename News _ _ _ _ => N'); (refine r_slice (s := ⟨_, _, _, _, _⟩) F' N' (by constructor) (by constructor) (by (try simp only [List.length_append, List.length_take, List.length_drop, List.length_cons, List.length_nil, List.length_map, List.length_replicate]); omega) ?_); intro _ _ _ F' N'; (try dsimp only); (try k_sweep)))
local macro_rules | `(tactic| walk_at "binaryOp Add bytes bytes") => `(tactic| (k_here; (with_reducible show wpAny _ _ (binaryOp Operator.Add (Value.bytes (List.toArray _) _) (Value.bytes (List.toArray _) _)) _ _ _); (refine r_add (by (try simp only [List.length_append, List.length_take, List.length_drop, List.length_cons, List.length_nil, List.length_map, List.length_replicate]); omega) ?_); intro _ _; (try dsimp only)))
local macro_rules | `(tactic| walk_at "compareOp Eq bytes bytes") => `(tactic| (k_here; (with_reducible show wpAny _ _ (compareOp CmpOp.Eq (Value.bytes (List.toArray _) _) (Value.bytes (List.toArray _) _)) _ _ _); (refine r_eq ?_); (try dsimp only)))
local macro_rules | `(tactic| walk_at "compareOp NotEq bytes bytes") => `(tactic| (k_here; (with_reducible show wpAny _ _ (compareOp CmpOp.NotEq (Value.bytes (List.toArray _) _) (Value.bytes (List.toArray _) _)) _ _ _); (refine r_ne ?_); (try dsimp only)))
local macro_rules | `(tactic| walk_at "call type:type") => `(tactic| (k_here; (with_reducible show wpAny _ _ (call (Value.type "type") [Value.bytes _ _]) _ _ _); (refine call_type_of (Tx := "bytes") (typeIs_bytes _ _ _) (by decide +kernel) ?_)))
local macro_rules | `(tactic| walk_at "call type:type") => `(tactic| (k_here; (with_reducible show wpAny _ _ (call (Value.type "type") [Value.int _ _]) _ _ _); (refine call_type_of (Tx := "int") (typeIs_int _ _ _) (by decide +kernel) ?_)))
local macro_rules | `(tactic| walk_at "compareOp Is") => `(tactic| (k_here; (with_reducible show wpAny _ _ (compareOp CmpOp.Is (Value.type _) (Value.type _)) _ _ _); first | refine wpAny_is_self (by rfl) ?_ | refine wpAny_is_other (by rfl) (by decide) ?_))
local macro_rules | `(tactic| walk_at "compareOp IsNot") => `(tactic| (k_here; (with_reducible show wpAny _ _ (compareOp CmpOp.IsNot (Value.type _) (Value.type _)) _ _ _); first | refine wpAny_isNot_self (by rfl) ?_ | refine wpAny_isNot_other (by rfl) (by decide) ?_))
local macro_rules | `(tactic| k_all) => `(tactic| first | exact ne_of_ltAll (by assumption) | exact ne_of_allLt (by assumption))
local macro_rules | `(tactic| walk_at "call builtin:list.append") => `(tactic| (k_here; (with_reducible show wpAny _ _ (call (Value.builtin _) [Value.ref _, _]) _ _ _); k_dflt (refine' append_K ?k1 ?k2 ?k3 ?_ ?z; (case k1 => k_asm); (case k2 => k_asm); (case k3 => k_upd); (case z => ((try simp only [List.size_toArray, List.length_append, List.length_cons, List.length_nil]); rw [sizeLine_eq]; omega)); k_whole); intro h' F' N'; (try k_sweep)))
local macro_rules | `(tactic| walk_at "call builtin:_struct.pack") => `(tactic| (k_here; (refine r_pack (by omega) (by omega) ?_); intro _ _; (try dsimp only)))
local macro_rules | `(tactic| walk_at "call builtin:bytes.hex") => `(tactic| (k_here; (refine r_hex (by (try simp only [List.length_append, List.length_take, List.length_drop, List.length_cons, List.length_nil, List.length_map, List.length_replicate]); omega) ?_); intro _ _; (try dsimp only)))
local macro_rules | `(tactic| walk_at "call builtin:ord") => `(tactic| (k_here; (with_reducible show wpAny _ _ (call (Value.builtin _) [Value.bytes _ _]) _ _ _); (refine r_ord (by k_extra "ord") ?_); intro _ _; (try dsimp only)))
local macro_rules | `(tactic| walk_at "call builtin:bytes.startswith") => `(tactic| (k_here; (with_reducible show wpAny _ _ (call (Value.builtin _) [Value.bytes (List.toArray _) _, Value.bytes _ _]) _ _ _); (refine r_startswith ?_); (try dsimp only)))
local macro_rules | `(tactic| walk_at "getMethod bytes") => `(tactic| (k_here; (with_reducible first | refine m_hex ?_ | refine m_startswith ?_ | refine m_join ?_)))
local macro_rules | `(tactic| walk_at "getMethod str") => `(tactic| (k_here; (with_reducible refine m_encode ?_)))
local macro_rules | `(tactic| walk_at "call builtin:bytes.join") => `(tactic| (k_here; (with_reducible show wpAny _ _ (call (Value.builtin _) [Value.bytes _ _, Value.ref _]) _ _ _); (refine' r_join (o := ?o) ?hT (News.get ?N ?hm) ?hc ?hd ?hz ?_; (case N => k_asm); (case hm => k_mem); (case hc => exact rfl); (case hT => first | exact Or.inl rfl | exact Or.inr rfl); (case hd => exact rfl); (case hz => exact (by (try simp only [List.length_append, List.length_take, List.length_drop, List.length_cons, List.length_nil, List.length_map, List.length_replicate]); omega))); intro _ _; (try dsimp only)))
/-! sigencode_der -/
theorem rowOf_len {n k : Nat} (h : (octs n).length ≤ k) : (rowOf n).length ≤ k + 1 := by
  unfold rowOf
  split
  · simp only [List.length_cons]
    omega
  · omega
theorem encI_len {n k : Nat} (h : (octs n).length ≤ k) : (encI n).length ≤ k + 3 := by
  have := rowOf_len h
  unfold encI
  simp only [List.length_cons]
  omega
def sigB (r s : Nat) : List UInt8 := 48 :: ((encI r ++ encI s).length).toUInt8 :: (encI r ++ encI s)
local macro_rules | `(tactic| walk_at "call ref") => `(tactic| (k_here; (with_reducible show wpAny _ _ (call (Value.ref 147) _) _ _ _); k_dflt (refine' Ctr.use (c_enc _ ?h ?l) ?B ?F ?X ?N ?T ?K ?D ?U ?_; (case B => k_asm); (case F => k_asm); (case X => k_asm); (case N => k_asm); (case T => k_asm); (case K => first | exact rfl | assumption); (case D => ktr_room); (case U => ktr_units)); (case h => assumption); (case l => k_extra "ENC"); intro t9 h9 tk9 F9 N9; (try dsimp only); (try k_fold)))
local macro_rules | `(tactic| walk_at "call ref") => `(tactic| (k_here; (with_reducible show wpAny _ _ (call (Value.ref 70) _) _ _ _); k_dflt (refine' Ctr.use (c_i2b _ ?h ?l) ?B ?F ?X ?N ?T ?K ?D ?U ?_; (case B => k_asm); (case F => k_asm); (case X => k_asm); (case N => k_asm); (case T => k_asm); (case K => first | exact rfl | assumption); (case D => ktr_room); (case U => ktr_units)); (case h => omega); (case l => omega); intro t9 h9 tk9 F9 N9; (try dsimp only); (try k_fold)))
local macro_rules | `(tactic| walk_at "call ref") => `(tactic| (k_here; (with_reducible show wpAny _ _ (call (Value.ref 152) _) _ _ _); k_dflt (refine wpAny_call ?_; (refine' kp_rest ?k1 ?k2 ?k3 ?k4 ?k5 ?kA ?kF ?kK ?k6 ?k7 ?k8 ?kV ?kP ?kG ?kB ?_ ?c2 ?c3 ?c4 ?c5; (case kA => exact rfl); (case kF => exact rfl); (case kK => exact rfl); (case k1 => k_asm); (case k2 => k_asm); (case k3 => k_asm); (case k4 => k_asm); (case k5 => k_asm); (case k6 => k_is); (case k7 => k_is); (case k8 => ktr_room); (case kV => kl_lit); (case kP => exact rfl); (case kG => exact fun _ => rfl); (case kB => exact fun _ => locs rfl); (case c5 => decide); (case c2 => exact rfl); (case c3 => exact rfl); (case c4 => exact rfl); k_whole; intro D' g' L' h' l1 FG' F' N' B' X' T'; (try dsimp only); (try k_lift B'); (try k_fold)))))
local macro_rules | `(tactic| walk_at "eval ListComp") => `(tactic| (k_here; k_dflt (refine LC_tup (F₀ := by k_asm) (by rfl) (by decide) (by rfl) (by decide) (by rfl) ?_)))
local macro_rules | `(tactic| walk_at "TSrc") => `(tactic| (k_here; k_dflt (refine TSrc.ledger (by rfl) (by k_asm) (by k_asm) (by k_mem) (by first | size_fits | exact Nat.le_of_ble_eq_true rfl) ?_; intro g'; lcg_lit)))
local macro_rules | `(tactic| walk_at "my off") => `(tactic| first | exact True.intro | assumption | (refine And.intro ⟨by k_ne, by k_ne, by k_ne⟩ ?_; walk_at "my off"))
local macro_rules | `(tactic| walk_at "CompEnd") => `(tactic| (first | refine LCg.CompEnd.intro (by assumption) (by assumption) _ (fun _ hp => hp) (by first | assumption | ((simp only [LCg.Off3, and_true]); assumption) | walk_at "my off") (by first | exact True.intro | exact Or.inl (by assumption) | exact Or.inr ⟨_, by k_mem, rfl, _, rfl⟩ | exact ⟨_, by k_mem, rfl, _, rfl⟩) ?_ | refine LCg.CompEnd.intro (by assumption) (by assumption) _ (fun _ hp => List.mem_cons_of_mem _ hp) (by first | assumption | ((simp only [LCg.Off3, and_true]); assumption) | walk_at "my off") (by first | exact True.intro | exact Or.inl (by assumption) | exact Or.inr ⟨_, by k_mem, rfl, _, rfl⟩ | exact ⟨_, by k_mem, rfl, _, rfl⟩) ?_ | refine LCg.CompEnd.intro (by assumption) (by assumption) _ (fun _ hp => List.mem_cons_of_mem _ (List.mem_cons_of_mem _ hp)) (by first | assumption | ((simp only [LCg.Off3, and_true]); assumption) | walk_at "my off") (by first | exact True.intro | exact Or.inl (by assumption) | exact Or.inr ⟨_, by k_mem, rfl, _, rfl⟩ | exact ⟨_, by k_mem, rfl, _, rfl⟩) ?_))
theorem pow33 {n : Nat} (h : n < 256 ^ 33) : n < 256 ^ 66 := Nat.lt_of_lt_of_le h (by decide +kernel)
set_option maxRecDepth 100000 in
set_option maxHeartbeats 8000000 in
theorem c_sig (w : World) {r z : Int} {t u : Tok} (h0 : 0 ≤ r) (h1 : r.toNat < 256 ^ 33) (h2 : 0 ≤ z) (h3 : z.toNat < 256 ^ 33) : Ctr w 188 8 150 [.int r t, .int z u] (fun t' => .bytes (sigB r.toNat z.toNat).toArray t') := by
  unfold Ctr
  k_fill
  intro p loose mean mg mb dp un gd cnm csc aa ccd cl outer A₀ base h₀ L m news s Q E B F X N T hk hd hu hret
  have hl1 := encI_len (octs_len (k := 33) (by decide) h1)
  have hl2 := encI_len (octs_len (k := 33) (by decide) h3)
  replace h1 := pow33 h1
  replace h3 := pow33 h3
  k_with "ENC" => assumption
  walk_at "call ref"
  k_steps
  (try dsimp only at hret); (first | refine retI (Q := Q) hret ?_ (by k_asm) (by k_asm) (by intro p0 hp0; repeat first | exact hp0 | refine List.mem_cons_of_mem _ ?_) | refine retY (Q := Q) hret ?_ (by k_asm) (by k_asm) (by intro p0 hp0; repeat first | exact hp0 | refine List.mem_cons_of_mem _ ?_) | refine retO (Q := Q) hret ?_ (by k_asm) (by k_asm) (by intro p0 hp0; repeat first | exact hp0 | refine List.mem_cons_of_mem _ ?_))
  simp only [sigB, List.cons_append, List.nil_append, List.length_append]
  congr 4
end Mine
end
section
open PySem PySem.W PyProof.Rows
namespace Mine
/-- what a call of the def at f gives back: a new tuple of two, newer than what the caller's ledger holds -/
def CtrT (w : World) (f : Addr) (D U : Nat) (vs : List Value) (kw : List (Str × Value)) (R1 R2 : Tok → Value) : Prop :=
  ∀ (p : Program) (loose : List Str) (mean : ExcName → Option Value) (mg mb : Str → Option Value) (dp un : Nat) (gd : Option (List Code)) (cn : Str) (cs : Scope) (a : Addr) (ccd : Value) (cl : List (Str × Addr)) (outer : List Env) (A₀ : Around) (base h₀ : Heap) (L : Addr) (m : Str → Option Value) (news : List (Addr × Obj)) (s : Shared) (Q E : Value → Shared → Prop),
    Below A₀ base outer h₀ → Fr h₀ L s.heap m → Frag.In (Mine.hd.heap_39 (World.params w)) h₀ → News h₀ L s.heap news → Top p loose mean mg mb h₀ → cs.kind = .function →
    dp + D < recursionLimit → un + U < cLine →
    (∀ (d : Addr) (t u : Tok) (c : Nat) (h' : Heap) (tk' : Nat), Fr h₀ L h' m → News h₀ L h' ((d, ({ cls := .type "tuple", data := .seq #[R1 t, R2 u] c } : Obj)) :: news) → (∀ p ∈ news, p.1 < d) → Q (.ref d) { s with heap := h', toks := tk' }) →
    wpAny (model (RowW.prog (OpenRow.toRowW (OpenLaw.row PySem.Challenge.rw_fw0035_01))) w) (ktrTop dp un gd cn cs L a ccd cl outer) (call (.ref f) vs kw) Q E s
theorem CtrT.use {w : World} {f : Addr} {D U : Nat} {vs : List Value} {kw : List (Str × Value)} {R1 R2 : Tok → Value} {p : Program} {loose : List Str} {mean : ExcName → Option Value} {mg mb : Str → Option Value} {dp un : Nat} {gd : Option (List Code)} {cn : Str} {cs : Scope} {a : Addr} {ccd : Value} {cl : List (Str × Addr)} {outer : List Env} {A₀ : Around} {base h₀ : Heap} {L : Addr} {m : Str → Option Value} {news : List (Addr × Obj)} {s : Shared} {Q E : Value → Shared → Prop}
    (C : CtrT w f D U vs kw R1 R2) (B : Below A₀ base outer h₀) (F : Fr h₀ L s.heap m) (X : Frag.In (Mine.hd.heap_39 (World.params w)) h₀) (N : News h₀ L s.heap news) (T : Top p loose mean mg mb h₀) (hk : cs.kind = .function)
    (hd : dp + D < recursionLimit) (hu : un + U < cLine) (hret : ∀ (d : Addr) (t u : Tok) (c : Nat) (h' : Heap) (tk' : Nat), Fr h₀ L h' m → News h₀ L h' ((d, ({ cls := .type "tuple", data := .seq #[R1 t, R2 u] c } : Obj)) :: news) → (∀ p ∈ news, p.1 < d) → Q (.ref d) { s with heap := h', toks := tk' }) :
    wpAny (model (RowW.prog (OpenRow.toRowW (OpenLaw.row PySem.Challenge.rw_fw0035_01))) w) (ktrTop dp un gd cn cs L a ccd cl outer) (call (.ref f) vs kw) Q E s :=
  C _ _ _ _ _ _ _ _ _ _ _ _ _ _ _ _ _ _ _ _ _ _ _ B F X N T hk hd hu hret
section
variable {h₀ h' : Heap} {L : Addr} {m : Str → Option Value} {news news' : List (Addr × Obj)} {s : Shared} {Q : Value → Shared → Prop} {t u : Tok} {tk' c : Nat} {d : Addr}
theorem retT {R1 R2 : Tok → Value} (hret : ∀ (d : Addr) (t u : Tok) (c : Nat) (h' : Heap) (tk' : Nat), Fr h₀ L h' m → News h₀ L h' ((d, ({ cls := .type "tuple", data := .seq #[R1 t, R2 u] c } : Obj)) :: news) → (∀ p ∈ news, p.1 < d) → Q (.ref d) { s with heap := h', toks := tk' })
    {v1 v2 : Value} (F : Fr h₀ L h' m) (N : News h₀ L h' news') (hm : (d, ({ cls := .type "tuple", data := .seq #[v1, v2] c } : Obj)) ∈ news') (hs : ∀ p ∈ news, p ∈ news') (hl : ∀ p ∈ news, p.1 < d)
    (e1 : v1 = R1 t) (e2 : v2 = R2 u) : Q (.ref d) { s with heap := h', toks := tk' } := by
  subst e1
  subst e2
  exact hret d t u c h' tk' F (fun p hp => by
    rcases List.mem_cons.mp hp with rfl | hp
    · exact N _ hm
    · exact N _ (hs p hp)) hl
theorem lt0 {d : Addr} : ∀ {news : List (Addr × Obj)}, AllLt d news → ∀ p ∈ news, p.1 < d
  | [], _, _, hp => nomatch hp
  | q :: _, h, p, hp => by
    rcases List.mem_cons.mp hp with rfl | hp
    · exact h.1
    · exact lt0 h.2 p hp
theorem lt1 {d : Addr} {P : Prop} {news : List (Addr × Obj)} (h : P ∧ AllLt d news) : ∀ p ∈ news, p.1 < d := lt0 h.2
theorem lt2 {d : Addr} {P P2 : Prop} {news : List (Addr × Obj)} (h : P ∧ P2 ∧ AllLt d news) : ∀ p ∈ news, p.1 < d := lt0 h.2.2
theorem lt3 {d : Addr} {P P2 P3 : Prop} {news : List (Addr × Obj)} (h : P ∧ P2 ∧ P3 ∧ AllLt d news) : ∀ p ∈ news, p.1 < d := lt0 h.2.2.2
theorem lt4 {d : Addr} {P P2 P3 P4 : Prop} {news : List (Addr × Obj)} (h : P ∧ P2 ∧ P3 ∧ P4 ∧ AllLt d news) : ∀ p ∈ news, p.1 < d := lt0 h.2.2.2.2
theorem lt5 {d : Addr} {P P2 P3 P4 P5 : Prop} {news : List (Addr × Obj)} (h : P ∧ P2 ∧ P3 ∧ P4 ∧ P5 ∧ AllLt d news) : ∀ p ∈ news, p.1 < d := lt0 h.2.2.2.2.2
theorem eqI {x y : Int} {t : Tok} (e : x = y) : Value.int x t = Value.int y t := by rw [e]
theorem eqY {x y : List UInt8} {t : Tok} (e : x = y) : Value.bytes x.toArray t = Value.bytes y.toArray t := by rw [e]
end
theorem band128 {x : Nat} (h : x < 128) : Nat.land x 128 = 0 := by
  revert x
  decide +kernel
theorem band127 {x : Nat} (h : x < 128) : Nat.land x 127 = x := by
  revert x
  decide +kernel
end Mine
end
section
open PySem PySem.W PyProof.Rows
namespace Mine
/-! slices that are known by what stands around them -/
theorem clip_pos {n a : Nat} : clipAt n (a : Int) = min a n := by
  unfold clipAt
  split <;> omega
theorem clip_neg1 {n : Nat} : clipAt n (-1) = n - 1 := by
  unfold clipAt
  split <;> omega
theorem cut_mid {p l r : List UInt8} {a b : Int} (ha : a = p.length) (hb : b = p.length + l.length) : cut (p ++ l ++ r) (some a) (some b) = l := by
  subst ha
  obtain rfl : b = ((p.length + l.length : Nat) : Int) := by omega
  simp only [cut, Option.elim, clip_pos, List.length_append]
  rw [show min p.length (p.length + l.length + r.length) = p.length by omega, show min (p.length + l.length) (p.length + l.length + r.length) - p.length = l.length by omega, List.append_assoc, List.drop_left, List.take_left]
theorem cut_back {p r : List UInt8} {a : Int} (ha : a = p.length) : cut (p ++ r) (some a) none = r := by
  subst ha
  simp only [cut, Option.elim, clip_pos, List.length_append]
  rw [show min p.length (p.length + r.length) = p.length by omega, List.drop_left]
  exact List.take_of_length_le (by omega)
theorem cut_mid0 {p l : List UInt8} {a b : Int} (ha : a = p.length) (hb : b = p.length + l.length) : cut (p ++ l) (some a) (some b) = l := by
  have := cut_mid (p := p) (l := l) (r := []) ha hb
  rwa [List.append_nil] at this
theorem cut_all {l : List UInt8} {a : Int} (ha : a = l.length) : cut l (some a) none = [] := by
  have := cut_back (p := l) (r := []) ha
  rwa [List.append_nil] at this
theorem cut_front {p r : List UInt8} {a : Int} (ha : a = p.length) : cut (p ++ r) none (some a) = p := by
  subst ha
  simp only [cut, Option.elim, clip_pos, List.length_append, List.drop_zero, Nat.sub_zero]
  rw [show min p.length (p.length + r.length) = p.length by omega, List.take_left]
theorem cut_front' {l : List UInt8} {k : Nat} {a : Int} (ha : a = k) : cut l none (some a) = l.take k := by
  subst ha
  simp only [cut, Option.elim, clip_pos, List.drop_zero, Nat.sub_zero]
  by_cases h : k ≤ l.length
  · rw [Nat.min_eq_left h]
  · rw [Nat.min_eq_right (by omega), List.take_of_length_le (by omega), List.take_of_length_le (by omega)]
theorem cut_back' {l : List UInt8} {k : Nat} {a : Int} (ha : a = k) : cut l (some a) none = l.drop k := by
  subst ha
  simp only [cut, Option.elim, clip_pos]
  by_cases h : k ≤ l.length
  · rw [Nat.min_eq_left h]
    exact List.take_of_length_le (by simp only [List.length_drop]; omega)
  · rw [Nat.min_eq_right (by omega), List.drop_of_length_le (by omega), List.drop_of_length_le (by omega)]
    simp
theorem cut_head {x : UInt8} {l : List UInt8} : cut (x :: l) none (some 1) = [x] := cut_front (p := [x]) (r := l) (by simp)
theorem cut_tail {x : UInt8} {l : List UInt8} : cut (x :: l) (some 1) none = l := cut_back (p := [x]) (r := l) (by simp)
theorem cut_init {l : List UInt8} {x : UInt8} : cut (l ++ [x]) none (some (-1)) = l := by
  simp only [cut, Option.elim, clip_neg1, List.length_append, List.length_cons, List.length_nil, List.drop_zero, Nat.sub_zero]
  rw [show l.length + (0 + 1) - 1 = l.length by omega, List.take_left]
theorem cut_last {l : List UInt8} {x : UInt8} : cut (l ++ [x]) (some (-1)) none = [x] := by
  simp only [cut, Option.elim, clip_neg1, List.length_append, List.length_cons, List.length_nil]
  rw [show l.length + (0 + 1) - 1 = l.length by omega, List.drop_left]
  exact List.take_of_length_le (by simp)
theorem band_n (x y : Nat) : Builtin.bitAnd (x : Int) (y : Int) = ((x &&& y : Nat) : Int) := by
  unfold Builtin.bitAnd
  simp
theorem band_hi {x : Nat} (h : x < 128) : Builtin.bitAnd (x : Int) 128 = 0 := by
  rw [show (128 : Int) = ((128 : Nat) : Int) from rfl, band_n]
  exact congrArg _ (band128 h)
theorem band_lo {x : Nat} (h : x < 128) : Builtin.bitAnd (x : Int) 127 = (x : Int) := by
  rw [show (127 : Int) = ((127 : Nat) : Int) from rfl, band_n]
  exact congrArg _ (band127 h)
section
variable {prog : Program} {w : World} {A : Around} {E : Value → Shared → Prop} {s : Shared} {l r : List UInt8} {t u : Tok} {i : Int} {value slice : PySem.Expr} {h₀ : Heap} {L : Addr} {m : PySem.Str → Option Value} {news : List (Addr × Obj)} {lo hi : Option Int}
theorem r_cut {a b : Value} {l' : List UInt8} {Q : Value → Shared → Prop} (hF : Fr h₀ L s.heap m) (hN : News h₀ L s.heap news) (hl : IsPart a lo) (hu : IsPart b hi) (hz : l.length ≤ 1048576) (hc : cut l lo hi = l')
    (h : ∀ h' t' k, Fr h₀ L h' m → News h₀ L h' news → Q (.bytes l'.toArray t') { s with heap := h', toks := k })
    (hs : subscripted slice false (.bytes l.toArray t) (.ref s.heap.objs.size) = operate [.ref s.heap.objs.size, .bytes l.toArray t] (getItem (.bytes l.toArray t) (.ref s.heap.objs.size)) := by with_unfolding_all rfl)
    (ht : ∀ r, letTemporaryGo value (.bytes l.toArray t) r = pure () := by intro _; with_unfolding_all rfl) :
    wpAny (model prog w) A (subscriptTail value slice (.bytes l.toArray t) (.ref s.heap.objs.size)) Q E { s with heap := s.heap.push { cls := .type "slice", data := .fields #[a, b, .none] } } := by
  subst hc
  exact r_slice hF hN hl hu hz h hs ht
theorem r_band {a b z : Int} {Q : Value → Shared → Prop} (hc : Builtin.bitAnd a b = z) (h : ∀ t' k, Q (.int z t') { s with toks := k }) : wpAny (model prog w) A (binaryOp .BitAnd (.int a t) (.int b u)) Q E s := by
  subst hc
  exact and_int (h _ _)
theorem r_lenE {n : Nat} {Q : Value → Shared → Prop} (hc : l.length = n) (hfit : n ≤ 1048576) (h : ∀ t' k, Q (.int (n : Nat) t') { s with toks := k }) :
    wpAny (model prog w) A (call (.builtin "len") [.bytes l.toArray t]) Q E s := by
  subst hc
  exact r_len hfit h
theorem r_sw {b : Bool} {c : UInt8} {Q : Value → Shared → Prop} (hc : (l.head? == some c) = b) (h : Q (.bool b) s) : wpAny (model prog w) A (call (.builtin "bytes.startswith") [.bytes l.toArray t, .bytes #[c] u]) Q E s := by
  subst hc
  exact r_startswith h
end
end Mine
end
section
open PySem PySem.W PyProof.Rows
set_option pp.fieldNotation false
namespace Mine
theorem put_back_C5 : True := by
  w_top off
  k_with_none
  trivial
local macro_rules | `(tactic| walk_at "call ref") => `(tactic| (k_here; k_dflt (refine wpAny_call ?_; (refine' code_def ?k1 ?k2 ?k3 ?k4 ?k5 ?kA ?kF ?kK ?k6 ?k7 ?k8 ?k9 ?kB ?_ ?c2 ?c3 ?c4 ?c5; (case kA => exact rfl); (case kF => exact rfl); (case kK => first | exact rfl | assumption); (case k1 => k_asm); (case k2 => k_asm); (case k3 => k_asm); (case k4 => k_asm); (case k5 => k_asm); (case k6 => k_is); (case k7 => k_is); (case k8 => ktr_room); (case k9 => first | exact BindsTo.of_eq rfl | exact binds_K (by k_in) rfl (by k_is) rfl rfl rfl); (case c5 => decide); (case kB => exact locs rfl); (case c2 => exact rfl); (case c3 => exact rfl); (case c4 => exact rfl); k_whole; intro g' L' h' FG' F' N' B' X' T'; (try dsimp only); (try k_lift B'); (try k_fold)))))
local macro_rules | `(tactic| walk_at "call builtin:len") => `(tactic| (k_here; (with_reducible show wpAny _ _ (call (Value.builtin _) [Value.bytes (List.toArray _) _]) _ _ _); (refine r_len (by (try simp only [List.length_append, List.length_take, List.length_drop, List.length_cons, List.length_nil, List.length_map, List.length_replicate]); omega) ?_); intro _ _; (try dsimp only)))
local macro_rules | `(tactic| walk_at "truthy bytes") => `(tactic| (k_here; (with_reducible show wpAny _ _ (truthy (Value.bytes (List.toArray _) _)) _ _ _); (refine r_truthy (by (try simp only [List.length_append, List.length_take, List.length_drop, List.length_cons, List.length_nil, List.length_map, List.length_replicate]); omega) ?_); intro _; (try dsimp only)))
local macro_rules | `(tactic| walk_at "subscriptTail") => `(tactic| (k_here; (with_reducible show wpAny _ _ (subscriptTail _ _ (Value.bytes (List.toArray _) _) (Value.int _ _)) _ _ _); (refine r_item (by (try simp only [List.length_append, List.length_take, List.length_drop, List.length_cons, List.length_nil, List.length_map, List.length_replicate]); omega) (by (try simp only [List.length_append, List.length_take, List.length_drop, List.length_cons, List.length_nil, List.length_map, List.length_replicate]); omega) (by (try simp only [List.length_append, List.length_take, List.length_drop, List.length_cons, List.length_nil, List.length_map, List.length_replicate]); omega) ?_); intro _ _; (try dsimp only)))
local macro_rules | `(tactic| walk_at "subscriptTail") => `(tactic| (k_here; (with_reducible show wpAny _ _ (subscriptTail _ _ (Value.bytes (List.toArray _) _) (Value.int (-1) _)) _ _ _); (refine r_itemR (by (try simp only [List.length_append, List.length_take, List.length_drop, List.length_cons, List.length_nil, List.length_map, List.length_replicate]); omega) (by (try simp only [List.length_append, List.length_take, List.length_drop, List.length_cons, List.length_nil, List.length_map, List.length_replicate]); omega) (by decide) ?_); intro _ _; (try dsimp only)))
local macro_rules | `(tactic| walk_at "subscriptTail") => `(tactic| (k_here; (with_reducible show wpAny _ _ (subscriptTail _ (Expr.Slice _ _ none _) (Value.bytes (List.toArray _) _) (Value.ref _)) _ _ _); (with_reducible rename Fr _ _ _ _ => F'); (with_reducible rename News _ _ _ _ => N'); (refine r_slice (s := ⟨_, _, _, _, _⟩) F' N' (by constructor) (by constructor) (by (try simp only [List.length_append, List.length_take, List.length_drop, List.length_cons, List.length_nil, List.length_map, List.length_replicate]); omega) ?_); intro _ _ _ F' N'; (try dsimp only); (try k_sweep)))
local macro_rules | `(tactic| walk_at "binaryOp Add bytes bytes") => `(tactic| (k_here; (with_reducible show wpAny _ _ (binaryOp Operator.Add (Value.bytes (List.toArray _) _) (Value.bytes (List.toArray _) _)) _ _ _); (refine r_add (by (try simp only [List.length_append, List.length_take, List.length_drop, List.length_cons, List.length_nil, List.length_map, List.length_replicate]); omega) ?_); intro _ _; (try dsimp only)))
local macro_rules | `(tactic| walk_at "compareOp Eq bytes bytes") => `(tactic| (k_here; (with_reducible show wpAny _ _ (compareOp CmpOp.Eq (Value.bytes (List.toArray _) _) (Value.bytes (List.toArray _) _)) _ _ _); (refine r_eq ?_); (try dsimp only)))
local macro_rules | `(tactic| walk_at "compareOp NotEq bytes bytes") => `(tactic| (k_here; (with_reducible show wpAny _ _ (compareOp CmpOp.NotEq (Value.bytes (List.toArray _) _) (Value.bytes (List.toArray _) _)) _ _ _); (refine r_ne ?_); (try dsimp only)))
local macro_rules | `(tactic| walk_at "call type:type") => `(tactic| (k_here; (with_reducible show wpAny _ _ (call (Value.type "type") [Value.bytes _ _]) _ _ _); (refine call_type_of (Tx := "bytes") (typeIs_bytes _ _ _) (by decide +kernel) ?_)))
local macro_rules | `(tactic| walk_at "call type:type") => `(tactic| (k_here; (with_reducible show wpAny _ _ (call (Value.type "type") [Value.int _ _]) _ _ _); (refine call_type_of (Tx := "int") (typeIs_int _ _ _) (by decide +kernel) ?_)))
local macro_rules | `(tactic| walk_at "compareOp Is") => `(tactic| (k_here; (with_reducible show wpAny _ _ (compareOp CmpOp.Is (Value.type _) (Value.type _)) _ _ _); first | refine wpAny_is_self (by rfl) ?_ | refine wpAny_is_other (by rfl) (by decide) ?_))
local macro_rules | `(tactic| walk_at "compareOp IsNot") => `(tactic| (k_here; (with_reducible show wpAny _ _ (compareOp CmpOp.IsNot (Value.type _) (Value.type _)) _ _ _); first | refine wpAny_isNot_self (by rfl) ?_ | refine wpAny_isNot_other (by rfl) (by decide) ?_))
local macro_rules | `(tactic| k_all) => `(tactic| first | exact ne_of_ltAll (by assumption) | exact ne_of_allLt (by assumption))
local macro_rules | `(tactic| walk_at "call builtin:list.append") => `(tactic| (k_here; (with_reducible show wpAny _ _ (call (Value.builtin _) [Value.ref _, _]) _ _ _); k_dflt (refine' append_K ?k1 ?k2 ?k3 ?_ ?z; (case k1 => k_asm); (case k2 => k_asm); (case k3 => k_upd); (case z => ((try simp only [List.size_toArray, List.length_append, List.length_cons, List.length_nil]); rw [sizeLine_eq]; omega)); k_whole); intro h' F' N'; (try k_sweep)))
local macro_rules | `(tactic| walk_at "call builtin:_struct.pack") => `(tactic| (k_here; (refine r_pack (by omega) (by omega) ?_); intro _ _; (try dsimp only)))
local macro_rules | `(tactic| walk_at "call builtin:bytes.hex") => `(tactic| (k_here; (refine r_hex (by (try simp only [List.length_append, List.length_take, List.length_drop, List.length_cons, List.length_nil, List.length_map, List.length_replicate]); omega) ?_); intro _ _; (try dsimp only)))
local macro_rules | `(tactic| walk_at "call builtin:ord") => `(tactic| (k_here; (with_reducible show wpAny _ _ (call (Value.builtin _) [Value.bytes _ _]) _ _ _); (refine r_ord (by k_extra "ord") ?_); intro _ _; (try dsimp only)))
local macro_rules | `(tactic| walk_at "call builtin:bytes.startswith") => `(tactic| (k_here; (with_reducible show wpAny _ _ (call (Value.builtin _) [Value.bytes (List.toArray _) _, Value.bytes _ _]) _ _ _); (refine r_startswith ?_); (try dsimp only)))
local macro_rules | `(tactic| walk_at "getMethod bytes") => `(tactic| (k_here; (with_reducible first | refine m_hex ?_ | refine m_startswith ?_ | refine m_join ?_)))
local macro_rules | `(tactic| walk_at "getMethod str") => `(tactic| (k_here; (with_reducible refine m_encode ?_)))
local macro_rules | `(tactic| walk_at "call builtin:bytes.join") => `(tactic| (k_here; (with_reducible show wpAny _ _ (call (Value.builtin _) [Value.bytes _ _, Value.ref _]) _ _ _); (refine' r_join (o := ?o) ?hT (News.get ?N ?hm) ?hc ?hd ?hz ?_; (case N => k_asm); (case hm => k_mem); (case hc => exact rfl); (case hT => first | exact Or.inl rfl | exact Or.inr rfl); (case hd => exact rfl); (case hz => exact (by (try simp only [List.length_append, List.length_take, List.length_drop, List.length_cons, List.length_nil, List.length_map, List.length_replicate]); omega))); intro _ _; (try dsimp only)))
local macro_rules | `(tactic| walk_at "subscriptTail") => `(tactic| (k_here; (with_reducible show wpAny _ _ (subscriptTail _ (Expr.Slice _ _ none _) (Value.bytes (List.toArray _) _) (Value.ref _)) _ _ _); (with_reducible rename Fr _ _ _ _ => F'); (with_reducible rename News _ _ _ _ => N'); (refine' r_cut (s := ⟨_, _, _, _, _⟩) F' N' ?ha ?hb ?hz ?hc ?_; (case ha => constructor); (case hb => constructor); (case hz => exact (by (try simp only [List.length_append, List.length_take, List.length_drop, List.length_cons, List.length_nil, List.length_map, List.length_replicate]); omega)); (case hc => k_dflt (k_extra "cut"))); intro _ _ _ F' N'; (try dsimp only); (try k_sweep)))
local macro_rules | `(tactic| walk_at "binaryOp BitAnd int int") => `(tactic| (k_here; (refine' r_band ?hc ?_; (case hc => k_dflt (k_extra "band"))); intro _ _; (try dsimp only)))
local macro_rules | `(tactic| walk_at "call type:int") => `(tactic| (k_here; (with_reducible show wpAny _ _ (call (Value.type "int") [Value.bytes (List.toArray (List.map _ (hexOfB _))) _, Value.int 16 _]) _ _ _); (refine' r_int16 ?hn ?hl ?_; (case hn => k_extra "rowne"); (case hl => k_extra "rowlen")); intro _ _; (try dsimp only)))
local macro_rules | `(tactic| walk_at "call builtin:bytes.startswith") => `(tactic| (k_here; (with_reducible show wpAny _ _ (call (Value.builtin _) [Value.bytes (List.toArray _) _, Value.bytes _ _]) _ _ _); (first | refine r_sw (b := true) (by k_dflt (exact rfl)) ?_ | refine r_sw (b := false) (by k_dflt (exact rfl)) ?_); (try dsimp only)))
local macro_rules | `(tactic| walk_at "call builtin:len") => `(tactic| (k_here; (with_reducible show wpAny _ _ (call (Value.builtin _) [Value.bytes (List.toArray _) _]) _ _ _); (refine' r_lenE (n := ?n) ?hc ?hf ?_; (case hc => ((try simp only [List.length_append, List.length_take, List.length_drop, List.length_cons, List.length_nil, List.length_map, List.length_replicate]); exact rfl)); (case hf => omega)); intro _ _; (try dsimp only)))
local macro_rules | `(tactic| walk_at "call type:bytes") => `(tactic| (k_here; (with_reducible show wpAny _ _ (call (Value.type "bytes") [Value.ref _]) _ _ _); k_dflt (refine' r_bytesL ?F ?N ?l ?i ?n ?z ?h ?_; (case F => k_asm); (case N => k_asm); (case l => is_list); (case i => l_ints); (case n => first | k_extra "NS" | exact rfl | exact ns_one (by omega) (by omega) | exact ns_one (by (simp only [List.length_append, List.length_cons, List.length_nil]); omega) (by (simp only [List.length_append, List.length_cons, List.length_nil]); omega)); (case z => first | (simp only [List.length_cons, List.length_nil]; omega) | k_extra "NSz"); (case h => rfl); k_whole; intro h' t' k' F' N'; (try k_sweep))))
/-! read_length, at a short length -/
set_option maxRecDepth 100000 in
set_option maxHeartbeats 8000000 in
theorem c_rl (w : World) {x : UInt8} {l : List UInt8} {t : Tok} (h : x.toNat < 128) (hl : l.length ≤ 300) : CtrT w 181 2 30 [.bytes (x :: l).toArray t] [] (fun t => .int x.toNat t) (fun t => .int 1 t) := by
  unfold CtrT
  k_fill
  intro p loose mean mg mb dp un gd cnm csc aa ccd cl outer A₀ base h₀ L m news s Q E B F X N T hk hd hu hret
  k_with "cut" => exact cut_head
  k_with "band" => first | exact band_hi h | exact band_lo h
  k_with "ord" => exact rfl
  walk_at "call ref"
  k_steps
  (try dsimp only at hret); (first | refine' retT (Q := Q) hret (by k_asm) (by k_asm) (by k_mem) (by intro p0 hp0; repeat first | exact hp0 | refine List.mem_cons_of_mem _ ?_) (by first | assumption | exact lt0 (by assumption) | exact lt1 (by assumption) | exact lt2 (by assumption) | exact lt3 (by assumption) | exact lt4 (by assumption) | exact lt5 (by assumption)) (eqI ?_) (eqI ?_) | refine' retT (Q := Q) hret (by k_asm) (by k_asm) (by k_mem) (by intro p0 hp0; repeat first | exact hp0 | refine List.mem_cons_of_mem _ ?_) (by first | assumption | exact lt0 (by assumption) | exact lt1 (by assumption) | exact lt2 (by assumption) | exact lt3 (by assumption) | exact lt4 (by assumption) | exact lt5 (by assumption)) (eqI ?_) (eqY ?_) | refine' retT (Q := Q) hret (by k_asm) (by k_asm) (by k_mem) (by intro p0 hp0; repeat first | exact hp0 | refine List.mem_cons_of_mem _ ?_) (by first | assumption | exact lt0 (by assumption) | exact lt1 (by assumption) | exact lt2 (by assumption) | exact lt3 (by assumption) | exact lt4 (by assumption) | exact lt5 (by assumption)) (eqY ?_) (eqY ?_))
  all_goals exact rfl
end Mine
end
section
open PySem PySem.W PyProof.Rows
set_option pp.fieldNotation false
namespace Mine
local macro_rules | `(tactic| walk_at "my spare 0") => `(tactic| fail "none")
theorem put_back_C6 : True := by
  w_top off
  k_with_none
  trivial
local macro_rules | `(tactic| walk_at "call ref") => `(tactic| (k_here; k_dflt (refine wpAny_call ?_; (refine' code_def ?k1 ?k2 ?k3 ?k4 ?k5 ?kA ?kF ?kK ?k6 ?k7 ?k8 ?k9 ?kB ?_ ?c2 ?c3 ?c4 ?c5; (case kA => exact rfl); (case kF => exact rfl); (case kK => first | exact rfl | assumption); (case k1 => k_asm); (case k2 => k_asm); (case k3 => k_asm); (case k4 => k_asm); (case k5 => k_asm); (case k6 => k_is); (case k7 => k_is); (case k8 => ktr_room); (case k9 => first | exact BindsTo.of_eq rfl | exact binds_K (by k_in) rfl (by k_is) rfl rfl rfl); (case c5 => decide); (case kB => exact locs rfl); (case c2 => exact rfl); (case c3 => exact rfl); (case c4 => exact rfl); k_whole; intro g' L' h' FG' F' N' B' X' T'; (try dsimp only); (try k_lift B'); (try k_fold)))))
local macro_rules | `(tactic| walk_at "call builtin:len") => `(tactic| (k_here; (with_reducible show wpAny _ _ (call (Value.builtin _) [Value.bytes (List.toArray _) _]) _ _ _); (refine r_len (by (try simp only [List.length_append, List.length_take, List.length_drop, List.length_cons, List.length_nil, List.length_map, List.length_replicate]); omega) ?_); intro _ _; (try dsimp only)))
local macro_rules | `(tactic| walk_at "truthy bytes") => `(tactic| (k_here; (with_reducible show wpAny _ _ (truthy (Value.bytes (List.toArray _) _)) _ _ _); (refine r_truthy (by (try simp only [List.length_append, List.length_take, List.length_drop, List.length_cons, List.length_nil, List.length_map, List.length_replicate]); omega) ?_); intro _; (try dsimp only)))
local macro_rules | `(tactic| walk_at "subscriptTail") => `(tactic| (k_here; (with_reducible show wpAny _ _ (subscriptTail _ _ (Value.bytes (List.toArray _) _) (Value.int _ _)) _ _ _); (refine r_item (by (try simp only [List.length_append, List.length_take, List.length_drop, List.length_cons, List.length_nil, List.length_map, List.length_replicate]); omega) (by (try simp only [List.length_append, List.length_take, List.length_drop, List.length_cons, List.length_nil, List.length_map, List.length_replicate]); omega) (by (try simp only [List.length_append, List.length_take, List.length_drop, List.length_cons, List.length_nil, List.length_map, List.length_replicate]); omega) ?_); intro _ _; (try dsimp only)))
local macro_rules | `(tactic| walk_at "subscriptTail") => `(tactic| (k_here; (with_reducible show wpAny _ _ (subscriptTail _ _ (Value.bytes (List.toArray _) _) (Value.int (-1) _)) _ _ _); (refine r_itemR (by (try simp only [List.length_append, List.length_take, List.length_drop, List.length_cons, List.length_nil, List.length_map, List.length_replicate]); omega) (by (try simp only [List.length_append, List.length_take, List.length_drop, List.length_cons, List.length_nil, List.length_map, List.length_replicate]); omega) (by decide) ?_); intro _ _; (try dsimp only)))
local macro_rules | `(tactic| walk_at "subscriptTail") => `(tactic| (k_here; (with_reducible show wpAny _ _ (subscriptTail _ (Expr.Slice _ _ none _) (Value.bytes (List.toArray _) _) (Value.ref _)) _ _ _); (with_reducible rename Fr _ _ _ _ => F'); (with_reducible rename News _ _ _ _ => N'); (refine r_slice (s := ⟨_, _, _, _, _⟩) F' N' (by constructor) (by constructor) (by (try simp only [List.length_append, List.length_take, List.length_drop, List.length_cons, List.length_nil, List.length_map, List.length_replicate]); omega) ?_); intro _ _ _ F' N'; (try dsimp only); (try k_sweep)))
local macro_rules | `(tactic| walk_at "binaryOp Add bytes bytes") => `(tactic| (k_here; (with_reducible show wpAny _ _ (binaryOp Operator.Add (Value.bytes (List.toArray _) _) (Value.bytes (List.toArray _) _)) _ _ _); (refine r_add (by (try simp only [List.length_append, List.length_take, List.length_drop, List.length_cons, List.length_nil, List.length_map, List.length_replicate]); omega) ?_); intro _ _; (try dsimp only)))
local macro_rules | `(tactic| walk_at "compareOp Eq bytes bytes") => `(tactic| (k_here; (with_reducible show wpAny _ _ (compareOp CmpOp.Eq (Value.bytes (List.toArray _) _) (Value.bytes (List.toArray _) _)) _ _ _); (refine r_eq ?_); (try dsimp only)))
local macro_rules | `(tactic| walk_at "compareOp NotEq bytes bytes") => `(tactic| (k_here; (with_reducible show wpAny _ _ (compareOp CmpOp.NotEq (Value.bytes (List.toArray _) _) (Value.bytes (List.toArray _) _)) _ _ _); (refine r_ne ?_); (try dsimp only)))
local macro_rules | `(tactic| walk_at "call type:type") => `(tactic| (k_here; (with_reducible show wpAny _ _ (call (Value.type "type") [Value.bytes _ _]) _ _ _); (refine call_type_of (Tx := "bytes") (typeIs_bytes _ _ _) (by decide +kernel) ?_)))
local macro_rules | `(tactic| walk_at "call type:type") => `(tactic| (k_here; (with_reducible show wpAny _ _ (call (Value.type "type") [Value.int _ _]) _ _ _); (refine call_type_of (Tx := "int") (typeIs_int _ _ _) (by decide +kernel) ?_)))
local macro_rules | `(tactic| walk_at "compareOp Is") => `(tactic| (k_here; (with_reducible show wpAny _ _ (compareOp CmpOp.Is (Value.type _) (Value.type _)) _ _ _); first | refine wpAny_is_self (by rfl) ?_ | refine wpAny_is_other (by rfl) (by decide) ?_))
local macro_rules | `(tactic| walk_at "compareOp IsNot") => `(tactic| (k_here; (with_reducible show wpAny _ _ (compareOp CmpOp.IsNot (Value.type _) (Value.type _)) _ _ _); first | refine wpAny_isNot_self (by rfl) ?_ | refine wpAny_isNot_other (by rfl) (by decide) ?_))
local macro_rules | `(tactic| k_all) => `(tactic| first | exact ne_of_ltAll (by assumption) | exact ne_of_allLt (by assumption))
local macro_rules | `(tactic| walk_at "call builtin:list.append") => `(tactic| (k_here; (with_reducible show wpAny _ _ (call (Value.builtin _) [Value.ref _, _]) _ _ _); k_dflt (refine' append_K ?k1 ?k2 ?k3 ?_ ?z; (case k1 => k_asm); (case k2 => k_asm); (case k3 => k_upd); (case z => ((try simp only [List.size_toArray, List.length_append, List.length_cons, List.length_nil]); rw [sizeLine_eq]; omega)); k_whole); intro h' F' N'; (try k_sweep)))
local macro_rules | `(tactic| walk_at "call builtin:_struct.pack") => `(tactic| (k_here; (refine r_pack (by omega) (by omega) ?_); intro _ _; (try dsimp only)))
local macro_rules | `(tactic| walk_at "call builtin:bytes.hex") => `(tactic| (k_here; (refine r_hex (by (try simp only [List.length_append, List.length_take, List.length_drop, List.length_cons, List.length_nil, List.length_map, List.length_replicate]); omega) ?_); intro _ _; (try dsimp only)))
local macro_rules | `(tactic| walk_at "call builtin:ord") => `(tactic| (k_here; (with_reducible show wpAny _ _ (call (Value.builtin _) [Value.bytes _ _]) _ _ _); (refine r_ord (by k_extra "ord") ?_); intro _ _; (try dsimp only)))
local macro_rules | `(tactic| walk_at "call builtin:bytes.startswith") => `(tactic| (k_here; (with_reducible show wpAny _ _ (call (Value.builtin _) [Value.bytes (List.toArray _) _, Value.bytes _ _]) _ _ _); (refine r_startswith ?_); (try dsimp only)))
local macro_rules | `(tactic| walk_at "getMethod bytes") => `(tactic| (k_here; (with_reducible first | refine m_hex ?_ | refine m_startswith ?_ | refine m_join ?_)))
local macro_rules | `(tactic| walk_at "getMethod str") => `(tactic| (k_here; (with_reducible refine m_encode ?_)))
local macro_rules | `(tactic| walk_at "call builtin:bytes.join") => `(tactic| (k_here; (with_reducible show wpAny _ _ (call (Value.builtin _) [Value.bytes _ _, Value.ref _]) _ _ _); (refine' r_join (o := ?o) ?hT (News.get ?N ?hm) ?hc ?hd ?hz ?_; (case N => k_asm); (case hm => k_mem); (case hc => exact rfl); (case hT => first | exact Or.inl rfl | exact Or.inr rfl); (case hd => exact rfl); (case hz => exact (by (try simp only [List.length_append, List.length_take, List.length_drop, List.length_cons, List.length_nil, List.length_map, List.length_replicate]); omega))); intro _ _; (try dsimp only)))
local macro_rules | `(tactic| walk_at "subscriptTail") => `(tactic| (k_here; (with_reducible show wpAny _ _ (subscriptTail _ (Expr.Slice _ _ none _) (Value.bytes (List.toArray _) _) (Value.ref _)) _ _ _); (with_reducible rename Fr _ _ _ _ => F'); (with_reducible rename News _ _ _ _ => N'); (refine' r_cut (s := ⟨_, _, _, _, _⟩) F' N' ?ha ?hb ?hz ?hc ?_; (case ha => constructor); (case hb => constructor); (case hz => exact (by (try simp only [List.length_append, List.length_take, List.length_drop, List.length_cons, List.length_nil, List.length_map, List.length_replicate]); omega)); (case hc => k_dflt (k_extra "cut"))); intro _ _ _ F' N'; (try dsimp only); (try k_sweep)))
local macro_rules | `(tactic| walk_at "binaryOp BitAnd int int") => `(tactic| (k_here; (refine' r_band ?hc ?_; (case hc => k_dflt (k_extra "band"))); intro _ _; (try dsimp only)))
local macro_rules | `(tactic| walk_at "call type:int") => `(tactic| (k_here; (with_reducible show wpAny _ _ (call (Value.type "int") [Value.bytes (List.toArray (List.map _ (hexOfB _))) _, Value.int 16 _]) _ _ _); (refine' r_int16 ?hn ?hl ?_; (case hn => k_extra "rowne"); (case hl => k_extra "rowlen")); intro _ _; (try dsimp only)))
local macro_rules | `(tactic| walk_at "call builtin:bytes.startswith") => `(tactic| (k_here; (with_reducible show wpAny _ _ (call (Value.builtin _) [Value.bytes (List.toArray _) _, Value.bytes _ _]) _ _ _); (first | refine r_sw (b := true) (by k_dflt (exact rfl)) ?_ | refine r_sw (b := false) (by k_dflt (exact rfl)) ?_); (try dsimp only)))
local macro_rules | `(tactic| walk_at "call builtin:len") => `(tactic| (k_here; (with_reducible show wpAny _ _ (call (Value.builtin _) [Value.bytes (List.toArray _) _]) _ _ _); (refine' r_lenE (n := ?n) ?hc ?hf ?_; (case hc => ((try simp only [List.length_append, List.length_take, List.length_drop, List.length_cons, List.length_nil, List.length_map, List.length_replicate]); exact rfl)); (case hf => omega)); intro _ _; (try dsimp only)))
local macro_rules | `(tactic| walk_at "call type:bytes") => `(tactic| (k_here; (with_reducible show wpAny _ _ (call (Value.type "bytes") [Value.ref _]) _ _ _); k_dflt (refine' r_bytesL ?F ?N ?l ?i ?n ?z ?h ?_; (case F => k_asm); (case N => k_asm); (case l => is_list); (case i => l_ints); (case n => first | k_extra "NS" | exact rfl | exact ns_one (by omega) (by omega) | exact ns_one (by (simp only [List.length_append, List.length_cons, List.length_nil]); omega) (by (simp only [List.length_append, List.length_cons, List.length_nil]); omega)); (case z => first | (simp only [List.length_cons, List.length_nil]; omega) | k_extra "NSz"); (case h => rfl); k_whole; intro h' t' k' F' N'; (try k_sweep))))
local macro_rules | `(tactic| walk_at "call ref") => `(tactic| (k_here; (with_reducible show wpAny _ _ (call (Value.ref 181) _) _ _ _); k_dflt (refine' CtrT.use (c_rl _ ?h ?l) ?B ?F ?X ?N ?T ?K ?D ?U ?_; (case B => k_asm); (case F => k_asm); (case X => k_asm); (case N => k_asm); (case T => k_asm); (case K => first | exact rfl | assumption); (case D => ktr_room); (case U => ktr_units)); (case h => k_extra "RL"); (case l => exact (by (try simp only [List.length_append, List.length_take, List.length_drop, List.length_cons, List.length_nil, List.length_map, List.length_replicate]); omega)); intro d9 t9 u9 c9 h9 tk9 F9 N9 l9; (try dsimp only); (try k_fold)))
local macro_rules | `(tactic| walk_at "call ref") => `(tactic| (k_here; (with_reducible show wpAny _ _ (call (Value.ref 126) _) _ _ _); k_dflt (refine' Ctr.use (c_b2a _ ?l) ?B ?F ?X ?N ?T ?K ?D ?U ?_; (case B => k_asm); (case F => k_asm); (case X => k_asm); (case N => k_asm); (case T => k_asm); (case K => first | exact rfl | assumption); (case D => ktr_room); (case U => ktr_units)); (case l => k_extra "rowlen"); intro t9 h9 tk9 F9 N9; (try dsimp only); (try k_fold)))
/-! remove_integer -/
set_option maxRecDepth 100000 in
set_option maxHeartbeats 8000000 in
theorem c_ri (w : World) {y c : UInt8} {row rest : List UInt8} {t : Tok} {b : Bool} (hy : y.toNat = row.length) (hr : row.length < 128) (hc : row.head? = some c) (hc8 : c.toNat < 128) (hl : rest.length ≤ 100) :
    CtrT w 167 4 60 [.bytes (2 :: y :: (row ++ rest)).toArray t] [(PySem.Str.ofString "use_broken_open_ssl_mechanism", .bool b)] (fun t => .int (be row) t) (fun t => .bytes rest.toArray t) := by
  obtain ⟨tl, rfl⟩ : ∃ tl, row = c :: tl := by
    cases row with
    | nil => simp at hc
    | cons x tl => simp at hc; exact ⟨tl, by rw [hc]⟩
  simp only [List.length_cons] at hy hr
  unfold CtrT
  k_fill
  intro p loose mean mg mb dp un gd cnm csc aa ccd cl outer A₀ base h₀ L m news s Q E B F X N T hk hd hu hret
  k_with "cut" => first | exact cut_tail | exact cut_head | exact cut_mid (p := [2, y]) (l := c :: tl) (r := rest) (by exact rfl) (by simp only [List.length_cons, List.length_nil]; omega) | exact cut_back (p := 2 :: y :: (c :: tl)) (r := rest) (by simp only [List.length_cons, List.length_nil]; omega)
  k_with "RL" => omega
  k_with "rowlen" => (simp only [List.length_cons]; omega)
  k_with "rowne" => exact List.cons_ne_nil _ _
  k_with "ord" => exact rfl
  walk_at "call ref"
  k_steps
  (try dsimp only at hret); (first | refine' retT (Q := Q) hret (by k_asm) (by k_asm) (by k_mem) (by intro p0 hp0; repeat first | exact hp0 | refine List.mem_cons_of_mem _ ?_) (by first | assumption | exact lt0 (by assumption) | exact lt1 (by assumption) | exact lt2 (by assumption) | exact lt3 (by assumption) | exact lt4 (by assumption) | exact lt5 (by assumption)) (eqI ?_) (eqI ?_) | refine' retT (Q := Q) hret (by k_asm) (by k_asm) (by k_mem) (by intro p0 hp0; repeat first | exact hp0 | refine List.mem_cons_of_mem _ ?_) (by first | assumption | exact lt0 (by assumption) | exact lt1 (by assumption) | exact lt2 (by assumption) | exact lt3 (by assumption) | exact lt4 (by assumption) | exact lt5 (by assumption)) (eqI ?_) (eqY ?_) | refine' retT (Q := Q) hret (by k_asm) (by k_asm) (by k_mem) (by intro p0 hp0; repeat first | exact hp0 | refine List.mem_cons_of_mem _ ?_) (by first | assumption | exact lt0 (by assumption) | exact lt1 (by assumption) | exact lt2 (by assumption) | exact lt3 (by assumption) | exact lt4 (by assumption) | exact lt5 (by assumption)) (eqY ?_) (eqY ?_))
  all_goals exact rfl
end Mine
end
section
open PySem PySem.W PyProof.Rows
set_option pp.fieldNotation false
namespace Mine
local macro_rules | `(tactic| walk_at "my spare 0") => `(tactic| fail "none")
local macro_rules | `(tactic| walk_at "my spare 1") => `(tactic| fail "none")
local macro_rules | `(tactic| walk_at "my spare 2") => `(tactic| fail "none")
local macro_rules | `(tactic| walk_at "my spare 3") => `(tactic| fail "none")
theorem put_back_C7 : True := by
  w_top off
  k_with_none
  trivial
local macro_rules | `(tactic| walk_at "call ref") => `(tactic| (k_here; k_dflt (refine wpAny_call ?_; (refine' code_def ?k1 ?k2 ?k3 ?k4 ?k5 ?kA ?kF ?kK ?k6 ?k7 ?k8 ?k9 ?kB ?_ ?c2 ?c3 ?c4 ?c5; (case kA => exact rfl); (case kF => exact rfl); (case kK => first | exact rfl | assumption); (case k1 => k_asm); (case k2 => k_asm); (case k3 => k_asm); (case k4 => k_asm); (case k5 => k_asm); (case k6 => k_is); (case k7 => k_is); (case k8 => ktr_room); (case k9 => first | exact BindsTo.of_eq rfl | exact binds_K (by k_in) rfl (by k_is) rfl rfl rfl); (case c5 => decide); (case kB => exact locs rfl); (case c2 => exact rfl); (case c3 => exact rfl); (case c4 => exact rfl); k_whole; intro g' L' h' FG' F' N' B' X' T'; (try dsimp only); (try k_lift B'); (try k_fold)))))
local macro_rules | `(tactic| walk_at "call builtin:len") => `(tactic| (k_here; (with_reducible show wpAny _ _ (call (Value.builtin _) [Value.bytes (List.toArray _) _]) _ _ _); (refine r_len (by (try simp only [List.length_append, List.length_take, List.length_drop, List.length_cons, List.length_nil, List.length_map, List.length_replicate]); omega) ?_); intro _ _; (try dsimp only)))
local macro_rules | `(tactic| walk_at "truthy bytes") => `(tactic| (k_here; (with_reducible show wpAny _ _ (truthy (Value.bytes (List.toArray _) _)) _ _ _); (refine r_truthy (by (try simp only [List.length_append, List.length_take, List.length_drop, List.length_cons, List.length_nil, List.length_map, List.length_replicate]); omega) ?_); intro _; (try dsimp only)))
local macro_rules | `(tactic| walk_at "subscriptTail") => `(tactic| (k_here; (with_reducible show wpAny _ _ (subscriptTail _ _ (Value.bytes (List.toArray _) _) (Value.int _ _)) _ _ _); (refine r_item (by (try simp only [List.length_append, List.length_take, List.length_drop, List.length_cons, List.length_nil, List.length_map, List.length_replicate]); omega) (by (try simp only [List.length_append, List.length_take, List.length_drop, List.length_cons, List.length_nil, List.length_map, List.length_replicate]); omega) (by (try simp only [List.length_append, List.length_take, List.length_drop, List.length_cons, List.length_nil, List.length_map, List.length_replicate]); omega) ?_); intro _ _; (try dsimp only)))
local macro_rules | `(tactic| walk_at "subscriptTail") => `(tactic| (k_here; (with_reducible show wpAny _ _ (subscriptTail _ _ (Value.bytes (List.toArray _) _) (Value.int (-1) _)) _ _ _); (refine r_itemR (by (try simp only [List.length_append, List.length_take, List.length_drop, List.length_cons, List.length_nil, List.length_map, List.length_replicate]); omega) (by (try simp only [List.length_append, List.length_take, List.length_drop, List.length_cons, List.length_nil, List.length_map, List.length_replicate]); omega) (by decide) ?_); intro _ _; (try dsimp only)))
local macro_rules | `(tactic| walk_at "subscriptTail") => `(tactic| (k_here; (with_reducible show wpAny _ _ (subscriptTail _ (Expr.Slice _ _ none _) (Value.bytes (List.toArray _) _) (Value.ref _)) _ _ _); (with_reducible rename Fr _ _ _ _ => F'); (with_reducible rename News _ _ _ _ => N'); (refine r_slice (s := ⟨_, _, _, _, _⟩) F' N' (by constructor) (by constructor) (by (try simp only [List.length_append, List.length_take, List.length_drop, List.length_cons, List.length_nil, List.length_map, List.length_replicate]); omega) ?_); intro _ _ _ F' N'; (try dsimp only); (try k_sweep)))
local macro_rules | `(tactic| walk_at "binaryOp Add bytes bytes") => `(tactic| (k_here; (with_reducible show wpAny _ _ (binaryOp Operator.Add (Value.bytes (List.toArray _) _) (Value.bytes (List.toArray _) _)) _ _ _); (refine r_add (by (try simp only [List.length_append, List.length_take, List.length_drop, List.length_cons, List.length_nil, List.length_map, List.length_replicate]); omega) ?_); intro _ _; (try dsimp only)))
local macro_rules | `(tactic| walk_at "compareOp Eq bytes bytes") => `(tactic| (k_here; (with_reducible show wpAny _ _ (compareOp CmpOp.Eq (Value.bytes (List.toArray _) _) (Value.bytes (List.toArray _) _)) _ _ _); (refine r_eq ?_); (try dsimp only)))
local macro_rules | `(tactic| walk_at "compareOp NotEq bytes bytes") => `(tactic| (k_here; (with_reducible show wpAny _ _ (compareOp CmpOp.NotEq (Value.bytes (List.toArray _) _) (Value.bytes (List.toArray _) _)) _ _ _); (refine r_ne ?_); (try dsimp only)))
local macro_rules | `(tactic| walk_at "call type:type") => `(tactic| (k_here; (with_reducible show wpAny _ _ (call (Value.type "type") [Value.bytes _ _]) _ _ _); (refine call_type_of (Tx := "bytes") (typeIs_bytes _ _ _) (by decide +kernel) ?_)))
local macro_rules | `(tactic| walk_at "call type:type") => `(tactic| (k_here; (with_reducible show wpAny _ _ (call (Value.type "type") [Value.int _ _]) _ _ _); (refine call_type_of (Tx := "int") (typeIs_int _ _ _) (by decide +kernel) ?_)))
local macro_rules | `(tactic| walk_at "compareOp Is") => `(tactic| (k_here; (with_reducible show wpAny _ _ (compareOp CmpOp.Is (Value.type _) (Value.type _)) _ _ _); first | refine wpAny_is_self (by rfl) ?_ | refine wpAny_is_other (by rfl) (by decide) ?_))
local macro_rules | `(tactic| walk_at "compareOp IsNot") => `(tactic| (k_here; (with_reducible show wpAny _ _ (compareOp CmpOp.IsNot (Value.type _) (Value.type _)) _ _ _); first | refine wpAny_isNot_self (by rfl) ?_ | refine wpAny_isNot_other (by rfl) (by decide) ?_))
local macro_rules | `(tactic| k_all) => `(tactic| first | exact ne_of_ltAll (by assumption) | exact ne_of_allLt (by assumption))
local macro_rules | `(tactic| walk_at "call builtin:list.append") => `(tactic| (k_here; (with_reducible show wpAny _ _ (call (Value.builtin _) [Value.ref _, _]) _ _ _); k_dflt (refine' append_K ?k1 ?k2 ?k3 ?_ ?z; (case k1 => k_asm); (case k2 => k_asm); (case k3 => k_upd); (case z => ((try simp only [List.size_toArray, List.length_append, List.length_cons, List.length_nil]); rw [sizeLine_eq]; omega)); k_whole); intro h' F' N'; (try k_sweep)))
local macro_rules | `(tactic| walk_at "call builtin:_struct.pack") => `(tactic| (k_here; (refine r_pack (by omega) (by omega) ?_); intro _ _; (try dsimp only)))
local macro_rules | `(tactic| walk_at "call builtin:bytes.hex") => `(tactic| (k_here; (refine r_hex (by (try simp only [List.length_append, List.length_take, List.length_drop, List.length_cons, List.length_nil, List.length_map, List.length_replicate]); omega) ?_); intro _ _; (try dsimp only)))
local macro_rules | `(tactic| walk_at "call builtin:ord") => `(tactic| (k_here; (with_reducible show wpAny _ _ (call (Value.builtin _) [Value.bytes _ _]) _ _ _); (refine r_ord (by k_extra "ord") ?_); intro _ _; (try dsimp only)))
local macro_rules | `(tactic| walk_at "call builtin:bytes.startswith") => `(tactic| (k_here; (with_reducible show wpAny _ _ (call (Value.builtin _) [Value.bytes (List.toArray _) _, Value.bytes _ _]) _ _ _); (refine r_startswith ?_); (try dsimp only)))
local macro_rules | `(tactic| walk_at "getMethod bytes") => `(tactic| (k_here; (with_reducible first | refine m_hex ?_ | refine m_startswith ?_ | refine m_join ?_)))
local macro_rules | `(tactic| walk_at "getMethod str") => `(tactic| (k_here; (with_reducible refine m_encode ?_)))
local macro_rules | `(tactic| walk_at "call builtin:bytes.join") => `(tactic| (k_here; (with_reducible show wpAny _ _ (call (Value.builtin _) [Value.bytes _ _, Value.ref _]) _ _ _); (refine' r_join (o := ?o) ?hT (News.get ?N ?hm) ?hc ?hd ?hz ?_; (case N => k_asm); (case hm => k_mem); (case hc => exact rfl); (case hT => first | exact Or.inl rfl | exact Or.inr rfl); (case hd => exact rfl); (case hz => exact (by (try simp only [List.length_append, List.length_take, List.length_drop, List.length_cons, List.length_nil, List.length_map, List.length_replicate]); omega))); intro _ _; (try dsimp only)))
local macro_rules | `(tactic| walk_at "subscriptTail") => `(tactic| (k_here; (with_reducible show wpAny _ _ (subscriptTail _ (Expr.Slice _ _ none _) (Value.bytes (List.toArray _) _) (Value.ref _)) _ _ _); (with_reducible rename Fr _ _ _ _ => F'); (with_reducible rename News _ _ _ _ => N'); (refine' r_cut (s := ⟨_, _, _, _, _⟩) F' N' ?ha ?hb ?hz ?hc ?_; (case ha => constructor); (case hb => constructor); (case hz => exact (by (try simp only [List.length_append, List.length_take, List.length_drop, List.length_cons, List.length_nil, List.length_map, List.length_replicate]); omega)); (case hc => k_dflt (k_extra "cut"))); intro _ _ _ F' N'; (try dsimp only); (try k_sweep)))
local macro_rules | `(tactic| walk_at "binaryOp BitAnd int int") => `(tactic| (k_here; (refine' r_band ?hc ?_; (case hc => k_dflt (k_extra "band"))); intro _ _; (try dsimp only)))
local macro_rules | `(tactic| walk_at "call type:int") => `(tactic| (k_here; (with_reducible show wpAny _ _ (call (Value.type "int") [Value.bytes (List.toArray (List.map _ (hexOfB _))) _, Value.int 16 _]) _ _ _); (refine' r_int16 ?hn ?hl ?_; (case hn => k_extra "rowne"); (case hl => k_extra "rowlen")); intro _ _; (try dsimp only)))
local macro_rules | `(tactic| walk_at "call builtin:bytes.startswith") => `(tactic| (k_here; (with_reducible show wpAny _ _ (call (Value.builtin _) [Value.bytes (List.toArray _) _, Value.bytes _ _]) _ _ _); (first | refine r_sw (b := true) (by k_dflt (exact rfl)) ?_ | refine r_sw (b := false) (by k_dflt (exact rfl)) ?_); (try dsimp only)))
local macro_rules | `(tactic| walk_at "call builtin:len") => `(tactic| (k_here; (with_reducible show wpAny _ _ (call (Value.builtin _) [Value.bytes (List.toArray _) _]) _ _ _); (refine' r_lenE (n := ?n) ?hc ?hf ?_; (case hc => ((try simp only [List.length_append, List.length_take, List.length_drop, List.length_cons, List.length_nil, List.length_map, List.length_replicate]); exact rfl)); (case hf => omega)); intro _ _; (try dsimp only)))
local macro_rules | `(tactic| walk_at "call type:bytes") => `(tactic| (k_here; (with_reducible show wpAny _ _ (call (Value.type "bytes") [Value.ref _]) _ _ _); k_dflt (refine' r_bytesL ?F ?N ?l ?i ?n ?z ?h ?_; (case F => k_asm); (case N => k_asm); (case l => is_list); (case i => l_ints); (case n => first | k_extra "NS" | exact rfl | exact ns_one (by omega) (by omega) | exact ns_one (by (simp only [List.length_append, List.length_cons, List.length_nil]); omega) (by (simp only [List.length_append, List.length_cons, List.length_nil]); omega)); (case z => first | (simp only [List.length_cons, List.length_nil]; omega) | k_extra "NSz"); (case h => rfl); k_whole; intro h' t' k' F' N'; (try k_sweep))))
local macro_rules | `(tactic| walk_at "call ref") => `(tactic| (k_here; (with_reducible show wpAny _ _ (call (Value.ref 181) _) _ _ _); k_dflt (refine' CtrT.use (c_rl _ ?h ?l) ?B ?F ?X ?N ?T ?K ?D ?U ?_; (case B => k_asm); (case F => k_asm); (case X => k_asm); (case N => k_asm); (case T => k_asm); (case K => first | exact rfl | assumption); (case D => ktr_room); (case U => ktr_units)); (case h => k_extra "RL"); (case l => exact (by (try simp only [List.length_append, List.length_take, List.length_drop, List.length_cons, List.length_nil, List.length_map, List.length_replicate]); omega)); intro d9 t9 u9 c9 h9 tk9 F9 N9 l9; (try dsimp only); (try k_fold)))
/-! remove_sequence -/
set_option maxRecDepth 100000 in
set_option maxHeartbeats 8000000 in
theorem c_rs (w : World) {x : UInt8} {body : List UInt8} {t : Tok} (hx : x.toNat = body.length) (hl : body.length < 128) :
    CtrT w 159 4 60 [.bytes (48 :: x :: body).toArray t] [] (fun t => .bytes body.toArray t) (fun t => .bytes (List.toArray []) t) := by
  unfold CtrT
  k_fill
  intro p loose mean mg mb dp un gd cnm csc aa ccd cl outer A₀ base h₀ L m news s Q E B F X N T hk hd hu hret
  k_with "cut" => first | exact cut_tail | exact cut_mid0 (p := [48, x]) (l := body) (by exact rfl) (by simp only [List.length_cons, List.length_nil]; omega) | exact cut_all (by simp only [List.length_cons]; omega)
  k_with "RL" => omega
  walk_at "call ref"
  k_steps
  (try dsimp only at hret); (first | refine' retT (Q := Q) hret (by k_asm) (by k_asm) (by k_mem) (by intro p0 hp0; repeat first | exact hp0 | refine List.mem_cons_of_mem _ ?_) (by first | assumption | exact lt0 (by assumption) | exact lt1 (by assumption) | exact lt2 (by assumption) | exact lt3 (by assumption) | exact lt4 (by assumption) | exact lt5 (by assumption)) (eqI ?_) (eqI ?_) | refine' retT (Q := Q) hret (by k_asm) (by k_asm) (by k_mem) (by intro p0 hp0; repeat first | exact hp0 | refine List.mem_cons_of_mem _ ?_) (by first | assumption | exact lt0 (by assumption) | exact lt1 (by assumption) | exact lt2 (by assumption) | exact lt3 (by assumption) | exact lt4 (by assumption) | exact lt5 (by assumption)) (eqI ?_) (eqY ?_) | refine' retT (Q := Q) hret (by k_asm) (by k_asm) (by k_mem) (by intro p0 hp0; repeat first | exact hp0 | refine List.mem_cons_of_mem _ ?_) (by first | assumption | exact lt0 (by assumption) | exact lt1 (by assumption) | exact lt2 (by assumption) | exact lt3 (by assumption) | exact lt4 (by assumption) | exact lt5 (by assumption)) (eqY ?_) (eqY ?_))
  all_goals exact rfl
/-! sigdecode_der -/
local macro_rules | `(tactic| walk_at "call ref") => `(tactic| (k_here; (with_reducible show wpAny _ _ (call (Value.ref 159) _) _ _ _); k_dflt (refine' CtrT.use (c_rs _ ?h ?l) ?B ?F ?X ?N ?T ?K ?D ?U ?_; (case B => k_asm); (case F => k_asm); (case X => k_asm); (case N => k_asm); (case T => k_asm); (case K => first | exact rfl | assumption); (case D => ktr_room); (case U => ktr_units)); (case h => k_extra "RSx"); (case l => k_extra "RSl"); intro d9 t9 u9 c9 h9 tk9 F9 N9 l9; (try dsimp only); (try k_fold)))
local macro_rules | `(tactic| walk_at "call ref") => `(tactic| (k_here; (with_reducible show wpAny _ _ (call (Value.ref 167) _ _) _ _ _); k_dflt (k_extra "RI"); intro d9 t9 u9 c9 h9 tk9 F9 N9 l9; (try dsimp only); (try k_fold)))
set_option maxRecDepth 100000 in
set_option maxHeartbeats 8000000 in
theorem c_dec0 (w : World) {x y1 y2 c1 c2 : UInt8} {row1 row2 : List UInt8} {t : Tok} {b : Bool} (h1 : y1.toNat = row1.length) (h2 : y2.toNat = row2.length) (hx : x.toNat = row1.length + row2.length + 4) (hl : row1.length + row2.length < 90)
    (hc1 : row1.head? = some c1) (hd1 : c1.toNat < 128) (hc2 : row2.head? = some c2) (hd2 : c2.toNat < 128) :
    CtrT w 196 8 100 [.bytes (48 :: x :: (2 :: y1 :: (row1 ++ (2 :: y2 :: (row2 ++ []))))).toArray t, .bool b] [] (fun t => .int (be row1) t) (fun t => .int (be row2) t) := by
  unfold CtrT
  k_fill
  intro p loose mean mg mb dp un gd cnm csc aa ccd cl outer A₀ base h₀ L m news s Q E B F X N T hk hd hu hret
  k_with "RSx" => (simp only [List.length_cons, List.length_append, List.length_nil]; omega)
  k_with "RSl" => (simp only [List.length_cons, List.length_append, List.length_nil]; omega)
  k_with "RI" => first | (refine' CtrT.use (c_ri _ h1 (by omega) hc1 hd1 (by simp only [List.length_cons, List.length_append, List.length_nil]; omega)) ?B ?F ?X ?N ?T ?K ?D ?U ?_; (case B => k_asm); (case F => k_asm); (case X => k_asm); (case N => k_asm); (case T => k_asm); (case K => first | exact rfl | assumption); (case D => ktr_room); (case U => ktr_units)) | (refine' CtrT.use (c_ri _ h2 (by omega) hc2 hd2 (by simp only [List.length_cons, List.length_append, List.length_nil]; omega)) ?B ?F ?X ?N ?T ?K ?D ?U ?_; (case B => k_asm); (case F => k_asm); (case X => k_asm); (case N => k_asm); (case T => k_asm); (case K => first | exact rfl | assumption); (case D => ktr_room); (case U => ktr_units))
  walk_at "call ref"
  k_steps
  (try dsimp only at hret); (first | refine' retT (Q := Q) hret (by k_asm) (by k_asm) (by k_mem) (by intro p0 hp0; repeat first | exact hp0 | refine List.mem_cons_of_mem _ ?_) (by first | assumption | exact lt0 (by assumption) | exact lt1 (by assumption) | exact lt2 (by assumption) | exact lt3 (by assumption) | exact lt4 (by assumption) | exact lt5 (by assumption)) (eqI ?_) (eqI ?_) | refine' retT (Q := Q) hret (by k_asm) (by k_asm) (by k_mem) (by intro p0 hp0; repeat first | exact hp0 | refine List.mem_cons_of_mem _ ?_) (by first | assumption | exact lt0 (by assumption) | exact lt1 (by assumption) | exact lt2 (by assumption) | exact lt3 (by assumption) | exact lt4 (by assumption) | exact lt5 (by assumption)) (eqI ?_) (eqY ?_) | refine' retT (Q := Q) hret (by k_asm) (by k_asm) (by k_mem) (by intro p0 hp0; repeat first | exact hp0 | refine List.mem_cons_of_mem _ ?_) (by first | assumption | exact lt0 (by assumption) | exact lt1 (by assumption) | exact lt2 (by assumption) | exact lt3 (by assumption) | exact lt4 (by assumption) | exact lt5 (by assumption)) (eqY ?_) (eqY ?_))
  all_goals exact rfl
set_option maxRecDepth 100000 in
set_option maxHeartbeats 8000000 in
theorem c_dec1 (w : World) {x y1 y2 c1 c2 : UInt8} {row1 row2 : List UInt8} {t : Tok} {b : Bool} (h1 : y1.toNat = row1.length) (h2 : y2.toNat = row2.length) (hx : x.toNat = row1.length + row2.length + 4) (hl : row1.length + row2.length < 90)
    (hc1 : row1.head? = some c1) (hd1 : c1.toNat < 128) (hc2 : row2.head? = some c2) (hd2 : c2.toNat < 128) :
    CtrT w 196 8 100 [.bytes (48 :: x :: (2 :: y1 :: (row1 ++ (2 :: y2 :: (row2 ++ []))))).toArray t] [(PySem.Str.ofString "use_broken_open_ssl_mechanism", .bool b)] (fun t => .int (be row1) t) (fun t => .int (be row2) t) := by
  unfold CtrT
  k_fill
  intro p loose mean mg mb dp un gd cnm csc aa ccd cl outer A₀ base h₀ L m news s Q E B F X N T hk hd hu hret
  k_with "RSx" => (simp only [List.length_cons, List.length_append, List.length_nil]; omega)
  k_with "RSl" => (simp only [List.length_cons, List.length_append, List.length_nil]; omega)
  k_with "RI" => first | (refine' CtrT.use (c_ri _ h1 (by omega) hc1 hd1 (by simp only [List.length_cons, List.length_append, List.length_nil]; omega)) ?B ?F ?X ?N ?T ?K ?D ?U ?_; (case B => k_asm); (case F => k_asm); (case X => k_asm); (case N => k_asm); (case T => k_asm); (case K => first | exact rfl | assumption); (case D => ktr_room); (case U => ktr_units)) | (refine' CtrT.use (c_ri _ h2 (by omega) hc2 hd2 (by simp only [List.length_cons, List.length_append, List.length_nil]; omega)) ?B ?F ?X ?N ?T ?K ?D ?U ?_; (case B => k_asm); (case F => k_asm); (case X => k_asm); (case N => k_asm); (case T => k_asm); (case K => first | exact rfl | assumption); (case D => ktr_room); (case U => ktr_units))
  walk_at "call ref"
  k_steps
  (try dsimp only at hret); (first | refine' retT (Q := Q) hret (by k_asm) (by k_asm) (by k_mem) (by intro p0 hp0; repeat first | exact hp0 | refine List.mem_cons_of_mem _ ?_) (by first | assumption | exact lt0 (by assumption) | exact lt1 (by assumption) | exact lt2 (by assumption) | exact lt3 (by assumption) | exact lt4 (by assumption) | exact lt5 (by assumption)) (eqI ?_) (eqI ?_) | refine' retT (Q := Q) hret (by k_asm) (by k_asm) (by k_mem) (by intro p0 hp0; repeat first | exact hp0 | refine List.mem_cons_of_mem _ ?_) (by first | assumption | exact lt0 (by assumption) | exact lt1 (by assumption) | exact lt2 (by assumption) | exact lt3 (by assumption) | exact lt4 (by assumption) | exact lt5 (by assumption)) (eqI ?_) (eqY ?_) | refine' retT (Q := Q) hret (by k_asm) (by k_asm) (by k_mem) (by intro p0 hp0; repeat first | exact hp0 | refine List.mem_cons_of_mem _ ?_) (by first | assumption | exact lt0 (by assumption) | exact lt1 (by assumption) | exact lt2 (by assumption) | exact lt3 (by assumption) | exact lt4 (by assumption) | exact lt5 (by assumption)) (eqY ?_) (eqY ?_))
  all_goals exact rfl
/-! the octets of a row -/
theorem octs_lt (n : Nat) : be (octs n) = n := by
  unfold octs
  split
  · rename_i h
    rw [h]
    rfl
  · exact be_octD n
theorem be_rowOf (n : Nat) : be (rowOf n) = n := by
  unfold rowOf
  split
  · rw [show be (0 :: octs n) = be (octs n) by simp [be]]
    exact octs_lt n
  · exact octs_lt n
theorem rowOf_head (n : Nat) : ∃ c : UInt8, (rowOf n).head? = some c ∧ c.toNat < 128 := by
  unfold rowOf
  split
  · exact ⟨0, rfl, by decide⟩
  · rename_i h
    have := octs_pos n
    match ho : octs n with
    | [] => rw [ho] at this; simp at this
    | c :: l =>
      rw [ho] at h
      simp at h
      exact ⟨c, rfl, by omega⟩
theorem u8_nat {n : Nat} (h : n < 256) : (n.toUInt8).toNat = n := by simp; omega
theorem c_dec (w : World) {r z : Nat} {t : Tok} {b : Bool} (hr : (rowOf r).length < 40) (hz : (rowOf z).length < 40) : CtrT w 196 8 100 [.bytes (sigB r z).toArray t, .bool b] [] (fun t => .int r t) (fun t => .int z t) := by
  obtain ⟨c1, h1, k1⟩ := rowOf_head r
  obtain ⟨c2, h2, k2⟩ := rowOf_head z
  have := c_dec0 w (x := ((encI r ++ encI z).length).toUInt8) (y1 := ((rowOf r).length).toUInt8) (y2 := ((rowOf z).length).toUInt8) (t := t) (b := b) (u8_nat (by omega)) (u8_nat (by omega)) ((u8_nat (by simp only [encI, List.length_append, List.length_cons]; omega)).trans (by simp only [encI, List.length_append, List.length_cons]; omega)) (by omega) h1 k1 h2 k2
  rw [be_rowOf, be_rowOf, List.append_nil] at this
  exact this
theorem c_decK (w : World) {r z : Nat} {t : Tok} {b : Bool} (hr : (rowOf r).length < 40) (hz : (rowOf z).length < 40) : CtrT w 196 8 100 [.bytes (sigB r z).toArray t] [(PySem.Str.ofString "use_broken_open_ssl_mechanism", .bool b)] (fun t => .int r t) (fun t => .int z t) := by
  obtain ⟨c1, h1, k1⟩ := rowOf_head r
  obtain ⟨c2, h2, k2⟩ := rowOf_head z
  have := c_dec1 w (x := ((encI r ++ encI z).length).toUInt8) (y1 := ((rowOf r).length).toUInt8) (y2 := ((rowOf z).length).toUInt8) (t := t) (b := b) (u8_nat (by omega)) (u8_nat (by omega)) ((u8_nat (by simp only [encI, List.length_append, List.length_cons]; omega)).trans (by simp only [encI, List.length_append, List.length_cons]; omega)) (by omega) h1 k1 h2 k2
  rw [be_rowOf, be_rowOf, List.append_nil] at this
  exact this
end Mine
end
section
open PySem PySem.W PyProof.Rows
namespace Mine
/-! bytes(list of ints) -/
def intsOf (l : List UInt8) : List Int := l.map fun c => ((c.toNat : Nat) : Int)
theorem intsOf_app (a b : List UInt8) : intsOf (a ++ b) = intsOf a ++ intsOf b := List.map_append ..
theorem ns_one {x : Int} (h0 : 0 ≤ x) (h1 : x < 256) : [x] = intsOf [x.toNat.toUInt8] := by
  simp only [intsOf, List.map_cons, List.map_nil]
  rw [show (x.toNat.toUInt8).toNat = x.toNat by simp; omega, Int.toNat_of_nonneg h0]
theorem nil_inv {vs : List Value} (h : IntsAre vs (intsOf [])) : vs = [] := by
  cases vs with
  | nil => rfl
  | cons v vs => cases h
section
variable {prog : Program} {w : World} {A : Around} {E : Value → Shared → Prop} {s : Shared} {l : List UInt8} {h₀ : Heap} {L : Addr} {m : PySem.Str → Option Value} {news : List (Addr × Obj)}
theorem r_bytesL {a : Addr} {vs : List Value} {ns : List Int} {Q : Value → Shared → Prop} (F : Fr h₀ L s.heap m) (N : News h₀ L s.heap news) (hl : s.heap.IsList a vs.toArray) (hi : IntsAre vs ns) (hn : ns = intsOf l) (hz : l.length ≤ 1000) (hh : A.handled = none)
    (h : ∀ h' t k, Fr h₀ L h' m → News h₀ L h' news → Q (.bytes l.toArray t) { s with heap := h', toks := k }) : wpAny (model prog w) A (call (.type "bytes") [.ref a]) Q E s := by
  subst hn
  have hlen := hi.length
  simp only [intsOf, List.length_map] at hlen
  refine bytes_K F N hl hi (ints_range l) (by rw [sizeLine_eq]; omega) hh fun h' t k F N _ => ?_
  rw [show (intsOf l).map (fun n => n.toNat.toUInt8) = l from ints_back l]
  exact h h' t k F N
end
end Mine
end
section
open PySem PySem.W PyProof.Rows
namespace Mine
/-! A while that counts an int down and makes a new list of ints each turn. -/
abbrev RLst : Type := Int × Tok × Addr × List Value × List Int × Nat
def RLed (news : List (Addr × Obj)) (c : RLst) : List (Addr × Obj) := (c.2.2.1, W.listOf c.2.2.2.1.toArray c.2.2.2.2.2) :: news
def RPs (x y : Str) (c : RLst) : List (Str × Value) := [(x, Value.int c.1 c.2.1), (y, Value.ref c.2.2.1)]
def RFa (news : List (Addr × Obj)) (c : RLst) : Prop := IntsAre c.2.2.2.1 c.2.2.2.2.1 ∧ ∀ p ∈ news, p.1 < c.2.2.1
def RP (P : Int → List Int → Prop) (c : RLst) : Prop := P c.1 c.2.2.2.2.1
def RM (μ : Int → Nat) (c : RLst) : Nat := μ c.1
section
variable {prog : Program} {w : World} {A : Around} {E : Value → Shared → Prop} {Q : Flow → Shared → Prop} {s : Shared} {env : Env} {h₀ : Heap} {L : Addr}
theorem whileR {test : Expr} {body : List Stmt} {pos : Pos} {m₀ : Str → Option Value} {D : Addr} {news : List (Addr × Obj)} (x y : Str) (P : Int → List Int → Prop) (μ : Int → Nat) {i₀ : Int} {t₀ : Tok}
    (F : Fr h₀ L s.heap m₀) (N : News h₀ L s.heap ((D, W.listOf #[] 0) :: news)) (hl : ∀ p ∈ news, p.1 < D) (hi : m₀ x = some (.int i₀ t₀)) (hj : m₀ y = some (.ref D)) (hp : P i₀ [])
    (turn : ∀ (i : Int) (ti : Tok) (D : Addr) (vs : List Value) (ns : List Int) (n : Nat) h tk, IntsAre vs ns → (∀ p ∈ news, p.1 < D) → P i ns → Fr h₀ L h (fun z => if z = x then some (.int i ti) else if z = y then some (.ref D) else m₀ z) → News h₀ L h ((D, W.listOf vs.toArray n) :: news) →
      wpAny (model prog w) A (isTrue test env (eval test env)) (fun b s₂ =>
        if b = true then wpAny (model prog w) A (execs body env) (KswPost h₀ L s (RLed news) (RPs x y) (RFa news) [] m₀ (RP P) (RM μ) Q (i, ti, D, vs, ns, n)) E s₂ else Q .next s₂) E { s with heap := h, toks := tk })
    (hE : PassesOwn (model prog w) A env E := by passes_own) :
    wpAny (model prog w) A (exec (.While test body [] pos) env) Q E s :=
  ksw_while (RLed news) (RPs x y) (RFa news) [] (RP P) (RM μ) (i₀, t₀, D, [], [], 0) F N ⟨IntsAre.nil, hl⟩ (fun p hp => by
      rcases List.mem_cons.mp hp with rfl | hp
      · exact hi
      · rw [List.mem_singleton.mp hp]; exact hj) hp
    (fun ⟨i, ti, D, vs, ns, n⟩ u h tk hf hp F N => turn i ti D vs ns n h tk hf.1 hf.2 hp F N) hE
theorem endR {m₀ m' : Str → Option Value} {D' : Addr} {news all : List (Addr × Obj)} {x y : Str} {P : Int → List Int → Prop} {μ : Int → Nat} {c : RLst} {h' : Heap} {tk : Nat} {i' : Int} {ti' : Tok} {vs' : List Value} {ns' : List Int} {n' : Nat}
    (F : Fr h₀ L h' m') (N : News h₀ L h' all) (hx : m' x = some (.int i' ti')) (hy : m' y = some (.ref D')) (hm : (D', W.listOf vs'.toArray n') ∈ all) (hs : ∀ p ∈ news, p ∈ all) (hf : IntsAre vs' ns') (hl : ∀ p ∈ news, p.1 < D') (hr : ∀ z, z ≠ x → z ≠ y → m' z = m₀ z) (hp : P i' ns') (hd : μ i' < μ c.1) :
    KswEnd h₀ L s (RLed news) (RPs x y) (RFa news) [] m₀ (RP P) (RM μ) c { s with heap := h', toks := tk } :=
  ksw_end (i', ti', D', vs', ns', n') F N (fun p hp => by
      rcases List.mem_cons.mp hp with rfl | hp
      · exact hm
      · exact hs p hp) ⟨hf, hl⟩ (fun p hp => by
      rcases List.mem_cons.mp hp with rfl | hp
      · exact hx
      · rw [List.mem_singleton.mp hp]; exact hy) (fun z h1 _ => hr z (h1 _ (.head _)) (h1 _ (.tail _ (.head _)))) hp hd
end
end Mine
end
section
open PySem PySem.W PyProof.Rows
set_option pp.fieldNotation false
namespace Mine
local macro_rules | `(tactic| walk_at "my spare 0") => `(tactic| fail "none")
local macro_rules | `(tactic| walk_at "my spare 1") => `(tactic| fail "none")
local macro_rules | `(tactic| walk_at "my spare 2") => `(tactic| fail "none")
local macro_rules | `(tactic| walk_at "my spare 3") => `(tactic| fail "none")
theorem put_back_C8 : True := by
  w_top off
  k_with_none
  trivial
local macro_rules | `(tactic| walk_at "call ref") => `(tactic| (k_here; k_dflt (refine wpAny_call ?_; (refine' code_def ?k1 ?k2 ?k3 ?k4 ?k5 ?kA ?kF ?kK ?k6 ?k7 ?k8 ?k9 ?kB ?_ ?c2 ?c3 ?c4 ?c5; (case kA => exact rfl); (case kF => exact rfl); (case kK => first | exact rfl | assumption); (case k1 => k_asm); (case k2 => k_asm); (case k3 => k_asm); (case k4 => k_asm); (case k5 => k_asm); (case k6 => k_is); (case k7 => k_is); (case k8 => ktr_room); (case k9 => first | exact BindsTo.of_eq rfl | exact binds_K (by k_in) rfl (by k_is) rfl rfl rfl); (case c5 => decide); (case kB => exact locs rfl); (case c2 => exact rfl); (case c3 => exact rfl); (case c4 => exact rfl); k_whole; intro g' L' h' FG' F' N' B' X' T'; (try dsimp only); (try k_lift B'); (try k_fold)))))
local macro_rules | `(tactic| walk_at "call builtin:len") => `(tactic| (k_here; (with_reducible show wpAny _ _ (call (Value.builtin _) [Value.bytes (List.toArray _) _]) _ _ _); (refine r_len (by (try simp only [List.length_append, List.length_take, List.length_drop, List.length_cons, List.length_nil, List.length_map, List.length_replicate]); omega) ?_); intro _ _; (try dsimp only)))
local macro_rules | `(tactic| walk_at "truthy bytes") => `(tactic| (k_here; (with_reducible show wpAny _ _ (truthy (Value.bytes (List.toArray _) _)) _ _ _); (refine r_truthy (by (try simp only [List.length_append, List.length_take, List.length_drop, List.length_cons, List.length_nil, List.length_map, List.length_replicate]); omega) ?_); intro _; (try dsimp only)))
local macro_rules | `(tactic| walk_at "subscriptTail") => `(tactic| (k_here; (with_reducible show wpAny _ _ (subscriptTail _ _ (Value.bytes (List.toArray _) _) (Value.int _ _)) _ _ _); (refine r_item (by (try simp only [List.length_append, List.length_take, List.length_drop, List.length_cons, List.length_nil, List.length_map, List.length_replicate]); omega) (by (try simp only [List.length_append, List.length_take, List.length_drop, List.length_cons, List.length_nil, List.length_map, List.length_replicate]); omega) (by (try simp only [List.length_append, List.length_take, List.length_drop, List.length_cons, List.length_nil, List.length_map, List.length_replicate]); omega) ?_); intro _ _; (try dsimp only)))
local macro_rules | `(tactic| walk_at "subscriptTail") => `(tactic| (k_here; (with_reducible show wpAny _ _ (subscriptTail _ _ (Value.bytes (List.toArray _) _) (Value.int (-1) _)) _ _ _); (refine r_itemR (by (try simp only [List.length_append, List.length_take, List.length_drop, List.length_cons, List.length_nil, List.length_map, List.length_replicate]); omega) (by (try simp only [List.length_append, List.length_take, List.length_drop, List.length_cons, List.length_nil, List.length_map, List.length_replicate]); omega) (by decide) ?_); intro _ _; (try dsimp only)))
local macro_rules | `(tactic| walk_at "subscriptTail") => `(tactic| (k_here; (with_reducible show wpAny _ _ (subscriptTail _ (Expr.Slice _ _ none _) (Value.bytes (List.toArray _) _) (Value.ref _)) _ _ _); (with_reducible rename Fr _ _ _ _ => F'); (with_reducible rename News _ _ _ _ => N'); (refine r_slice (s := ⟨_, _, _, _, _⟩) F' N' (by constructor) (by constructor) (by (try simp only [List.length_append, List.length_take, List.length_drop, List.length_cons, List.length_nil, List.length_map, List.length_replicate]); omega) ?_); intro _ _ _ F' N'; (try dsimp only); (try k_sweep)))
local macro_rules | `(tactic| walk_at "binaryOp Add bytes bytes") => `(tactic| (k_here; (with_reducible show wpAny _ _ (binaryOp Operator.Add (Value.bytes (List.toArray _) _) (Value.bytes (List.toArray _) _)) _ _ _); (refine r_add (by (try simp only [List.length_append, List.length_take, List.length_drop, List.length_cons, List.length_nil, List.length_map, List.length_replicate]); omega) ?_); intro _ _; (try dsimp only)))
local macro_rules | `(tactic| walk_at "compareOp Eq bytes bytes") => `(tactic| (k_here; (with_reducible show wpAny _ _ (compareOp CmpOp.Eq (Value.bytes (List.toArray _) _) (Value.bytes (List.toArray _) _)) _ _ _); (refine r_eq ?_); (try dsimp only)))
local macro_rules | `(tactic| walk_at "compareOp NotEq bytes bytes") => `(tactic| (k_here; (with_reducible show wpAny _ _ (compareOp CmpOp.NotEq (Value.bytes (List.toArray _) _) (Value.bytes (List.toArray _) _)) _ _ _); (refine r_ne ?_); (try dsimp only)))
local macro_rules | `(tactic| walk_at "call type:type") => `(tactic| (k_here; (with_reducible show wpAny _ _ (call (Value.type "type") [Value.bytes _ _]) _ _ _); (refine call_type_of (Tx := "bytes") (typeIs_bytes _ _ _) (by decide +kernel) ?_)))
local macro_rules | `(tactic| walk_at "call type:type") => `(tactic| (k_here; (with_reducible show wpAny _ _ (call (Value.type "type") [Value.int _ _]) _ _ _); (refine call_type_of (Tx := "int") (typeIs_int _ _ _) (by decide +kernel) ?_)))
local macro_rules | `(tactic| walk_at "compareOp Is") => `(tactic| (k_here; (with_reducible show wpAny _ _ (compareOp CmpOp.Is (Value.type _) (Value.type _)) _ _ _); first | refine wpAny_is_self (by rfl) ?_ | refine wpAny_is_other (by rfl) (by decide) ?_))
local macro_rules | `(tactic| walk_at "compareOp IsNot") => `(tactic| (k_here; (with_reducible show wpAny _ _ (compareOp CmpOp.IsNot (Value.type _) (Value.type _)) _ _ _); first | refine wpAny_isNot_self (by rfl) ?_ | refine wpAny_isNot_other (by rfl) (by decide) ?_))
local macro_rules | `(tactic| k_all) => `(tactic| first | exact ne_of_ltAll (by assumption) | exact ne_of_allLt (by assumption))
local macro_rules | `(tactic| walk_at "call builtin:list.append") => `(tactic| (k_here; (with_reducible show wpAny _ _ (call (Value.builtin _) [Value.ref _, _]) _ _ _); k_dflt (refine' append_K ?k1 ?k2 ?k3 ?_ ?z; (case k1 => k_asm); (case k2 => k_asm); (case k3 => k_upd); (case z => ((try simp only [List.size_toArray, List.length_append, List.length_cons, List.length_nil]); rw [sizeLine_eq]; omega)); k_whole); intro h' F' N'; (try k_sweep)))
local macro_rules | `(tactic| walk_at "call builtin:_struct.pack") => `(tactic| (k_here; (refine r_pack (by omega) (by omega) ?_); intro _ _; (try dsimp only)))
local macro_rules | `(tactic| walk_at "call builtin:bytes.hex") => `(tactic| (k_here; (refine r_hex (by (try simp only [List.length_append, List.length_take, List.length_drop, List.length_cons, List.length_nil, List.length_map, List.length_replicate]); omega) ?_); intro _ _; (try dsimp only)))
local macro_rules | `(tactic| walk_at "call builtin:ord") => `(tactic| (k_here; (with_reducible show wpAny _ _ (call (Value.builtin _) [Value.bytes _ _]) _ _ _); (refine r_ord (by k_extra "ord") ?_); intro _ _; (try dsimp only)))
local macro_rules | `(tactic| walk_at "call builtin:bytes.startswith") => `(tactic| (k_here; (with_reducible show wpAny _ _ (call (Value.builtin _) [Value.bytes (List.toArray _) _, Value.bytes _ _]) _ _ _); (refine r_startswith ?_); (try dsimp only)))
local macro_rules | `(tactic| walk_at "getMethod bytes") => `(tactic| (k_here; (with_reducible first | refine m_hex ?_ | refine m_startswith ?_ | refine m_join ?_)))
local macro_rules | `(tactic| walk_at "getMethod str") => `(tactic| (k_here; (with_reducible refine m_encode ?_)))
local macro_rules | `(tactic| walk_at "call builtin:bytes.join") => `(tactic| (k_here; (with_reducible show wpAny _ _ (call (Value.builtin _) [Value.bytes _ _, Value.ref _]) _ _ _); (refine' r_join (o := ?o) ?hT (News.get ?N ?hm) ?hc ?hd ?hz ?_; (case N => k_asm); (case hm => k_mem); (case hc => exact rfl); (case hT => first | exact Or.inl rfl | exact Or.inr rfl); (case hd => exact rfl); (case hz => exact (by (try simp only [List.length_append, List.length_take, List.length_drop, List.length_cons, List.length_nil, List.length_map, List.length_replicate]); omega))); intro _ _; (try dsimp only)))
local macro_rules | `(tactic| walk_at "subscriptTail") => `(tactic| (k_here; (with_reducible show wpAny _ _ (subscriptTail _ (Expr.Slice _ _ none _) (Value.bytes (List.toArray _) _) (Value.ref _)) _ _ _); (with_reducible rename Fr _ _ _ _ => F'); (with_reducible rename News _ _ _ _ => N'); (refine' r_cut (s := ⟨_, _, _, _, _⟩) F' N' ?ha ?hb ?hz ?hc ?_; (case ha => constructor); (case hb => constructor); (case hz => exact (by (try simp only [List.length_append, List.length_take, List.length_drop, List.length_cons, List.length_nil, List.length_map, List.length_replicate]); omega)); (case hc => k_dflt (k_extra "cut"))); intro _ _ _ F' N'; (try dsimp only); (try k_sweep)))
local macro_rules | `(tactic| walk_at "binaryOp BitAnd int int") => `(tactic| (k_here; (refine' r_band ?hc ?_; (case hc => k_dflt (k_extra "band"))); intro _ _; (try dsimp only)))
local macro_rules | `(tactic| walk_at "call type:int") => `(tactic| (k_here; (with_reducible show wpAny _ _ (call (Value.type "int") [Value.bytes (List.toArray (List.map _ (hexOfB _))) _, Value.int 16 _]) _ _ _); (refine' r_int16 ?hn ?hl ?_; (case hn => k_extra "rowne"); (case hl => k_extra "rowlen")); intro _ _; (try dsimp only)))
local macro_rules | `(tactic| walk_at "call builtin:bytes.startswith") => `(tactic| (k_here; (with_reducible show wpAny _ _ (call (Value.builtin _) [Value.bytes (List.toArray _) _, Value.bytes _ _]) _ _ _); (first | refine r_sw (b := true) (by k_dflt (exact rfl)) ?_ | refine r_sw (b := false) (by k_dflt (exact rfl)) ?_); (try dsimp only)))
local macro_rules | `(tactic| walk_at "call builtin:len") => `(tactic| (k_here; (with_reducible show wpAny _ _ (call (Value.builtin _) [Value.bytes (List.toArray _) _]) _ _ _); (refine' r_lenE (n := ?n) ?hc ?hf ?_; (case hc => ((try simp only [List.length_append, List.length_take, List.length_drop, List.length_cons, List.length_nil, List.length_map, List.length_replicate]); exact rfl)); (case hf => omega)); intro _ _; (try dsimp only)))
local macro_rules | `(tactic| walk_at "call type:bytes") => `(tactic| (k_here; (with_reducible show wpAny _ _ (call (Value.type "bytes") [Value.ref _]) _ _ _); k_dflt (refine' r_bytesL ?F ?N ?l ?i ?n ?z ?h ?_; (case F => k_asm); (case N => k_asm); (case l => is_list); (case i => l_ints); (case n => first | k_extra "NS" | exact rfl | exact ns_one (by omega) (by omega) | exact ns_one (by (simp only [List.length_append, List.length_cons, List.length_nil]); omega) (by (simp only [List.length_append, List.length_cons, List.length_nil]); omega)); (case z => first | (simp only [List.length_cons, List.length_nil]; omega) | k_extra "NSz"); (case h => rfl); k_whole; intro h' t' k' F' N'; (try k_sweep))))
local macro_rules | `(tactic| walk_at "KswEnd") => `(tactic| (k_here; (with_reducible rename News _ _ _ _ => nE'); (refine' endR (by assumption) nE' (by rfl) (by rfl) (by k_mem) (by kcj_all) ?hf (by first | assumption | exact lt0 (by assumption) | exact lt1 (by assumption) | exact lt2 (by assumption) | exact lt3 (by assumption)) (by (intro z h2 h3; (simp [h2, h3]; done))) ?_ ?_; (case hf => l_ints))))
local macro_rules | `(tactic| walk_at "compareOp Eq ref ref") => `(tactic| (k_here; (with_reducible show wpAny _ _ (compareOp CmpOp.Eq (Value.ref _) (Value.ref _)) _ _ _); k_dflt (refine ke_eq_ints (by is_list) (by is_list) (by l_ints) (by l_ints) (by ktr_units) ?_)))
/-! _law_octets -/
def RInv (n : Nat) (i : Int) (ns : List Int) : Prop := 0 ≤ i ∧ intsOf (octD i.toNat) ++ ns = intsOf (octD n)
theorem RInv.zero (n : Nat) : RInv n (n : Int) [] := ⟨by omega, by rw [List.append_nil]; rfl⟩
theorem RInv.next {n : Nat} {i : Int} {ns : List Int} (h : RInv n i ns) (hi : 0 < i) : RInv n (Int.fdiv i 256) (Int.fmod i 256 :: ns) := by
  obtain ⟨h0, h1⟩ := h
  rw [Int.fdiv_eq_ediv_of_nonneg _ (by decide), Int.fmod_eq_emod_of_nonneg _ (by decide)]
  refine ⟨by omega, ?_⟩
  rw [← h1, octD_pos (n := i.toNat) (by omega), intsOf_app, List.append_assoc, show (i / 256).toNat = i.toNat / 256 by omega]
  congr 1
  show _ = ((_ : Nat) : Int) :: ns
  rw [u8_nat (by omega)]
  congr 1
  omega
theorem RInv.down {i : Int} (hi : 0 < i) : (Int.fdiv i 256).toNat < i.toNat := by
  rw [Int.fdiv_eq_ediv_of_nonneg _ (by decide)]
  omega
theorem RInv.stop {n : Nat} {i : Int} {ns : List Int} (h : RInv n i ns) (hi : ¬ 0 < i) : ns = intsOf (octD n) := by
  obtain ⟨h0, h1⟩ := h
  rw [← h1, show i.toNat = 0 by omega, octD_zero]
  rfl
theorem RInv.len {n k : Nat} {i : Int} {ns : List Int} (h : RInv n i ns) (hk : n < 256 ^ k) : ns.length ≤ k := by
  have := octD_len k n hk
  have h1 := congrArg List.length h.2
  simp only [intsOf, List.length_append, List.length_map] at h1
  omega
theorem rowOf_hi {n : Nat} {c : UInt8} {l : List UInt8} (hz : n ≠ 0) (h : octD n = c :: l) (ha : (127 : Int) < ((c.toNat : Nat) : Int)) : 0 :: c :: l = rowOf n := by
  unfold rowOf octs
  rw [if_neg hz, h, if_pos (by show 127 < c.toNat; omega)]
theorem rowOf_lo {n : Nat} {c : UInt8} {l : List UInt8} (hz : n ≠ 0) (h : octD n = c :: l) (ha : ¬ (127 : Int) < ((c.toNat : Nat) : Int)) : c :: l = rowOf n := by
  unfold rowOf octs
  rw [if_neg hz, h, if_neg (by show ¬ 127 < c.toNat; omega)]
local macro_rules | `(tactic| walk_at "exec While Compare cons nil") => `(tactic| (k_here; k_extra "MYW"))
local macro_rules | `(tactic| walk_at "exec Return some") => `(tactic| (k_here; k_dflt (k_extra "RET")))
set_option maxRecDepth 100000 in
set_option maxHeartbeats 8000000 in
theorem c_oct (w : World) {n : Nat} {t : Tok} (hn : n < 256 ^ 72) : Ctr w 268 2 100 [.int n t] (fun t => .bytes (rowOf n).toArray t) := by
  unfold Ctr
  k_fill
  intro p loose mean mg mb dp un gd cnm csc aa ccd cl outer A₀ base h₀ L m news s Q E B F X N T hk hd hu hret
  k_with "MYW" => ((with_reducible rename Fr _ _ _ _ => lF); (with_reducible rename News _ _ _ _ => lN); refine whileR (PySem.Str.ofString "value") (PySem.Str.ofString "row") (RInv n) (fun i => i.toNat) lF lN (by assumption) rfl rfl (RInv.zero n) ?_; intro i ti D9 vs ns k h tk hf9 hl9 hp9 F9 N9; clear lF lN; have hp8 := hp9.len hn; have hp7 := hf9.length; (try k_fold))
  have hln : (octD n).length ≤ 72 := octD_len 72 n hn
  k_with "RET" =>
    have hs := hp9.stop (by assumption)
    clear hp9
    by_cases hz : n = 0
    rotate_left
    obtain ⟨c, l, hcl⟩ : ∃ c l, octD n = c :: l := List.exists_cons_of_ne_nil (octD_ne hz)
    rw [hcl] at hs hln
    simp only [List.length_cons] at hln
    subst hs
    obtain ⟨tc, vs', rfl, hf8⟩ := PyProof.Rows.IntsAre.cons_inv hf9
    rotate_left
    subst hz
    rw [octD_zero] at hs
    subst hs
    obtain rfl := nil_inv hf9
  k_with "NSz" => (simp only [List.length_cons]; omega)
  k_with "NS" => first | exact (show [0] ++ intsOf (_ :: _) = intsOf (0 :: _ :: _) from rfl) | exact rfl
  walk_at "call ref"
  k_steps
  · exact hp9.next (by assumption)
  all_goals ((try dsimp only at hret); (first | refine retI (Q := Q) hret ?_ (by k_asm) (by k_asm) (by intro p0 hp0; repeat first | exact hp0 | refine List.mem_cons_of_mem _ ?_) | refine retY (Q := Q) hret ?_ (by k_asm) (by k_asm) (by intro p0 hp0; repeat first | exact hp0 | refine List.mem_cons_of_mem _ ?_) | refine retO (Q := Q) hret ?_ (by k_asm) (by k_asm) (by intro p0 hp0; repeat first | exact hp0 | refine List.mem_cons_of_mem _ ?_)))
  all_goals first
  | rfl
  | exact rowOf_hi (by assumption) (by assumption) (by assumption)
  | exact rowOf_lo (by assumption) (by assumption) (by assumption)
  | (exfalso
     have ha := ‹decide (intsOf (_ :: _) = []) = true›
     simp [intsOf] at ha
     done)
end Mine
end
section
open PySem PySem.W PyProof.Rows
namespace Mine
/-- what a call of the def at f gives back where the ledger holds the object o at a -/
def CtrL (w : World) (f : Addr) (D U : Nat) (a₀ : Addr) (o : Obj) (vs : List Value) (R : Tok → Value) : Prop :=
  ∀ (p : Program) (loose : List Str) (mean : ExcName → Option Value) (mg mb : Str → Option Value) (dp un : Nat) (gd : Option (List Code)) (cn : Str) (cs : Scope) (a : Addr) (ccd : Value) (cl : List (Str × Addr)) (outer : List Env) (A₀ : Around) (base h₀ : Heap) (L : Addr) (m : Str → Option Value) (news : List (Addr × Obj)) (s : Shared) (Q E : Value → Shared → Prop),
    Below A₀ base outer h₀ → Fr h₀ L s.heap m → Frag.In (Mine.hd.heap_39 (World.params w)) h₀ → News h₀ L s.heap ((a₀, o) :: news) → Top p loose mean mg mb h₀ → cs.kind = .function →
    dp + D < recursionLimit → un + U < cLine →
    (∀ (t : Tok) (h' : Heap) (tk' : Nat), Fr h₀ L h' m → News h₀ L h' news → Q (R t) { s with heap := h', toks := tk' }) →
    wpAny (model (RowW.prog (OpenRow.toRowW (OpenLaw.row PySem.Challenge.rw_fw0035_01))) w) (ktrTop dp un gd cn cs L a ccd cl outer) (call (.ref f) vs) Q E s
theorem CtrL.use {w : World} {f : Addr} {D U : Nat} {a₀ : Addr} {o : Obj} {vs : List Value} {R : Tok → Value} {p : Program} {loose : List Str} {mean : ExcName → Option Value} {mg mb : Str → Option Value} {dp un : Nat} {gd : Option (List Code)} {cn : Str} {cs : Scope} {a : Addr} {ccd : Value} {cl : List (Str × Addr)} {outer : List Env} {A₀ : Around} {base h₀ : Heap} {L : Addr} {m : Str → Option Value} {news : List (Addr × Obj)} {s : Shared} {Q E : Value → Shared → Prop}
    (C : CtrL w f D U a₀ o vs R) (hm : (a₀, o) ∈ news) (B : Below A₀ base outer h₀) (F : Fr h₀ L s.heap m) (X : Frag.In (Mine.hd.heap_39 (World.params w)) h₀) (N : News h₀ L s.heap news) (T : Top p loose mean mg mb h₀) (hk : cs.kind = .function)
    (hd : dp + D < recursionLimit) (hu : un + U < cLine) (hret : ∀ (t : Tok) (h' : Heap) (tk' : Nat), Fr h₀ L h' m → News h₀ L h' news → Q (R t) { s with heap := h', toks := tk' }) :
    wpAny (model (RowW.prog (OpenRow.toRowW (OpenLaw.row PySem.Challenge.rw_fw0035_01))) w) (ktrTop dp un gd cn cs L a ccd cl outer) (call (.ref f) vs) Q E s :=
  C _ _ _ _ _ _ _ _ _ _ _ _ _ _ _ _ _ _ _ _ _ _ _ B F X (fun p hp => by
    rcases List.mem_cons.mp hp with rfl | hp
    · exact N _ hm
    · exact N p hp) T hk hd hu hret
end Mine
end
section
open PySem PySem.W PyProof.Rows
set_option pp.fieldNotation false
namespace Mine
local macro_rules | `(tactic| walk_at "my spare 0") => `(tactic| fail "none")
local macro_rules | `(tactic| walk_at "my spare 1") => `(tactic| fail "none")
local macro_rules | `(tactic| walk_at "my spare 2") => `(tactic| fail "none")
local macro_rules | `(tactic| walk_at "my spare 3") => `(tactic| fail "none")
local macro_rules | `(tactic| walk_at "my spare 4") => `(tactic| fail "none")
theorem put_back_C9 : True := by
  w_top off
  k_with_none
  trivial
local macro_rules | `(tactic| walk_at "call ref") => `(tactic| (k_here; k_dflt (refine wpAny_call ?_; (refine' code_def ?k1 ?k2 ?k3 ?k4 ?k5 ?kA ?kF ?kK ?k6 ?k7 ?k8 ?k9 ?kB ?_ ?c2 ?c3 ?c4 ?c5; (case kA => exact rfl); (case kF => exact rfl); (case kK => first | exact rfl | assumption); (case k1 => k_asm); (case k2 => k_asm); (case k3 => k_asm); (case k4 => k_asm); (case k5 => k_asm); (case k6 => k_is); (case k7 => k_is); (case k8 => ktr_room); (case k9 => first | exact BindsTo.of_eq rfl | exact binds_K (by k_in) rfl (by k_is) rfl rfl rfl); (case c5 => decide); (case kB => exact locs rfl); (case c2 => exact rfl); (case c3 => exact rfl); (case c4 => exact rfl); k_whole; intro g' L' h' FG' F' N' B' X' T'; (try dsimp only); (try k_lift B'); (try k_fold)))))
local macro_rules | `(tactic| walk_at "call builtin:len") => `(tactic| (k_here; (with_reducible show wpAny _ _ (call (Value.builtin _) [Value.bytes (List.toArray _) _]) _ _ _); (refine r_len (by (try simp only [List.length_append, List.length_take, List.length_drop, List.length_cons, List.length_nil, List.length_map, List.length_replicate]); omega) ?_); intro _ _; (try dsimp only)))
local macro_rules | `(tactic| walk_at "truthy bytes") => `(tactic| (k_here; (with_reducible show wpAny _ _ (truthy (Value.bytes (List.toArray _) _)) _ _ _); (refine r_truthy (by (try simp only [List.length_append, List.length_take, List.length_drop, List.length_cons, List.length_nil, List.length_map, List.length_replicate]); omega) ?_); intro _; (try dsimp only)))
local macro_rules | `(tactic| walk_at "subscriptTail") => `(tactic| (k_here; (with_reducible show wpAny _ _ (subscriptTail _ _ (Value.bytes (List.toArray _) _) (Value.int _ _)) _ _ _); (refine r_item (by (try simp only [List.length_append, List.length_take, List.length_drop, List.length_cons, List.length_nil, List.length_map, List.length_replicate]); omega) (by (try simp only [List.length_append, List.length_take, List.length_drop, List.length_cons, List.length_nil, List.length_map, List.length_replicate]); omega) (by (try simp only [List.length_append, List.length_take, List.length_drop, List.length_cons, List.length_nil, List.length_map, List.length_replicate]); omega) ?_); intro _ _; (try dsimp only)))
local macro_rules | `(tactic| walk_at "subscriptTail") => `(tactic| (k_here; (with_reducible show wpAny _ _ (subscriptTail _ _ (Value.bytes (List.toArray _) _) (Value.int (-1) _)) _ _ _); (refine r_itemR (by (try simp only [List.length_append, List.length_take, List.length_drop, List.length_cons, List.length_nil, List.length_map, List.length_replicate]); omega) (by (try simp only [List.length_append, List.length_take, List.length_drop, List.length_cons, List.length_nil, List.length_map, List.length_replicate]); omega) (by decide) ?_); intro _ _; (try dsimp only)))
local macro_rules | `(tactic| walk_at "subscriptTail") => `(tactic| (k_here; (with_reducible show wpAny _ _ (subscriptTail _ (Expr.Slice _ _ none _) (Value.bytes (List.toArray _) _) (Value.ref _)) _ _ _); (with_reducible rename Fr _ _ _ _ => F'); (with_reducible rename News _ _ _ _ => N'); (refine r_slice (s := ⟨_, _, _, _, _⟩) F' N' (by constructor) (by constructor) (by (try simp only [List.length_append, List.length_take, List.length_drop, List.length_cons, List.length_nil, List.length_map, List.length_replicate]); omega) ?_); intro _ _ _ F' N'; (try dsimp only); (try k_sweep)))
local macro_rules | `(tactic| walk_at "binaryOp Add bytes bytes") => `(tactic| (k_here; (with_reducible show wpAny _ _ (binaryOp Operator.Add (Value.bytes (List.toArray _) _) (Value.bytes (List.toArray _) _)) _ _ _); (refine r_add (by (try simp only [List.length_append, List.length_take, List.length_drop, List.length_cons, List.length_nil, List.length_map, List.length_replicate]); omega) ?_); intro _ _; (try dsimp only)))
local macro_rules | `(tactic| walk_at "compareOp Eq bytes bytes") => `(tactic| (k_here; (with_reducible show wpAny _ _ (compareOp CmpOp.Eq (Value.bytes (List.toArray _) _) (Value.bytes (List.toArray _) _)) _ _ _); (refine r_eq ?_); (try dsimp only)))
local macro_rules | `(tactic| walk_at "compareOp NotEq bytes bytes") => `(tactic| (k_here; (with_reducible show wpAny _ _ (compareOp CmpOp.NotEq (Value.bytes (List.toArray _) _) (Value.bytes (List.toArray _) _)) _ _ _); (refine r_ne ?_); (try dsimp only)))
local macro_rules | `(tactic| walk_at "call type:type") => `(tactic| (k_here; (with_reducible show wpAny _ _ (call (Value.type "type") [Value.bytes _ _]) _ _ _); (refine call_type_of (Tx := "bytes") (typeIs_bytes _ _ _) (by decide +kernel) ?_)))
local macro_rules | `(tactic| walk_at "call type:type") => `(tactic| (k_here; (with_reducible show wpAny _ _ (call (Value.type "type") [Value.int _ _]) _ _ _); (refine call_type_of (Tx := "int") (typeIs_int _ _ _) (by decide +kernel) ?_)))
local macro_rules | `(tactic| walk_at "compareOp Is") => `(tactic| (k_here; (with_reducible show wpAny _ _ (compareOp CmpOp.Is (Value.type _) (Value.type _)) _ _ _); first | refine wpAny_is_self (by rfl) ?_ | refine wpAny_is_other (by rfl) (by decide) ?_))
local macro_rules | `(tactic| walk_at "compareOp IsNot") => `(tactic| (k_here; (with_reducible show wpAny _ _ (compareOp CmpOp.IsNot (Value.type _) (Value.type _)) _ _ _); first | refine wpAny_isNot_self (by rfl) ?_ | refine wpAny_isNot_other (by rfl) (by decide) ?_))
local macro_rules | `(tactic| k_all) => `(tactic| first | exact ne_of_ltAll (by assumption) | exact ne_of_allLt (by assumption))
local macro_rules | `(tactic| walk_at "call builtin:list.append") => `(tactic| (k_here; (with_reducible show wpAny _ _ (call (Value.builtin _) [Value.ref _, _]) _ _ _); k_dflt (refine' append_K ?k1 ?k2 ?k3 ?_ ?z; (case k1 => k_asm); (case k2 => k_asm); (case k3 => k_upd); (case z => ((try simp only [List.size_toArray, List.length_append, List.length_cons, List.length_nil]); rw [sizeLine_eq]; omega)); k_whole); intro h' F' N'; (try k_sweep)))
local macro_rules | `(tactic| walk_at "call builtin:_struct.pack") => `(tactic| (k_here; (refine r_pack (by omega) (by omega) ?_); intro _ _; (try dsimp only)))
local macro_rules | `(tactic| walk_at "call builtin:bytes.hex") => `(tactic| (k_here; (refine r_hex (by (try simp only [List.length_append, List.length_take, List.length_drop, List.length_cons, List.length_nil, List.length_map, List.length_replicate]); omega) ?_); intro _ _; (try dsimp only)))
local macro_rules | `(tactic| walk_at "call builtin:ord") => `(tactic| (k_here; (with_reducible show wpAny _ _ (call (Value.builtin _) [Value.bytes _ _]) _ _ _); (refine r_ord (by k_extra "ord") ?_); intro _ _; (try dsimp only)))
local macro_rules | `(tactic| walk_at "call builtin:bytes.startswith") => `(tactic| (k_here; (with_reducible show wpAny _ _ (call (Value.builtin _) [Value.bytes (List.toArray _) _, Value.bytes _ _]) _ _ _); (refine r_startswith ?_); (try dsimp only)))
local macro_rules | `(tactic| walk_at "getMethod bytes") => `(tactic| (k_here; (with_reducible first | refine m_hex ?_ | refine m_startswith ?_ | refine m_join ?_)))
local macro_rules | `(tactic| walk_at "getMethod str") => `(tactic| (k_here; (with_reducible refine m_encode ?_)))
local macro_rules | `(tactic| walk_at "call builtin:bytes.join") => `(tactic| (k_here; (with_reducible show wpAny _ _ (call (Value.builtin _) [Value.bytes _ _, Value.ref _]) _ _ _); (refine' r_join (o := ?o) ?hT (News.get ?N ?hm) ?hc ?hd ?hz ?_; (case N => k_asm); (case hm => k_mem); (case hc => exact rfl); (case hT => first | exact Or.inl rfl | exact Or.inr rfl); (case hd => exact rfl); (case hz => exact (by (try simp only [List.length_append, List.length_take, List.length_drop, List.length_cons, List.length_nil, List.length_map, List.length_replicate]); omega))); intro _ _; (try dsimp only)))
local macro_rules | `(tactic| walk_at "subscriptTail") => `(tactic| (k_here; (with_reducible show wpAny _ _ (subscriptTail _ (Expr.Slice _ _ none _) (Value.bytes (List.toArray _) _) (Value.ref _)) _ _ _); (with_reducible rename Fr _ _ _ _ => F'); (with_reducible rename News _ _ _ _ => N'); (refine' r_cut (s := ⟨_, _, _, _, _⟩) F' N' ?ha ?hb ?hz ?hc ?_; (case ha => constructor); (case hb => constructor); (case hz => exact (by (try simp only [List.length_append, List.length_take, List.length_drop, List.length_cons, List.length_nil, List.length_map, List.length_replicate]); omega)); (case hc => k_dflt (k_extra "cut"))); intro _ _ _ F' N'; (try dsimp only); (try k_sweep)))
local macro_rules | `(tactic| walk_at "binaryOp BitAnd int int") => `(tactic| (k_here; (refine' r_band ?hc ?_; (case hc => k_dflt (k_extra "band"))); intro _ _; (try dsimp only)))
local macro_rules | `(tactic| walk_at "call type:int") => `(tactic| (k_here; (with_reducible show wpAny _ _ (call (Value.type "int") [Value.bytes (List.toArray (List.map _ (hexOfB _))) _, Value.int 16 _]) _ _ _); (refine' r_int16 ?hn ?hl ?_; (case hn => k_extra "rowne"); (case hl => k_extra "rowlen")); intro _ _; (try dsimp only)))
local macro_rules | `(tactic| walk_at "call builtin:bytes.startswith") => `(tactic| (k_here; (with_reducible show wpAny _ _ (call (Value.builtin _) [Value.bytes (List.toArray _) _, Value.bytes _ _]) _ _ _); (first | refine r_sw (b := true) (by k_dflt (exact rfl)) ?_ | refine r_sw (b := false) (by k_dflt (exact rfl)) ?_); (try dsimp only)))
local macro_rules | `(tactic| walk_at "call builtin:len") => `(tactic| (k_here; (with_reducible show wpAny _ _ (call (Value.builtin _) [Value.bytes (List.toArray _) _]) _ _ _); (refine' r_lenE (n := ?n) ?hc ?hf ?_; (case hc => ((try simp only [List.length_append, List.length_take, List.length_drop, List.length_cons, List.length_nil, List.length_map, List.length_replicate]); exact rfl)); (case hf => omega)); intro _ _; (try dsimp only)))
local macro_rules | `(tactic| walk_at "call type:bytes") => `(tactic| (k_here; (with_reducible show wpAny _ _ (call (Value.type "bytes") [Value.ref _]) _ _ _); k_dflt (refine' r_bytesL ?F ?N ?l ?i ?n ?z ?h ?_; (case F => k_asm); (case N => k_asm); (case l => is_list); (case i => l_ints); (case n => first | k_extra "NS" | exact rfl | exact ns_one (by omega) (by omega) | exact ns_one (by (simp only [List.length_append, List.length_cons, List.length_nil]); omega) (by (simp only [List.length_append, List.length_cons, List.length_nil]); omega)); (case z => first | (simp only [List.length_cons, List.length_nil]; omega) | k_extra "NSz"); (case h => rfl); k_whole; intro h' t' k' F' N'; (try k_sweep))))
local macro_rules | `(tactic| walk_at "eval ListComp") => `(tactic| (k_here; k_dflt (refine LCg.ListComp_U (F₀ := by k_asm) (by rfl) (by decide) (by rfl) (by decide) (by rfl) ?_)))
local macro_rules | `(tactic| walk_at "CompSrc") => `(tactic| (k_here; k_dflt (refine LCg.CompSrc.ledger (by rfl) (by k_asm) (by k_asm) (by k_mem) (by first | size_fits | exact Nat.le_of_ble_eq_true rfl) ?_; intro g'; lcg_lit)))
local macro_rules | `(tactic| walk_at "my off") => `(tactic| first | exact True.intro | assumption | (refine And.intro ⟨by k_ne, by k_ne, by k_ne⟩ ?_; walk_at "my off"))
local macro_rules | `(tactic| walk_at "CompEnd") => `(tactic| (first | refine LCg.CompEnd.intro (by assumption) (by assumption) _ (fun _ hp => hp) (by first | assumption | ((simp only [LCg.Off3, and_true]); assumption) | walk_at "my off") (by first | exact True.intro | exact Or.inl (by assumption) | exact Or.inr ⟨_, by k_mem, rfl, _, rfl⟩ | exact ⟨_, by k_mem, rfl, _, rfl⟩) ?_ | refine LCg.CompEnd.intro (by assumption) (by assumption) _ (fun _ hp => List.mem_cons_of_mem _ hp) (by first | assumption | ((simp only [LCg.Off3, and_true]); assumption) | walk_at "my off") (by first | exact True.intro | exact Or.inl (by assumption) | exact Or.inr ⟨_, by k_mem, rfl, _, rfl⟩ | exact ⟨_, by k_mem, rfl, _, rfl⟩) ?_ | refine LCg.CompEnd.intro (by assumption) (by assumption) _ (fun _ hp => List.mem_cons_of_mem _ (List.mem_cons_of_mem _ hp)) (by first | assumption | ((simp only [LCg.Off3, and_true]); assumption) | walk_at "my off") (by first | exact True.intro | exact Or.inl (by assumption) | exact Or.inr ⟨_, by k_mem, rfl, _, rfl⟩ | exact ⟨_, by k_mem, rfl, _, rfl⟩) ?_))
/-! _law_laid -/
def pieceB (r : List UInt8) : List UInt8 := 2 :: (r.length).toUInt8 :: r
def laidB (r z : List UInt8) : List UInt8 := 48 :: ((pieceB r ++ pieceB z).length).toUInt8 :: (pieceB r ++ pieceB z)
set_option maxRecDepth 100000 in
set_option maxHeartbeats 8000000 in
theorem c_laid (w : World) {a₀ : Addr} {r z : List UInt8} {t u : Tok} {k : Nat} (h1 : r.length ≤ 100) (h2 : z.length ≤ 100) : CtrL w 273 3 100 a₀ (W.listOf #[.bytes r.toArray t, .bytes z.toArray u] k) [.ref a₀] (fun t => .bytes (laidB r z).toArray t) := by
  unfold CtrL
  k_fill
  intro p loose mean mg mb dp un gd cnm csc aa ccd cl outer A₀ base h₀ L m news s Q E B F X N T hk hd hu hret
  walk_at "call ref"
  k_steps
  (try dsimp only at hret); (first | refine retI (Q := Q) hret ?_ (by k_asm) (by k_asm) (by intro p0 hp0; repeat first | exact hp0 | refine List.mem_cons_of_mem _ ?_) | refine retY (Q := Q) hret ?_ (by k_asm) (by k_asm) (by intro p0 hp0; repeat first | exact hp0 | refine List.mem_cons_of_mem _ ?_) | refine retO (Q := Q) hret ?_ (by k_asm) (by k_asm) (by intro p0 hp0; repeat first | exact hp0 | refine List.mem_cons_of_mem _ ?_))
  exact rfl
theorem laidB_enc (r z : Nat) : laidB (rowOf r) (rowOf z) = sigB r z := rfl
end Mine
end
section
open PySem PySem.W PyProof.Rows
set_option pp.fieldNotation false
namespace Mine
theorem put_back_D1 : True := by
  w_top off
  k_with_none
  trivial
local macro_rules | `(tactic| walk_at "call builtin:len") => `(tactic| (k_here; (with_reducible show wpAny _ _ (call (Value.builtin _) [Value.bytes (List.toArray _) _]) _ _ _); (refine r_len (by (try simp only [List.length_append, List.length_take, List.length_drop, List.length_cons, List.length_nil, List.length_map, List.length_replicate]); omega) ?_); intro _ _; (try dsimp only)))
local macro_rules | `(tactic| walk_at "truthy bytes") => `(tactic| (k_here; (with_reducible show wpAny _ _ (truthy (Value.bytes (List.toArray _) _)) _ _ _); (refine r_truthy (by (try simp only [List.length_append, List.length_take, List.length_drop, List.length_cons, List.length_nil, List.length_map, List.length_replicate]); omega) ?_); intro _; (try dsimp only)))
local macro_rules | `(tactic| walk_at "subscriptTail") => `(tactic| (k_here; (with_reducible show wpAny _ _ (subscriptTail _ _ (Value.bytes (List.toArray _) _) (Value.int _ _)) _ _ _); (refine r_item (by (try simp only [List.length_append, List.length_take, List.length_drop, List.length_cons, List.length_nil, List.length_map, List.length_replicate]); omega) (by (try simp only [List.length_append, List.length_take, List.length_drop, List.length_cons, List.length_nil, List.length_map, List.length_replicate]); omega) (by (try simp only [List.length_append, List.length_take, List.length_drop, List.length_cons, List.length_nil, List.length_map, List.length_replicate]); omega) ?_); intro _ _; (try dsimp only)))
local macro_rules | `(tactic| walk_at "subscriptTail") => `(tactic| (k_here; (with_reducible show wpAny _ _ (subscriptTail _ _ (Value.bytes (List.toArray _) _) (Value.int (-1) _)) _ _ _); (refine r_itemR (by (try simp only [List.length_append, List.length_take, List.length_drop, List.length_cons, List.length_nil, List.length_map, List.length_replicate]); omega) (by (try simp only [List.length_append, List.length_take, List.length_drop, List.length_cons, List.length_nil, List.length_map, List.length_replicate]); omega) (by decide) ?_); intro _ _; (try dsimp only)))
local macro_rules | `(tactic| walk_at "subscriptTail") => `(tactic| (k_here; (with_reducible show wpAny _ _ (subscriptTail _ (Expr.Slice _ _ none _) (Value.bytes (List.toArray _) _) (Value.ref _)) _ _ _); (with_reducible rename Fr _ _ _ _ => F'); (with_reducible rename News _ _ _ _ => N'); (refine r_slice (s := ⟨_, _, _, _, _⟩) F' N' (by constructor) (by constructor) (by (try simp only [List.length_append, List.length_take, List.length_drop, List.length_cons, List.length_nil, List.length_map, List.length_replicate]); omega) ?_); intro _ _ _ F' N'; (try dsimp only); (try k_sweep)))
local macro_rules | `(tactic| walk_at "binaryOp Add bytes bytes") => `(tactic| (k_here; (with_reducible show wpAny _ _ (binaryOp Operator.Add (Value.bytes (List.toArray _) _) (Value.bytes (List.toArray _) _)) _ _ _); (refine r_add (by (try simp only [List.length_append, List.length_take, List.length_drop, List.length_cons, List.length_nil, List.length_map, List.length_replicate]); omega) ?_); intro _ _; (try dsimp only)))
local macro_rules | `(tactic| walk_at "compareOp Eq bytes bytes") => `(tactic| (k_here; (with_reducible show wpAny _ _ (compareOp CmpOp.Eq (Value.bytes (List.toArray _) _) (Value.bytes (List.toArray _) _)) _ _ _); (refine r_eq ?_); (try dsimp only)))
local macro_rules | `(tactic| walk_at "compareOp NotEq bytes bytes") => `(tactic| (k_here; (with_reducible show wpAny _ _ (compareOp CmpOp.NotEq (Value.bytes (List.toArray _) _) (Value.bytes (List.toArray _) _)) _ _ _); (refine r_ne ?_); (try dsimp only)))
local macro_rules | `(tactic| walk_at "call type:type") => `(tactic| (k_here; (with_reducible show wpAny _ _ (call (Value.type "type") [Value.bytes _ _]) _ _ _); (refine call_type_of (Tx := "bytes") (typeIs_bytes _ _ _) (by decide +kernel) ?_)))
local macro_rules | `(tactic| walk_at "call type:type") => `(tactic| (k_here; (with_reducible show wpAny _ _ (call (Value.type "type") [Value.int _ _]) _ _ _); (refine call_type_of (Tx := "int") (typeIs_int _ _ _) (by decide +kernel) ?_)))
local macro_rules | `(tactic| walk_at "compareOp Is") => `(tactic| (k_here; (with_reducible show wpAny _ _ (compareOp CmpOp.Is (Value.type _) (Value.type _)) _ _ _); first | refine wpAny_is_self (by rfl) ?_ | refine wpAny_is_other (by rfl) (by decide) ?_))
local macro_rules | `(tactic| walk_at "compareOp IsNot") => `(tactic| (k_here; (with_reducible show wpAny _ _ (compareOp CmpOp.IsNot (Value.type _) (Value.type _)) _ _ _); first | refine wpAny_isNot_self (by rfl) ?_ | refine wpAny_isNot_other (by rfl) (by decide) ?_))
local macro_rules | `(tactic| k_all) => `(tactic| first | exact ne_of_ltAll (by assumption) | exact ne_of_allLt (by assumption))
local macro_rules | `(tactic| walk_at "call builtin:list.append") => `(tactic| (k_here; (with_reducible show wpAny _ _ (call (Value.builtin _) [Value.ref _, _]) _ _ _); k_dflt (refine' append_K ?k1 ?k2 ?k3 ?_ ?z; (case k1 => k_asm); (case k2 => k_asm); (case k3 => k_upd); (case z => ((try simp only [List.size_toArray, List.length_append, List.length_cons, List.length_nil]); rw [sizeLine_eq]; omega)); k_whole); intro h' F' N'; (try k_sweep)))
local macro_rules | `(tactic| walk_at "call builtin:_struct.pack") => `(tactic| (k_here; (refine r_pack (by omega) (by omega) ?_); intro _ _; (try dsimp only)))
local macro_rules | `(tactic| walk_at "call builtin:bytes.hex") => `(tactic| (k_here; (refine r_hex (by (try simp only [List.length_append, List.length_take, List.length_drop, List.length_cons, List.length_nil, List.length_map, List.length_replicate]); omega) ?_); intro _ _; (try dsimp only)))
local macro_rules | `(tactic| walk_at "call builtin:ord") => `(tactic| (k_here; (with_reducible show wpAny _ _ (call (Value.builtin _) [Value.bytes _ _]) _ _ _); (refine r_ord (by k_extra "ord") ?_); intro _ _; (try dsimp only)))
local macro_rules | `(tactic| walk_at "call builtin:bytes.startswith") => `(tactic| (k_here; (with_reducible show wpAny _ _ (call (Value.builtin _) [Value.bytes (List.toArray _) _, Value.bytes _ _]) _ _ _); (refine r_startswith ?_); (try dsimp only)))
local macro_rules | `(tactic| walk_at "getMethod bytes") => `(tactic| (k_here; (with_reducible first | refine m_hex ?_ | refine m_startswith ?_ | refine m_join ?_)))
local macro_rules | `(tactic| walk_at "getMethod str") => `(tactic| (k_here; (with_reducible refine m_encode ?_)))
local macro_rules | `(tactic| walk_at "call builtin:bytes.join") => `(tactic| (k_here; (with_reducible show wpAny _ _ (call (Value.builtin _) [Value.bytes _ _, Value.ref _]) _ _ _); (refine' r_join (o := ?o) ?hT (News.get ?N ?hm) ?hc ?hd ?hz ?_; (case N => k_asm); (case hm => k_mem); (case hc => exact rfl); (case hT => first | exact Or.inl rfl | exact Or.inr rfl); (case hd => exact rfl); (case hz => exact (by (try simp only [List.length_append, List.length_take, List.length_drop, List.length_cons, List.length_nil, List.length_map, List.length_replicate]); omega))); intro _ _; (try dsimp only)))
local macro_rules | `(tactic| walk_at "subscriptTail") => `(tactic| (k_here; (with_reducible show wpAny _ _ (subscriptTail _ (Expr.Slice _ _ none _) (Value.bytes (List.toArray _) _) (Value.ref _)) _ _ _); (with_reducible rename Fr _ _ _ _ => F'); (with_reducible rename News _ _ _ _ => N'); (refine' r_cut (s := ⟨_, _, _, _, _⟩) F' N' ?ha ?hb ?hz ?hc ?_; (case ha => constructor); (case hb => constructor); (case hz => exact (by (try simp only [List.length_append, List.length_take, List.length_drop, List.length_cons, List.length_nil, List.length_map, List.length_replicate]); omega)); (case hc => k_dflt (k_extra "cut"))); intro _ _ _ F' N'; (try dsimp only); (try k_sweep)))
local macro_rules | `(tactic| walk_at "binaryOp BitAnd int int") => `(tactic| (k_here; (refine' r_band ?hc ?_; (case hc => k_dflt (k_extra "band"))); intro _ _; (try dsimp only)))
local macro_rules | `(tactic| walk_at "call type:int") => `(tactic| (k_here; (with_reducible show wpAny _ _ (call (Value.type "int") [Value.bytes (List.toArray (List.map _ (hexOfB _))) _, Value.int 16 _]) _ _ _); (refine' r_int16 ?hn ?hl ?_; (case hn => k_extra "rowne"); (case hl => k_extra "rowlen")); intro _ _; (try dsimp only)))
local macro_rules | `(tactic| walk_at "call builtin:bytes.startswith") => `(tactic| (k_here; (with_reducible show wpAny _ _ (call (Value.builtin _) [Value.bytes (List.toArray _) _, Value.bytes _ _]) _ _ _); (first | refine r_sw (b := true) (by k_dflt (exact rfl)) ?_ | refine r_sw (b := false) (by k_dflt (exact rfl)) ?_); (try dsimp only)))
local macro_rules | `(tactic| walk_at "call builtin:len") => `(tactic| (k_here; (with_reducible show wpAny _ _ (call (Value.builtin _) [Value.bytes (List.toArray _) _]) _ _ _); (refine' r_lenE (n := ?n) ?hc ?hf ?_; (case hc => ((try simp only [List.length_append, List.length_take, List.length_drop, List.length_cons, List.length_nil, List.length_map, List.length_replicate]); exact rfl)); (case hf => omega)); intro _ _; (try dsimp only)))
local macro_rules | `(tactic| walk_at "call type:bytes") => `(tactic| (k_here; (with_reducible show wpAny _ _ (call (Value.type "bytes") [Value.ref _]) _ _ _); k_dflt (refine' r_bytesL ?F ?N ?l ?i ?n ?z ?h ?_; (case F => k_asm); (case N => k_asm); (case l => is_list); (case i => l_ints); (case n => first | k_extra "NS" | exact rfl | exact ns_one (by omega) (by omega) | exact ns_one (by (simp only [List.length_append, List.length_cons, List.length_nil]); omega) (by (simp only [List.length_append, List.length_cons, List.length_nil]); omega)); (case z => first | (simp only [List.length_cons, List.length_nil]; omega) | k_extra "NSz"); (case h => rfl); k_whole; intro h' t' k' F' N'; (try k_sweep))))
local macro_rules | `(tactic| walk_at "leaving ref") => `(tactic| (k_here; first
  | (refine' leave_raiseD ?k1 ?k0 ?k2 ?k3 ?_; (case k0 => assumption); (case k2 => assumption); (case k1 => assumption); (case k3 => k_asm); k_whole; intro h' t' R' U'; (try dsimp only at R' U' ⊢))
  | (refine' leave_onD ?k1 ?k2 ?k3 ?k4 ?_; (case k3 => assumption); (case k2 => assumption); (case k1 => assumption); (case k4 => assumption); k_whole; intro h' R' U'; (try dsimp only at R' U' ⊢))))
local macro_rules | `(tactic| walk_at "noteFrame ref") => `(tactic| (k_here; k_dflt (refine' lookD ?R ?K ?U ?_; (case R => assumption); (case K => assumption); (case U => assumption); k_whole); intro h' R' U'; (try dsimp only at R' U' ⊢)))
local macro_rules | `(tactic| walk_at "handleBy ref") => `(tactic| (k_here; k_dflt (refine' hitD ?R ?F ?K ?U ?XB ?TB ?D ?T0 ?T ?_; (case R => assumption); (case F => assumption); (case K => assumption); (case U => assumption); (case XB => assumption); (case TB => assumption); (case D => assumption); (case T0 => first | assumption | exact KtsTurn.refl); (case T => kts_test); k_whole); intro h' g' oe' ot' tk' T' F' N' O' K' X' P' D'; (try k_lift K'); (try k_sweep)))
local macro_rules | `(tactic| walk_at "getMethod ref") => `(tactic| (k_here; (with_reducible rename ExcObj _ _ _ _ _ => eo'); k_dflt (refine' method_exc ?F ?X ?N ?M eo' ?a ?b ?c ?d ?_; (case F => assumption); (case X => k_asm); (case N => assumption); (case M => k_mem); (case a => k_is); (case b => k_is); (case c => k_is); (case d => k_is); k_whole)))
local macro_rules | `(tactic| walk_at "getAttr ref") => `(tactic| (k_here; (with_reducible rename ExcObj _ _ _ _ _ => eo'); k_dflt (refine' args_exc ?F ?X ?N ?M eo' ?_; (case F => assumption); (case X => k_asm); (case N => assumption); (case M => k_mem); k_whole)))
local macro_rules | `(tactic| walk_at "call builtin:len") => `(tactic| (k_here; (with_reducible rename ExcObj _ _ _ _ _ => eo'); (with_reducible show wpAny _ _ (call (Value.builtin _) [Value.ref _]) _ _ _); k_dflt (refine' PyProof.Rows.len_tuple (exc_tup ?N ?M eo') ?S ?_; (case N => assumption); (case M => k_mem); (case S => simp); k_whole); (try dsimp only [List.size_toArray, List.length_cons, List.length_nil])))
local macro_rules | `(tactic| walk_at "subscriptTail") => `(tactic| (k_here; (with_reducible rename ExcObj _ _ _ _ _ => eo'); (with_reducible show wpAny _ _ (subscriptTail _ _ (Value.ref _) (Value.int _ _)) _ _ _); k_dflt (refine' item_tupleT (exc_tup ?N ?M eo') ?a ?b ?c ?d ?_; (case N => assumption); (case M => k_mem); (case a => decide); (case b => decide); (case c => rfl); (case d => rfl); k_whole)))
local macro_rules | `(tactic| walk_at "call builtin:len") => `(tactic| (k_here; (with_reducible rename ExcObj _ _ _ _ _ => eo'); (with_reducible show wpAny _ _ (call (Value.builtin _) [Value.ref _]) _ _ _); k_dflt (refine' len_tup2 (exc_tup ?N ?M eo') ?_; (case N => assumption); (case M => k_mem); k_whole)))
local macro_rules | `(tactic| walk_at "exec Raise some none") => `(tactic| (k_here; exfalso; omega))
local macro_rules | `(tactic| walk_at "callWith") => `(tactic| (k_here; (with_reducible show wpAny _ _ (callWith _ (Prod.fst _) _ _ _) _ _ _); with_reducible refine cw_pair ?_))
local macro_rules | `(tactic| walk_at "callWith ref") => `(tactic| (k_here; (with_reducible show wpAny _ _ (callWith _ (Prod.fst _) _ _ _) _ _ _); with_reducible refine cw_pair ?_))
local macro_rules | `(tactic| walk_at "callWith ref") => `(tactic| (k_here; (with_reducible show wpAny _ _ (callWith _ (Value.ref _) [Value.ref _] _ _) _ _ _); k_dflt (refine' callWith_K0 ?k1 ?k2 ?_; (case k1 => with_reducible first | assumption | exact Frag.In.keeps (by assumption) (Fr.keep (by assumption))); (case k2 => k_is); k_whole)))
def pkSpec (b : List UInt8) : Int := if (b.length = 33 ∧ ((b.getD 0 0).toNat = 2 ∨ (b.getD 0 0).toNat = 3)) ∨ (b.length = 65 ∧ (b.getD 0 0).toNat = 4) then 0 else 28
set_option maxRecDepth 100000 in
set_option maxHeartbeats 8000000 in
theorem c_pk (w : World) (b : List UInt8) (t : Tok) (hb1 : b.length ≤ 100) : CtrA w 280 [.ref 256, .bytes b.toArray t] (fun t' => .int (pkSpec b) t') := by
  unfold CtrA
  k_fill
  intro p loose mean mg mb cn cs a ccd base h₀ L m news s Q E B XB TB F X N T hk hret
  refine wpAny_call ?_
  k_dflt (refine' code_defS0 ?k1 ?k2 ?k3 ?k4 ?k5 ?kA ?k6 ?k7 ?k8 ?k9 ?kB ?_ ?cK ?c2 ?c3 ?c4 ?c5; (case kA => exact rfl); (case k2 => k_asm); (case k1 => k_asm); (case k3 => k_asm); (case k4 => k_asm); (case k5 => k_asm); (case k6 => k_is); (case k7 => k_is); (case k8 => k_room); (case k9 => first | exact BindsTo.of_eq rfl | exact binds_K (by k_in) rfl (by k_is) rfl rfl rfl); (case kB => exact locs rfl); (case cK => assumption); (case c2 => exact rfl); (case c3 => exact rfl); (case c4 => exact rfl); (case c5 => decide); k_whole; intro g' L' h' FG' F' N' B' X' T' D'; (try dsimp only); (try k_lift B'); (try k_fold))
  k_steps
  all_goals ((try dsimp only at hret); (first | refine retI (Q := Q) hret ?_ (by k_asm) (by k_asm) (by intro p0 hp0; repeat first | exact hp0 | refine List.mem_cons_of_mem _ ?_) | refine retY (Q := Q) hret ?_ (by k_asm) (by k_asm) (by intro p0 hp0; repeat first | exact hp0 | refine List.mem_cons_of_mem _ ?_) | refine retO (Q := Q) hret ?_ (by k_asm) (by k_asm) (by intro p0 hp0; repeat first | exact hp0 | refine List.mem_cons_of_mem _ ?_)))
  all_goals simp only [List.any_cons, List.any_nil, Bool.or_false, Bool.or_eq_true, Bool.or_eq_false_iff, beq_iff_eq, beq_eq_false_iff_ne, Int.toNat_zero, ne_eq] at *
  all_goals unfold pkSpec
  all_goals (split <;> omega)
end Mine
end
section
open PySem PySem.W PyProof.Rows
set_option pp.fieldNotation false
namespace Mine
local macro_rules | `(tactic| walk_at "my spare 0") => `(tactic| fail "none")
theorem put_back_D2 : True := by
  w_top off
  k_with_none
  trivial
local macro_rules | `(tactic| walk_at "call builtin:len") => `(tactic| (k_here; (with_reducible show wpAny _ _ (call (Value.builtin _) [Value.bytes (List.toArray _) _]) _ _ _); (refine r_len (by (try simp only [List.length_append, List.length_take, List.length_drop, List.length_cons, List.length_nil, List.length_map, List.length_replicate]); omega) ?_); intro _ _; (try dsimp only)))
local macro_rules | `(tactic| walk_at "truthy bytes") => `(tactic| (k_here; (with_reducible show wpAny _ _ (truthy (Value.bytes (List.toArray _) _)) _ _ _); (refine r_truthy (by (try simp only [List.length_append, List.length_take, List.length_drop, List.length_cons, List.length_nil, List.length_map, List.length_replicate]); omega) ?_); intro _; (try dsimp only)))
local macro_rules | `(tactic| walk_at "subscriptTail") => `(tactic| (k_here; (with_reducible show wpAny _ _ (subscriptTail _ _ (Value.bytes (List.toArray _) _) (Value.int _ _)) _ _ _); (refine r_item (by (try simp only [List.length_append, List.length_take, List.length_drop, List.length_cons, List.length_nil, List.length_map, List.length_replicate]); omega) (by (try simp only [List.length_append, List.length_take, List.length_drop, List.length_cons, List.length_nil, List.length_map, List.length_replicate]); omega) (by (try simp only [List.length_append, List.length_take, List.length_drop, List.length_cons, List.length_nil, List.length_map, List.length_replicate]); omega) ?_); intro _ _; (try dsimp only)))
local macro_rules | `(tactic| walk_at "subscriptTail") => `(tactic| (k_here; (with_reducible show wpAny _ _ (subscriptTail _ _ (Value.bytes (List.toArray _) _) (Value.int (-1) _)) _ _ _); (refine r_itemR (by (try simp only [List.length_append, List.length_take, List.length_drop, List.length_cons, List.length_nil, List.length_map, List.length_replicate]); omega) (by (try simp only [List.length_append, List.length_take, List.length_drop, List.length_cons, List.length_nil, List.length_map, List.length_replicate]); omega) (by decide) ?_); intro _ _; (try dsimp only)))
local macro_rules | `(tactic| walk_at "subscriptTail") => `(tactic| (k_here; (with_reducible show wpAny _ _ (subscriptTail _ (Expr.Slice _ _ none _) (Value.bytes (List.toArray _) _) (Value.ref _)) _ _ _); (with_reducible rename Fr _ _ _ _ => F'); (with_reducible rename News _ _ _ _ => N'); (refine r_slice (s := ⟨_, _, _, _, _⟩) F' N' (by constructor) (by constructor) (by (try simp only [List.length_append, List.length_take, List.length_drop, List.length_cons, List.length_nil, List.length_map, List.length_replicate]); omega) ?_); intro _ _ _ F' N'; (try dsimp only); (try k_sweep)))
local macro_rules | `(tactic| walk_at "binaryOp Add bytes bytes") => `(tactic| (k_here; (with_reducible show wpAny _ _ (binaryOp Operator.Add (Value.bytes (List.toArray _) _) (Value.bytes (List.toArray _) _)) _ _ _); (refine r_add (by (try simp only [List.length_append, List.length_take, List.length_drop, List.length_cons, List.length_nil, List.length_map, List.length_replicate]); omega) ?_); intro _ _; (try dsimp only)))
local macro_rules | `(tactic| walk_at "compareOp Eq bytes bytes") => `(tactic| (k_here; (with_reducible show wpAny _ _ (compareOp CmpOp.Eq (Value.bytes (List.toArray _) _) (Value.bytes (List.toArray _) _)) _ _ _); (refine r_eq ?_); (try dsimp only)))
local macro_rules | `(tactic| walk_at "compareOp NotEq bytes bytes") => `(tactic| (k_here; (with_reducible show wpAny _ _ (compareOp CmpOp.NotEq (Value.bytes (List.toArray _) _) (Value.bytes (List.toArray _) _)) _ _ _); (refine r_ne ?_); (try dsimp only)))
local macro_rules | `(tactic| walk_at "call type:type") => `(tactic| (k_here; (with_reducible show wpAny _ _ (call (Value.type "type") [Value.bytes _ _]) _ _ _); (refine call_type_of (Tx := "bytes") (typeIs_bytes _ _ _) (by decide +kernel) ?_)))
local macro_rules | `(tactic| walk_at "call type:type") => `(tactic| (k_here; (with_reducible show wpAny _ _ (call (Value.type "type") [Value.int _ _]) _ _ _); (refine call_type_of (Tx := "int") (typeIs_int _ _ _) (by decide +kernel) ?_)))
local macro_rules | `(tactic| walk_at "compareOp Is") => `(tactic| (k_here; (with_reducible show wpAny _ _ (compareOp CmpOp.Is (Value.type _) (Value.type _)) _ _ _); first | refine wpAny_is_self (by rfl) ?_ | refine wpAny_is_other (by rfl) (by decide) ?_))
local macro_rules | `(tactic| walk_at "compareOp IsNot") => `(tactic| (k_here; (with_reducible show wpAny _ _ (compareOp CmpOp.IsNot (Value.type _) (Value.type _)) _ _ _); first | refine wpAny_isNot_self (by rfl) ?_ | refine wpAny_isNot_other (by rfl) (by decide) ?_))
local macro_rules | `(tactic| k_all) => `(tactic| first | exact ne_of_ltAll (by assumption) | exact ne_of_allLt (by assumption))
local macro_rules | `(tactic| walk_at "call builtin:list.append") => `(tactic| (k_here; (with_reducible show wpAny _ _ (call (Value.builtin _) [Value.ref _, _]) _ _ _); k_dflt (refine' append_K ?k1 ?k2 ?k3 ?_ ?z; (case k1 => k_asm); (case k2 => k_asm); (case k3 => k_upd); (case z => ((try simp only [List.size_toArray, List.length_append, List.length_cons, List.length_nil]); rw [sizeLine_eq]; omega)); k_whole); intro h' F' N'; (try k_sweep)))
local macro_rules | `(tactic| walk_at "call builtin:_struct.pack") => `(tactic| (k_here; (refine r_pack (by omega) (by omega) ?_); intro _ _; (try dsimp only)))
local macro_rules | `(tactic| walk_at "call builtin:bytes.hex") => `(tactic| (k_here; (refine r_hex (by (try simp only [List.length_append, List.length_take, List.length_drop, List.length_cons, List.length_nil, List.length_map, List.length_replicate]); omega) ?_); intro _ _; (try dsimp only)))
local macro_rules | `(tactic| walk_at "call builtin:ord") => `(tactic| (k_here; (with_reducible show wpAny _ _ (call (Value.builtin _) [Value.bytes _ _]) _ _ _); (refine r_ord (by k_extra "ord") ?_); intro _ _; (try dsimp only)))
local macro_rules | `(tactic| walk_at "call builtin:bytes.startswith") => `(tactic| (k_here; (with_reducible show wpAny _ _ (call (Value.builtin _) [Value.bytes (List.toArray _) _, Value.bytes _ _]) _ _ _); (refine r_startswith ?_); (try dsimp only)))
local macro_rules | `(tactic| walk_at "getMethod bytes") => `(tactic| (k_here; (with_reducible first | refine m_hex ?_ | refine m_startswith ?_ | refine m_join ?_)))
local macro_rules | `(tactic| walk_at "getMethod str") => `(tactic| (k_here; (with_reducible refine m_encode ?_)))
local macro_rules | `(tactic| walk_at "call builtin:bytes.join") => `(tactic| (k_here; (with_reducible show wpAny _ _ (call (Value.builtin _) [Value.bytes _ _, Value.ref _]) _ _ _); (refine' r_join (o := ?o) ?hT (News.get ?N ?hm) ?hc ?hd ?hz ?_; (case N => k_asm); (case hm => k_mem); (case hc => exact rfl); (case hT => first | exact Or.inl rfl | exact Or.inr rfl); (case hd => exact rfl); (case hz => exact (by (try simp only [List.length_append, List.length_take, List.length_drop, List.length_cons, List.length_nil, List.length_map, List.length_replicate]); omega))); intro _ _; (try dsimp only)))
local macro_rules | `(tactic| walk_at "subscriptTail") => `(tactic| (k_here; (with_reducible show wpAny _ _ (subscriptTail _ (Expr.Slice _ _ none _) (Value.bytes (List.toArray _) _) (Value.ref _)) _ _ _); (with_reducible rename Fr _ _ _ _ => F'); (with_reducible rename News _ _ _ _ => N'); (refine' r_cut (s := ⟨_, _, _, _, _⟩) F' N' ?ha ?hb ?hz ?hc ?_; (case ha => constructor); (case hb => constructor); (case hz => exact (by (try simp only [List.length_append, List.length_take, List.length_drop, List.length_cons, List.length_nil, List.length_map, List.length_replicate]); omega)); (case hc => k_dflt (k_extra "cut"))); intro _ _ _ F' N'; (try dsimp only); (try k_sweep)))
local macro_rules | `(tactic| walk_at "binaryOp BitAnd int int") => `(tactic| (k_here; (refine' r_band ?hc ?_; (case hc => k_dflt (k_extra "band"))); intro _ _; (try dsimp only)))
local macro_rules | `(tactic| walk_at "call type:int") => `(tactic| (k_here; (with_reducible show wpAny _ _ (call (Value.type "int") [Value.bytes (List.toArray (List.map _ (hexOfB _))) _, Value.int 16 _]) _ _ _); (refine' r_int16 ?hn ?hl ?_; (case hn => k_extra "rowne"); (case hl => k_extra "rowlen")); intro _ _; (try dsimp only)))
local macro_rules | `(tactic| walk_at "call builtin:bytes.startswith") => `(tactic| (k_here; (with_reducible show wpAny _ _ (call (Value.builtin _) [Value.bytes (List.toArray _) _, Value.bytes _ _]) _ _ _); (first | refine r_sw (b := true) (by k_dflt (exact rfl)) ?_ | refine r_sw (b := false) (by k_dflt (exact rfl)) ?_); (try dsimp only)))
local macro_rules | `(tactic| walk_at "call builtin:len") => `(tactic| (k_here; (with_reducible show wpAny _ _ (call (Value.builtin _) [Value.bytes (List.toArray _) _]) _ _ _); (refine' r_lenE (n := ?n) ?hc ?hf ?_; (case hc => ((try simp only [List.length_append, List.length_take, List.length_drop, List.length_cons, List.length_nil, List.length_map, List.length_replicate]); exact rfl)); (case hf => omega)); intro _ _; (try dsimp only)))
local macro_rules | `(tactic| walk_at "call type:bytes") => `(tactic| (k_here; (with_reducible show wpAny _ _ (call (Value.type "bytes") [Value.ref _]) _ _ _); k_dflt (refine' r_bytesL ?F ?N ?l ?i ?n ?z ?h ?_; (case F => k_asm); (case N => k_asm); (case l => is_list); (case i => l_ints); (case n => first | k_extra "NS" | exact rfl | exact ns_one (by omega) (by omega) | exact ns_one (by (simp only [List.length_append, List.length_cons, List.length_nil]); omega) (by (simp only [List.length_append, List.length_cons, List.length_nil]); omega)); (case z => first | (simp only [List.length_cons, List.length_nil]; omega) | k_extra "NSz"); (case h => rfl); k_whole; intro h' t' k' F' N'; (try k_sweep))))
local macro_rules | `(tactic| walk_at "leaving ref") => `(tactic| (k_here; first
  | (refine' leave_raiseD ?k1 ?k0 ?k2 ?k3 ?_; (case k0 => assumption); (case k2 => assumption); (case k1 => assumption); (case k3 => k_asm); k_whole; intro h' t' R' U'; (try dsimp only at R' U' ⊢))
  | (refine' leave_onD ?k1 ?k2 ?k3 ?k4 ?_; (case k3 => assumption); (case k2 => assumption); (case k1 => assumption); (case k4 => assumption); k_whole; intro h' R' U'; (try dsimp only at R' U' ⊢))))
local macro_rules | `(tactic| walk_at "noteFrame ref") => `(tactic| (k_here; k_dflt (refine' lookD ?R ?K ?U ?_; (case R => assumption); (case K => assumption); (case U => assumption); k_whole); intro h' R' U'; (try dsimp only at R' U' ⊢)))
local macro_rules | `(tactic| walk_at "handleBy ref") => `(tactic| (k_here; k_dflt (refine' hitD ?R ?F ?K ?U ?XB ?TB ?D ?T0 ?T ?_; (case R => assumption); (case F => assumption); (case K => assumption); (case U => assumption); (case XB => assumption); (case TB => assumption); (case D => assumption); (case T0 => first | assumption | exact KtsTurn.refl); (case T => kts_test); k_whole); intro h' g' oe' ot' tk' T' F' N' O' K' X' P' D'; (try k_lift K'); (try k_sweep)))
local macro_rules | `(tactic| walk_at "getMethod ref") => `(tactic| (k_here; (with_reducible rename ExcObj _ _ _ _ _ => eo'); k_dflt (refine' method_exc ?F ?X ?N ?M eo' ?a ?b ?c ?d ?_; (case F => assumption); (case X => k_asm); (case N => assumption); (case M => k_mem); (case a => k_is); (case b => k_is); (case c => k_is); (case d => k_is); k_whole)))
local macro_rules | `(tactic| walk_at "getAttr ref") => `(tactic| (k_here; (with_reducible rename ExcObj _ _ _ _ _ => eo'); k_dflt (refine' args_exc ?F ?X ?N ?M eo' ?_; (case F => assumption); (case X => k_asm); (case N => assumption); (case M => k_mem); k_whole)))
local macro_rules | `(tactic| walk_at "call builtin:len") => `(tactic| (k_here; (with_reducible rename ExcObj _ _ _ _ _ => eo'); (with_reducible show wpAny _ _ (call (Value.builtin _) [Value.ref _]) _ _ _); k_dflt (refine' PyProof.Rows.len_tuple (exc_tup ?N ?M eo') ?S ?_; (case N => assumption); (case M => k_mem); (case S => simp); k_whole); (try dsimp only [List.size_toArray, List.length_cons, List.length_nil])))
local macro_rules | `(tactic| walk_at "subscriptTail") => `(tactic| (k_here; (with_reducible rename ExcObj _ _ _ _ _ => eo'); (with_reducible show wpAny _ _ (subscriptTail _ _ (Value.ref _) (Value.int _ _)) _ _ _); k_dflt (refine' item_tupleT (exc_tup ?N ?M eo') ?a ?b ?c ?d ?_; (case N => assumption); (case M => k_mem); (case a => decide); (case b => decide); (case c => rfl); (case d => rfl); k_whole)))
local macro_rules | `(tactic| walk_at "call builtin:len") => `(tactic| (k_here; (with_reducible rename ExcObj _ _ _ _ _ => eo'); (with_reducible show wpAny _ _ (call (Value.builtin _) [Value.ref _]) _ _ _); k_dflt (refine' len_tup2 (exc_tup ?N ?M eo') ?_; (case N => assumption); (case M => k_mem); k_whole)))
local macro_rules | `(tactic| walk_at "exec Raise some none") => `(tactic| (k_here; exfalso; omega))
local macro_rules | `(tactic| walk_at "callWith") => `(tactic| (k_here; (with_reducible show wpAny _ _ (callWith _ (Prod.fst _) _ _ _) _ _ _); with_reducible refine cw_pair ?_))
local macro_rules | `(tactic| walk_at "callWith ref") => `(tactic| (k_here; (with_reducible show wpAny _ _ (callWith _ (Prod.fst _) _ _ _) _ _ _); with_reducible refine cw_pair ?_))
local macro_rules | `(tactic| walk_at "callWith ref") => `(tactic| (k_here; (with_reducible show wpAny _ _ (callWith _ (Value.ref _) [Value.ref _] _ _) _ _ _); k_dflt (refine' callWith_K0 ?k1 ?k2 ?_; (case k1 => with_reducible first | assumption | exact Frag.In.keeps (by assumption) (Fr.keep (by assumption))); (case k2 => k_is); k_whole)))
def htSpec (b : List UInt8) : Int := if (b.getD (b.length - 1) 0).toNat % 128 = 1 ∨ (b.getD (b.length - 1) 0).toNat % 128 = 2 ∨ (b.getD (b.length - 1) 0).toNat % 128 = 3 then 0 else 22
theorem band_not {x : Nat} (h : x < 256) : Builtin.bitAnd (x : Int) (-129) = ((x % 128 : Nat) : Int) := by
  revert x
  decide +kernel
set_option maxRecDepth 100000 in
set_option maxHeartbeats 8000000 in
theorem c_ht (w : World) (b : List UInt8) (t : Tok) (hb0 : 0 < b.length) (hb1 : b.length ≤ 100) : CtrA w 280 [.ref 242, .bytes b.toArray t] (fun t' => .int (htSpec b) t') := by
  unfold CtrA
  k_fill
  intro p loose mean mg mb cn cs a ccd base h₀ L m news s Q E B XB TB F X N T hk hret
  k_with "band" => exact band_not (UInt8.toNat_lt _)
  refine wpAny_call ?_
  k_dflt (refine' code_defS0 ?k1 ?k2 ?k3 ?k4 ?k5 ?kA ?k6 ?k7 ?k8 ?k9 ?kB ?_ ?cK ?c2 ?c3 ?c4 ?c5; (case kA => exact rfl); (case k2 => k_asm); (case k1 => k_asm); (case k3 => k_asm); (case k4 => k_asm); (case k5 => k_asm); (case k6 => k_is); (case k7 => k_is); (case k8 => k_room); (case k9 => first | exact BindsTo.of_eq rfl | exact binds_K (by k_in) rfl (by k_is) rfl rfl rfl); (case kB => exact locs rfl); (case cK => assumption); (case c2 => exact rfl); (case c3 => exact rfl); (case c4 => exact rfl); (case c5 => decide); k_whole; intro g' L' h' FG' F' N' B' X' T' D'; (try dsimp only); (try k_lift B'); (try k_fold))
  have hbe : (-1 + (b.length : Int)).toNat = b.length - 1 := by omega
  k_steps
  all_goals ((try dsimp only at hret); (first | refine retI (Q := Q) hret ?_ (by k_asm) (by k_asm) (by intro p0 hp0; repeat first | exact hp0 | refine List.mem_cons_of_mem _ ?_) | refine retY (Q := Q) hret ?_ (by k_asm) (by k_asm) (by intro p0 hp0; repeat first | exact hp0 | refine List.mem_cons_of_mem _ ?_) | refine retO (Q := Q) hret ?_ (by k_asm) (by k_asm) (by intro p0 hp0; repeat first | exact hp0 | refine List.mem_cons_of_mem _ ?_)))
  all_goals rw [hbe] at *
  all_goals unfold htSpec
  all_goals (split <;> omega)
end Mine
end
section
open PySem PySem.W PyProof.Rows PySem.Calls PyProof.Rows.LCg
namespace Mine
/-! [x for x in <an iterator over bytes>] -/
abbrev biObj (l : List UInt8) (t : Tok) : Obj := { cls := .type "bytes_iterator", data := .fields #[.bytes l.toArray t, .int 0 0] }
section
variable {prog : Program} {w : World} {A : Around} {E : Value → Shared → Prop} {s : Shared} {h₀ : Heap} {L : Addr} {m : Str → Option Value} {env : Env} {news : List (Addr × Obj)} {l : List UInt8} {t : Tok}
theorem r_iter {Q : Value → Shared → Prop} (F : Fr h₀ L s.heap m) (N : News h₀ L s.heap news)
    (h : ∀ (I : Addr) h', Fr h₀ L h' m → News h₀ L h' ((I, biObj l t) :: news) → (∀ p ∈ news, p.1 < I) → Q (.ref I) { s with heap := h' }) :
    wpAny (model prog w) A (call (.builtin "iter") [.bytes l.toArray t]) Q E s := by
  refine call_function_entry (by decide +kernel) (by decide +kernel) kdk_entry_iter (kdk_args_iter _) ?_
  unfold Builtin.«iter»
  refine wpAny_bind (m := someArgs "iter" 1 2 _) (wpAny_of_eq (a := [Value.bytes l.toArray t]) (by first | rfl | kernel_rfl!) ?_)
  show wpAny _ _ (pyIter (.bytes l.toArray t) >>= _) _ _ _
  refine wpAny_bind (KBw.pyIter_bytes ?_)
  exact wpAny_pure ⟨_, rfl, h _ _ (F.push _) (News.push F N _ rfl) (fun q hq => Heap.lt_size (N q hq).1)⟩
def BSrc (A : Around) (h₀ : Heap) (L : Addr) (m : Str → Option Value) (Q : Value → Shared → Prop) (xv : Value) (s₁ : Shared) : Prop :=
  ∃ I t l news, xv = .ref I ∧ A.handled = none ∧ Fr h₀ L s₁.heap m ∧ News h₀ L s₁.heap ((I, biObj l t) :: news) ∧ (∀ p ∈ news, p.1 ≠ I) ∧ l.length ≤ 1000 ∧
    ∀ ys D h tk, IntsAre ys (intsOf l) → Fr h₀ L h m → News h₀ L h ((D, lst ys) :: news) → Off1 D news → Q (.ref D) { s₁ with heap := h, toks := tk }
theorem BSrc.intro {Q : Value → Shared → Prop} {I : Addr} {s₁ : Shared} (hh : A.handled = none) (F : Fr h₀ L s₁.heap m) (N : News h₀ L s₁.heap ((I, biObj l t) :: news)) (off : ∀ p ∈ news, p.1 ≠ I) (hl : l.length ≤ 1000)
    (h : ∀ ys D h tk, IntsAre ys (intsOf l) → Fr h₀ L h m → News h₀ L h ((D, lst ys) :: news) → Off1 D news → Q (.ref D) { s₁ with heap := h, toks := tk }) : BSrc A h₀ L m Q (.ref I) s₁ :=
  ⟨I, t, l, news, rfl, hh, F, N, off, hl, h⟩
theorem bi_rest {x : Str} {px : Pos} {scope : Scope} {cl : List (Str × Addr)} {s₂ : Shared} {Fin : List Value → List (Addr × Obj) → Prop} (hkind : (relabel scope env).kind = .function) (hx : scope.names.lookup x = some .local) (hd : (x == ("__debug__" : Str)) = false)
    (fin : ∀ ys, IntsAre ys (intsOf l) → Fin ys news) :
    ∀ (k i : Nat) (ys : List Value), i + k = l.length → IntsAre ys (intsOf (l.take i)) → CompRest prog w A h₀ L m env (.Name x px) x scope cl s₂ (fun _ => True) (fun i v => ∃ c u, l.toArray[i]? = some c ∧ v = .int (c.toNat : Int) u) Fin k i ys news
  | 0, i, ys, hi, hy => by
    refine CompRest.zero (fin ys ?_)
    rwa [List.take_of_length_le (by omega)] at hy
  | k + 1, i, ys, hi, hy => by
    refine CompRest.succ fun v I oI C oC D m₂ h tk E' hv hC hm F N off ne => ?_
    obtain ⟨c, u, hc, rfl⟩ := hv
    refine LCgL.ld_own N (List.mem_cons_of_mem _ List.mem_cons_self) hC hm ?_ hkind (lookup_relabel_local hx) hd
    refine CompEnd.intro F N news (fun p hp => hp) off trivial (bi_rest hkind hx hd fin k (i + 1) _ (by omega) ?_)
    have hc' : l[i]? = some c := by simpa using hc
    rw [List.take_add_one, hc', intsOf_app]
    exact hy.append (IntsAre.cons _ _ IntsAre.nil)
theorem LC_bi {iter : Expr} {x : Str} {px pe : Pos} {scope : Scope} {cl : List (Str × Addr)} {pos : Pos} {Q : Value → Shared → Prop}
    (hclos : closureFor scope env = pure cl) (hcell : ∀ y ∈ scope.names, y.2 ≠ .cell) (hkind : scope.kind = .function)
    (hnames : ∀ y ∈ scope.names, y.2 = .local → scope.names.lookup y.1 = some .local) (hx : scope.names.lookup x = some .local) (hd : (x == ("__debug__" : Str)) = false)
    (h : wpAny (model prog w) A (eval iter env) (BSrc A h₀ L m Q) E s)
    (hs : ∀ x, foldedSetIterable iter env x = pure x := by intro _; rfl) :
    wpAny (model prog w) A (eval (.ListComp (.Name x pe) [⟨.Name x px, iter, [], 0⟩] scope pos) env) Q E s := by
  rw [eval_ListComp]
  refine wpAny_comprehension_free (use := none) rfl hs hclos hkind hnames (wpAny_mono h (fun xv s₁ h₁ => ?_) fun _ _ e => e)
  obtain ⟨I, t, l, news, rfl, hh, F, N, off, hl, fin⟩ := h₁
  have hI := N _ List.mem_cons_self
  have hit : KBw.IsBytesIter s₁.heap I l.toArray t 0 := ⟨_, hI.1, rfl, rfl⟩
  refine KBw.pyIter_self hit ?_
  refine block_U (S := fun _ => True) (Fin := fun ys news => ∀ D h tk, Fr h₀ L h m → News h₀ L h ((D, lst ys) :: news) → Off1 D news → Q (.ref D) { s₁ with heap := h, toks := tk }) (KBw.walks hh I l.toArray t) (by rw [sizeLine_eq]; simp only [List.size_toArray]; omega) (fun i h st => by obtain ⟨o, e, _⟩ := st; exact ⟨o, e⟩)
    (fun i h h' o nw st e e' _ _ _ => by obtain ⟨o', q, r⟩ := st; rw [e] at q; cases q; exact ⟨o, e', r⟩) hcell hkind hx hit (fun b hb => ?_) F (fun p hp => N p (List.mem_cons_of_mem _ hp)) (Ne.symm hI.2.1) hI.2.2 off trivial (bi_rest (by simp [relabel, hkind]) hx hd (fun ys hy D h tk F N o => fin ys D h tk hy F N o) _ 0 [] (by simp) IntsAre.nil) ?_
  · rw [List.mem_singleton.mp hb]
    exact Heap.lt_size hI.1
  · intro D C h tk m' ys news' F' N' o1 hn hC₀ hD₀ hCL hDL hCD offC fin
    refine ⟨m', hn, fun h'' hs'' => fin D h'' tk (F'.change hs'' hCL hC₀) (fun p hp => ?_) o1⟩
    refine ⟨hs''.extBut _ _ ?_ (N' p hp).1, (N' p hp).2⟩
    rcases List.mem_cons.mp hp with rfl | hp
    · exact Ne.symm hCD
    · exact offC p hp
def BSrcA (A : Around) (h₀ : Heap) (L : Addr) (m : Str → Option Value) (y : Str) (Q : Flow → Shared → Prop) (xv : Value) (s₁ : Shared) : Prop :=
  ∃ I t l news, xv = .ref I ∧ A.handled = none ∧ Fr h₀ L s₁.heap m ∧ News h₀ L s₁.heap ((I, biObj l t) :: news) ∧ (∀ p ∈ news, p.1 ≠ I) ∧ l.length ≤ 1000 ∧
    ∀ ys D h tk, IntsAre ys (intsOf l) → Fr h₀ L h (fun z => if z = y then some (.ref D) else m z) → News h₀ L h ((D, lst ys) :: news) → Off1 D news → Q .next { s₁ with heap := h, toks := tk }
theorem BSrcA.intro {y : Str} {Q : Flow → Shared → Prop} {I : Addr} {s₁ : Shared} (hh : A.handled = none) (F : Fr h₀ L s₁.heap m) (N : News h₀ L s₁.heap ((I, biObj l t) :: news)) (off : ∀ p ∈ news, p.1 ≠ I) (hl : l.length ≤ 1000)
    (h : ∀ ys D h tk, IntsAre ys (intsOf l) → Fr h₀ L h (fun z => if z = y then some (.ref D) else m z) → News h₀ L h ((D, lst ys) :: news) → Off1 D news → Q .next { s₁ with heap := h, toks := tk }) : BSrcA A h₀ L m y Q (.ref I) s₁ :=
  ⟨I, t, l, news, rfl, hh, F, N, off, hl, h⟩
theorem AL_bi {iter : Expr} {x y : Str} {px pe py : Pos} {scope : Scope} {cl : List (Str × Addr)} {pos spos : Pos} {Q : Flow → Shared → Prop} (F₀ : Fr h₀ L s.heap m) (hLe : env.locals = L)
    (hsw : swapsWith (.ListComp (.Name x pe) [⟨.Name x px, iter, [], 0⟩] scope pos) (some (.Name y py)) spos.line env = pure true)
    (hclos : closureFor scope env = pure cl) (hcell : ∀ z ∈ scope.names, z.2 ≠ .cell) (hkind : scope.kind = .function)
    (hnames : ∀ z ∈ scope.names, z.2 = .local → scope.names.lookup z.1 = some .local) (hx : scope.names.lookup x = some .local) (hd : (x == ("__debug__" : Str)) = false)
    (hy : env.kindOf y = some .local) (hp : (env.scope.kind == .class || (env.scope.kind == .module && env.locals != env.globals)) = false)
    (h : wpAny (model prog w) A (eval iter env) (BSrcA A h₀ L m y Q) E s)
    (hs : ∀ x, foldedSetIterable iter env x = pure x := by intro _; rfl) :
    wpAny (model prog w) A (exec (.Assign [.Name y py] (.ListComp (.Name x pe) [⟨.Name x px, iter, [], 0⟩] scope pos) spos) env) Q E s := by
  subst hLe
  rw [exec_Assign_Name_used _ _ _ _ hsw]
  refine wpAny_bind (wpAny_standAt (wpAny_bind ?_))
  show wpAny _ A (do let _ ← comprehension (.ListComp (.Name x pe) [⟨.Name x px, iter, [], 0⟩] scope pos) scope env _ (newList []) false (eval iter env) (some (assign (.Name y py) env))) _ _ s
  refine wpAny_bind (wpAny_mono (wpAny_comprehension_free (use := some (assign (.Name y py) env)) (Q := fun _ s' => Q .next s') rfl hs hclos hkind hnames
    (wpAny_mono h (fun xv s₁ h₁ => ?_) fun _ _ e => e)) (fun _ s' hq => wpAny_pure (wpAny_pure hq)) fun _ _ e => e)
  obtain ⟨I, t, l, news, rfl, hh, F, N, off, hl, fin⟩ := h₁
  have hI := N _ List.mem_cons_self
  have hit : KBw.IsBytesIter s₁.heap I l.toArray t 0 := ⟨_, hI.1, rfl, rfl⟩
  refine KBw.pyIter_self hit ?_
  refine block_U (S := fun _ => True) (Fin := fun ys news => ∀ D h tk, Fr h₀ env.locals h (fun z => if z = y then some (.ref D) else m z) → News h₀ env.locals h ((D, lst ys) :: news) → Off1 D news → Q .next { s₁ with heap := h, toks := tk }) (KBw.walks hh I l.toArray t) (by rw [sizeLine_eq]; simp only [List.size_toArray]; omega) (fun i h st => by obtain ⟨o, e, _⟩ := st; exact ⟨o, e⟩)
    (fun i h h' o nw st e e' _ _ _ => by obtain ⟨o', q, r⟩ := st; rw [e] at q; cases q; exact ⟨o, e', r⟩) hcell hkind hx hit (fun b hb => ?_) F (fun p hp => N p (List.mem_cons_of_mem _ hp)) (Ne.symm hI.2.1) hI.2.2 off trivial (bi_rest (by simp [relabel, hkind]) hx hd (fun ys hy D h tk F N o => fin ys D h tk hy F N o) _ 0 [] (by simp) IntsAre.nil) ?_
  · rw [List.mem_singleton.mp hb]
    exact Heap.lt_size hI.1
  · intro D C h' tk m' ys news' F' N' o1 hn hC₀ hD₀ hCL hDL hCD offC fin
    show wpAny _ A (assign (.Name y py) env (.ref D)) _ _ _
    refine wpAny_assign_Name (wpAny_storeName_local hy F'.ns (fun h₂ hn₂ hs₂ => ?_) hp)
    have hL₀ : h₀.get? env.locals = none := Heap.get?_none_of_le F'.above
    have F₂ : Fr h₀ env.locals h₂ (fun z => if z = y then some (.ref D) else m z) := ⟨hn₂, fun b o e => hs₂.extBut b o (fun q => by rw [q, hL₀] at e; cases e) (F'.keep b o e), F'.above⟩
    refine ⟨m', hn.sameBut hs₂ hCL, fun h'' hs'' => fin D h'' _ (F₂.change hs'' hCL hC₀) (fun p hp => ?_) o1⟩
    have z : h₂.get? p.1 = some p.2 := hs₂.extBut _ _ (N' p hp).2.1 (N' p hp).1
    refine ⟨hs''.extBut _ _ ?_ z, (N' p hp).2⟩
    rcases List.mem_cons.mp hp with rfl | hp
    · exact Ne.symm hCD
    · exact offC p hp
end
end Mine
end
section
open PySem PySem.W PyProof.Rows PySem.Calls
namespace Mine
theorem cut_dt {l : List UInt8} {a b : Nat} {i j : Int} (ha : i = a) (hb : j = b) (hab : a ≤ b) : cut l (some i) (some j) = (l.drop a).take (b - a) := by
  subst ha
  subst hb
  simp only [cut, Option.elim, clip_pos]
  by_cases h : b ≤ l.length
  · rw [Nat.min_eq_left h, Nat.min_eq_left (by omega)]
  · rw [Nat.min_eq_right (by omega)]
    by_cases h2 : a ≤ l.length
    · rw [Nat.min_eq_left h2, List.take_of_length_le (by simp only [List.length_drop]; omega), List.take_of_length_le (by simp only [List.length_drop]; omega)]
    · rw [Nat.min_eq_right (by omega), List.drop_of_length_le (by omega), List.drop_of_length_le (by omega)]
      simp
theorem cut_d1 {l : List UInt8} {a : Nat} {i : Int} (ha : i = a) : cut l (some i) (some (-1)) = (l.drop a).take (l.length - 1 - a) := by
  subst ha
  simp only [cut, Option.elim, clip_pos, clip_neg1]
  by_cases h2 : a ≤ l.length
  · rw [Nat.min_eq_left h2]
  · rw [Nat.min_eq_right (by omega), List.drop_of_length_le (by omega), List.drop_of_length_le (by omega)]
    simp
theorem cut_t1 {l : List UInt8} : cut l none (some (-1)) = l.take (l.length - 1) := by
  simp only [cut, Option.elim, clip_neg1, List.drop_zero, Nat.sub_zero]
theorem eqG_bytes (x y : List UInt8) (t u : Tok) : MeetsSeq.EqGives (.bytes x.toArray t) (.bytes y.toArray u) (x == y) := by
  intro prog w A E s Q h
  unfold eqBool
  refine wpAny_holding ?_
  refine wpAny_ite_split (fun hab => ?_) (fun hab => ?_)
  · have e : x = y := by
      have := eq_of_beq hab
      injection this with h1 _
      simpa using h1
    subst e
    exact wpAny_bind (wpAny_rule (wpAny_pure (by simpa using h)))
  · exact wpAny_bind (richCompare_gives (typeIs_bytes s _ t) (typeIs_bytes s _ u) FB.slot_bytes_eq FB.entry_bytes_eq (FB.args_bytes_eq_2 _ _) (gives_bytes_eq x.toArray y.toArray t u) (fun e => nomatch e) (wpAny_truthy_bool (by simpa using h)))
section
variable {prog : Program} {w : World} {A : Around} {E : Value → Shared → Prop} {s : Shared} {r z c : List UInt8} {t u v : Tok}
def isB (c : List UInt8) (y : Value) : Bool := match y with
  | .bytes b _ => b.toList == c
  | _ => false
theorem r_in2 {a : Addr} {Q : Value → Shared → Prop} (hl : s.heap.IsList a #[.bytes r.toArray t, .bytes z.toArray u]) (h : Q (.bool (r == c || z == c)) s) :
    wpAny (model prog w) A (compareOp .In (.bytes c.toArray v) (.ref a)) Q E s := by
  refine SeqAt.in_listAt (isB c) hl (fun y hy => ?_) ?_
  · simp only [List.mem_toArray, List.mem_cons, List.not_mem_nil, or_false] at hy
    rcases hy with rfl | rfl
    · exact (eqG_bytes r c t v).at _ _
    · exact (eqG_bytes z c u v).at _ _
  · simpa [isB] using h
theorem r_in2s {a : Addr} {Q : Value → Shared → Prop} (hl : s.heap.IsList a #[.bytes r.toArray t, .bytes z.toArray u]) (h1 : r.length = 0 ∨ z.length = 0 → Q (.bool true) s) (h2 : 0 < r.length → 0 < z.length → Q (.bool false) s) :
    wpAny (model prog w) A (compareOp .In (.bytes #[] v) (.ref a)) Q E s := by
  refine r_in2 (c := []) hl ?_
  by_cases hr : r = []
  · subst hr
    exact h1 (.inl rfl)
  · by_cases hz : z = []
    · subst hz
      simpa using h1 (.inr rfl)
    · have e1 : (r == []) = false := by simpa using hr
      have e2 : (z == []) = false := by simpa using hz
      rw [e1, e2]
      exact h2 (List.length_pos_iff.mpr hr) (List.length_pos_iff.mpr hz)
theorem r_neNil {a b : Addr} {vs : List Value} {Q : Value → Shared → Prop} (hl : s.heap.IsList a vs.toArray) (hb : s.heap.IsList b #[]) (hn : vs.length ≠ 0) (hu : A.units < cLine) (h : Q (.bool true) s) :
    wpAny (model prog w) A (compareOp .NotEq (.ref a) (.ref b)) Q E s :=
  EqBoolInt.of_rcne (SeqAt.RcNeAt.lists_lengths hl hb (by simp; intro e; rw [e] at hn; exact hn rfl) hu) h
end
end Mine
end
section
open PySem PySem.W PyProof.Rows PySem.Builtin
namespace Mine
/-! what check_valid_signature lets pass -/
def gO (l : List UInt8) (i : Nat) : Nat := (l.getD i 0).toNat
def vB (l : List UInt8) : Bool := decide (9 ≤ l.length ∧ l.length ≤ 73 ∧ (l.getD 0 0).toNat = 48 ∧ (l.getD 1 0).toNat + 3 = l.length ∧ 5 + (l.getD 3 0).toNat < l.length ∧ (l.getD 3 0).toNat + (l.getD (5 + (l.getD 3 0).toNat) 0).toNat + 7 = l.length ∧ (l.getD 2 0).toNat = 2 ∧ (l.getD 3 0).toNat ≠ 0 ∧ (l.getD 4 0).toNat < 128 ∧
  ¬ (1 < (l.getD 3 0).toNat ∧ (l.getD 4 0).toNat = 0 ∧ (l.getD 5 0).toNat < 128) ∧ (l.getD ((l.getD 3 0).toNat + 4) 0).toNat = 2 ∧ (l.getD (5 + (l.getD 3 0).toNat) 0).toNat ≠ 0 ∧ (l.getD ((l.getD 3 0).toNat + 6) 0).toNat < 128 ∧
  ¬ (1 < (l.getD (5 + (l.getD 3 0).toNat) 0).toNat ∧ (l.getD ((l.getD 3 0).toNat + 6) 0).toNat = 0 ∧ (l.getD ((l.getD 3 0).toNat + 7) 0).toNat < 128))
theorem vB_iff {l : List UInt8} : vB l = true ↔ (9 ≤ l.length ∧ l.length ≤ 73 ∧ (l.getD 0 0).toNat = 48 ∧ (l.getD 1 0).toNat + 3 = l.length ∧ 5 + (l.getD 3 0).toNat < l.length ∧ (l.getD 3 0).toNat + (l.getD (5 + (l.getD 3 0).toNat) 0).toNat + 7 = l.length ∧ (l.getD 2 0).toNat = 2 ∧ (l.getD 3 0).toNat ≠ 0 ∧ (l.getD 4 0).toNat < 128 ∧
  ¬ (1 < (l.getD 3 0).toNat ∧ (l.getD 4 0).toNat = 0 ∧ (l.getD 5 0).toNat < 128) ∧ (l.getD ((l.getD 3 0).toNat + 4) 0).toNat = 2 ∧ (l.getD (5 + (l.getD 3 0).toNat) 0).toNat ≠ 0 ∧ (l.getD ((l.getD 3 0).toNat + 6) 0).toNat < 128 ∧
  ¬ (1 < (l.getD (5 + (l.getD 3 0).toNat) 0).toNat ∧ (l.getD ((l.getD 3 0).toNat + 6) 0).toNat = 0 ∧ (l.getD ((l.getD 3 0).toNat + 7) 0).toNat < 128)) := decide_eq_true_iff
def vsSpec (l : List UInt8) : Int := if vB l = true then 0 else 23
theorem vs_ok {l : List UInt8} {x : Int} (h : vB l = true) (hx : x = 0) : x = vsSpec l := by
  unfold vsSpec
  rw [if_pos h, hx]
theorem vs_no {l : List UInt8} {x : Int} (h : ¬ vB l = true) (hx : x = 23) : x = vsSpec l := by
  unfold vsSpec
  rw [if_neg h, hx]
theorem tn4 (x : Nat) : Int.toNat ((x : Int) + 4) = x + 4 := by omega
theorem tn5 (x : Nat) : Int.toNat (5 + (x : Int)) = 5 + x := by omega
theorem tn6 (x : Nat) : Int.toNat ((x : Int) + 6) = x + 6 := by omega
theorem tn7 (x : Nat) : Int.toNat ((x : Int) + 7) = x + 7 := by omega
end Mine
end
section
open PySem PySem.W PyProof.Rows PySem.Builtin
namespace Mine
/-! writing anew what is read -/
theorem snoc_ind {P : List UInt8 → Prop} (h0 : P []) (h1 : ∀ t d, P t → P (t ++ [d])) (t : List UInt8) : P t := by
  rw [← List.reverse_reverse t]
  induction t.reverse with
  | nil => exact h0
  | cons d l ih => rw [List.reverse_cons]; exact h1 _ _ ih
theorem be_zero (l : List UInt8) : be (0 :: l) = be l := by simp [be]
theorem u8_back (c : UInt8) : (c.toNat).toUInt8 = c := by simp
theorem octD_nz (n : Nat) (c : UInt8) (h : n ≠ 0) : octD (n * 256 + c.toNat) = octD n ++ [c] := by
  have hc := UInt8.toNat_lt c
  rw [octD_pos (n := n * 256 + c.toNat) (by omega)]
  rw [show (n * 256 + c.toNat) / 256 = n by omega, show (n * 256 + c.toNat) % 256 = c.toNat by omega, u8_back]
theorem be_ge (c : UInt8) (hc : c.toNat ≠ 0) (t : List UInt8) : be (c :: t) ≠ 0 := by
  induction t using snoc_ind with
  | h0 => simpa [be] using hc
  | h1 t d ih => rw [show c :: (t ++ [d]) = (c :: t) ++ [d] from rfl, be_app]; omega
theorem octD_be (c : UInt8) (hc : c.toNat ≠ 0) (t : List UInt8) : octD (be (c :: t)) = c :: t := by
  induction t using snoc_ind with
  | h0 =>
    have e : be [c] = c.toNat := by simp [be]
    have hl := UInt8.toNat_lt c
    rw [e, octD_pos hc, show c.toNat / 256 = 0 by omega, octD_zero, show c.toNat % 256 = c.toNat by omega, u8_back]
    rfl
  | h1 t d ih => rw [show c :: (t ++ [d]) = (c :: t) ++ [d] from rfl, be_app, octD_nz _ _ (be_ge c hc t), ih]
theorem octs_be (c : UInt8) (hc : c.toNat ≠ 0) (t : List UInt8) : octs (be (c :: t)) = c :: t := by
  unfold octs
  rw [if_neg (be_ge c hc t), octD_be c hc t]
theorem row_lo (c : UInt8) (hc : c.toNat ≠ 0) (h : c.toNat < 128) (t : List UInt8) : rowOf (be (c :: t)) = c :: t := by
  unfold rowOf
  rw [octs_be c hc t]
  exact if_neg (by show ¬ 127 < c.toNat; omega)
theorem row_hi (c : UInt8) (h : 128 ≤ c.toNat) (t : List UInt8) : rowOf (be (c :: t)) = 0 :: c :: t := by
  unfold rowOf
  rw [octs_be c (by omega) t]
  exact if_pos (by show 127 < c.toNat; omega)
theorem u8_zero {c : UInt8} (h : c.toNat = 0) : c = 0 := UInt8.toNat_inj.mp (by rw [h]; rfl)
theorem row_len : ∀ (l : List UInt8), l ≠ [] → (l.getD 0 0).toNat < 128 → (rowOf (be l)).length ≤ l.length
  | [], h, _ => absurd rfl h
  | c :: t, _, h => by
    have h : c.toNat < 128 := h
    by_cases hc : c.toNat = 0
    · obtain rfl := u8_zero hc
      rw [be_zero]
      match t with
      | [] => exact Nat.le_refl _
      | d :: t' =>
        by_cases hd : d.toNat < 128
        · have := row_len (d :: t') (by simp) hd
          simp only [List.length_cons] at *
          omega
        · rw [row_hi d (by omega)]
          exact Nat.le_refl _
    · rw [row_lo c hc h]
      exact Nat.le_refl _
theorem row_iff (l : List UInt8) (h0 : l ≠ []) (h : (l.getD 0 0).toNat < 128) : rowOf (be l) = l ↔ ¬ (1 < l.length ∧ (l.getD 0 0).toNat = 0 ∧ (l.getD 1 0).toNat < 128) := by
  match l with
  | [] => exact absurd rfl h0
  | c :: t =>
    have h : c.toNat < 128 := h
    by_cases hc : c.toNat = 0
    · obtain rfl := u8_zero hc
      rw [be_zero]
      match t with
      | [] => simp [be, rowOf, octs]
      | d :: t' =>
        by_cases hd : d.toNat < 128
        · have := row_len (d :: t') (by simp) hd
          constructor
          · intro e
            rw [e] at this
            simp only [List.length_cons] at this
            omega
          · intro e
            refine absurd ⟨?_, rfl, hd⟩ e
            simp only [List.length_cons]
            omega
        · rw [row_hi d (by omega)]
          refine ⟨fun _ e => hd e.2.2, fun _ => rfl⟩
    · rw [row_lo c hc h]
      exact ⟨fun _ e => hc e.2.1, fun _ => rfl⟩
theorem drop_one {l : List UInt8} {k : Nat} (h : k < l.length) : l.drop k = l.getD k 0 :: l.drop (k + 1) := by
  rw [List.drop_eq_getElem_cons h, List.getD_eq_getElem?_getD, List.getElem?_eq_getElem h]
  rfl
/-- the octets but the last, taken apart -/
theorem take_apart {b : List UInt8} {n k : Nat} (hn : b.length = n) (h1 : 6 + k < n) :
    b.take (n - 1) = b.getD 0 0 :: b.getD 1 0 :: b.getD 2 0 :: b.getD 3 0 :: ((b.drop 4).take k ++ b.getD (4 + k) 0 :: b.getD (5 + k) 0 :: (b.drop (6 + k)).take (n - 1 - (6 + k))) := by
  have e : b = b.getD 0 0 :: b.getD 1 0 :: b.getD 2 0 :: b.getD 3 0 :: ((b.drop 4).take k ++ b.getD (4 + k) 0 :: b.getD (5 + k) 0 :: b.drop (6 + k)) := by
    have e1 : b.drop (4 + k) = b.getD (4 + k) 0 :: b.getD (5 + k) 0 :: b.drop (6 + k) := by
      rw [drop_one (k := 4 + k) (by omega), show 4 + k + 1 = 5 + k by omega, drop_one (k := 5 + k) (by omega), show 5 + k + 1 = 6 + k by omega]
    have e2 : b.drop 4 = (b.drop 4).take k ++ b.getD (4 + k) 0 :: b.getD (5 + k) 0 :: b.drop (6 + k) := by
      rw [← e1, Nat.add_comm 4 k, Nat.add_comm k 4, ← List.drop_drop, List.take_append_drop]
    rw [← e2]
    have e3 : b = b.drop 0 := rfl
    conv => lhs; rw [e3, drop_one (k := 0) (by omega), drop_one (k := 0 + 1) (by omega), drop_one (k := 0 + 1 + 1) (by omega), drop_one (k := 0 + 1 + 1 + 1) (by omega)]
  have hl : ((b.drop 4).take k).length = k := by
    rw [List.length_take, List.length_drop]
    omega
  conv => lhs; rw [e]
  conv => lhs; rw [show n - 1 = (n - 1 - (6 + k)) + 1 + 1 + k + 1 + 1 + 1 + 1 by omega]
  simp only [List.take_succ_cons]
  rw [List.take_append, hl, List.take_of_length_le (by omega), show n - 1 - (6 + k) + 1 + 1 + k - k = n - 1 - (6 + k) + 1 + 1 by omega]
  simp only [List.take_succ_cons]
theorem u8_eq {a b : UInt8} : a = b ↔ a.toNat = b.toNat := UInt8.toNat_inj.symm
theorem getD_takeDrop {b : List UInt8} {i j k : Nat} (h : i < k) : ((b.drop j).take k).getD i 0 = b.getD (j + i) 0 := by
  simp only [List.getD_eq_getElem?_getD, List.getElem?_take, List.getElem?_drop, if_pos h]
set_option maxHeartbeats 1000000 in
theorem well_iff {b R S : List UInt8} {k : Nat} (hk : (b.getD 3 0).toNat = k) (hR : (b.drop 4).take k = R) (hS : (b.drop (6 + k)).take (b.length - 1 - (6 + k)) = S)
    (h1 : 9 ≤ b.length) (h2 : b.length ≤ 73) (h3 : 5 + k < b.length) (h4 : k + (b.getD (5 + k) 0).toNat + 7 = b.length)
    (h5 : R ≠ []) (h6 : S ≠ []) (h7 : (R.getD 0 0).toNat < 128) (h8 : (S.getD 0 0).toNat < 128) :
    laidB (rowOf (be R)) (rowOf (be S)) = b.take (b.length - 1) ↔ vB b = true := by
  have l1 : R.length = k := by
    rw [← hR, List.length_take, List.length_drop]
    omega
  have l2 : S.length = b.length - 1 - (6 + k) := by
    rw [← hS, List.length_take, List.length_drop]
    omega
  have p1 : 0 < R.length := List.length_pos_iff.mpr h5
  have p2 : 0 < S.length := List.length_pos_iff.mpr h6
  have m1 := row_len R h5 h7
  have m2 := row_len S h6 h8
  have d0 : R.getD 0 0 = b.getD 4 0 := by rw [← hR, getD_takeDrop (by omega)]
  have d1 : 1 < k → R.getD 1 0 = b.getD 5 0 := fun h => by rw [← hR, getD_takeDrop h]
  have d2 : S.getD 0 0 = b.getD (k + 6) 0 := by rw [← hS, getD_takeDrop (by omega), Nat.add_zero, Nat.add_comm]
  have d3 : 1 < S.length → S.getD 1 0 = b.getD (k + 7) 0 := fun h => by rw [← hS, getD_takeDrop (by omega), show 6 + k + 1 = k + 7 by omega]
  have iR := row_iff R h5 h7
  have iS := row_iff S h6 h8
  rw [vB_iff, take_apart rfl (show 6 + k < b.length by omega), hR, hS, hk]
  constructor
  · intro e
    simp only [laidB, pieceB, List.cons_append, List.cons.injEq] at e
    obtain ⟨e0, e1, e2, e3, e4⟩ := e
    have e3' : (rowOf (be R)).length = k := by
      rw [← hk, ← e3, u8_nat (by omega)]
    obtain ⟨eR, e5⟩ := List.append_inj e4 (by omega)
    simp only [List.cons.injEq] at e5
    obtain ⟨e6, e7, eS⟩ := e5
    rw [eR] at iR e1
    rw [eS] at iS e1
    have nR := iR.mp rfl
    have nS := iS.mp rfl
    rw [← e0, ← e1, ← e2, Nat.add_comm k 4, ← e6]
    rw [d0] at nR h7
    rw [d2] at nS h8
    rw [u8_nat (by simp only [List.length_append, List.length_cons]; omega)]
    simp only [List.length_append, List.length_cons]
    refine ⟨h1, h2, rfl, by omega, h3, h4, rfl, by omega, h7, fun q => ?_, rfl, by omega, h8, fun q => ?_⟩
    · rw [d1 q.1] at nR
      exact nR ⟨by omega, q.2⟩
    · rw [d3 (by omega)] at nS
      exact nS ⟨by omega, q.2⟩
  · rintro ⟨_, _, q0, q1, _, _, q2, _, _, q3, q4, _, _, q5⟩
    have eR : rowOf (be R) = R := by
      refine iR.mpr fun q => q3 ?_
      rw [← d1 (by omega), ← d0]
      exact ⟨by omega, q.2⟩
    have eS : rowOf (be S) = S := by
      refine iS.mpr fun q => q5 ?_
      rw [← d3 q.1, ← d2]
      exact ⟨by omega, q.2⟩
    rw [eR, eS]
    clear iR iS q3 q5 d1 d3 m1 m2 eR eS h7 h8
    simp only [laidB, pieceB, List.cons_append, List.cons.injEq]
    refine ⟨?_, ?_, ?_, ?_, ?_⟩
    · exact u8_eq.mpr q0.symm
    · refine u8_eq.mpr ((u8_nat ?_).trans ?_)
      · simp only [List.length_append, List.length_cons]
        omega
      · simp only [List.length_append, List.length_cons]
        omega
    · exact u8_eq.mpr q2.symm
    · exact u8_eq.mpr ((u8_nat (by omega)).trans (by rw [hk, l1]))
    · congr 1
      simp only [List.cons.injEq]
      refine ⟨?_, ?_, trivial⟩
      · exact u8_eq.mpr (by rw [Nat.add_comm 4 k, q4]; rfl)
      · exact u8_eq.mpr ((u8_nat (by omega)).trans (by omega))
theorem cut_R {l R : List UInt8} {k : Nat} {i j : Int} (hi : i = 4) (hj : j = 4 + (k : Int)) (hR : (l.drop 4).take k = R) : cut l (some i) (some j) = R := by
  rw [cut_dt (a := 4) (b := 4 + k) (by omega) (by omega) (by omega), Nat.add_sub_cancel_left, hR]
theorem cut_S {l S : List UInt8} {k : Nat} {i : Int} (hi : i = 6 + (k : Int)) (hS : (l.drop (6 + k)).take (l.length - 1 - (6 + k)) = S) : cut l (some i) (some (-1)) = S := by
  rw [cut_d1 (a := 6 + k) (by omega), hS]
/-- what does not stand as two rows is not let pass -/
theorem well_no {b R S : List UInt8} {k : Nat} (hk : (b.getD 3 0).toNat = k) (hR : (b.drop 4).take k = R) (hS : (b.drop (6 + k)).take (b.length - 1 - (6 + k)) = S)
    (h : R = [] ∨ S = [] ∨ 128 ≤ (R.getD 0 0).toNat ∨ 128 ≤ (S.getD 0 0).toNat) : ¬ vB b = true := by
  rw [vB_iff, hk]
  rintro ⟨_, _, _, _, h3, h4, _, hk0, h7, _, _, h9, h8, _⟩
  have l1 : R.length = k := by
    rw [← hR, List.length_take, List.length_drop]
    omega
  have l2 : S.length = b.length - 1 - (6 + k) := by
    rw [← hS, List.length_take, List.length_drop]
    omega
  have d0 : R.getD 0 0 = b.getD 4 0 := by rw [← hR, getD_takeDrop (by omega)]
  have d2 : S.getD 0 0 = b.getD (k + 6) 0 := by rw [← hS, getD_takeDrop (by omega), Nat.add_zero, Nat.add_comm]
  rw [d0, d2] at h
  rcases h with rfl | rfl | h | h
  · simp at l1
    omega
  · simp at l2
    omega
  · omega
  · omega
theorem well_no0 {b R S : List UInt8} {k : Nat} (hk : (b.getD 3 0).toNat = k) (hR : (b.drop 4).take k = R) (hS : (b.drop (6 + k)).take (b.length - 1 - (6 + k)) = S)
    (h : R.length = 0 ∨ S.length = 0) : ¬ vB b = true :=
  well_no hk hR hS (h.elim (fun h => .inl (List.length_eq_zero_iff.mp h)) fun h => .inr (.inl (List.length_eq_zero_iff.mp h)))
theorem end_no {b : List UInt8} (h : ¬ vB b = true) : false = vB b := (Bool.eq_false_iff.mpr h).symm
theorem end_eq {x y : List UInt8} {c : Bool} (h : x = y ↔ c = true) : (x == y) = c := Bool.eq_iff_iff.mpr (by rw [beq_iff_eq]; exact h)
theorem vB_len {b : List UInt8} {k : Nat} (hk : (b.getD 3 0).toNat = k) (h : vB b = true) : 9 ≤ b.length ∧ b.length ≤ 73 ∧ 5 + k < b.length ∧ k + (b.getD (5 + k) 0).toNat + 7 = b.length := by
  rw [vB_iff, hk] at h
  exact ⟨h.1, h.2.1, h.2.2.2.2.1, h.2.2.2.2.2.1⟩
theorem c_laid' (w : World) {a₀ : Addr} {r z : List UInt8} {t u : Tok} (h1 : r.length ≤ 100) (h2 : z.length ≤ 100) : CtrL w 273 3 100 a₀ (LCg.lst [.bytes r.toArray t, .bytes z.toArray u]) [.ref a₀] (fun t => .bytes (laidB r z).toArray t) := c_laid w (k := 2) h1 h2
end Mine
end
section
open PySem PySem.W PyProof.Rows
set_option pp.fieldNotation false
namespace Mine
theorem put_back_D3 : True := by
  w_top off
  k_with_none
  trivial
section
variable {prog : Program} {w : World} {A : Around} {E : Value → Shared → Prop} {s : Shared} {l : List UInt8}
theorem r_lenL {a : Addr} {vs : List Value} {Q : Value → Shared → Prop} (hl : s.heap.IsList a vs.toArray) (hi : IntsAre vs (intsOf l)) (hfit : l.length ≤ 1000) (h : ∀ t' k, Q (.int (l.length : Nat) t') { s with toks := k }) :
    wpAny (model prog w) A (call (.builtin "len") [.ref a]) Q E s := by
  have e : (intsOf l).length = l.length := List.length_map ..
  refine len_ints_fit hl hi (by omega) ?_
  rw [e]
  exact h _ _
theorem getD_intsOf (l : List UInt8) (k : Nat) : (intsOf l).getD k 0 = (((l.getD k 0).toNat : Nat) : Int) := by
  simp only [intsOf, List.getD_eq_getElem?_getD, List.getElem?_map]
  cases l[k]? <;> rfl
theorem r_itemLN {h₀ : Heap} {L : Addr} {led : List (Addr × Obj)} {a : Addr} {vs : List Value} {x : Nat} {i : Int} {u : Tok} {value slice : PySem.Expr} {Q : Value → Shared → Prop} (N : News h₀ L s.heap led) (hm : (a, LCg.lst vs) ∈ led) (hi : IntsAre vs (intsOf l)) (h0 : 0 ≤ i) (h1 : i < (l.length : Int)) (hfit : l.length ≤ 1000) (hx : (l.getD i.toNat 0).toNat = x) (h : ∀ t, Q (.int (x : Nat) t) s)
    (hs : subscripted slice false (.ref a) (.int i u) = operate [.ref a, .int i u] (getItem (.ref a) (.int i u)) := by with_unfolding_all rfl) :
    wpAny (model prog w) A (subscriptTail value slice (.ref a) (.int i u)) Q E s := by
  have e : (intsOf l).length = l.length := List.length_map ..
  refine item_anyK ⟨_, (N _ hm).1, rfl, _, rfl⟩ hi h0 (by omega) (by omega) (fun t => ?_) hs
  rw [getD_intsOf, hx]
  exact h t
theorem r_itemLL {a : Addr} {vs : List Value} {x : Nat} {i : Int} {u : Tok} {value slice : PySem.Expr} {Q : Value → Shared → Prop} (hl : s.heap.IsList a vs.toArray) (hi : IntsAre vs (intsOf l)) (h0 : 0 ≤ i) (h1 : i < (l.length : Int)) (hfit : l.length ≤ 1000) (hx : (l.getD i.toNat 0).toNat = x) (h : ∀ t, Q (.int (x : Nat) t) s)
    (hs : subscripted slice false (.ref a) (.int i u) = operate [.ref a, .int i u] (getItem (.ref a) (.int i u)) := by with_unfolding_all rfl) :
    wpAny (model prog w) A (subscriptTail value slice (.ref a) (.int i u)) Q E s := by
  have e : (intsOf l).length = l.length := List.length_map ..
  refine item_anyK hl hi h0 (by omega) (by omega) (fun t => ?_) hs
  rw [getD_intsOf, hx]
  exact h t
end
theorem band_test {x : Nat} (h : x < 256) : Builtin.bitAnd (x : Int) 128 = ((x / 128 * 128 : Nat) : Int) := by
  revert x
  decide +kernel
local macro_rules | `(tactic| walk_at "call builtin:len") => `(tactic| (k_here; (with_reducible show wpAny _ _ (call (Value.builtin _) [Value.bytes (List.toArray _) _]) _ _ _); (refine r_len (by (try simp only [List.length_append, List.length_take, List.length_drop, List.length_cons, List.length_nil, List.length_map, List.length_replicate]); omega) ?_); intro _ _; (try dsimp only)))
local macro_rules | `(tactic| walk_at "truthy bytes") => `(tactic| (k_here; (with_reducible show wpAny _ _ (truthy (Value.bytes (List.toArray _) _)) _ _ _); (refine r_truthy (by (try simp only [List.length_append, List.length_take, List.length_drop, List.length_cons, List.length_nil, List.length_map, List.length_replicate]); omega) ?_); intro _; (try dsimp only)))
local macro_rules | `(tactic| walk_at "subscriptTail") => `(tactic| (k_here; (with_reducible show wpAny _ _ (subscriptTail _ _ (Value.bytes (List.toArray _) _) (Value.int _ _)) _ _ _); (refine r_item (by (try simp only [List.length_append, List.length_take, List.length_drop, List.length_cons, List.length_nil, List.length_map, List.length_replicate]); omega) (by (try simp only [List.length_append, List.length_take, List.length_drop, List.length_cons, List.length_nil, List.length_map, List.length_replicate]); omega) (by (try simp only [List.length_append, List.length_take, List.length_drop, List.length_cons, List.length_nil, List.length_map, List.length_replicate]); omega) ?_); intro _ _; (try dsimp only)))
local macro_rules | `(tactic| walk_at "subscriptTail") => `(tactic| (k_here; (with_reducible show wpAny _ _ (subscriptTail _ _ (Value.bytes (List.toArray _) _) (Value.int (-1) _)) _ _ _); (refine r_itemR (by (try simp only [List.length_append, List.length_take, List.length_drop, List.length_cons, List.length_nil, List.length_map, List.length_replicate]); omega) (by (try simp only [List.length_append, List.length_take, List.length_drop, List.length_cons, List.length_nil, List.length_map, List.length_replicate]); omega) (by decide) ?_); intro _ _; (try dsimp only)))
local macro_rules | `(tactic| walk_at "subscriptTail") => `(tactic| (k_here; (with_reducible show wpAny _ _ (subscriptTail _ (Expr.Slice _ _ none _) (Value.bytes (List.toArray _) _) (Value.ref _)) _ _ _); (with_reducible rename Fr _ _ _ _ => F'); (with_reducible rename News _ _ _ _ => N'); (refine r_slice (s := ⟨_, _, _, _, _⟩) F' N' (by constructor) (by constructor) (by (try simp only [List.length_append, List.length_take, List.length_drop, List.length_cons, List.length_nil, List.length_map, List.length_replicate]); omega) ?_); intro _ _ _ F' N'; (try dsimp only); (try k_sweep)))
local macro_rules | `(tactic| walk_at "binaryOp Add bytes bytes") => `(tactic| (k_here; (with_reducible show wpAny _ _ (binaryOp Operator.Add (Value.bytes (List.toArray _) _) (Value.bytes (List.toArray _) _)) _ _ _); (refine r_add (by (try simp only [List.length_append, List.length_take, List.length_drop, List.length_cons, List.length_nil, List.length_map, List.length_replicate]); omega) ?_); intro _ _; (try dsimp only)))
local macro_rules | `(tactic| walk_at "compareOp Eq bytes bytes") => `(tactic| (k_here; (with_reducible show wpAny _ _ (compareOp CmpOp.Eq (Value.bytes (List.toArray _) _) (Value.bytes (List.toArray _) _)) _ _ _); (refine r_eq ?_); (try dsimp only)))
local macro_rules | `(tactic| walk_at "compareOp NotEq bytes bytes") => `(tactic| (k_here; (with_reducible show wpAny _ _ (compareOp CmpOp.NotEq (Value.bytes (List.toArray _) _) (Value.bytes (List.toArray _) _)) _ _ _); (refine r_ne ?_); (try dsimp only)))
local macro_rules | `(tactic| walk_at "call type:type") => `(tactic| (k_here; (with_reducible show wpAny _ _ (call (Value.type "type") [Value.bytes _ _]) _ _ _); (refine call_type_of (Tx := "bytes") (typeIs_bytes _ _ _) (by decide +kernel) ?_)))
local macro_rules | `(tactic| walk_at "call type:type") => `(tactic| (k_here; (with_reducible show wpAny _ _ (call (Value.type "type") [Value.int _ _]) _ _ _); (refine call_type_of (Tx := "int") (typeIs_int _ _ _) (by decide +kernel) ?_)))
local macro_rules | `(tactic| walk_at "compareOp Is") => `(tactic| (k_here; (with_reducible show wpAny _ _ (compareOp CmpOp.Is (Value.type _) (Value.type _)) _ _ _); first | refine wpAny_is_self (by rfl) ?_ | refine wpAny_is_other (by rfl) (by decide) ?_))
local macro_rules | `(tactic| walk_at "compareOp IsNot") => `(tactic| (k_here; (with_reducible show wpAny _ _ (compareOp CmpOp.IsNot (Value.type _) (Value.type _)) _ _ _); first | refine wpAny_isNot_self (by rfl) ?_ | refine wpAny_isNot_other (by rfl) (by decide) ?_))
local macro_rules | `(tactic| k_all) => `(tactic| first | exact ne_of_ltAll (by assumption) | exact ne_of_allLt (by assumption))
local macro_rules | `(tactic| walk_at "call builtin:list.append") => `(tactic| (k_here; (with_reducible show wpAny _ _ (call (Value.builtin _) [Value.ref _, _]) _ _ _); k_dflt (refine' append_K ?k1 ?k2 ?k3 ?_ ?z; (case k1 => k_asm); (case k2 => k_asm); (case k3 => k_upd); (case z => ((try simp only [List.size_toArray, List.length_append, List.length_cons, List.length_nil]); rw [sizeLine_eq]; omega)); k_whole); intro h' F' N'; (try k_sweep)))
local macro_rules | `(tactic| walk_at "call builtin:_struct.pack") => `(tactic| (k_here; (refine r_pack (by omega) (by omega) ?_); intro _ _; (try dsimp only)))
local macro_rules | `(tactic| walk_at "call builtin:bytes.hex") => `(tactic| (k_here; (refine r_hex (by (try simp only [List.length_append, List.length_take, List.length_drop, List.length_cons, List.length_nil, List.length_map, List.length_replicate]); omega) ?_); intro _ _; (try dsimp only)))
local macro_rules | `(tactic| walk_at "call builtin:ord") => `(tactic| (k_here; (with_reducible show wpAny _ _ (call (Value.builtin _) [Value.bytes _ _]) _ _ _); (refine r_ord (by k_extra "ord") ?_); intro _ _; (try dsimp only)))
local macro_rules | `(tactic| walk_at "call builtin:bytes.startswith") => `(tactic| (k_here; (with_reducible show wpAny _ _ (call (Value.builtin _) [Value.bytes (List.toArray _) _, Value.bytes _ _]) _ _ _); (refine r_startswith ?_); (try dsimp only)))
local macro_rules | `(tactic| walk_at "getMethod bytes") => `(tactic| (k_here; (with_reducible first | refine m_hex ?_ | refine m_startswith ?_ | refine m_join ?_)))
local macro_rules | `(tactic| walk_at "getMethod str") => `(tactic| (k_here; (with_reducible refine m_encode ?_)))
local macro_rules | `(tactic| walk_at "call builtin:bytes.join") => `(tactic| (k_here; (with_reducible show wpAny _ _ (call (Value.builtin _) [Value.bytes _ _, Value.ref _]) _ _ _); (refine' r_join (o := ?o) ?hT (News.get ?N ?hm) ?hc ?hd ?hz ?_; (case N => k_asm); (case hm => k_mem); (case hc => exact rfl); (case hT => first | exact Or.inl rfl | exact Or.inr rfl); (case hd => exact rfl); (case hz => exact (by (try simp only [List.length_append, List.length_take, List.length_drop, List.length_cons, List.length_nil, List.length_map, List.length_replicate]); omega))); intro _ _; (try dsimp only)))
local macro_rules | `(tactic| walk_at "subscriptTail") => `(tactic| (k_here; (with_reducible show wpAny _ _ (subscriptTail _ (Expr.Slice _ _ none _) (Value.bytes (List.toArray _) _) (Value.ref _)) _ _ _); (with_reducible rename Fr _ _ _ _ => F'); (with_reducible rename News _ _ _ _ => N'); (refine' r_cut (s := ⟨_, _, _, _, _⟩) F' N' ?ha ?hb ?hz ?hc ?_; (case ha => constructor); (case hb => constructor); (case hz => exact (by (try simp only [List.length_append, List.length_take, List.length_drop, List.length_cons, List.length_nil, List.length_map, List.length_replicate]); omega)); (case hc => k_dflt (k_extra "cut"))); intro _ _ _ F' N'; (try dsimp only); (try k_sweep)))
local macro_rules | `(tactic| walk_at "binaryOp BitAnd int int") => `(tactic| (k_here; (refine' r_band ?hc ?_; (case hc => k_dflt (k_extra "band"))); intro _ _; (try dsimp only)))
local macro_rules | `(tactic| walk_at "call type:int") => `(tactic| (k_here; (with_reducible show wpAny _ _ (call (Value.type "int") [Value.bytes (List.toArray (List.map _ (hexOfB _))) _, Value.int 16 _]) _ _ _); (refine' r_int16 ?hn ?hl ?_; (case hn => k_extra "rowne"); (case hl => k_extra "rowlen")); intro _ _; (try dsimp only)))
local macro_rules | `(tactic| walk_at "call builtin:bytes.startswith") => `(tactic| (k_here; (with_reducible show wpAny _ _ (call (Value.builtin _) [Value.bytes (List.toArray _) _, Value.bytes _ _]) _ _ _); (first | refine r_sw (b := true) (by k_dflt (exact rfl)) ?_ | refine r_sw (b := false) (by k_dflt (exact rfl)) ?_); (try dsimp only)))
local macro_rules | `(tactic| walk_at "call builtin:len") => `(tactic| (k_here; (with_reducible show wpAny _ _ (call (Value.builtin _) [Value.bytes (List.toArray _) _]) _ _ _); (refine' r_lenE (n := ?n) ?hc ?hf ?_; (case hc => ((try simp only [List.length_append, List.length_take, List.length_drop, List.length_cons, List.length_nil, List.length_map, List.length_replicate]); exact rfl)); (case hf => omega)); intro _ _; (try dsimp only)))
local macro_rules | `(tactic| walk_at "call type:bytes") => `(tactic| (k_here; (with_reducible show wpAny _ _ (call (Value.type "bytes") [Value.ref _]) _ _ _); k_dflt (refine' r_bytesL ?F ?N ?l ?i ?n ?z ?h ?_; (case F => k_asm); (case N => k_asm); (case l => is_list); (case i => l_ints); (case n => first | k_extra "NS" | exact rfl | exact ns_one (by omega) (by omega) | exact ns_one (by (simp only [List.length_append, List.length_cons, List.length_nil]); omega) (by (simp only [List.length_append, List.length_cons, List.length_nil]); omega)); (case z => first | (simp only [List.length_cons, List.length_nil]; omega) | k_extra "NSz"); (case h => rfl); k_whole; intro h' t' k' F' N'; (try k_sweep))))
local macro_rules | `(tactic| walk_at "leaving ref") => `(tactic| (k_here; first
  | (refine' leave_raiseD ?k1 ?k0 ?k2 ?k3 ?_; (case k0 => assumption); (case k2 => assumption); (case k1 => assumption); (case k3 => k_asm); k_whole; intro h' t' R' U'; (try dsimp only at R' U' ⊢))
  | (refine' leave_onD ?k1 ?k2 ?k3 ?k4 ?_; (case k3 => assumption); (case k2 => assumption); (case k1 => assumption); (case k4 => assumption); k_whole; intro h' R' U'; (try dsimp only at R' U' ⊢))))
local macro_rules | `(tactic| walk_at "noteFrame ref") => `(tactic| (k_here; k_dflt (refine' lookD ?R ?K ?U ?_; (case R => assumption); (case K => assumption); (case U => assumption); k_whole); intro h' R' U'; (try dsimp only at R' U' ⊢)))
local macro_rules | `(tactic| walk_at "handleBy ref") => `(tactic| (k_here; k_dflt (refine' hitD ?R ?F ?K ?U ?XB ?TB ?D ?T0 ?T ?_; (case R => assumption); (case F => assumption); (case K => assumption); (case U => assumption); (case XB => assumption); (case TB => assumption); (case D => assumption); (case T0 => first | assumption | exact KtsTurn.refl); (case T => kts_test); k_whole); intro h' g' oe' ot' tk' T' F' N' O' K' X' P' D'; (try k_lift K'); (try k_sweep)))
local macro_rules | `(tactic| walk_at "getMethod ref") => `(tactic| (k_here; (with_reducible rename ExcObj _ _ _ _ _ => eo'); k_dflt (refine' method_exc ?F ?X ?N ?M eo' ?a ?b ?c ?d ?_; (case F => assumption); (case X => k_asm); (case N => assumption); (case M => k_mem); (case a => k_is); (case b => k_is); (case c => k_is); (case d => k_is); k_whole)))
local macro_rules | `(tactic| walk_at "getAttr ref") => `(tactic| (k_here; (with_reducible rename ExcObj _ _ _ _ _ => eo'); k_dflt (refine' args_exc ?F ?X ?N ?M eo' ?_; (case F => assumption); (case X => k_asm); (case N => assumption); (case M => k_mem); k_whole)))
local macro_rules | `(tactic| walk_at "call builtin:len") => `(tactic| (k_here; (with_reducible rename ExcObj _ _ _ _ _ => eo'); (with_reducible show wpAny _ _ (call (Value.builtin _) [Value.ref _]) _ _ _); k_dflt (refine' PyProof.Rows.len_tuple (exc_tup ?N ?M eo') ?S ?_; (case N => assumption); (case M => k_mem); (case S => simp); k_whole); (try dsimp only [List.size_toArray, List.length_cons, List.length_nil])))
local macro_rules | `(tactic| walk_at "subscriptTail") => `(tactic| (k_here; (with_reducible rename ExcObj _ _ _ _ _ => eo'); (with_reducible show wpAny _ _ (subscriptTail _ _ (Value.ref _) (Value.int _ _)) _ _ _); k_dflt (refine' item_tupleT (exc_tup ?N ?M eo') ?a ?b ?c ?d ?_; (case N => assumption); (case M => k_mem); (case a => decide); (case b => decide); (case c => rfl); (case d => rfl); k_whole)))
local macro_rules | `(tactic| walk_at "call builtin:len") => `(tactic| (k_here; (with_reducible rename ExcObj _ _ _ _ _ => eo'); (with_reducible show wpAny _ _ (call (Value.builtin _) [Value.ref _]) _ _ _); k_dflt (refine' len_tup2 (exc_tup ?N ?M eo') ?_; (case N => assumption); (case M => k_mem); k_whole)))
local macro_rules | `(tactic| walk_at "exec Raise some none") => `(tactic| (k_here; exfalso; omega))
local macro_rules | `(tactic| walk_at "callWith") => `(tactic| (k_here; (with_reducible show wpAny _ _ (callWith _ (Prod.fst _) _ _ _) _ _ _); with_reducible refine cw_pair ?_))
local macro_rules | `(tactic| walk_at "callWith ref") => `(tactic| (k_here; (with_reducible show wpAny _ _ (callWith _ (Prod.fst _) _ _ _) _ _ _); with_reducible refine cw_pair ?_))
local macro_rules | `(tactic| walk_at "callWith ref") => `(tactic| (k_here; (with_reducible show wpAny _ _ (callWith _ (Value.ref _) [Value.ref _] _ _) _ _ _); k_dflt (refine' callWith_K0 ?k1 ?k2 ?_; (case k1 => with_reducible first | assumption | exact Frag.In.keeps (by assumption) (Fr.keep (by assumption))); (case k2 => k_is); k_whole)))
local macro_rules | `(tactic| walk_at "call builtin:iter") => `(tactic| (k_here; (with_reducible show wpAny _ _ (call (Value.builtin _) [Value.bytes (List.toArray _) _]) _ _ _); k_dflt (refine' r_iter ?F ?N ?_; (case F => k_asm); (case N => k_asm); k_whole); intro I' h' F' N' l1; (try dsimp only)))
local macro_rules | `(tactic| walk_at "eval ListComp") => `(tactic| (k_here; k_dflt (refine LC_bi (by rfl) (by decide) (by rfl) (by decide) (by rfl) (by decide) ?_)))
local macro_rules | `(tactic| walk_at "exec Assign cons ListComp") => `(tactic| (k_here; k_dflt (refine AL_bi (F₀ := by k_asm) (by rfl) (by with_unfolding_all rfl) (by rfl) (by decide) (by rfl) (by decide) (by rfl) (by decide) (by rfl) (by rfl) ?_)))
local macro_rules | `(tactic| walk_at "BSrcA") => `(tactic| (k_here; k_dflt (refine' BSrcA.intro ?hh ?F ?N ?off ?l ?_; (case hh => rfl); (case F => k_asm); (case N => k_asm); (case off => k_all); (case l => omega)); intro ys' D' h' tk' iy' F' N' o1'; (try dsimp only)))
local macro_rules | `(tactic| walk_at "BSrc") => `(tactic| (k_here; k_dflt (refine' BSrc.intro ?hh ?F ?N ?off ?l ?_; (case hh => rfl); (case F => k_asm); (case N => k_asm); (case off => k_all); (case l => omega)); intro ys' D' h' tk' iy' F' N' o1'; (try dsimp only)))
local macro_rules | `(tactic| walk_at "call builtin:len") => `(tactic| (k_here; (with_reducible show wpAny _ _ (call (Value.builtin _) [Value.ref _]) _ _ _); (with_reducible rename IntsAre _ (intsOf _) => iy'); k_dflt (refine' r_lenL ?k1 iy' ?k3 ?_; (case k1 => is_list); (case k3 => omega)); intro _ _; (try dsimp only)))
local macro_rules | `(tactic| walk_at "subscriptTail") => `(tactic| (k_here; (with_reducible show wpAny _ _ (subscriptTail _ _ (Value.ref _) (Value.int _ _)) _ _ _); (with_reducible rename IntsAre _ (intsOf _) => iy'); k_dflt (refine' r_itemLN (by assumption) (List.mem_cons_self) iy' ?k3 ?k4 ?k5 ?k6 ?_ ?k7; (case k3 => omega); (case k4 => omega); (case k5 => omega); (case k6 => first | ((simp only [tn4, tn5, tn6, tn7]); exact rfl) | ((simp only [Int.reduceToNat]); exact rfl) | exact rfl); (case k7 => with_unfolding_all rfl)); intro _; (try dsimp only)))
local macro_rules | `(tactic| walk_at "subscriptTail Name Constant ref int") => `(tactic| (k_here; (with_reducible show wpAny _ _ (subscriptTail _ _ (Value.ref _) (Value.int _ _)) _ _ _); (with_reducible rename IntsAre _ (intsOf _) => iy'); k_dflt (refine' r_itemLN (by assumption) (List.mem_cons_self) iy' ?k3 ?k4 ?k5 ?k6 ?_ ?k7; (case k3 => omega); (case k4 => omega); (case k5 => omega); (case k6 => first | ((simp only [tn4, tn5, tn6, tn7]); exact rfl) | ((simp only [Int.reduceToNat]); exact rfl) | exact rfl); (case k7 => with_unfolding_all rfl)); intro _; (try dsimp only)))
local macro_rules | `(tactic| walk_at "subscriptTail Name BinOp ref int") => `(tactic| (k_here; (with_reducible show wpAny _ _ (subscriptTail _ _ (Value.ref _) (Value.int _ _)) _ _ _); (with_reducible rename IntsAre _ (intsOf _) => iy'); k_dflt (refine' r_itemLN (by assumption) (List.mem_cons_self) iy' ?k3 ?k4 ?k5 ?k6 ?_ ?k7; (case k3 => omega); (case k4 => omega); (case k5 => omega); (case k6 => first | ((simp only [tn4, tn5, tn6, tn7]); exact rfl) | ((simp only [Int.reduceToNat]); exact rfl) | exact rfl); (case k7 => with_unfolding_all rfl)); intro _; (try dsimp only)))
local macro_rules | `(tactic| walk_at "exec Raise some none") => `(tactic| (k_here; (with_reducible rename News _ _ _ ((_, LCg.lst _) :: _) => nBig); (have nSm := drop_led nBig (fun p hp => List.mem_cons_of_mem _ hp)); clear nBig))
set_option maxRecDepth 100000 in
set_option maxHeartbeats 16000000 in
theorem c_vs (w : World) (b : List UInt8) (t : Tok) (hb1 : b.length ≤ 100) : CtrA w 280 [.ref 235, .bytes b.toArray t] (fun t' => .int (vsSpec b) t') := by
  unfold CtrA
  k_fill
  intro p loose mean mg mb cn cs a ccd base h₀ L m news s Q E B XB TB F X N T hk hret
  k_with "band" => exact band_test (UInt8.toNat_lt _)
  refine wpAny_call ?_
  k_dflt (refine' code_defS0 ?k1 ?k2 ?k3 ?k4 ?k5 ?kA ?k6 ?k7 ?k8 ?k9 ?kB ?_ ?cK ?c2 ?c3 ?c4 ?c5; (case kA => exact rfl); (case k2 => k_asm); (case k1 => k_asm); (case k3 => k_asm); (case k4 => k_asm); (case k5 => k_asm); (case k6 => k_is); (case k7 => k_is); (case k8 => k_room); (case k9 => first | exact BindsTo.of_eq rfl | exact binds_K (by k_in) rfl (by k_is) rfl rfl rfl); (case kB => exact locs rfl); (case cK => assumption); (case c2 => exact rfl); (case c3 => exact rfl); (case c4 => exact rfl); (case c5 => decide); k_whole; intro g' L' h' FG' F' N' B' X' T' D'; (try dsimp only); (try k_lift B'); (try k_fold))
  k_steps
  all_goals ((try dsimp only at hret); (first | refine retI (Q := Q) hret ?_ (by k_asm) (by k_asm) (by intro p0 hp0; repeat first | exact hp0 | refine List.mem_cons_of_mem _ ?_) | refine retY (Q := Q) hret ?_ (by k_asm) (by k_asm) (by intro p0 hp0; repeat first | exact hp0 | refine List.mem_cons_of_mem _ ?_) | refine retO (Q := Q) hret ?_ (by k_asm) (by k_asm) (by intro p0 hp0; repeat first | exact hp0 | refine List.mem_cons_of_mem _ ?_)))
  all_goals first
  | (refine vs_no ?_ rfl; rw [vB_iff]; rintro ⟨p0, p1, p2, p3, p4, p5, p6, p7, p8, p9, pa, pb, pc, pd⟩; omega)
  | (refine vs_ok ?_ rfl; rw [vB_iff]; refine ⟨?_, ?_, ?_, ?_, ?_, ?_, ?_, ?_, ?_, ?_, ?_, ?_, ?_, ?_⟩ <;> omega)
end Mine
end
section
open PySem PySem.W PyProof.Rows
set_option pp.fieldNotation false
namespace Mine
theorem put_back_E1 : True := by
  w_top off
  k_with_none
  trivial
local macro_rules | `(tactic| walk_at "call ref") => `(tactic| (k_here; k_dflt (refine wpAny_call ?_; (refine' code_def ?k1 ?k2 ?k3 ?k4 ?k5 ?kA ?kF ?kK ?k6 ?k7 ?k8 ?k9 ?kB ?_ ?c2 ?c3 ?c4 ?c5; (case kA => exact rfl); (case kF => exact rfl); (case kK => first | exact rfl | assumption); (case k1 => k_asm); (case k2 => k_asm); (case k3 => k_asm); (case k4 => k_asm); (case k5 => k_asm); (case k6 => k_is); (case k7 => k_is); (case k8 => ktr_room); (case k9 => first | exact BindsTo.of_eq rfl | exact binds_K (by k_in) rfl (by k_is) rfl rfl rfl); (case c5 => decide); (case kB => exact locs rfl); (case c2 => exact rfl); (case c3 => exact rfl); (case c4 => exact rfl); k_whole; intro g' L' h' FG' F' N' B' X' T'; (try dsimp only); (try k_lift B'); (try k_fold)))))
local macro_rules | `(tactic| walk_at "call builtin:len") => `(tactic| (k_here; (with_reducible show wpAny _ _ (call (Value.builtin _) [Value.bytes (List.toArray _) _]) _ _ _); (refine r_len (by (try simp only [List.length_append, List.length_take, List.length_drop, List.length_cons, List.length_nil, List.length_map, List.length_replicate]); omega) ?_); intro _ _; (try dsimp only)))
local macro_rules | `(tactic| walk_at "truthy bytes") => `(tactic| (k_here; (with_reducible show wpAny _ _ (truthy (Value.bytes (List.toArray _) _)) _ _ _); (refine r_truthy (by (try simp only [List.length_append, List.length_take, List.length_drop, List.length_cons, List.length_nil, List.length_map, List.length_replicate]); omega) ?_); intro _; (try dsimp only)))
local macro_rules | `(tactic| walk_at "subscriptTail") => `(tactic| (k_here; (with_reducible show wpAny _ _ (subscriptTail _ _ (Value.bytes (List.toArray _) _) (Value.int _ _)) _ _ _); (refine r_item (by (try simp only [List.length_append, List.length_take, List.length_drop, List.length_cons, List.length_nil, List.length_map, List.length_replicate]); omega) (by (try simp only [List.length_append, List.length_take, List.length_drop, List.length_cons, List.length_nil, List.length_map, List.length_replicate]); omega) (by (try simp only [List.length_append, List.length_take, List.length_drop, List.length_cons, List.length_nil, List.length_map, List.length_replicate]); omega) ?_); intro _ _; (try dsimp only)))
local macro_rules | `(tactic| walk_at "subscriptTail") => `(tactic| (k_here; (with_reducible show wpAny _ _ (subscriptTail _ _ (Value.bytes (List.toArray _) _) (Value.int (-1) _)) _ _ _); (refine r_itemR (by (try simp only [List.length_append, List.length_take, List.length_drop, List.length_cons, List.length_nil, List.length_map, List.length_replicate]); omega) (by (try simp only [List.length_append, List.length_take, List.length_drop, List.length_cons, List.length_nil, List.length_map, List.length_replicate]); omega) (by decide) ?_); intro _ _; (try dsimp only)))
local macro_rules | `(tactic| walk_at "subscriptTail") => `(tactic| (k_here; (with_reducible show wpAny _ _ (subscriptTail _ (Expr.Slice _ _ none _) (Value.bytes (List.toArray _) _) (Value.ref _)) _ _ _); (with_reducible rename Fr _ _ _ _ => F'); (with_reducible rename News _ _ _ _ => N'); (refine r_slice (s := ⟨_, _, _, _, _⟩) F' N' (by constructor) (by constructor) (by (try simp only [List.length_append, List.length_take, List.length_drop, List.length_cons, List.length_nil, List.length_map, List.length_replicate]); omega) ?_); intro _ _ _ F' N'; (try dsimp only); (try k_sweep)))
local macro_rules | `(tactic| walk_at "binaryOp Add bytes bytes") => `(tactic| (k_here; (with_reducible show wpAny _ _ (binaryOp Operator.Add (Value.bytes (List.toArray _) _) (Value.bytes (List.toArray _) _)) _ _ _); (refine r_add (by (try simp only [List.length_append, List.length_take, List.length_drop, List.length_cons, List.length_nil, List.length_map, List.length_replicate]); omega) ?_); intro _ _; (try dsimp only)))
local macro_rules | `(tactic| walk_at "compareOp Eq bytes bytes") => `(tactic| (k_here; (with_reducible show wpAny _ _ (compareOp CmpOp.Eq (Value.bytes (List.toArray _) _) (Value.bytes (List.toArray _) _)) _ _ _); (refine r_eq ?_); (try dsimp only)))
local macro_rules | `(tactic| walk_at "compareOp NotEq bytes bytes") => `(tactic| (k_here; (with_reducible show wpAny _ _ (compareOp CmpOp.NotEq (Value.bytes (List.toArray _) _) (Value.bytes (List.toArray _) _)) _ _ _); (refine r_ne ?_); (try dsimp only)))
local macro_rules | `(tactic| walk_at "call type:type") => `(tactic| (k_here; (with_reducible show wpAny _ _ (call (Value.type "type") [Value.bytes _ _]) _ _ _); (refine call_type_of (Tx := "bytes") (typeIs_bytes _ _ _) (by decide +kernel) ?_)))
local macro_rules | `(tactic| walk_at "call type:type") => `(tactic| (k_here; (with_reducible show wpAny _ _ (call (Value.type "type") [Value.int _ _]) _ _ _); (refine call_type_of (Tx := "int") (typeIs_int _ _ _) (by decide +kernel) ?_)))
local macro_rules | `(tactic| walk_at "compareOp Is") => `(tactic| (k_here; (with_reducible show wpAny _ _ (compareOp CmpOp.Is (Value.type _) (Value.type _)) _ _ _); first | refine wpAny_is_self (by rfl) ?_ | refine wpAny_is_other (by rfl) (by decide) ?_))
local macro_rules | `(tactic| walk_at "compareOp IsNot") => `(tactic| (k_here; (with_reducible show wpAny _ _ (compareOp CmpOp.IsNot (Value.type _) (Value.type _)) _ _ _); first | refine wpAny_isNot_self (by rfl) ?_ | refine wpAny_isNot_other (by rfl) (by decide) ?_))
local macro_rules | `(tactic| k_all) => `(tactic| first | exact ne_of_ltAll (by assumption) | exact ne_of_allLt (by assumption))
local macro_rules | `(tactic| walk_at "call builtin:list.append") => `(tactic| (k_here; (with_reducible show wpAny _ _ (call (Value.builtin _) [Value.ref _, _]) _ _ _); k_dflt (refine' append_K ?k1 ?k2 ?k3 ?_ ?z; (case k1 => k_asm); (case k2 => k_asm); (case k3 => k_upd); (case z => ((try simp only [List.size_toArray, List.length_append, List.length_cons, List.length_nil]); rw [sizeLine_eq]; omega)); k_whole); intro h' F' N'; (try k_sweep)))
local macro_rules | `(tactic| walk_at "call builtin:_struct.pack") => `(tactic| (k_here; (refine r_pack (by omega) (by omega) ?_); intro _ _; (try dsimp only)))
local macro_rules | `(tactic| walk_at "call builtin:bytes.hex") => `(tactic| (k_here; (refine r_hex (by (try simp only [List.length_append, List.length_take, List.length_drop, List.length_cons, List.length_nil, List.length_map, List.length_replicate]); omega) ?_); intro _ _; (try dsimp only)))
local macro_rules | `(tactic| walk_at "call builtin:ord") => `(tactic| (k_here; (with_reducible show wpAny _ _ (call (Value.builtin _) [Value.bytes _ _]) _ _ _); (refine r_ord (by k_extra "ord") ?_); intro _ _; (try dsimp only)))
local macro_rules | `(tactic| walk_at "call builtin:bytes.startswith") => `(tactic| (k_here; (with_reducible show wpAny _ _ (call (Value.builtin _) [Value.bytes (List.toArray _) _, Value.bytes _ _]) _ _ _); (refine r_startswith ?_); (try dsimp only)))
local macro_rules | `(tactic| walk_at "getMethod bytes") => `(tactic| (k_here; (with_reducible first | refine m_hex ?_ | refine m_startswith ?_ | refine m_join ?_)))
local macro_rules | `(tactic| walk_at "getMethod str") => `(tactic| (k_here; (with_reducible refine m_encode ?_)))
local macro_rules | `(tactic| walk_at "call builtin:bytes.join") => `(tactic| (k_here; (with_reducible show wpAny _ _ (call (Value.builtin _) [Value.bytes _ _, Value.ref _]) _ _ _); (refine' r_join (o := ?o) ?hT (News.get ?N ?hm) ?hc ?hd ?hz ?_; (case N => k_asm); (case hm => k_mem); (case hc => exact rfl); (case hT => first | exact Or.inl rfl | exact Or.inr rfl); (case hd => exact rfl); (case hz => exact (by (try simp only [List.length_append, List.length_take, List.length_drop, List.length_cons, List.length_nil, List.length_map, List.length_replicate]); omega))); intro _ _; (try dsimp only)))
local macro_rules | `(tactic| walk_at "subscriptTail") => `(tactic| (k_here; (with_reducible show wpAny _ _ (subscriptTail _ (Expr.Slice _ _ none _) (Value.bytes (List.toArray _) _) (Value.ref _)) _ _ _); (with_reducible rename Fr _ _ _ _ => F'); (with_reducible rename News _ _ _ _ => N'); (refine' r_cut (s := ⟨_, _, _, _, _⟩) F' N' ?ha ?hb ?hz ?hc ?_; (case ha => constructor); (case hb => constructor); (case hz => exact (by (try simp only [List.length_append, List.length_take, List.length_drop, List.length_cons, List.length_nil, List.length_map, List.length_replicate]); omega)); (case hc => k_dflt (k_extra "cut"))); intro _ _ _ F' N'; (try dsimp only); (try k_sweep)))
local macro_rules | `(tactic| walk_at "binaryOp BitAnd int int") => `(tactic| (k_here; (refine' r_band ?hc ?_; (case hc => k_dflt (k_extra "band"))); intro _ _; (try dsimp only)))
local macro_rules | `(tactic| walk_at "call type:int") => `(tactic| (k_here; (with_reducible show wpAny _ _ (call (Value.type "int") [Value.bytes (List.toArray (List.map _ (hexOfB _))) _, Value.int 16 _]) _ _ _); (refine' r_int16 ?hn ?hl ?_; (case hn => k_extra "rowne"); (case hl => k_extra "rowlen")); intro _ _; (try dsimp only)))
local macro_rules | `(tactic| walk_at "call builtin:bytes.startswith") => `(tactic| (k_here; (with_reducible show wpAny _ _ (call (Value.builtin _) [Value.bytes (List.toArray _) _, Value.bytes _ _]) _ _ _); (first | refine r_sw (b := true) (by k_dflt (exact rfl)) ?_ | refine r_sw (b := false) (by k_dflt (exact rfl)) ?_); (try dsimp only)))
local macro_rules | `(tactic| walk_at "call builtin:len") => `(tactic| (k_here; (with_reducible show wpAny _ _ (call (Value.builtin _) [Value.bytes (List.toArray _) _]) _ _ _); (refine' r_lenE (n := ?n) ?hc ?hf ?_; (case hc => ((try simp only [List.length_append, List.length_take, List.length_drop, List.length_cons, List.length_nil, List.length_map, List.length_replicate]); exact rfl)); (case hf => omega)); intro _ _; (try dsimp only)))
local macro_rules | `(tactic| walk_at "call type:bytes") => `(tactic| (k_here; (with_reducible show wpAny _ _ (call (Value.type "bytes") [Value.ref _]) _ _ _); k_dflt (refine' r_bytesL ?F ?N ?l ?i ?n ?z ?h ?_; (case F => k_asm); (case N => k_asm); (case l => is_list); (case i => l_ints); (case n => first | k_extra "NS" | exact rfl | exact ns_one (by omega) (by omega) | exact ns_one (by (simp only [List.length_append, List.length_cons, List.length_nil]); omega) (by (simp only [List.length_append, List.length_cons, List.length_nil]); omega)); (case z => first | (simp only [List.length_cons, List.length_nil]; omega) | k_extra "NSz"); (case h => rfl); k_whole; intro h' t' k' F' N'; (try k_sweep))))
local macro_rules | `(tactic| walk_at "eval ListComp") => `(tactic| (k_here; (with_reducible show wpAny _ _ (eval (Expr.ListComp _ [⟨_, Expr.Name _ _, [], _⟩] _ _) _) _ _ _); k_dflt (refine LCg.ListComp_U (F₀ := by k_asm) (by rfl) (by decide) (by rfl) (by decide) (by rfl) ?_)))
local macro_rules | `(tactic| walk_at "eval ListComp") => `(tactic| (k_here; (with_reducible show wpAny _ _ (eval (Expr.ListComp _ [⟨_, Expr.Name _ _, [_], _⟩] _ _) _) _ _ _); k_dflt (refine LCt.ListComp_T (F₀ := by k_asm) (by with_unfolding_all rfl) (by decide) (by rfl) (by decide) (by rfl) ?_)))
local macro_rules | `(tactic| walk_at "CompSrc") => `(tactic| (k_here; k_dflt (refine LCg.CompSrc.ledger (by rfl) (by k_asm) (by k_asm) (by k_mem) (by first | size_fits | exact Nat.le_of_ble_eq_true rfl) ?_; intro g'; lcg_lit)))
local macro_rules | `(tactic| walk_at "CompSrcT") => `(tactic| (k_here; k_dflt (refine LCt.CompSrcT.ledger (by rfl) (by k_asm) (by k_asm) (by k_mem) (by first | size_fits | exact Nat.le_of_ble_eq_true rfl) ?_; intro g'; lct_lit)))
local macro_rules | `(tactic| walk_at "my off") => `(tactic| first | exact True.intro | assumption | (refine And.intro ⟨by k_ne, by k_ne, by k_ne⟩ ?_; walk_at "my off"))
local macro_rules | `(tactic| walk_at "CompEnd") => `(tactic| (first | refine LCg.CompEnd.intro (by assumption) (by assumption) _ (fun _ hp => hp) (by first | assumption | ((simp only [LCg.Off3, and_true]); assumption) | walk_at "my off") (by first | exact True.intro | exact Or.inl (by assumption) | exact Or.inr ⟨_, by k_mem, rfl, _, rfl⟩ | exact ⟨_, by k_mem, rfl, _, rfl⟩) ?_ | refine LCg.CompEnd.intro (by assumption) (by assumption) _ (fun _ hp => List.mem_cons_of_mem _ hp) (by first | assumption | ((simp only [LCg.Off3, and_true]); assumption) | walk_at "my off") (by first | exact True.intro | exact Or.inl (by assumption) | exact Or.inr ⟨_, by k_mem, rfl, _, rfl⟩ | exact ⟨_, by k_mem, rfl, _, rfl⟩) ?_ | refine LCg.CompEnd.intro (by assumption) (by assumption) _ (fun _ hp => List.mem_cons_of_mem _ (List.mem_cons_of_mem _ hp)) (by first | assumption | ((simp only [LCg.Off3, and_true]); assumption) | walk_at "my off") (by first | exact True.intro | exact Or.inl (by assumption) | exact Or.inr ⟨_, by k_mem, rfl, _, rfl⟩ | exact ⟨_, by k_mem, rfl, _, rfl⟩) ?_))
local macro_rules | `(tactic| walk_at "compareOp In") => `(tactic| (k_here; (with_reducible show wpAny _ _ (compareOp CmpOp.In (Value.bytes _ _) (Value.ref _)) _ _ _); k_dflt (refine r_in2s (by is_list) ?_ ?_); all_goals (intros; (try dsimp only))))
local macro_rules | `(tactic| walk_at "compareOp NotEq ref ref") => `(tactic| (k_here; (with_reducible show wpAny _ _ (compareOp CmpOp.NotEq (Value.ref _) (Value.ref _)) _ _ _); k_dflt (first | refine ke_ne_ints (by is_list) (by is_list) IntsAre.nil IntsAre.nil (by ktr_units) ?_ | refine r_neNil (by is_list) (by is_list) (by simp) (by ktr_units) ?_)))
local macro_rules | `(tactic| walk_at "call ref") => `(tactic| (k_here; (with_reducible show wpAny _ _ (call (Value.ref _) [Value.bytes (List.toArray _) _, Value.str _ _]) _ _ _); k_dflt (refine' r_from ?N ?m ?l ?_; (case N => k_asm); (case m => k_mem); (case l => k_extra "fromlen")); intro _ _; (try dsimp only)))
local macro_rules | `(tactic| walk_at "call ref") => `(tactic| (k_here; (with_reducible show wpAny _ _ (call (Value.ref 268) _) _ _ _); k_dflt (refine' Ctr.use (c_oct _ ?h) ?B ?F ?X ?N ?T ?K ?D ?U ?_; (case B => k_asm); (case F => k_asm); (case X => k_asm); (case N => k_asm); (case T => k_asm); (case K => first | exact rfl | assumption); (case D => ktr_room); (case U => ktr_units)); (case h => k_extra "OCT"); intro t9 h9 tk9 F9 N9; (try dsimp only); (try k_fold)))
local macro_rules | `(tactic| walk_at "call ref") => `(tactic| (k_here; (with_reducible show wpAny _ _ (call (Value.ref 273) _) _ _ _); k_dflt (refine' CtrL.use (c_laid _ ?h1 ?h2) ?hm ?B ?F ?X ?N ?T ?K ?D ?U ?_; (case B => k_asm); (case F => k_asm); (case X => k_asm); (case N => k_asm); (case T => k_asm); (case K => first | exact rfl | assumption); (case D => ktr_room); (case U => ktr_units)); (case hm => k_dflt k_mem); (case h1 => k_dflt (k_extra "LEN")); (case h2 => k_dflt (k_extra "LEN")); intro t9 h9 tk9 F9 N9; (try dsimp only); (try k_fold)))
local macro_rules | `(tactic| walk_at "call ref") => `(tactic| (k_here; (with_reducible show wpAny _ _ (call (Value.ref 273) _) _ _ _); k_dflt (refine' CtrL.use (c_laid' _ ?h1 ?h2) ?hm ?B ?F ?X ?N ?T ?K ?D ?U ?_; (case B => k_asm); (case F => k_asm); (case X => k_asm); (case N => k_asm); (case T => k_asm); (case K => first | exact rfl | assumption); (case D => ktr_room); (case U => ktr_units)); (case hm => k_dflt k_mem); (case h1 => k_dflt (k_extra "LEN")); (case h2 => k_dflt (k_extra "LEN")); intro t9 h9 tk9 F9 N9; (try dsimp only); (try k_fold)))
local macro_rules | `(tactic| walk_at "my tidy") => `(tactic| ((repeat ((with_reducible rename And (Ne _ _) _ => hx'); clear hx')); (repeat ((with_reducible rename And (And _ _) _ => hx'); clear hx')); (repeat ((with_reducible rename @Ne Nat _ _ => hx'); clear hx'))))
theorem rowOf_le {n k : Nat} (hk : 1 ≤ k) (h : n < 256 ^ k) : (rowOf n).length ≤ k + 1 := rowOf_len (octs_len hk h)
theorem be_lt72 {l : List UInt8} (h : l.length ≤ 72) : be l < 256 ^ 72 := be_bound h
set_option maxRecDepth 100000 in
set_option maxHeartbeats 16000000 in
theorem c_well (w : World) {b : List UInt8} {t : Tok} (hb1 : b.length ≤ 100) : Ctr w 285 8 200 [.bytes b.toArray t] (fun _ => .bool (vB b)) := by
  unfold Ctr
  k_fill
  intro p loose mean mg mb dp un gd cnm csc aa ccd cl outer A₀ base h₀ L m news s Q E B F X N T hk hd hu hret
  obtain ⟨k, hk⟩ : ∃ k, (b.getD (Int.toNat 3) 0).toNat = k := ⟨_, rfl⟩
  obtain ⟨R, hR⟩ : ∃ R, (b.drop 4).take k = R := ⟨_, rfl⟩
  obtain ⟨S, hS⟩ : ∃ S, (b.drop (6 + k)).take (b.length - 1 - (6 + k)) = S := ⟨_, rfl⟩
  have hlR : R.length = min k (b.length - 4) := by rw [← hR, List.length_take, List.length_drop]
  have hlS : S.length = min (b.length - 1 - (6 + k)) (b.length - (6 + k)) := by rw [← hS, List.length_take, List.length_drop]
  k_with "cut" => with_reducible first | exact cut_t1 | exact cut_R (by omega) (by omega) hR | exact cut_S (by omega) hS
  have hR1 : R.length ≤ 300 := by omega
  have hS1 : S.length ≤ 300 := by omega
  have hR2 : (b.length : Int) ≤ 73 → be R < 256 ^ 72 := fun h => be_lt72 (by omega)
  have hS2 : (b.length : Int) ≤ 73 → be S < 256 ^ 72 := fun h => be_lt72 (by omega)
  have hR3 : (b.length : Int) ≤ 73 → (rowOf (be R)).length ≤ 100 := fun h => Nat.le_trans (rowOf_le (k := 72) (by decide) (hR2 h)) (by decide)
  have hS3 : (b.length : Int) ≤ 73 → (rowOf (be S)).length ≤ 100 := fun h => Nat.le_trans (rowOf_le (k := 72) (by decide) (hS2 h)) (by decide)
  k_with "fromlen" => first | exact hR1 | exact hS1
  k_with "OCT" => first | exact hR2 (by assumption) | exact hS2 (by assumption)
  k_with "LEN" => first | exact hR3 (by assumption) | exact hS3 (by assumption)
  walk_at "call ref"
  have e5 : (b.getD (Int.toNat (5 + ((b.getD (Int.toNat 3) 0).toNat : Int))) 0).toNat = (b.getD (5 + k) 0).toNat := by rw [hk, tn5]
  have r0 : (R.getD (Int.toNat 0) 0).toNat = (R.getD 0 0).toNat := rfl
  have s0 : (S.getD (Int.toNat 0) 0).toNat = (S.getD 0 0).toNat := rfl
  k_steps
  all_goals ((try dsimp only at hret); (first | refine retI (Q := Q) hret ?_ (by k_asm) (by k_asm) (by intro p0 hp0; repeat first | exact hp0 | refine List.mem_cons_of_mem _ ?_) | refine retY (Q := Q) hret ?_ (by k_asm) (by k_asm) (by intro p0 hp0; repeat first | exact hp0 | refine List.mem_cons_of_mem _ ?_) | refine retO (Q := Q) hret ?_ (by k_asm) (by k_asm) (by intro p0 hp0; repeat first | exact hp0 | refine List.mem_cons_of_mem _ ?_)))
  all_goals walk_at "my tidy"
  all_goals first
  | exact end_no (well_no0 hk hR hS (by assumption))
  | exact end_no (fun h => by have := vB_len hk h; omega)
  | exact end_no (well_no hk hR hS (.inr (.inr (.inl (by omega)))))
  | exact end_no (well_no hk hR hS (.inr (.inr (.inr (by omega)))))
  | (refine end_eq (well_iff hk hR hS ?_ ?_ ?_ ?_ ?_ ?_ ?_ ?_) <;> first | omega | (intro hn; subst hn; simp at *))
end Mine
end
section
open PySem PySem.W PyProof.Rows PySem.Builtin
namespace Mine
/-! the law's own octets -/
theorem laid_len (a b : List UInt8) : (laidB a b).length = a.length + b.length + 6 := by
  simp only [laidB, pieceB, List.length_cons, List.length_append]
  omega
theorem row_len33 {r : Nat} (h : r < 256 ^ 33) : (rowOf r).length ≤ 34 := rowOf_len (octs_len (k := 33) (by decide) h)
theorem row_head (n : Nat) : ((rowOf n).getD 0 0).toNat < 128 := by
  obtain ⟨c, h, k⟩ := rowOf_head n
  match ho : rowOf n with
  | [] => rw [ho] at h; cases h
  | d :: l =>
    rw [ho] at h
    cases h
    exact k
theorem row_pos (n : Nat) : 0 < (rowOf n).length := by
  obtain ⟨c, h, k⟩ := rowOf_head n
  match ho : rowOf n with
  | [] => rw [ho] at h; cases h
  | d :: l => simp
theorem getD_app_l {a b : List UInt8} {i : Nat} (h : i < a.length) : (a ++ b).getD i 0 = a.getD i 0 := by
  simp only [List.getD_eq_getElem?_getD, List.getElem?_append_left h]
theorem getD_app_r {a b : List UInt8} {i j : Nat} (h : i = a.length + j) : (a ++ b).getD i 0 = b.getD j 0 := by
  subst h
  simp only [List.getD_eq_getElem?_getD]
  rw [List.getElem?_append_right (by omega), Nat.add_sub_cancel_left]
theorem laid_app (a b : List UInt8) (c : List UInt8) : laidB a b ++ c = 48 :: ((pieceB a ++ pieceB b).length).toUInt8 :: 2 :: (a.length).toUInt8 :: (a ++ 2 :: (b.length).toUInt8 :: (b ++ c)) := by
  simp only [laidB, pieceB, List.cons_append, List.append_assoc]
/-- what the law lays is let pass -/
theorem laid_well {r z : Nat} (hr : (rowOf r).length ≤ 34) (hz : (rowOf z).length ≤ 34) {x : UInt8} (h : (laidB (rowOf r) (rowOf z) ++ [x]).length ≤ 73) : vB (laidB (rowOf r) (rowOf z) ++ [x]) = true := by
  have iR := (row_iff (rowOf r) (List.length_pos_iff.mp (row_pos r)) (row_head r)).mp (by rw [be_rowOf])
  have iS := (row_iff (rowOf z) (List.length_pos_iff.mp (row_pos z)) (row_head z)).mp (by rw [be_rowOf])
  have p1 := row_pos r
  have p2 := row_pos z
  have q1 := row_head r
  have q2 := row_head z
  rw [List.length_append, laid_len] at h
  generalize rowOf r = a at *
  generalize rowOf z = b at *
  have hl : (laidB a b ++ [x]).length = a.length + b.length + 7 := by
    rw [List.length_append, laid_len]
    rfl
  have g3 : ((laidB a b ++ [x]).getD 3 0).toNat = a.length := by
    rw [laid_app]
    exact u8_nat (by omega)
  have gk : ∀ i, i < a.length → (laidB a b ++ [x]).getD (4 + i) 0 = a.getD i 0 := fun i hi => by
    rw [laid_app]
    rw [show 4 + i = i + 1 + 1 + 1 + 1 by omega]
    simp only [List.getD_cons_succ]
    rw [getD_app_l hi]
  have gs : ∀ i, (laidB a b ++ [x]).getD (4 + a.length + i) 0 = (2 :: (b.length).toUInt8 :: (b ++ [x])).getD i 0 := fun i => by
    rw [laid_app]
    rw [show 4 + a.length + i = a.length + i + 1 + 1 + 1 + 1 by omega]
    simp only [List.getD_cons_succ]
    rw [getD_app_r rfl]
  have s4 := gs 0
  have s5 := gs 1
  have s6 := gs 2
  have s7 := gs 3
  rw [vB_iff, g3, hl]
  rw [show a.length + 4 = 4 + a.length + 0 by omega, show 5 + a.length = 4 + a.length + 1 by omega, show a.length + 6 = 4 + a.length + 2 by omega, show a.length + 7 = 4 + a.length + 3 by omega, s4, s5, s6, s7]
  have t5 : ((2 :: (b.length).toUInt8 :: (b ++ [x])).getD 1 0).toNat = b.length := u8_nat (by omega)
  have t6 : (2 :: (b.length).toUInt8 :: (b ++ [x])).getD 2 0 = b.getD 0 0 := getD_app_l (a := b) (b := [x]) (by omega)
  have t7 : 1 < b.length → (2 :: (b.length).toUInt8 :: (b ++ [x])).getD 3 0 = b.getD 1 0 := fun h => getD_app_l (a := b) (b := [x]) h
  have t1 : ((laidB a b ++ [x]).getD 1 0).toNat = a.length + b.length + 4 := by
    rw [laid_app]
    refine (u8_nat (n := (pieceB a ++ pieceB b).length) ?_).trans ?_
    · simp only [pieceB, List.length_append, List.length_cons]
      omega
    · simp only [pieceB, List.length_append, List.length_cons]
      omega
  have e4 : (laidB a b ++ [x]).getD 4 0 = a.getD 0 0 := gk 0 p1
  have e5 : 1 < a.length → (laidB a b ++ [x]).getD 5 0 = a.getD 1 0 := fun h => gk 1 h
  rw [t5, t6, t1, e4]
  refine ⟨by omega, by omega, ?_, by omega, by omega, by omega, ?_, by omega, q1, ?_, rfl, by omega, q2, ?_⟩
  · rw [laid_app]; rfl
  · rw [laid_app]; rfl
  · rintro ⟨u1, u2, u3⟩
    rw [e5 u1] at u3
    exact iR ⟨u1, u2, u3⟩
  · rintro ⟨u1, u2, u3⟩
    rw [t7 u1] at u3
    exact iS ⟨u1, u2, u3⟩
theorem cut_f {l : List UInt8} {k : Nat} : cut l none (some (k : Int)) = l.take k := cut_front' rfl
theorem cut_b {l : List UInt8} {k : Nat} : cut l (some (k : Int)) none = l.drop k := cut_back' rfl
theorem cut_b1 {l : List UInt8} {k : Nat} : cut l (some ((k : Int) + 1)) none = l.drop (k + 1) := cut_back' (by omega)
theorem app_pos {l : List UInt8} {c : UInt8} : (0 : Int) < ((l ++ [c]).length : Nat) := by rw [List.length_append]; simp only [List.length_cons, List.length_nil]; omega
theorem last_app {l : List UInt8} {c : UInt8} : cut (l ++ [c]) (some (-1)) none = [c] := by
  simp [cut, clip_neg1]
end Mine
end
section
open PySem PySem.W PyProof.Rows
namespace Mine
/-! words for the law itself -/
theorem CtrA.use {w : World} {f : Addr} {vs : List Value} {R : Tok → Value} {p : Program} {loose : List Str} {mean : ExcName → Option Value} {mg mb : Str → Option Value} {cn : Str} {cs : Scope} {a : Addr} {ccd : Value} {base h₀ : Heap} {L : Addr} {m : Str → Option Value} {news : List (Addr × Obj)} {s : Shared} {Q E : Value → Shared → Prop}
    (C : CtrA w f vs R) (B : Below callerA base [] h₀) (XB : Frag.In (Mine.hd.heap_39 (World.params w)) base) (TB : Top p loose mean mg mb base) (F : Fr h₀ L s.heap m) (X : Frag.In (Mine.hd.heap_39 (World.params w)) h₀) (N : News h₀ L s.heap news) (T : Top p loose mean mg mb h₀) (hk : cs.kind = .function)
    (hret : ∀ (t : Tok) (h' : Heap) (tk' : Nat), Fr h₀ L h' m → News h₀ L h' news → Q (R t) { s with heap := h', toks := tk' }) :
    wpAny (model (RowW.prog (OpenRow.toRowW (OpenLaw.row PySem.Challenge.rw_fw0035_01))) w) (Around.deeper callerA (envOf cn cs L a ccd)) (call (.ref f) vs) Q E s :=
  C _ _ _ _ _ _ _ _ _ _ _ _ _ _ _ _ _ B XB TB F X N T hk hret
theorem fmod_nn {a b : Int} (hb : 0 < b) : 0 ≤ Int.fmod a b := by
  rw [Int.fmod_eq_emod_of_nonneg _ (by omega)]
  exact Int.emod_nonneg _ (by omega)
theorem eight {ys : List Value} {f : Int → Int} (h : IntsAre ys (List.map f (rangeKs 0 (Int.toNat (8 - 0))))) : ∃ (n0 n1 n2 n3 n4 n5 n6 n7 : Int) (t0 t1 t2 t3 t4 t5 t6 t7 : Tok), ys = [.int n0 t0, .int n1 t1, .int n2 t2, .int n3 t3, .int n4 t4, .int n5 t5, .int n6 t6, .int n7 t7] := by
  have e : rangeKs 0 (Int.toNat (8 - 0)) = [0, 1, 2, 3, 4, 5, 6, 7] := by decide
  rw [e] at h
  simp only [List.map_cons, List.map_nil] at h
  obtain ⟨t0, v0, rfl, h0⟩ := IntsAre.cons_inv h
  obtain ⟨t1, v1, rfl, h1⟩ := IntsAre.cons_inv h0
  obtain ⟨t2, v2, rfl, h2⟩ := IntsAre.cons_inv h1
  obtain ⟨t3, v3, rfl, h3⟩ := IntsAre.cons_inv h2
  obtain ⟨t4, v4, rfl, h4⟩ := IntsAre.cons_inv h3
  obtain ⟨t5, v5, rfl, h5⟩ := IntsAre.cons_inv h4
  obtain ⟨t6, v6, rfl, h6⟩ := IntsAre.cons_inv h5
  obtain ⟨t7, v7, rfl, h7⟩ := IntsAre.cons_inv h6
  obtain rfl := IntsAre.nil_inv h7
  exact ⟨_, _, _, _, _, _, _, _, _, _, _, _, _, _, _, _, rfl⟩
section
variable {prog : Program} {w : World} {A : Around} {E : Value → Shared → Prop} {s : Shared} {t u : Tok}
/-- what remains by a power of two of up to 260 bits: a number of up to 33 octets -/
theorem r_mod2 {a c : Int} {Q : Value → Shared → Prop} (h : ∀ (r : Nat) t' k, r < 256 ^ 33 → (rowOf r).length ≤ 34 → Q (.int (r : Int) t') { s with toks := k }) : wpAny (model prog w) A (binaryOp .Mod (.int a t) (.int (2 ^ Int.toNat (1 + Int.fmod c 260)) u)) Q E s := by
  have c0 : 0 ≤ Int.fmod c 260 := fmod_nn (by decide)
  have c1 : Int.fmod c 260 < 260 := Int.fmod_lt_of_pos c (by decide)
  have p0 : (0 : Int) < 2 ^ Int.toNat (1 + Int.fmod c 260) := Int.pow_pos (by decide)
  refine mod_int' (by omega) ?_
  have a0 := fmod_nn (a := a) p0
  have a1 := Int.fmod_lt_of_pos a p0
  have e : (2 : Int) ^ Int.toNat (1 + Int.fmod c 260) = ((2 ^ Int.toNat (1 + Int.fmod c 260) : Nat) : Int) := by simp
  have b1 : (2 : Nat) ^ Int.toNat (1 + Int.fmod c 260) ≤ 2 ^ 264 := Nat.pow_le_pow_right (by decide) (by omega)
  generalize Int.fmod a (2 ^ Int.toNat (1 + Int.fmod c 260)) = x at *
  obtain ⟨r, rfl⟩ := Int.eq_ofNat_of_zero_le a0
  rw [e] at a1
  have b2 : r < 256 ^ 33 := Nat.lt_of_lt_of_le (Int.ofNat_lt.mp a1) (Nat.le_trans b1 (by decide))
  exact h r _ _ b2 (row_len33 b2)
theorem r_pow2 {c : Int} {Q : Value → Shared → Prop} (h : ∀ t' k, Q (.int (2 ^ Int.toNat (1 + Int.fmod c 260)) t') { s with toks := k }) : wpAny (model prog w) A (binaryOp .Pow (.int 2 t) (.int (1 + Int.fmod c 260) u)) Q E s := by
  have c0 : 0 ≤ Int.fmod c 260 := fmod_nn (by decide)
  have c1 : Int.fmod c 260 < 260 := Int.fmod_lt_of_pos c (by decide)
  exact pow_int_small (by omega) (by omega) (by decide) (h _ _)
/-- what remains by a length or a written number: any number below it -/
theorem r_modN {a b : Int} {Q : Value → Shared → Prop} (hb : 0 < b) (h : ∀ (r : Nat) t' k, (r : Int) < b → Q (.int (r : Int) t') { s with toks := k }) : wpAny (model prog w) A (binaryOp .Mod (.int a t) (.int b u)) Q E s := by
  refine mod_int' (by omega) ?_
  have a0 := fmod_nn (a := a) hb
  have a1 := Int.fmod_lt_of_pos a hb
  generalize Int.fmod a b = x at *
  obtain ⟨r, rfl⟩ := Int.eq_ofNat_of_zero_le a0
  exact h r _ _ a1
theorem r_modA {a : Int} {l : List UInt8} {c : UInt8} {Q : Value → Shared → Prop} (h : ∀ (r : Nat) t' k, r < l.length + 1 → Q (.int (r : Int) t') { s with toks := k }) : wpAny (model prog w) A (binaryOp .Mod (.int a t) (.int ((l ++ [c]).length : Nat) u)) Q E s :=
  r_modN app_pos fun r t' k hr => h r t' k (by rw [List.length_append] at hr; simp only [List.length_cons, List.length_nil] at hr; omega)
/-- an item of a written list of small numbers: any small number -/
theorem r_pick {value slice : PySem.Expr} {l : Addr} {vs : List Value} {ns : List Int} {k : Int} {b : Nat} {Q : Value → Shared → Prop} (hl : s.heap.IsList l vs.toArray) (hi : IntsAre vs ns) (h0 : 0 ≤ k) (h1 : k < ns.length) (hs1 : k < 2 ^ 63) (hall : ∀ n ∈ ns, 0 ≤ n ∧ n ≤ b)
    (h : ∀ (r : Nat) t', r ≤ b → Q (.int (r : Int) t') s)
    (hs : subscripted slice false (.ref l) (.int k u) = operate [.ref l, .int k u] (getItem (.ref l) (.int k u)) := by with_unfolding_all rfl) :
    wpAny (model prog w) A (subscriptTail value slice (.ref l) (.int k u)) Q E s := by
  refine item_list_intsR hl hi h0 h1 hs1 (fun t => ?_) hs
  have hm : ns.getD k.toNat 0 ∈ ns := by
    have : k.toNat < ns.length := by omega
    rw [List.getD_eq_getElem?_getD, List.getElem?_eq_getElem this]
    exact List.getElem_mem this
  obtain ⟨m0, m1⟩ := hall _ hm
  generalize ns.getD k.toNat 0 = x at *
  obtain ⟨r, rfl⟩ := Int.eq_ofNat_of_zero_le m0
  exact h r t (by omega)
theorem r_rep {c : UInt8} {n : Int} {Q : Value → Shared → Prop} (h0 : 0 ≤ n) (h1 : n ≤ 1000) (h : ∀ t' k, Q (.bytes (List.replicate n.toNat c).toArray t') { s with toks := k }) : wpAny (model prog w) A (binaryOp .Mult (.bytes [c].toArray t) (.int n u)) Q E s := by
  refine bytes_mul_any (by simp) (by omega) (by omega) (by simp) fun t' k => ?_
  have e : (List.replicate n.toNat [c]).flatten = List.replicate n.toNat c := by simp
  rw [e]
  exact h t' k
theorem r_addC {x c : UInt8} {n : Nat} {Q : Value → Shared → Prop} (hn : n ≤ 1000) (h : ∀ t' k, Q (.bytes (x :: List.replicate n c).toArray t') { s with toks := k }) : wpAny (model prog w) A (binaryOp .Add (.bytes [x].toArray t) (.bytes (List.replicate n c).toArray u)) Q E s :=
  r_add (by simp only [List.length_cons, List.length_nil, List.length_replicate]; omega) h
theorem r_mod01 {a : Int} {Q : Value → Shared → Prop} (h0 : ∀ t' k, Q (.int 0 t') { s with toks := k }) (h1 : ∀ t' k, Q (.int 1 t') { s with toks := k }) : wpAny (model prog w) A (binaryOp .Mod (.int a t) (.int 2 u)) Q E s := by
  refine r_modN (by decide) fun r t' k hr => ?_
  match r with
  | 0 => exact h0 _ _
  | 1 => exact h1 _ _
  | n + 2 => omega
theorem r_ordk {x : Nat} {Q : Value → Shared → Prop} (hx : (x : Int) < 256) (h : ∀ t' k, Q (.int (x : Int) t') { s with toks := k }) : wpAny (model prog w) A (call (.builtin "ord") [.bytes [Nat.toUInt8 (Int.toNat (x : Int))].toArray t]) Q E s := by
  refine r_ord rfl fun t' k => ?_
  rw [show (Nat.toUInt8 (Int.toNat (x : Int))).toNat = x from u8_nat (by omega)]
  exact h t' k
theorem r_neSame {x y : List UInt8} {Q : Value → Shared → Prop} (e : x = y) (h : Q (.bool false) s) : wpAny (model prog w) A (compareOp .NotEq (.bytes x.toArray t) (.bytes y.toArray u)) Q E s := by
  subst e
  exact r_ne (by simpa using h)
theorem r_neInt {x y : Int} {Q : Value → Shared → Prop} (e : x = y) (h : Q (.bool false) s) : wpAny (model prog w) A (compareOp .NotEq (.int x t) (.int y u)) Q E s := by
  subst e
  exact PyProof.Rows.ne_int (by simpa using h)
theorem r_eqInt {x y : Int} {Q : Value → Shared → Prop} (e : x = y) (h : Q (.bool true) s) : wpAny (model prog w) A (compareOp .Eq (.int x t) (.int y u)) Q E s := by
  subst e
  exact PyProof.Rows.eq_int (by simpa using h)
end
section
variable {prog : Program} {w : World} {A : Around} {E : Value → Shared → Prop} {s : Shared} {h₀ : Heap} {L : Addr} {news : List (Addr × Obj)} {u : Tok}
theorem r_inT3 {v x y z : Int} {tx ty tz : Tok} {T : Addr} {k : Nat} {Q : Value → Shared → Prop} (N : News h₀ L s.heap news) (hm : (T, ({ cls := .type "tuple", data := .seq #[.int x tx, .int y ty, .int z tz] k } : Obj)) ∈ news)
    (h1 : v = x ∨ v = y ∨ v = z → Q (.bool true) s) (h0 : ¬ (v = x ∨ v = y ∨ v = z) → Q (.bool false) s) : wpAny (model prog w) A (compareOp .In (.int v u) (.ref T)) Q E s := by
  refine in_tuple_ints (ns := [x, y, z]) ⟨_, (N _ hm).1, rfl, _, rfl⟩ (.cons _ _ (.cons _ _ (.cons _ _ .nil))) ?_
  have e : [x, y, z].any (· == v) = decide (v = x ∨ v = y ∨ v = z) := by
    rw [Bool.eq_iff_iff]
    simp only [List.any_cons, List.any_nil, Bool.or_false, Bool.or_eq_true, beq_iff_eq, decide_eq_true_eq]
    omega
  rw [e]
  by_cases h : v = x ∨ v = y ∨ v = z
  · rw [decide_eq_true h]; exact h1 h
  · rw [decide_eq_false h]; exact h0 h
theorem r_inT2 {v x y : Int} {tx ty : Tok} {T : Addr} {k : Nat} {Q : Value → Shared → Prop} (N : News h₀ L s.heap news) (hm : (T, ({ cls := .type "tuple", data := .seq #[.int x tx, .int y ty] k } : Obj)) ∈ news)
    (h1 : v = x ∨ v = y → Q (.bool true) s) (h0 : ¬ (v = x ∨ v = y) → Q (.bool false) s) : wpAny (model prog w) A (compareOp .In (.int v u) (.ref T)) Q E s := by
  refine in_tuple_ints (ns := [x, y]) ⟨_, (N _ hm).1, rfl, _, rfl⟩ (.cons _ _ (.cons _ _ .nil)) ?_
  have e : [x, y].any (· == v) = decide (v = x ∨ v = y) := by
    rw [Bool.eq_iff_iff]
    simp only [List.any_cons, List.any_nil, Bool.or_false, Bool.or_eq_true, beq_iff_eq, decide_eq_true_eq]
    omega
  rw [e]
  by_cases h : v = x ∨ v = y
  · rw [decide_eq_true h]; exact h1 h
  · rw [decide_eq_false h]; exact h0 h
end
theorem ht_idx {b : List UInt8} : (b.getD (Int.toNat (-1 + (b.length : Int))) 0).toNat = (b.getD (b.length - 1) 0).toNat := by
  rw [show Int.toNat (-1 + (b.length : Int)) = b.length - 1 by omega]
theorem ht1 {b : List UInt8} (h : Int.fmod ((b.getD (Int.toNat (-1 + (b.length : Int))) 0).toNat : Int) 128 = 1 ∨ Int.fmod ((b.getD (Int.toNat (-1 + (b.length : Int))) 0).toNat : Int) 128 = 2 ∨ Int.fmod ((b.getD (Int.toNat (-1 + (b.length : Int))) 0).toNat : Int) 128 = 3) : htSpec b = 0 := by
  rw [ht_idx, Int.fmod_eq_emod_of_nonneg _ (by decide)] at h
  unfold htSpec
  rw [if_pos (by omega)]
theorem ht0 {b : List UInt8} (h : ¬ (Int.fmod ((b.getD (Int.toNat (-1 + (b.length : Int))) 0).toNat : Int) 128 = 1 ∨ Int.fmod ((b.getD (Int.toNat (-1 + (b.length : Int))) 0).toNat : Int) 128 = 2 ∨ Int.fmod ((b.getD (Int.toNat (-1 + (b.length : Int))) 0).toNat : Int) 128 = 3)) : htSpec b = 22 := by
  rw [ht_idx, Int.fmod_eq_emod_of_nonneg _ (by decide)] at h
  unfold htSpec
  rw [if_neg (by omega)]
theorem pk_iff {l : List UInt8} {x : Int} (h : ∀ n g : Nat, (l.getD (Int.toNat 0) 0).toNat = g → l.length = n → ((n = 33 ∧ (g = 2 ∨ g = 3)) ∨ (n = 65 ∧ g = 4) → x = 0) ∧ (¬ ((n = 33 ∧ (g = 2 ∨ g = 3)) ∨ (n = 65 ∧ g = 4)) → x = 28)) : pkSpec l = x := by
  obtain ⟨h1, h2⟩ := h _ _ rfl rfl
  unfold pkSpec
  split
  · rename_i h; exact (h1 h).symm
  · rename_i h; exact (h2 h).symm
theorem c_decL (w : World) {r z : Nat} {t : Tok} {b : Bool} (hr : (rowOf r).length < 40) (hz : (rowOf z).length < 40) : CtrT w 196 8 100 [.bytes (laidB (rowOf r) (rowOf z)).toArray t, .bool b] [] (fun t => .int r t) (fun t => .int z t) := c_dec w hr hz
/-! where paths meet again -/
section
variable {M : Model} {A : Around} {E : Value → Shared → Prop} {s : Shared} {h₀ : Heap} {L : Addr} {m : Str → Option Value} {news : List (Addr × Obj)}
/-- the statement ends with the frame and the ledger as they were -/
def JSame (h₀ : Heap) (L : Addr) (m : Str → Option Value) (news : List (Addr × Obj)) (s : Shared) (f : Flow) (s' : Shared) : Prop :=
  f = .next ∧ ∃ h' tk', s' = { s with heap := h', toks := tk' } ∧ Fr h₀ L h' m ∧ News h₀ L h' news
theorem JSame.intro {h' : Heap} {tk' : Nat} {news' : List (Addr × Obj)} (F : Fr h₀ L h' m) (N : News h₀ L h' news') (hs : ∀ p ∈ news, p ∈ news') : JSame h₀ L m news s .next { s with heap := h', toks := tk' } :=
  ⟨rfl, h', tk', rfl, F, drop_led N hs⟩
theorem join_same {x : Sem Flow} {Q : Flow → Shared → Prop} (_F : Fr h₀ L s.heap m) (_N : News h₀ L s.heap news) (h1 : wpAny M A x (JSame h₀ L m news s) E s)
    (h2 : ∀ h' tk', Fr h₀ L h' m → News h₀ L h' news → Q .next { s with heap := h', toks := tk' }) : wpAny M A x Q E s :=
  wpAny_mono h1 (fun f s' ⟨e, h', tk', e', F, N⟩ => by subst e e'; exact h2 h' tk' F N) fun _ _ e => e
/-- the statement ends with octets stored, and it may be a name more -/
def JOct (h₀ : Heap) (L : Addr) (m : Str → Option Value) (news : List (Addr × Obj)) (P : List UInt8 → Prop) (s : Shared) (f : Flow) (s' : Shared) : Prop :=
  f = .next ∧ ∃ (b : List UInt8) (t : Tok) (o : Option Value) (h' : Heap) (tk' : Nat), s' = { s with heap := h', toks := tk' } ∧ P b ∧ Fr h₀ L h' (fun y => if y = PySem.Str.ofString "rows" then o else if y = PySem.Str.ofString "octets" then some (.bytes b.toArray t) else m y) ∧ News h₀ L h' news
theorem JOct.intro {P : List UInt8 → Prop} {b : List UInt8} {t : Tok} {o : Option Value} {h' : Heap} {tk' : Nat} {m' : Str → Option Value} {news' : List (Addr × Obj)} (F : Fr h₀ L h' m') (N : News h₀ L h' news') (hs : ∀ p ∈ news, p ∈ news') (hP : P b)
    (e : ∀ y, m' y = if y = PySem.Str.ofString "rows" then o else if y = PySem.Str.ofString "octets" then some (.bytes b.toArray t) else m y) : JOct h₀ L m news P s .next { s with heap := h', toks := tk' } :=
  ⟨rfl, b, t, o, h', tk', rfl, hP, (funext e : m' = _) ▸ F, drop_led N hs⟩
theorem join_oct {x : Sem Flow} {Q : Flow → Shared → Prop} {P : List UInt8 → Prop} (_F : Fr h₀ L s.heap m) (_N : News h₀ L s.heap news) (h1 : wpAny M A x (JOct h₀ L m news P s) E s)
    (h2 : ∀ b t o h' tk', P b → Fr h₀ L h' (fun y => if y = PySem.Str.ofString "rows" then o else if y = PySem.Str.ofString "octets" then some (.bytes b.toArray t) else m y) → News h₀ L h' news → Q .next { s with heap := h', toks := tk' }) : wpAny M A x Q E s :=
  wpAny_mono h1 (fun f s' ⟨e, b, t, o, h', tk', e', hP, F, N⟩ => by subst e e'; exact h2 b t o h' tk' hP F N) fun _ _ e => e
theorem JOct.introA {P : List UInt8 → Prop} {b : List UInt8} {t : Tok} {h' : Heap} {tk' : Nat} {news' : List (Addr × Obj)} (F : Fr h₀ L h' (fun y => if y = PySem.Str.ofString "octets" then some (.bytes b.toArray t) else m y)) (N : News h₀ L h' news') (hs : ∀ p ∈ news, p ∈ news') (hP : P b) : JOct h₀ L m news P s .next { s with heap := h', toks := tk' } :=
  .intro (o := m (PySem.Str.ofString "rows")) F N hs hP fun y => by
    by_cases h : y = PySem.Str.ofString "rows"
    · subst h
      rw [if_pos rfl, if_neg (by decide)]
    · rw [if_neg h]
theorem JOct.introB {P : List UInt8 → Prop} {b : List UInt8} {t : Tok} {h' : Heap} {tk' : Nat} {news' : List (Addr × Obj)} (F : Fr h₀ L h' m) (N : News h₀ L h' news') (hs : ∀ p ∈ news, p ∈ news') (hm : m (PySem.Str.ofString "octets") = some (.bytes b.toArray t)) (hP : P b) : JOct h₀ L m news P s .next { s with heap := h', toks := tk' } :=
  .intro (o := m (PySem.Str.ofString "rows")) F N hs hP fun y => by
    by_cases h : y = PySem.Str.ofString "rows"
    · subst h
      rw [if_pos rfl]
    · rw [if_neg h]
      by_cases h2 : y = PySem.Str.ofString "octets"
      · subst h2
        rw [if_pos rfl, hm]
      · rw [if_neg h2]
theorem JOct.introC {P : List UInt8 → Prop} {b : List UInt8} {t : Tok} {v : Value} {h' : Heap} {tk' : Nat} {news' : List (Addr × Obj)} (F : Fr h₀ L h' (fun y => if y = PySem.Str.ofString "octets" then some (.bytes b.toArray t) else if y = PySem.Str.ofString "rows" then some v else m y)) (N : News h₀ L h' news') (hs : ∀ p ∈ news, p ∈ news') (hP : P b) : JOct h₀ L m news P s .next { s with heap := h', toks := tk' } :=
  .intro (o := some v) F N hs hP fun y => by
    by_cases h : y = PySem.Str.ofString "rows"
    · subst h
      rw [if_pos rfl, if_neg (by decide), if_pos rfl]
    · rw [if_neg h, if_neg h]
end
theorem vs1 {b : List UInt8} (h : vB b = true) : vsSpec b = 0 := if_pos h
theorem vs0 {b : List UInt8} (h : ¬ vB b = true) : vsSpec b = 23 := if_neg h
theorem vs0f {b : List UInt8} (h : vB b = false) : vsSpec b = 23 := vs0 (by rw [h]; decide)
theorem c_decKL (w : World) {r z : Nat} {t : Tok} {b : Bool} (hr : (rowOf r).length < 40) (hz : (rowOf z).length < 40) : CtrT w 196 8 100 [.bytes (laidB (rowOf r) (rowOf z)).toArray t] [(PySem.Str.ofString "use_broken_open_ssl_mechanism", .bool b)] (fun t => .int r t) (fun t => .int z t) := c_decK w hr hz
end Mine
end
section
open PySem PySem.W PyProof.Rows
set_option pp.fieldNotation false
namespace Mine
theorem put_back_F1 : True := by
  w_top off
  k_with_none
  trivial
local macro_rules | `(tactic| walk_at "my om") => `(tactic| (walk_at "my tidy"; omega))
local macro_rules | `(tactic| walk_at "my tidy") => `(tactic| ((repeat ((with_reducible rename And (Ne _ _) _ => hx'); clear hx')); (repeat ((with_reducible rename And (And _ _) _ => hx'); clear hx')); (repeat ((with_reducible rename And (LT.lt _ _) _ => hx'); clear hx')); (repeat ((with_reducible rename @Ne Nat _ _ => hx'); clear hx'))))
local macro_rules | `(tactic| walk_at "call builtin:len") => `(tactic| (k_here; (with_reducible show wpAny _ _ (call (Value.builtin _) [Value.bytes (List.toArray _) _]) _ _ _); (refine r_len (by (try simp only [laid_len, List.length_append, List.length_take, List.length_drop, List.length_cons, List.length_nil, List.length_map, List.length_replicate]); walk_at "my om") ?_); intro _ _; (try dsimp only)))
local macro_rules | `(tactic| walk_at "truthy bytes") => `(tactic| (k_here; (with_reducible show wpAny _ _ (truthy (Value.bytes (List.toArray _) _)) _ _ _); (refine r_truthy (by (try simp only [laid_len, List.length_append, List.length_take, List.length_drop, List.length_cons, List.length_nil, List.length_map, List.length_replicate]); walk_at "my om") ?_); intro _; (try dsimp only)))
local macro_rules | `(tactic| walk_at "subscriptTail") => `(tactic| (k_here; (with_reducible show wpAny _ _ (subscriptTail _ _ (Value.bytes (List.toArray _) _) (Value.int _ _)) _ _ _); (refine r_item (by (try simp only [laid_len, List.length_append, List.length_take, List.length_drop, List.length_cons, List.length_nil, List.length_map, List.length_replicate]); walk_at "my om") (by (try simp only [laid_len, List.length_append, List.length_take, List.length_drop, List.length_cons, List.length_nil, List.length_map, List.length_replicate]); walk_at "my om") (by (try simp only [laid_len, List.length_append, List.length_take, List.length_drop, List.length_cons, List.length_nil, List.length_map, List.length_replicate]); walk_at "my om") ?_); intro _ _; (try dsimp only)))
local macro_rules | `(tactic| walk_at "subscriptTail") => `(tactic| (k_here; (with_reducible show wpAny _ _ (subscriptTail _ _ (Value.bytes (List.toArray _) _) (Value.int (-1) _)) _ _ _); (refine r_itemR (by (try simp only [laid_len, List.length_append, List.length_take, List.length_drop, List.length_cons, List.length_nil, List.length_map, List.length_replicate]); walk_at "my om") (by (try simp only [laid_len, List.length_append, List.length_take, List.length_drop, List.length_cons, List.length_nil, List.length_map, List.length_replicate]); walk_at "my om") (by decide) ?_); intro _ _; (try dsimp only)))
local macro_rules | `(tactic| walk_at "subscriptTail") => `(tactic| (k_here; (with_reducible show wpAny _ _ (subscriptTail _ (Expr.Slice _ _ none _) (Value.bytes (List.toArray _) _) (Value.ref _)) _ _ _); (with_reducible rename Fr _ _ _ _ => F'); (with_reducible rename News _ _ _ _ => N'); (refine r_slice (s := ⟨_, _, _, _, _⟩) F' N' (by constructor) (by constructor) (by (try simp only [laid_len, List.length_append, List.length_take, List.length_drop, List.length_cons, List.length_nil, List.length_map, List.length_replicate]); walk_at "my om") ?_); intro _ _ _ F' N'; (try dsimp only); (try k_sweep)))
local macro_rules | `(tactic| walk_at "binaryOp Add bytes bytes") => `(tactic| (k_here; (with_reducible show wpAny _ _ (binaryOp Operator.Add (Value.bytes (List.toArray _) _) (Value.bytes (List.toArray _) _)) _ _ _); (refine r_add (by (try simp only [laid_len, List.length_append, List.length_take, List.length_drop, List.length_cons, List.length_nil, List.length_map, List.length_replicate]); walk_at "my om") ?_); intro _ _; (try dsimp only)))
local macro_rules | `(tactic| walk_at "compareOp Eq bytes bytes") => `(tactic| (k_here; (with_reducible show wpAny _ _ (compareOp CmpOp.Eq (Value.bytes (List.toArray _) _) (Value.bytes (List.toArray _) _)) _ _ _); (refine r_eq ?_); (try dsimp only)))
local macro_rules | `(tactic| walk_at "compareOp NotEq bytes bytes") => `(tactic| (k_here; (with_reducible show wpAny _ _ (compareOp CmpOp.NotEq (Value.bytes (List.toArray _) _) (Value.bytes (List.toArray _) _)) _ _ _); (refine r_ne ?_); (try dsimp only)))
local macro_rules | `(tactic| walk_at "call type:type") => `(tactic| (k_here; (with_reducible show wpAny _ _ (call (Value.type "type") [Value.bytes _ _]) _ _ _); (refine call_type_of (Tx := "bytes") (typeIs_bytes _ _ _) (by decide +kernel) ?_)))
local macro_rules | `(tactic| walk_at "call type:type") => `(tactic| (k_here; (with_reducible show wpAny _ _ (call (Value.type "type") [Value.int _ _]) _ _ _); (refine call_type_of (Tx := "int") (typeIs_int _ _ _) (by decide +kernel) ?_)))
local macro_rules | `(tactic| walk_at "compareOp Is") => `(tactic| (k_here; (with_reducible show wpAny _ _ (compareOp CmpOp.Is (Value.type _) (Value.type _)) _ _ _); first | refine wpAny_is_self (by rfl) ?_ | refine wpAny_is_other (by rfl) (by decide) ?_))
local macro_rules | `(tactic| walk_at "compareOp IsNot") => `(tactic| (k_here; (with_reducible show wpAny _ _ (compareOp CmpOp.IsNot (Value.type _) (Value.type _)) _ _ _); first | refine wpAny_isNot_self (by rfl) ?_ | refine wpAny_isNot_other (by rfl) (by decide) ?_))
local macro_rules | `(tactic| k_all) => `(tactic| first | exact ne_of_ltAll (by assumption) | exact ne_of_allLt (by assumption))
local macro_rules | `(tactic| walk_at "call builtin:list.append") => `(tactic| (k_here; (with_reducible show wpAny _ _ (call (Value.builtin _) [Value.ref _, _]) _ _ _); k_dflt (refine' append_K ?k1 ?k2 ?k3 ?_ ?z; (case k1 => k_asm); (case k2 => k_asm); (case k3 => k_upd); (case z => ((try simp only [List.size_toArray, List.length_append, List.length_cons, List.length_nil]); rw [sizeLine_eq]; omega)); k_whole); intro h' F' N'; (try k_sweep)))
local macro_rules | `(tactic| walk_at "call builtin:_struct.pack") => `(tactic| (k_here; (refine r_pack (by omega) (by omega) ?_); intro _ _; (try dsimp only)))
local macro_rules | `(tactic| walk_at "call builtin:bytes.hex") => `(tactic| (k_here; (refine r_hex (by (try simp only [laid_len, List.length_append, List.length_take, List.length_drop, List.length_cons, List.length_nil, List.length_map, List.length_replicate]); walk_at "my om") ?_); intro _ _; (try dsimp only)))
local macro_rules | `(tactic| walk_at "call builtin:ord") => `(tactic| (k_here; (with_reducible show wpAny _ _ (call (Value.builtin _) [Value.bytes _ _]) _ _ _); (refine r_ord (by k_extra "ord") ?_); intro _ _; (try dsimp only)))
local macro_rules | `(tactic| walk_at "call builtin:bytes.startswith") => `(tactic| (k_here; (with_reducible show wpAny _ _ (call (Value.builtin _) [Value.bytes (List.toArray _) _, Value.bytes _ _]) _ _ _); (refine r_startswith ?_); (try dsimp only)))
local macro_rules | `(tactic| walk_at "getMethod bytes") => `(tactic| (k_here; (with_reducible first | refine m_hex ?_ | refine m_startswith ?_ | refine m_join ?_)))
local macro_rules | `(tactic| walk_at "getMethod str") => `(tactic| (k_here; (with_reducible refine m_encode ?_)))
local macro_rules | `(tactic| walk_at "call builtin:bytes.join") => `(tactic| (k_here; (with_reducible show wpAny _ _ (call (Value.builtin _) [Value.bytes _ _, Value.ref _]) _ _ _); (refine' r_join (o := ?o) ?hT (News.get ?N ?hm) ?hc ?hd ?hz ?_; (case N => k_asm); (case hm => k_mem); (case hc => exact rfl); (case hT => first | exact Or.inl rfl | exact Or.inr rfl); (case hd => exact rfl); (case hz => exact (by (try simp only [laid_len, List.length_append, List.length_take, List.length_drop, List.length_cons, List.length_nil, List.length_map, List.length_replicate]); walk_at "my om"))); intro _ _; (try dsimp only)))
local macro_rules | `(tactic| walk_at "subscriptTail") => `(tactic| (k_here; (with_reducible show wpAny _ _ (subscriptTail _ (Expr.Slice _ _ none _) (Value.bytes (List.toArray _) _) (Value.ref _)) _ _ _); (with_reducible rename Fr _ _ _ _ => F'); (with_reducible rename News _ _ _ _ => N'); (refine' r_cut (s := ⟨_, _, _, _, _⟩) F' N' ?ha ?hb ?hz ?hc ?_; (case ha => constructor); (case hb => constructor); (case hz => exact (by (try simp only [laid_len, List.length_append, List.length_take, List.length_drop, List.length_cons, List.length_nil, List.length_map, List.length_replicate]); walk_at "my om")); (case hc => k_dflt (k_extra "cut"))); intro _ _ _ F' N'; (try dsimp only); (try k_sweep)))
local macro_rules | `(tactic| walk_at "binaryOp BitAnd int int") => `(tactic| (k_here; (refine' r_band ?hc ?_; (case hc => k_dflt (k_extra "band"))); intro _ _; (try dsimp only)))
local macro_rules | `(tactic| walk_at "call type:int") => `(tactic| (k_here; (with_reducible show wpAny _ _ (call (Value.type "int") [Value.bytes (List.toArray (List.map _ (hexOfB _))) _, Value.int 16 _]) _ _ _); (refine' r_int16 ?hn ?hl ?_; (case hn => k_extra "rowne"); (case hl => k_extra "rowlen")); intro _ _; (try dsimp only)))
local macro_rules | `(tactic| walk_at "call builtin:bytes.startswith") => `(tactic| (k_here; (with_reducible show wpAny _ _ (call (Value.builtin _) [Value.bytes (List.toArray _) _, Value.bytes _ _]) _ _ _); (first | refine r_sw (b := true) (by k_dflt (exact rfl)) ?_ | refine r_sw (b := false) (by k_dflt (exact rfl)) ?_); (try dsimp only)))
local macro_rules | `(tactic| walk_at "call builtin:len") => `(tactic| (k_here; (with_reducible show wpAny _ _ (call (Value.builtin _) [Value.bytes (List.toArray _) _]) _ _ _); (refine' r_lenE (n := ?n) ?hc ?hf ?_; (case hc => ((try simp only [List.length_append, List.length_take, List.length_drop, List.length_cons, List.length_nil, List.length_map, List.length_replicate]); exact rfl)); (case hf => omega)); intro _ _; (try dsimp only)))
local macro_rules | `(tactic| walk_at "call type:bytes") => `(tactic| (k_here; (with_reducible show wpAny _ _ (call (Value.type "bytes") [Value.ref _]) _ _ _); k_dflt (refine' r_bytesL ?F ?N ?l ?i ?n ?z ?h ?_; (case F => k_asm); (case N => k_asm); (case l => is_list); (case i => l_ints); (case n => first | k_extra "NS" | exact rfl | exact ns_one (by omega) (by omega) | exact ns_one (by (simp only [List.length_append, List.length_cons, List.length_nil]); omega) (by (simp only [List.length_append, List.length_cons, List.length_nil]); omega)); (case z => first | (simp only [List.length_cons, List.length_nil]; omega) | k_extra "NSz"); (case h => rfl); k_whole; intro h' t' k' F' N'; (try k_sweep))))
local macro_rules | `(tactic| walk_at "eval ListComp") => `(tactic| (k_here; (with_reducible show wpAny _ _ (eval (Expr.ListComp _ [⟨_, Expr.Name _ _, [], _⟩] _ _) _) _ _ _); k_dflt (refine LCg.ListComp_U (F₀ := by k_asm) (by rfl) (by decide) (by rfl) (by decide) (by rfl) ?_)))
local macro_rules | `(tactic| walk_at "eval ListComp") => `(tactic| (k_here; (with_reducible show wpAny _ _ (eval (Expr.ListComp _ [⟨_, Expr.Name _ _, [_], _⟩] _ _) _) _ _ _); k_dflt (refine LCt.ListComp_T (F₀ := by k_asm) (by with_unfolding_all rfl) (by decide) (by rfl) (by decide) (by rfl) ?_)))
local macro_rules | `(tactic| walk_at "CompSrc") => `(tactic| (k_here; k_dflt (refine LCg.CompSrc.ledger (by rfl) (by k_asm) (by k_asm) (by k_mem) (by first | size_fits | exact Nat.le_of_ble_eq_true rfl) ?_; intro g'; lcg_lit)))
local macro_rules | `(tactic| walk_at "CompSrcT") => `(tactic| (k_here; k_dflt (refine LCt.CompSrcT.ledger (by rfl) (by k_asm) (by k_asm) (by k_mem) (by first | size_fits | exact Nat.le_of_ble_eq_true rfl) ?_; intro g'; lct_lit)))
local macro_rules | `(tactic| walk_at "my off") => `(tactic| first | exact True.intro | assumption | (refine And.intro ⟨by k_ne, by k_ne, by k_ne⟩ ?_; walk_at "my off"))
local macro_rules | `(tactic| walk_at "CompEnd") => `(tactic| (first | refine LCg.CompEnd.intro (by assumption) (by assumption) _ (fun _ hp => hp) (by first | assumption | ((simp only [LCg.Off3, and_true]); assumption) | walk_at "my off") (by first | exact True.intro | exact Or.inl (by assumption) | exact Or.inr ⟨_, by k_mem, rfl, _, rfl⟩ | exact ⟨_, by k_mem, rfl, _, rfl⟩) ?_ | refine LCg.CompEnd.intro (by assumption) (by assumption) _ (fun _ hp => List.mem_cons_of_mem _ hp) (by first | assumption | ((simp only [LCg.Off3, and_true]); assumption) | walk_at "my off") (by first | exact True.intro | exact Or.inl (by assumption) | exact Or.inr ⟨_, by k_mem, rfl, _, rfl⟩ | exact ⟨_, by k_mem, rfl, _, rfl⟩) ?_ | refine LCg.CompEnd.intro (by assumption) (by assumption) _ (fun _ hp => List.mem_cons_of_mem _ (List.mem_cons_of_mem _ hp)) (by first | assumption | ((simp only [LCg.Off3, and_true]); assumption) | walk_at "my off") (by first | exact True.intro | exact Or.inl (by assumption) | exact Or.inr ⟨_, by k_mem, rfl, _, rfl⟩ | exact ⟨_, by k_mem, rfl, _, rfl⟩) ?_))
local macro_rules | `(tactic| walk_at "compareOp In") => `(tactic| (k_here; (with_reducible show wpAny _ _ (compareOp CmpOp.In (Value.bytes _ _) (Value.ref _)) _ _ _); k_dflt (refine r_in2s (by is_list) ?_ ?_); all_goals (intros; (try dsimp only))))
local macro_rules | `(tactic| walk_at "compareOp NotEq ref ref") => `(tactic| (k_here; (with_reducible show wpAny _ _ (compareOp CmpOp.NotEq (Value.ref _) (Value.ref _)) _ _ _); k_dflt (first | refine ke_ne_ints (by is_list) (by is_list) IntsAre.nil IntsAre.nil (by ktr_units) ?_ | refine r_neNil (by is_list) (by is_list) (by simp) (by ktr_units) ?_)))
local macro_rules | `(tactic| walk_at "call ref") => `(tactic| (k_here; (with_reducible show wpAny _ _ (call (Value.ref _) [Value.bytes (List.toArray _) _, Value.str _ _]) _ _ _); k_dflt (refine' r_from ?N ?m ?l ?_; (case N => k_asm); (case m => k_mem); (case l => k_extra "fromlen")); intro _ _; (try dsimp only)))
local macro_rules | `(tactic| walk_at "call ref") => `(tactic| (k_here; (with_reducible show wpAny _ _ (call (Value.ref 268) _) _ _ _); k_dflt (refine' Ctr.use (c_oct _ ?h) ?B ?F ?X ?N ?T ?K ?D ?U ?_; (case B => k_asm); (case F => k_asm); (case X => k_asm); (case N => k_asm); (case T => k_asm); (case K => first | exact rfl | assumption); (case D => ktr_room); (case U => ktr_units)); (case h => k_extra "OCT"); intro t9 h9 tk9 F9 N9; (try dsimp only); (try k_fold)))
local macro_rules | `(tactic| walk_at "call ref") => `(tactic| (k_here; (with_reducible show wpAny _ _ (call (Value.ref 273) _) _ _ _); k_dflt (refine' CtrL.use (c_laid _ ?h1 ?h2) ?hm ?B ?F ?X ?N ?T ?K ?D ?U ?_; (case B => k_asm); (case F => k_asm); (case X => k_asm); (case N => k_asm); (case T => k_asm); (case K => first | exact rfl | assumption); (case D => ktr_room); (case U => ktr_units)); (case hm => k_dflt k_mem); (case h1 => k_dflt (k_extra "LEN")); (case h2 => k_dflt (k_extra "LEN")); intro t9 h9 tk9 F9 N9; (try dsimp only); (try k_fold)))
local macro_rules | `(tactic| walk_at "call ref") => `(tactic| (k_here; (with_reducible show wpAny _ _ (call (Value.ref 273) _) _ _ _); k_dflt (refine' CtrL.use (c_laid' _ ?h1 ?h2) ?hm ?B ?F ?X ?N ?T ?K ?D ?U ?_; (case B => k_asm); (case F => k_asm); (case X => k_asm); (case N => k_asm); (case T => k_asm); (case K => first | exact rfl | assumption); (case D => ktr_room); (case U => ktr_units)); (case hm => k_dflt k_mem); (case h1 => k_dflt (k_extra "LEN")); (case h2 => k_dflt (k_extra "LEN")); intro t9 h9 tk9 F9 N9; (try dsimp only); (try k_fold)))
local macro_rules | `(tactic| walk_at "binaryOp Pow int int") => `(tactic| (k_here; (refine r_pow2 ?_; intro _ _; (try dsimp only))))
local macro_rules | `(tactic| walk_at "binaryOp Mod int int") => `(tactic| (k_here; (with_reducible show wpAny _ _ (binaryOp Operator.Mod (Value.int _ _) (Value.int (2 ^ _) _)) _ _ _); (k_extra "MOD2")))
local macro_rules | `(tactic| walk_at "eval List") => `(tactic| (k_here; k_dflt (k_extra "GEN")))
local macro_rules | `(tactic| walk_at "binaryOp Mod int int") => `(tactic| (k_here; (with_reducible show wpAny _ _ (binaryOp Operator.Mod (Value.int _ _) (Value.int 256 _)) _ _ _); (refine r_modN (by decide) ?_; intro _ _ _ _; (try dsimp only))))
local macro_rules | `(tactic| walk_at "binaryOp Mod int int") => `(tactic| (k_here; (with_reducible show wpAny _ _ (binaryOp Operator.Mod (Value.int _ _) (Value.int 6 _)) _ _ _); (refine r_modN (by decide) ?_; intro _ _ _ _; (try dsimp only))))
local macro_rules | `(tactic| walk_at "binaryOp Mod int int") => `(tactic| (k_here; (with_reducible show wpAny _ _ (binaryOp Operator.Mod (Value.int _ _) (Value.int 7 _)) _ _ _); (refine r_modN (by decide) ?_; intro _ _ _ _; (try dsimp only))))
local macro_rules | `(tactic| walk_at "binaryOp Mod int int") => `(tactic| (k_here; (with_reducible show wpAny _ _ (binaryOp Operator.Mod (Value.int _ _) (Value.int 3 _)) _ _ _); (refine r_modN (by decide) ?_; intro _ _ _ _; (try dsimp only))))
local macro_rules | `(tactic| walk_at "binaryOp Mod int int") => `(tactic| (k_here; (with_reducible show wpAny _ _ (binaryOp Operator.Mod (Value.int _ _) (Value.int 2 _)) _ _ _); (refine r_mod01 ?_ ?_ <;> (intro _ _; (try dsimp only)))))
local macro_rules | `(tactic| walk_at "binaryOp Mod int int") => `(tactic| (k_here; (with_reducible show wpAny _ _ (binaryOp Operator.Mod (Value.int _ _) (Value.int (Nat.cast (List.length (_ ++ [_]))) _)) _ _ _); (refine r_modA ?_; intro _ _ _ _; (try dsimp only))))
local macro_rules | `(tactic| walk_at "binaryOp Mod int int") => `(tactic| (k_here; (with_reducible show wpAny _ _ (binaryOp Operator.Mod (Value.int _ _) (Value.int 8 _)) _ _ _); (k_extra "MOD8")))
local macro_rules | `(tactic| walk_at "binaryOp Mult bytes int") => `(tactic| (k_here; (with_reducible show wpAny _ _ (binaryOp Operator.Mult (Value.bytes (List.toArray [_]) _) (Value.int _ _)) _ _ _); (refine r_rep (by walk_at "my om") (by walk_at "my om") ?_; intro _ _; (try dsimp only))))
local macro_rules | `(tactic| walk_at "compareOp NotEq bytes bytes") => `(tactic| (k_here; k_dflt (refine r_neSame rfl ?_); (try dsimp only)))
local macro_rules | `(tactic| walk_at "compareOp NotEq int int") => `(tactic| (k_here; (refine r_neInt (by k_dflt (k_extra "EQI")) ?_); (try dsimp only)))
local macro_rules | `(tactic| walk_at "compareOp Eq int int") => `(tactic| (k_here; (with_reducible show wpAny _ _ (compareOp CmpOp.Eq (Value.int (pkSpec _) _) (Value.int _ _)) _ _ _); (refine r_eqInt (by k_dflt (k_extra "PK")) ?_); (try dsimp only)))
local macro_rules | `(tactic| walk_at "call ref") => `(tactic| (k_here; (with_reducible show wpAny _ _ (call (Value.ref 268) _) _ _ _); k_dflt (refine' Ctr.use (c_oct _ ?h) ?B ?F ?X ?N ?T ?K ?D ?U ?_; (case B => k_asm); (case F => k_asm); (case X => k_asm); (case N => k_asm); (case T => k_asm); (case K => first | exact rfl | assumption); (case D => ktr_room); (case U => ktr_units); (case h => k_dflt (k_extra "OCT")); intro t9 h9 tk9 F9 N9; (try dsimp only); (try k_fold))))
local macro_rules | `(tactic| walk_at "call ref") => `(tactic| (k_here; (with_reducible show wpAny _ _ (call (Value.ref 188) _) _ _ _); k_dflt (refine' Ctr.use (c_sig _ ?h0 ?h1 ?h2 ?h3) ?B ?F ?X ?N ?T ?K ?D ?U ?_; (case B => k_asm); (case F => k_asm); (case X => k_asm); (case N => k_asm); (case T => k_asm); (case K => first | exact rfl | assumption); (case D => ktr_room); (case U => ktr_units); (case h0 => exact Int.natCast_nonneg _); (case h2 => exact Int.natCast_nonneg _); (case h1 => k_dflt assumption); (case h3 => k_dflt assumption); intro t9 h9 tk9 F9 N9; (try dsimp only); (try k_fold))))
local macro_rules | `(tactic| walk_at "call ref") => `(tactic| (k_here; (with_reducible show wpAny _ _ (call (Value.ref 196) [Value.bytes _ _, Value.bool _] _) _ _ _); k_dflt (refine' CtrT.use (c_decL _ ?h0 ?h1) ?B ?F ?X ?N ?T ?K ?D ?U ?_; (case B => k_asm); (case F => k_asm); (case X => k_asm); (case N => k_asm); (case T => k_asm); (case K => first | exact rfl | assumption); (case D => ktr_room); (case U => ktr_units); (case h0 => exact Nat.lt_of_le_of_lt (by assumption) (by decide)); (case h1 => exact Nat.lt_of_le_of_lt (by assumption) (by decide)); intro d9 t9 u9 c9 h9 tk9 F9 N9 l9; (try dsimp only); (try k_fold))))
local macro_rules | `(tactic| walk_at "call ref") => `(tactic| (k_here; (with_reducible show wpAny _ _ (call (Value.ref 196) [Value.bytes _ _] _) _ _ _); k_dflt (refine' CtrT.use (c_decKL _ ?h0 ?h1) ?B ?F ?X ?N ?T ?K ?D ?U ?_; (case B => k_asm); (case F => k_asm); (case X => k_asm); (case N => k_asm); (case T => k_asm); (case K => first | exact rfl | assumption); (case D => ktr_room); (case U => ktr_units); (case h0 => exact Nat.lt_of_le_of_lt (by assumption) (by decide)); (case h1 => exact Nat.lt_of_le_of_lt (by assumption) (by decide)); intro d9 t9 u9 c9 h9 tk9 F9 N9 l9; (try dsimp only); (try k_fold))))
local macro_rules | `(tactic| walk_at "call ref") => `(tactic| (k_here; (with_reducible show wpAny _ _ (call (Value.ref 280) [Value.ref 235, _]) _ _ _); k_dflt (refine' CtrA.use (c_vs _ _ _ ?h) ?B ?XB ?TB ?F ?X ?N ?T ?K ?_; (case B => k_asm); (case XB => k_asm); (case TB => k_asm); (case F => k_asm); (case X => k_asm); (case N => k_asm); (case T => k_asm); (case K => first | exact rfl | assumption); (case h => k_dflt (k_extra "LE100")); intro t9 h9 tk9 F9 N9; (try dsimp only); (try k_fold))))
local macro_rules | `(tactic| walk_at "call ref") => `(tactic| (k_here; (with_reducible show wpAny _ _ (call (Value.ref 280) [Value.ref 242, _]) _ _ _); k_dflt (refine' CtrA.use (c_ht _ _ _ ?h0 ?h) ?B ?XB ?TB ?F ?X ?N ?T ?K ?_; (case B => k_asm); (case XB => k_asm); (case TB => k_asm); (case F => k_asm); (case X => k_asm); (case N => k_asm); (case T => k_asm); (case K => first | exact rfl | assumption); (case h0 => k_dflt (k_extra "GT0")); (case h => k_dflt (k_extra "LE100")); intro t9 h9 tk9 F9 N9; (try dsimp only); (try k_fold))))
local macro_rules | `(tactic| walk_at "call ref") => `(tactic| (k_here; (with_reducible show wpAny _ _ (call (Value.ref 280) [Value.ref 256, _]) _ _ _); k_dflt (refine' CtrA.use (c_pk _ _ _ ?h) ?B ?XB ?TB ?F ?X ?N ?T ?K ?_; (case B => k_asm); (case XB => k_asm); (case TB => k_asm); (case F => k_asm); (case X => k_asm); (case N => k_asm); (case T => k_asm); (case K => first | exact rfl | assumption); (case h => k_dflt (k_extra "LE100")); intro t9 h9 tk9 F9 N9; (try dsimp only); (try k_fold))))
local macro_rules | `(tactic| walk_at "call ref") => `(tactic| (k_here; (with_reducible show wpAny _ _ (call (Value.ref 285) _) _ _ _); k_dflt (refine' Ctr.use (c_well _ ?h) ?B ?F ?X ?N ?T ?K ?D ?U ?_; (case B => k_asm); (case F => k_asm); (case X => k_asm); (case N => k_asm); (case T => k_asm); (case K => first | exact rfl | assumption); (case D => ktr_room); (case U => ktr_units); (case h => k_dflt (k_extra "LE100")); intro t9 h9 tk9 F9 N9; (try dsimp only); (try k_fold))))
local macro_rules | `(tactic| walk_at "exec If") => `(tactic| (k_here; (with_reducible show wpAny _ _ (exec (Stmt.If _ _ _ ⟨253, _, _, _⟩) _) _ _ _); (fail_if_success (with_reducible show wpAny _ _ _ (JOct _ _ _ _ _ _) _ _)); k_dflt (k_extra "JOIN")))
local macro_rules | `(tactic| walk_at "exec If") => `(tactic| (k_here; (with_reducible first | show wpAny _ _ (exec (Stmt.If _ _ _ ⟨265, _, _, _⟩) _) _ _ _ | show wpAny _ _ (exec (Stmt.If _ _ _ ⟨267, _, _, _⟩) _) _ _ _ | show wpAny _ _ (exec (Stmt.If _ _ _ ⟨269, _, _, _⟩) _) _ _ _); (fail_if_success (with_reducible show wpAny _ _ _ (JSame _ _ _ _ _) _ _)); (with_reducible rename Fr _ _ _ _ => jF'); (with_reducible rename News _ _ _ _ => jN'); k_dflt (refine join_same jF' jN' ?_ ?_; rotate_left; (intro h9 tk9 F9 N9; clear jF' jN'); rotate_left)))
local macro_rules | `(tactic| walk_at "JSame") => `(tactic| (refine JSame.intro (by assumption) (by assumption) (by intro p0 hp0; repeat first | exact hp0 | refine List.mem_cons_of_mem _ ?_)))
local macro_rules | `(tactic| walk_at "JOct") => `(tactic| ((first | refine JOct.introC (by assumption) (by assumption) (by intro p0 hp0; repeat first | exact hp0 | refine List.mem_cons_of_mem _ ?_) ?_ | refine JOct.introA (by assumption) (by assumption) (by intro p0 hp0; repeat first | exact hp0 | refine List.mem_cons_of_mem _ ?_) ?_ | refine JOct.introB (by assumption) (by assumption) (by intro p0 hp0; repeat first | exact hp0 | refine List.mem_cons_of_mem _ ?_) rfl ?_); k_extra "PB"))
local macro_rules | `(tactic| walk_at "exec Raise some none") => `(tactic| (k_here; exfalso; walk_at "my om"))
local macro_rules | `(tactic| walk_at "exec Raise") => `(tactic| (k_here; exfalso; walk_at "my om"))
local macro_rules | `(tactic| walk_at "call builtin:ord") => `(tactic| (k_here; k_dflt (refine r_ordk (by assumption) ?_); intro _ _; (try dsimp only)))
local macro_rules | `(tactic| walk_at "compareOp In int ref") => `(tactic| (k_here; (first | refine r_inT3 (by with_reducible assumption) (by k_mem) ?_ ?_ | refine r_inT2 (by with_reducible assumption) (by k_mem) ?_ ?_) <;> (intro _; (try dsimp only))))
local macro_rules | `(tactic| walk_at "subscriptTail") => `(tactic| (k_here; (with_reducible show wpAny _ _ (subscriptTail (Expr.List _ _) _ (Value.ref _) (Value.int (Nat.cast _) _)) _ _ _); k_dflt (refine' r_pick (b := 255) ?k1 ?k2 ?k3 ?k4 ?k5 ?k6 ?_ ?k7; (case k1 => is_list); (case k2 => l_ints); (case k3 => exact Int.natCast_nonneg _); (case k4 => (simp only [List.length_cons, List.length_nil]; walk_at "my om")); (case k5 => walk_at "my om"); (case k6 => decide); (case k7 => with_unfolding_all rfl); intro _ _ _; (try dsimp only))))
local macro_rules | `(tactic| walk_at "subscriptTail") => `(tactic| (k_here; (with_reducible show wpAny _ _ (subscriptTail (Expr.List _ _) _ (Value.ref _) (Value.int (Nat.cast _) _)) _ _ _); k_dflt (refine' r_pick (b := 65) ?k1 ?k2 ?k3 ?k4 ?k5 ?k6 ?_ ?k7; (case k1 => is_list); (case k2 => l_ints); (case k3 => exact Int.natCast_nonneg _); (case k4 => (simp only [List.length_cons, List.length_nil]; walk_at "my om")); (case k5 => walk_at "my om"); (case k6 => decide); (case k7 => with_unfolding_all rfl); intro _ _ _; (try dsimp only))))
local macro_rules | `(tactic| walk_at "binaryOp Add bytes bytes") => `(tactic| (k_here; (with_reducible show wpAny _ _ (binaryOp Operator.Add (Value.bytes (List.toArray [_]) _) (Value.bytes (List.toArray (List.replicate _ _)) _)) _ _ _); (refine r_addC (by walk_at "my om") ?_); intro _ _; (try dsimp only)))
theorem lt72 {r : Nat} (h : r < 256 ^ 33) : r < 256 ^ 72 := Nat.lt_of_lt_of_le h (Nat.pow_le_pow_right (by decide) (by decide))
set_option maxRecDepth 100000 in
set_option maxHeartbeats 16000000 in
theorem holds : PySem.Challenge.rw_fw0035_01.Holds := Mine.hd (by
  k_with "GEN" =>
    with_reducible rename IntsAre _ (List.map _ (rangeKs _ _)) => hI8'
    obtain ⟨n0, n1, n2, n3, n4, n5, n6, n7, t0, t1, t2, t3, t4, t5, t6, t7, hys⟩ := eight hI8'
    clear hI8'
    subst hys
  k_with "MOD2" => first
    | ((with_reducible rename List.length (rowOf _) ≤ 34 => hrl); refine r_mod2 ?_; intro zz _ _ hz hzl; (have hW := laid_len (rowOf rr) (rowOf zz)); (try dsimp only))
    | (refine r_mod2 ?_; intro rr _ _ hr hrl; (try dsimp only))
  k_with "MOD8" => (refine r_modN (by decide) ?_; intro wy _ _ hwy; (try dsimp only))
  k_with "OCT" => exact lt72 (by assumption)
  k_with "LEN" => first | exact Nat.le_trans (by assumption) (by decide) | ((simp only [List.length_append, List.length_replicate]); walk_at "my om")
  k_with "LE100" => first | with_reducible exact hb1 | ((simp only [List.length_append, List.length_replicate, List.length_cons, List.length_nil]); walk_at "my om")
  k_with "GT0" => exact hb0
  k_with "EQI" => first | exact vs1 (by assumption) | exact vs0 (by assumption) | exact vs0f (by assumption) | exact ht1 (by assumption) | exact ht0 (by assumption)
  k_with "PK" => (refine pk_iff fun n' g' hg' hn' => ?_; have hn2 := hn'; (try simp only [List.length_append, List.length_replicate, List.length_cons, List.length_nil] at hn2); refine ⟨fun h' => ?_, fun h' => ?_⟩ <;> walk_at "my om")
  k_with "PB" =>
    refine ⟨?_, ?_, ?_⟩
    · (try simp only [laid_len, List.length_append, List.length_take, List.length_drop, List.length_cons, List.length_nil, List.length_map, List.length_replicate]); walk_at "my om"
    · (try simp only [laid_len, List.length_append, List.length_take, List.length_drop, List.length_cons, List.length_nil, List.length_map, List.length_replicate]); walk_at "my om"
    · intro h1' h2'
      first
      | exact laid_well hrl hzl (Nat.le_of_lt_succ h2')
      | (exfalso; walk_at "my om")
  k_with "JOIN" =>
    with_reducible rename Fr _ _ _ _ => jF'
    with_reducible rename News _ _ _ _ => jN'
    have jN2 := drop_led (news := [(_, W.listOf #[Value.int (rr : Int) _, Value.int (zz : Int) _] 0), (_, LCg.lst [Value.int n0 t0, Value.int n1 t1, Value.int n2 t2, Value.int n3 t3, Value.int n4 t4, Value.int n5 t5, Value.int n6 t6, Value.int n7 t7])]) jN' (List.forall_mem_cons.mpr ⟨by repeat (first | exact List.mem_cons_self | refine List.mem_cons_of_mem _ ?_), List.forall_mem_cons.mpr ⟨by repeat (first | exact List.mem_cons_self | refine List.mem_cons_of_mem _ ?_), List.forall_mem_nil _⟩⟩)
    clear jN'
    refine join_oct (P := fun b => 0 < b.length ∧ b.length ≤ 100 ∧ (wy = 0 → b.length < 74 → vB b = true)) jF' jN2 ?_ ?_
    rotate_left
    intro b tb ob h9 tk9 hP F9 N9
    obtain ⟨hb0, hb1, hbv⟩ := hP
    clear jF' jN2
    rotate_left
  k_with "cut" => with_reducible first | exact cut_f | exact cut_b1 | exact cut_b | exact cut_init | exact last_app
  k_go0
  (all_goals try k_fold)
  k_steps
  all_goals (exfalso; exact Bool.noConfusion ((hbv (by walk_at "my om") (by walk_at "my om")).symm.trans ‹vB b = false›)))
end Mine
end
theorem PySem.Challenge.cw_fw0035_01_holds : PySem.Challenge.rw_fw0035_01.Holds :=
  Mine.holds
