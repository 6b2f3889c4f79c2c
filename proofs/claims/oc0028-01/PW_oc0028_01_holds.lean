import PyProof.Rows.All
import Wide.All
import OpenK.AllK
import Wide.FinOn
import PySem.Challenge.RW_oc0028_01
open PySem PySem.W PySem.Spec PySem.Calls PyProof.Rows
set_option Elab.async false
set_option maxRecDepth 100000
namespace Mine
set_option maxRecDepth 100000 in
set_option maxHeartbeats 8000000 in
open_top hd for PySem.Challenge.rw_oc0028_01
end Mine
namespace Mine


/-- what a callee wants of its caller -/
structure CC (w : World) (p : Program) (loose : List Str) (mean : ExcName → Option Value) (mg mb : Str → Option Value) (n : Nat) (A : Around) (h : Heap) : Prop where
  hh : A.handled = none
  below : ∃ base envs, Below A base envs h
  X : (hd.heap_39 w.params).In h
  T : Top p loose mean mg mb h
  depth : A.depth + n < recursionLimit
  units : A.units + 20 * n < cLine

section
variable {w : World} {p : Program} {loose : List Str} {mean : ExcName → Option Value} {mg mb : Str → Option Value} {A : Around} {s : Shared} {E : Value → Shared → Prop} {Q : Value → Shared → Prop}
  {name qual : Str} {params : Arguments} {body : List Stmt} {scope : Scope} {dV kV doc pm cdv ct oc : Value} {an od : Option Addr} {osl : Array (Option Value)} {f : Addr} {pos : List Value} {kw : List (Str × Value)} {binds : List (Str × Value)}

theorem enter (X : (hd.heap_39 w.params).In s.heap) (T : Top p loose mean mg mb s.heap)
    (ho : (hd.heap_39 w.params).lookup f = some ⟨oc, od, .func (fnOf name qual params body scope dV kV doc pm an cdv ct), osl⟩) (hcd : codeIn (hd.heap_39 w.params) cdv qual = true) (hroom : A.depth < recursionLimit)
    (hbind : BindsTo s (fnOf name qual params body scope dV kV doc pm an cdv ct) ⟨pos, kw⟩ binds) (hloc : ∀ y ∈ binds, scope.names.lookup y.1 = some .local)
    (h : ∀ h₁, Fr s.heap s.heap.objs.size h₁ (fun y => binds.reverse.lookup y) →
      wpAny (model PySem.Challenge.rw_oc0028_01.row.prog w) (A.deeper (envOf qual scope s.heap.objs.size f cdv)) (execs body (envOf qual scope s.heap.objs.size f cdv))
        (fun fl s' => Q (match fl with | .ret v => v | _ => .none) s')
        (fun e s' => wpAny (model PySem.Challenge.rw_oc0028_01.row.prog w) (A.deeper (envOf qual scope s.heap.objs.size f cdv)) (leaving (envOf qual scope s.heap.objs.size f cdv) e) (fun _ s'' => E e s'') (fun e' s'' => E e' s'') s')
        { s with heap := h₁, toks := s.toks + binds.length })
    (hco : scope.isCoroutine = false) (hgen : scope.isGenerator = false) (hk : scope.kind = .function)
    (hcell : ∀ x ∈ scope.names, x.2 ≠ .cell) : wpAny (model PySem.Challenge.rw_oc0028_01.row.prog w) A (call (.ref f) pos kw) Q E s := by
  refine wpAny_call ?_
  refine codeAny_call_def (fd := fnOf name qual params body scope dV kV doc pm an cdv ct) (body := body) (binds := binds) hroom (X _ _ ho) rfl T.nolimit (codeRec_of X hcd) rfl hbind hcell hloc (fun h₁ hns hk₁ => ?_) hco hgen hk
  exact h h₁ ⟨hns, hk₁, Nat.le_refl _⟩

theorem CC.keeps {n : Nat} {h h' : Heap} (C : CC w p loose mean mg mb n A h) (hk : h.StaysIn h') : CC w p loose mean mg mb n A h' :=
  ⟨C.hh, let ⟨base, envs, B⟩ := C.below; ⟨base, envs, B.stack, fun b o e => hk b o (B.stays b o e), B.frames.of_keeps fun b o e _ => ⟨o, hk b o e, rfl⟩⟩, C.X.keeps hk, C.T.keeps hk, C.depth, C.units⟩
theorem CC.less {n k : Nat} {h : Heap} (C : CC w p loose mean mg mb n A h) (hk : k ≤ n) : CC w p loose mean mg mb k A h :=
  ⟨C.hh, C.below, C.X, C.T, by have := C.depth; omega, by have := C.units; omega⟩
theorem CC.push {n : Nat} {h₀ h : Heap} {L : Addr} {m : Str → Option Value} {env : Env} (C : CC w p loose mean mg mb (n + 1) A h₀) (F : Fr h₀ L h m) (hf : env.frame = some L) (hk : env.scope.kind = .function) : CC w p loose mean mg mb n (A.deeper env) h := by
  obtain ⟨base, envs, B⟩ := C.below
  exact ⟨C.hh, ⟨base, _, pushX B F hf hk⟩, C.X.keeps F.keep, C.T.keeps F.keep, by have := C.depth; show A.depth + 1 + n < _; omega, by have := C.units; show A.units + 3 + 20 * n < _; omega⟩
end

theorem lk_eq {x : Str} {v : Value} {m : Str → Option Value} : (fun y => if y = x then some v else m y) x = some v := by simp
theorem lk_ne {x y : Str} {v : Option Value} {u : Value} {m : Str → Option Value} (h : y ≠ x) (e : m y = some u) : (fun z => if z = x then v else m z) y = some u := by
  show (if y = x then v else m y) = some u
  rw [if_neg h]; exact e

/-- a goal that the walk leaves alone -/
def Hd (P : Prop) : Prop := P
theorem Hd.mk {P : Prop} (h : P) : Hd P := h
theorem Hd.out {P : Prop} (h : Hd P) : P := h
/-- a tree at which the walk stands still -/
def StopT {α : Type} (t : Sem α) : Sem α := t
theorem stopT {α : Type} {M : Model} {A : Around} {t : Sem α} {Q : α → Shared → Prop} {E : Value → Shared → Prop} {s : Shared} (h : wpAny M A (StopT t) Q E s) : wpAny M A t Q E s := h
theorem goT {α : Type} {M : Model} {A : Around} {t : Sem α} {Q : α → Shared → Prop} {E : Value → Shared → Prop} {s : Shared} (h : wpAny M A t Q E s) : wpAny M A (StopT t) Q E s := h
end Mine
set_option maxHeartbeats 4000000
namespace Mine
local macro_rules | `(tactic| walk_at "eval Name") => `(tactic| (k_here; k_dflt (refine' ld ?k1 ?k2 ?_; (case k1 => k_asm); (case k2 => ((repeat (refine lk_ne (by decide) ?_)); first | exact lk_eq | assumption | exact rfl)); k_whole)))
local macro_rules | `(tactic| walk_at "exec For Name Name cons nil") => `(tactic| refine stopT ?_)

local macro_rules | `(tactic| walk_at "pyIter ref") => `(tactic| refine stopT ?_)
local macro_rules | `(tactic| walk_at "subscriptTail Name Name ref int") => `(tactic| refine stopT ?_)
local macro_rules | `(tactic| ktr_unf) => `(tactic| repeat' (first | walk1 | (dsimp only; walk1)))
def prod (ps : List Int) (ks : List Int) : Int := ks.foldl (fun a k => a * ps.getD k.toNat 0) 1
theorem prod_snoc (ps ks : List Int) (k : Int) : prod ps (ks ++ [k]) = prod ps ks * ps.getD k.toNat 0 := by simp [prod]

theorem price_spec {w : World} {p : Program} {loose : List Str} {mean : ExcName → Option Value} {mg mb : Str → Option Value} {A : Around} {s : Shared} {E : Value → Shared → Prop} {Q : Value → Shared → Prop}
   {lp lq : Addr} {vp vq : List Value} {ks ps : List Int}
   (C : CC w p loose mean mg mb 5 A s.heap) (hp : s.heap.IsList lp vp.toArray) (ip : IntsAre vp ks) (hq : s.heap.IsList lq vq.toArray) (iq : IntsAre vq ps)
   (hb : ∀ k ∈ ks, 0 ≤ k ∧ k < ps.length) (hl : ps.length < 100) (hpp : ∀ x ∈ ps, 0 ≤ x ∧ x < 2 ^ 40)
   (ret : ∀ t h' tk', s.heap.StaysIn h' → Q (.int (prod ps ks) t) { s with heap := h', toks := tk' }) : wpAny (model PySem.Challenge.rw_oc0028_01.row.prog w) A (call (.ref 82) [.ref lp, .ref lq]) Q E s := by
  w_top off
  have X := C.X
  have T := C.T
  have hroom := C.depth
  revert X
  k_fill
  intro X
  refine enter (binds := [(Str.ofString "places", .ref lp), (Str.ofString "prices", .ref lq)]) X T (by k_is) (by k_is) (by omega) (BindsTo.of_eq rfl) (locs rfl) ?_ rfl rfl rfl (by decide)
  intro h' F'
  have N' : News s.heap s.heap.objs.size h' [] := News.nil
  ktr_unf
  refine goT ?_
  rename_i F1 N1
  refine For_invVF F1 rfl rfl ?_
  ktr_unf
  refine goT ?_
  refine iter_inv (fun i m => (∃ t, m (Str.ofString "price") = some (.int (prod ps (ks.take i)) t)) ∧ m (Str.ofString "prices") = some (.ref lq)) C.hh hp ip F1 N1 ⟨⟨_, rfl⟩, rfl⟩ ?_ ?_
  · intro i n t m₁ h tk own hi hJ F2 N2
    obtain ⟨⟨t1, h1⟩, h2⟩ := hJ
    ktr_unf
    have hn := hb n (List.mem_of_getElem? hi)
    have hlt : n.toNat < ps.length := by omega
    obtain ⟨t2, ht2⟩ := iq.get n.toNat ps[n.toNat] (by simp [hlt])
    have hmem := hpp ps[n.toNat] (List.getElem_mem hlt)
    refine goT ?_
    refine item_litK (stays_list F2.keep hq) hn.1 (by omega) ht2 ?_
    refine mul_int ?_ (.of_right (intBits_le_64 (by omega) (by omega)))
    ktr_unf
    rename_i F3 N3
    have e : prod ps (List.take (i + 1) ks) = prod ps (List.take i ks) * ps[n.toNat] := by
      rw [List.take_add_one, hi]
      simp only [Option.toList_some, prod_snoc, List.getD_eq_getElem?_getD, List.getElem?_eq_getElem hlt, Option.getD_some]
    rw [← e] at F3
    exact InvEnd.intro F3 N3 (fun _ hp => hp) ⟨⟨_, lk_eq⟩, by (repeat (refine lk_ne (by decide) ?_)); exact h2⟩
  · intro m₁ h tk hJ F2 N2
    obtain ⟨⟨t1, h1⟩, h2⟩ := hJ
    ktr_unf
    rw [List.take_length]
    exact ret _ _ _ F2.keep
end Mine
namespace Mine

def frOf (envs : List Env) : List Addr := envs.filterMap (·.frame)

/-- what a step of an exception's flight may change: objects of its own, slots of frames -/
structure XRel (fr mine : List Addr) (h h' : Heap) : Prop where
  keep : ∀ b o, b ∉ mine → b ∉ fr → h.get? b = some o → h'.get? b = some o
  slots : ∀ b o, b ∉ mine → h.get? b = some o → ∃ sl, h'.get? b = some { o with slots := sl }

/-- a noted exception: its record, its traceback entry -/
def ExS (h : Heap) (e T : Addr) (c fl : Value) : Prop :=
  ∃ oe vs oT ts, h.get? e = some oe ∧ oe.cls = .type "IndexError" ∧ oe.data = .fields vs ∧ vs[1]? = some (.ref T) ∧ vs[2]? = some c ∧ T ≠ e ∧ h.get? T = some oT ∧ oT.data = .fields ts ∧ ts[3]? = some fl
/-- a new exception, not noted yet -/
def ExF (h : Heap) (e : Addr) (c : Value) : Prop :=
  ∃ oe vs, h.get? e = some oe ∧ oe.cls = .type "IndexError" ∧ oe.data = .fields vs ∧ vs[1]? = some .none ∧ vs[2]? = some c

section
variable {M : Model} {A : Around} {E : Value → Shared → Prop} {s : Shared} {env : Env} {outer : List Env} {L e T : Addr} {c fl : Value} {B : Heap}

theorem note_new {Q : Unit → Shared → Prop} (hfr : A.frames = some (env :: outer)) (hl : s.heap.FunFrames B (env :: outer)) (hf : env.frame = some L) (hx : ExF s.heap e c)
    (h : ∀ h' T, XRel (frOf (env :: outer)) [e] s.heap h' → s.heap.get? T = none → ExS h' e T c (rawInt L) → Q () { s with heap := h' }) : wpAny M A (noteFrame (.ref e) env) Q E s := by
  obtain ⟨oe, vs, he, hc, hd, h1, h2⟩ := hx
  have hsz : 1 < vs.size := (Array.getElem?_eq_some_iff.mp h1).1
  have hene : e ∉ frOf (env :: outer) := fun hm => by
    obtain ⟨_, o, ho, hnf⟩ := hl.mem hm
    rw [he] at ho; injection ho with ho; subst ho; exact hnf vs hd
  unfold noteFrame
  simp only [hf]
  refine wpAny_bind (wpAny_field he hd h1 ?_)
  rw [if_neg (by decide)]
  refine wpAny_bind (wpAny_frameOf_fun hfr hl hf fun h₁ hs₁ => ?_)
  refine wpAny_bind (wpAny_entryPlaceOf fun pl hpl => ?_)
  unfold EntryCells.newEntry newFields
  refine wpAny_bind (wpAny_newObj_type ?_ (hpl.sizeOk5 _ _ _ _ _))
  have he₁ : h₁.get? e = some oe := (hs₁.2.1 e hene).trans he
  have he₂ := Heap.get?_push_of_some (h := h₁) { cls := .type "traceback", dict := none, data := .fields ([.none, .ref L, .none, rawInt L, .none] ++ (if pl.isEmpty then List.replicate 6 Value.none else pl)).toArray } he₁
  refine wpAny_setField he₂ hd hsz (h _ h₁.objs.size ?_ ?_ ?_)
  · have up : ∀ b o, b ∉ [e] → h₁.get? b = some o → ((h₁.push { cls := .type "traceback", dict := none, data := .fields ([.none, .ref L, .none, rawInt L, .none] ++ (if pl.isEmpty then List.replicate 6 Value.none else pl)).toArray }).update e (Obj.mapFields (·.setIfInBounds 1 (Value.ref h₁.objs.size)))).get? b = some o := fun b o hb q => by
      rw [Heap.get?_update_other _ _ (fun q => hb (by rw [q]; exact .head _))]
      exact Heap.get?_push_of_some _ q
    refine ⟨fun b o hb hn q => up b o hb ((hs₁.2.1 b hn).trans q), fun b o hb q => ?_⟩
    obtain ⟨sl, q'⟩ := hs₁.2.2 b o q
    exact ⟨sl, up b _ hb q'⟩
  · exact Heap.get?_none_of_le (Nat.le_of_eq hs₁.1.symm)
  · have hTe : h₁.objs.size ≠ e := Nat.ne_of_gt (Heap.lt_size he₁)
    have hd₃ := Obj.data_mapFields hd (·.setIfInBounds 1 (Value.ref h₁.objs.size))
    refine ⟨_, _, _, _, Heap.get?_update_self _ he₂ (Obj.isFreed_of_fields hd₃), (Obj.cls_mapFields _ _).trans hc, hd₃, by simp [hsz], ?_, hTe, (Heap.get?_update_other _ _ (Ne.symm hTe)).trans (Heap.get?_push_size h₁ rfl), rfl, ?_⟩
    · rw [Array.getElem?_setIfInBounds_ne (by decide)]; exact h2
    · first | (simp; done) | (rcases hpl with rfl | ⟨_, _, _, _, _, _, _, rfl⟩ <;> simp)

theorem note_again {Q : Unit → Shared → Prop} (hf : env.frame = some L) (hx : ExS s.heap e T c (rawInt L)) (h : Q () s) : wpAny M A (noteFrame (.ref e) env) Q E s := by
  obtain ⟨oe, vs, oT, ts, he, hc, hd, h1, h2, hT, hg, hdT, h3⟩ := hx
  unfold noteFrame
  simp only [hf]
  refine wpAny_bind (wpAny_field he hd h1 ?_)
  rw [if_pos (show (Value.ref T != Value.none) = true from by simp)]
  refine wpAny_bind (wpAny_field hg hdT h3 ?_)
  rw [if_pos (show (rawInt L == rawInt L) = true from by simp)]
  exact wpAny_pure h

theorem flight_set {fr : Option Addr} {Q : Unit → Shared → Prop} (hx : ExS s.heap e T c fl)
    (h : ∀ h', XRel [] [T] s.heap h' → ExS h' e T c (fr.elim .none fun f => rawInt f) → Q () { s with heap := h' }) : wpAny M A (setFlight (.ref e) fr) Q E s := by
  obtain ⟨oe, vs, oT, ts, he, hc, hd, h1, h2, hT, hg, hdT, h3⟩ := hx
  have hsz : 3 < ts.size := (Array.getElem?_eq_some_iff.mp h3).1
  unfold setFlight
  refine wpAny_bind (wpAny_field he hd h1 ?_)
  rw [if_pos (show (Value.ref T != Value.none) = true from by simp)]
  refine wpAny_setField hg hdT hsz (h _ ?_ ?_)
  · have up : ∀ b, b ∉ [T] → (s.heap.update T (Obj.mapFields (·.setIfInBounds 3 (fr.elim .none fun f => rawInt f)))).get? b = s.heap.get? b := fun b hb => Heap.get?_update_other _ _ (fun q => hb (by rw [q]; exact .head _))
    exact ⟨fun b o hb _ q => (up b hb).trans q, fun b o hb q => ⟨o.slots, (up b hb).trans q⟩⟩
  · have hd₃ := Obj.data_mapFields hdT (·.setIfInBounds 3 (fr.elim .none fun f => rawInt f))
    exact ⟨oe, vs, _, _, (Heap.get?_update_other _ _ hT).trans he, hc, hd, h1, h2, hT, Heap.get?_update_self _ hg (Obj.isFreed_of_fields hd₃), hd₃, by simp [hsz]⟩

theorem came_back (hx : ExS s.heap e T c fl)
    (h : ∀ h', XRel [] [T] s.heap h' → ExS h' e T c (env.frame.elim .none fun f => rawInt f) → E (.ref e) { s with heap := h' }) : cameBackBy M A env E (.ref e) s := by
  unfold cameBackBy
  obtain ⟨oe, vs, oT, ts, he, hc, hd, h1, h2, hT, hg, hdT, h3⟩ := id hx
  refine wpAny_bind (wpAny_field he hd h1 ?_)
  rw [if_neg (by simp)]
  exact flight_set hx h

theorem pass_on {α : Type} {what : String} {Q : α → Shared → Prop} (hx : ExS s.heap e T c fl)
    (h : ∀ h', XRel [] [T] s.heap h' → ExS h' e T c (env.frame.elim .none fun f => rawInt f) → E (.ref e) { s with heap := h' }) : wpAny M A (PySem.passOn what (.ref e) env : Sem α) Q E s := by
  unfold PySem.passOn
  obtain ⟨oe, vs, oT, ts, he, hc, hd, h1, h2, hT, hg, hdT, h3⟩ := id hx
  refine wpAny_bind (wpAny_field he hd h1 ?_)
  rw [if_neg (by simp)]
  exact wpAny_bind (flight_set hx fun h' a b => wpAny_throw (h h' a b))
end

theorem entry_unchain : entryFor table "proto.unchain" = some Builtin.«proto.unchain» := entryFor_of_fast (by kernel_rfl)
theorem ExF.of_new {h h' : Heap} {e : Addr} (x : Heap.NewExc h h' e "IndexError") : ExF h' e .none := by
  obtain ⟨ob, t, a, b, c⟩ := x.there
  exact ⟨ob, _, a, b, c, rfl, rfl⟩

section
variable {α : Type} {prog : Program} {w : World} {A : Around} {E : Value → Shared → Prop} {s : Shared}

theorem raise_under {e₁ : Addr} {o₁ : Obj} {vs₁ : Array Value} {msg : String} {Q : α → Shared → Prop} (hh : A.handled = some (.ref e₁)) (h₁ : s.heap.get? e₁ = some o₁) (hd₁ : o₁.data = .fields vs₁) (hc₁ : vs₁[2]? = some .none)
    (h : ∀ h' tk e, (∀ b o, s.heap.get? b = some o → h'.get? b = some o) → s.heap.get? e = none → ExF h' e (.ref e₁) → E (.ref e) { s with heap := h', toks := tk }) :
    wpAny (model prog w) A (raiseErrorWords "IndexError" msg : Sem α) Q E s := by
  unfold raiseErrorWords
  refine wpAny_bind (wpAny_mkText (wpAny_bind ?_))
  unfold newExc newTuple
  refine wpAny_bind (wpAny_newObj_type ?_)
  refine wpAny_bind (m := firstArgMember _ _) (wpAny_of_eq (a := Value.none) (by simp only [firstArgMember, plainExc_IndexError.first]; rfl) ?_)
  rw [plainExc_IndexError.own]
  refine wpAny_newObj_type ?_
  dsimp only
  generalize hH1 : s.heap.push { cls := .type "tuple", data := .seq [Value.str (Str.ofString msg) s.toks].toArray } = H1
  have hk1 : ∀ b o, s.heap.get? b = some o → H1.get? b = some o := fun b o q => by rw [← hH1]; exact Heap.get?_push_of_some _ q
  generalize hH2 : H1.push _ = H2
  have hk2 : ∀ b o, H1.get? b = some o → H2.get? b = some o := fun b o q => by rw [← hH2]; exact Heap.get?_push_of_some _ q
  have hn1 : s.heap.get? H1.objs.size = none := Heap.get?_none_of_le (by rw [← hH1, Heap.size_push]; exact Nat.le_succ _)
  have hne : e₁ ≠ H1.objs.size := fun q => by rw [← q, h₁] at hn1; cases hn1
  have he₁ : H2.get? e₁ = some o₁ := hk2 _ _ (hk1 _ _ h₁)
  unfold raiseNew
  refine wpAny_bind (wpAny_handled ?_)
  rw [hh]
  dsimp only
  rw [if_pos (by simpa using hne)]
  refine wpAny_bind (wpAny_holding (wpAny_runValue (codeAny_builtin entry_unchain ?_)))
  unfold Builtin.«proto.unchain»
  dsimp only
  refine wpAny_bind (wpAny_field he₁ hd₁ hc₁ ?_)
  rw [if_pos (by decide)]
  refine wpAny_pure ?_
  have he : H2.get? H1.objs.size = some { cls := .type "IndexError", data := .fields (#[Value.ref s.heap.objs.size, Value.none, Value.none, Value.none, Value.bool false, Value.none] ++ #[]) } := by rw [← hH2]; exact Heap.get?_push_size _ rfl
  refine wpAny_bind (m := updateField _ _ _) ?_
  refine wpAny_setField (M := model prog w) (s := { s with heap := H2, toks := s.toks + 1 }) he rfl (by simp) (wpAny_throw (h _ _ _ (fun b o q => ?_) hn1 ?_))
  · refine (Heap.get?_update_other _ _ (fun q' => ?_)).trans (hk2 _ _ (hk1 _ _ q))
    rw [← q', hn1] at q; cases q
  · have hd₃ := Obj.data_mapFields (o := { cls := .type "IndexError", data := .fields (#[Value.ref s.heap.objs.size, Value.none, Value.none, Value.none, Value.bool false, Value.none] ++ #[]) }) rfl (·.setIfInBounds 2 (Value.ref e₁))
    exact ⟨_, _, Heap.get?_update_self _ he (Obj.isFreed_of_fields hd₃), (Obj.cls_mapFields _ _).trans rfl, hd₃, by simp, by simp⟩

theorem item_out_under {e₁ : Addr} {o₁ : Obj} {vs₁ : Array Value} {l : Addr} {items : Array Value} {k : Int} {t : Tok} {Q : Value → Shared → Prop} (hh : A.handled = some (.ref e₁)) (h₁ : s.heap.get? e₁ = some o₁) (hd₁ : o₁.data = .fields vs₁) (hc₁ : vs₁[2]? = some .none)
    (hl : s.heap.IsList l items) (hout : (items.size : Int) ≤ k) (hhi : k < 2 ^ 63)
    (hE : ∀ h' tk e, (∀ b o, s.heap.get? b = some o → h'.get? b = some o) → s.heap.get? e = none → ExF h' e (.ref e₁) → E (.ref e) { s with heap := h', toks := tk }) :
    wpAny (model prog w) A (getItem (.ref l) (.int k t)) Q E s := by
  obtain ⟨o, ho, hc, ne, hd⟩ := id hl
  have hlo : -(2 ^ 63) ≤ k := by omega
  unfold getItem
  try with_reducible refine wpAny_holding ?_
  first | refine wpAny_bind (wpAny_pure ?_) | skip
  refine wpAny_bind (wpAny_sequenceKey hl.typeIs (by decide) ?_)
  refine wpAny_bind (wpAny_callSpecial?_slot (name := Str.ofString "__getitem__") hl.typeIs slot_list_getitem
    (wpAny_call_entry slot_list_getitem hl.typeIs entry_list_getitem ?_ (args_list_getitem _ _)))
  show wpAny _ _ (Builtin.List.listSubscript? (.int k t) >>= _) _ _ s
  refine wpAny_bind (wpAny_listSubscript_int (fitsIndex_both hlo hhi) ?_)
  clear hlo hhi
  cases k with
  | negSucc j => exact absurd hout (by have := Int.negSucc_lt_zero j; omega)
  | ofNat j =>
    have hx : items[j]? = none := Array.getElem?_eq_none (by have : (items.size : Int) ≤ (j : Int) := hout; omega)
    show wpAny _ _ ((seqItemAt l j >>= fun r => pure (r.map (j, ·))) >>= _) _ _ s
    refine wpAny_bind (wpAny_bind (wpAny_seqItemAt ho hd (wpAny_pure ?_)))
    rw [hx]
    first
      | exact wpAny_bind (wpAny_rule (raise_under hh h₁ hd₁ hc₁ hE))
      | exact wpAny_bind (wpAny_rule (wpAny_bind (raise_under hh h₁ hd₁ hc₁ hE)))
      | exact wpAny_bind (wpAny_bind (wpAny_rule (raise_under hh h₁ hd₁ hc₁ hE)))
      | exact wpAny_rule (raise_under hh h₁ hd₁ hc₁ hE)
end
end Mine
namespace Mine

abbrev gst (g : Heap) (envs : List Env) : Heap := hideAll g (frOf envs)

/-- the frames of the callers, as they stand, up to their slots -/
structure Frs (g : Heap) (envs : List Env) (frs : List (Addr × Obj)) : Prop where
  adr : frs.map (·.1) = frOf envs
  old : ∀ p ∈ frs, ∃ o, g.get? p.1 = some o ∧ ∃ sl, p.2 = { o with slots := sl }

theorem frs_start {g base : Heap} : ∀ {envs : List Env}, g.FunFrames base envs → ∃ frs, Frs g envs frs ∧ ∀ p ∈ frs, g.get? p.1 = some p.2
  | [], _ => ⟨[], ⟨rfl, fun _ h => nomatch h⟩, fun _ h => nomatch h⟩
  | env :: r, ⟨_, ⟨L, o, hf, _, ho, _⟩, hr⟩ => by
    obtain ⟨frs, ⟨h1, h2⟩, h3⟩ := frs_start hr
    refine ⟨(L, o) :: frs, ⟨?_, ?_⟩, ?_⟩
    · simp [frOf, hf] at h1 ⊢; exact h1
    · intro p hp
      rcases List.mem_cons.mp hp with rfl | hp
      · exact ⟨o, ho, o.slots, rfl⟩
      · exact h2 p hp
    · intro p hp
      rcases List.mem_cons.mp hp with rfl | hp
      · exact ho
      · exact h3 p hp

theorem gst_stays {g base : Heap} {envs : List Env} (hs : base.StaysIn g) (hf : g.FunFrames base envs) : base.StaysIn (gst g envs) := fun b o e =>
  hideAll_get _ (hs b o e) fun hm => by rw [(hf.mem hm).1] at e; cases e

theorem frs_frames {g base h G : Heap} {L : Addr} {led frs : List (Addr × Obj)} : ∀ {envs : List Env}, g.FunFrames base envs → (∀ b ∈ frOf envs, G.get? b = none) → (∀ b ∈ frOf envs, b ∈ frs.map (·.1)) → (∀ p ∈ frs, ∃ o, g.get? p.1 = some o ∧ ∃ sl, p.2 = { o with slots := sl }) → News G L h (led ++ frs) → h.FunFrames G envs
  | [], _, _, _, _, _ => trivial
  | env :: r, ⟨hk, ⟨L', o, hf, _, ho, hd⟩, hr⟩, hG, hm, hold, N => by
    have e1 : frOf (env :: r) = L' :: frOf r := by simp [frOf, hf]
    rw [e1] at hG hm
    refine ⟨hk, ⟨L', ?_⟩, frs_frames hr (fun b hb => hG b (.tail _ hb)) (fun b hb => hm b (.tail _ hb)) hold N⟩
    obtain ⟨p, hp, e2⟩ := List.mem_map.mp (hm L' (.head _))
    obtain ⟨o', ho', sl, e3⟩ := hold p hp
    rw [e2, ho] at ho'
    cases ho'
    have := (N p (List.mem_append_right _ hp)).1
    rw [e2] at this
    exact ⟨p.2, hf, hG L' (.head _), this, fun vs q => hd vs (by rw [e3] at q; exact q)⟩

/-- an address off the frame, the base and the ledger -/
structure Off (G : Heap) (L : Addr) (adr : List Addr) (b : Addr) : Prop where
  base : G.get? b = none
  loc : b ≠ L
  led : b ∉ adr

theorem Off.fresh {G h : Heap} {L : Addr} {m : Str → Option Value} {news : List (Addr × Obj)} {b : Addr} (F : Fr G L h m) (N : News G L h news) (hb : h.get? b = none) : Off G L (news.map (·.1)) b := by
  refine ⟨?_, ?_, ?_⟩
  · cases q : G.get? b with
    | none => rfl
    | some o => have := F.keep b o q; rw [hb] at this; cases this
  · intro q
    obtain ⟨o, _, _, ho, _⟩ := F.ns
    rw [q, ho] at hb; cases hb
  · intro q
    obtain ⟨p, hp, e⟩ := List.mem_map.mp q
    have := (N p hp).1
    rw [e, hb] at this; cases this

theorem xrel_fr {G h h' : Heap} {L : Addr} {m : Str → Option Value} {fr mine : List Addr} (F : Fr G L h m) (X : XRel fr mine h h') (hm : ∀ b ∈ mine, G.get? b = none ∧ b ≠ L) (hfr : ∀ b ∈ fr, G.get? b = none) : Fr G L h' m := by
  refine ⟨?_, fun b o e => X.keep b o (fun q => ?_) (fun q => ?_) (F.keep b o e), F.above⟩
  · obtain ⟨o, es, ep, ho, hd, r⟩ := F.ns
    obtain ⟨sl, hs⟩ := X.slots L o (fun q => (hm L q).2 rfl) ho
    exact ⟨_, es, ep, hs, hd, r⟩
  · rw [(hm b q).1] at e; cases e
  · rw [hfr b q] at e; cases e

theorem xrel_news {G h h' g : Heap} {L : Addr} {envs : List Env} {fr mine : List Addr} {led frs : List (Addr × Obj)} (N : News G L h (led ++ frs)) (X : XRel fr mine h h') (Fs : Frs g envs frs)
    (hm : ∀ b ∈ mine, b ∉ (led ++ frs).map (·.1)) (hl : ∀ p ∈ led, p.1 ∉ fr) : ∃ frs', News G L h' (led ++ frs') ∧ Frs g envs frs' := by
  have one : ∀ l : List (Addr × Obj), (∀ p ∈ l, p ∈ frs) → ∃ l' : List (Addr × Obj), l'.map (·.1) = l.map (·.1) ∧ (∀ p ∈ l', h'.get? p.1 = some p.2 ∧ p.1 ≠ L ∧ G.get? p.1 = none) ∧ ∀ p ∈ l', ∃ o, g.get? p.1 = some o ∧ ∃ sl, p.2 = { o with slots := sl } := by
    intro l
    induction l with
    | nil => exact fun _ => ⟨[], rfl, by simp, by simp⟩
    | cons p l ih =>
      intro hs
      obtain ⟨l', h1, h2, h3⟩ := ih fun q hq => hs q (.tail _ hq)
      have hp := hs p (.head _)
      have z := N p (List.mem_append_right _ hp)
      obtain ⟨sl, e⟩ := X.slots p.1 p.2 (fun q => hm _ q (List.mem_map.mpr ⟨p, List.mem_append_right _ hp, rfl⟩)) z.1
      obtain ⟨o, ho, sl', e'⟩ := Fs.old p hp
      refine ⟨(p.1, { p.2 with slots := sl }) :: l', by simp [h1], ?_, ?_⟩
      · intro q hq
        rcases List.mem_cons.mp hq with rfl | hq
        · exact ⟨e, z.2⟩
        · exact h2 q hq
      · intro q hq
        rcases List.mem_cons.mp hq with rfl | hq
        · exact ⟨o, ho, sl, by rw [e']⟩
        · exact h3 q hq
  obtain ⟨frs', h1, h2, h3⟩ := one frs fun _ h => h
  refine ⟨frs', fun p hp => ?_, h1.trans Fs.adr, h3⟩
  rcases List.mem_append.mp hp with hp | hp
  · have z := N p (List.mem_append_left _ hp)
    exact ⟨X.keep _ _ (fun q => hm _ q (List.mem_map.mpr ⟨p, List.mem_append_left _ hp, rfl⟩)) (hl p hp) z.1, z.2⟩
  · exact h2 p hp

section
variable {w : World} {p : Program} {loose : List Str} {mean : ExcName → Option Value} {mg mb : Str → Option Value} {A : Around} {s : Shared} {E : Value → Shared → Prop} {Q : Value → Shared → Prop}
  {name qual : Str} {params : Arguments} {body : List Stmt} {scope : Scope} {dV kV doc pm cdv ct oc : Value} {an od : Option Addr} {osl : Array (Option Value)} {f : Addr} {pos : List Value} {kw : List (Str × Value)} {binds : List (Str × Value)} {base : Heap} {envs : List Env}

/-- the frames of the callers hidden from the base -/
theorem enterG (B : Below A base envs s.heap) (X : (hd.heap_39 w.params).In base) (T : Top p loose mean mg mb base)
    (ho : (hd.heap_39 w.params).lookup f = some ⟨oc, od, .func (fnOf name qual params body scope dV kV doc pm an cdv ct), osl⟩) (hcd : codeIn (hd.heap_39 w.params) cdv qual = true) (hroom : A.depth < recursionLimit)
    (hbind : BindsTo s (fnOf name qual params body scope dV kV doc pm an cdv ct) ⟨pos, kw⟩ binds) (hloc : ∀ y ∈ binds, scope.names.lookup y.1 = some .local)
    (h : ∀ h₁ frs, (hd.heap_39 w.params).In (gst s.heap envs) → Top p loose mean mg mb (gst s.heap envs) → Fr (gst s.heap envs) s.heap.objs.size h₁ (fun y => binds.reverse.lookup y) → News (gst s.heap envs) s.heap.objs.size h₁ frs → Frs s.heap envs frs →
      wpAny (model PySem.Challenge.rw_oc0028_01.row.prog w) (A.deeper (envOf qual scope s.heap.objs.size f cdv)) (execs body (envOf qual scope s.heap.objs.size f cdv))
        (fun fl s' => Q (match fl with | .ret v => v | _ => .none) s')
        (fun e s' => wpAny (model PySem.Challenge.rw_oc0028_01.row.prog w) (A.deeper (envOf qual scope s.heap.objs.size f cdv)) (leaving (envOf qual scope s.heap.objs.size f cdv) e) (fun _ s'' => E e s'') (fun e' s'' => E e' s'') s')
        { s with heap := h₁, toks := s.toks + binds.length })
    (hco : scope.isCoroutine = false) (hgen : scope.isGenerator = false) (hk : scope.kind = .function)
    (hcell : ∀ x ∈ scope.names, x.2 ≠ .cell) : wpAny (model PySem.Challenge.rw_oc0028_01.row.prog w) A (call (.ref f) pos kw) Q E s := by
  have st := gst_stays B.stays B.frames
  obtain ⟨frs, Fs, hfs⟩ := frs_start B.frames
  refine enter (X.keeps B.stays) (T.keeps B.stays) ho hcd hroom hbind hloc (fun h₁ F => ?_) hco hgen hk hcell
  refine h h₁ frs (X.keeps st) (T.keeps st) ⟨F.ns, fun b o e => F.keep b o (of_hideAll _ e), Nat.le_of_eq (hideAll_size _ _)⟩ (fun q hq => ⟨F.keep _ _ (hfs q hq), Nat.ne_of_lt (Heap.lt_size (hfs q hq)), hideAll_none _ ?_⟩) Fs
  rw [← Fs.adr]; exact List.mem_map_of_mem hq
end
end Mine
namespace Mine

theorem XRel.comp {fr : List Addr} {e T : Addr} {h h₁ h₂ : Heap} (x : XRel fr [e] h h₁) (y : XRel [] [T] h₁ h₂) (hT : h.get? T = none) : XRel fr [e] h h₂ := by
  have ne : ∀ b o, h.get? b = some o → b ∉ [T] := fun b o q hm => by rw [List.mem_singleton.mp hm, hT] at q; cases q
  refine ⟨fun b o hb hn q => y.keep b o (ne b o q) (fun h => nomatch h) (x.keep b o hb hn q), fun b o hb q => ?_⟩
  obtain ⟨sl, q1⟩ := x.slots b o hb q
  obtain ⟨sl', q2⟩ := y.slots b _ (ne b o q) q1
  exact ⟨sl', q2⟩

section
variable {M : Model} {A : Around} {E : Value → Shared → Prop} {s : Shared} {env : Env} {outer : List Env} {L e T : Addr} {c fl : Value} {B : Heap}

theorem fly_out {A' : Around} (hfr : A.frames = some (env :: outer)) (hl : s.heap.FunFrames B (env :: outer)) (hf : env.frame = some L) (hx : ExF s.heap e c)
    (h : ∀ h' T, s.heap.get? T = none → XRel (frOf (env :: outer)) [e] s.heap h' → ExS h' e T c (rawInt L) → E (.ref e) { s with heap := h' }) : notedBy M A env (cameBackBy M A' env E) (.ref e) s := by
  unfold notedBy
  refine note_new hfr hl hf hx fun h₁ T x1 hT ex => ?_
  refine came_back (s := { s with heap := h₁ }) ex fun h₂ x2 ex2 => h h₂ T hT (x1.comp x2 hT) ?_
  rw [hf] at ex2; exact ex2
theorem fly_again {A' : Around} (hf : env.frame = some L) (hx : ExS s.heap e T c (rawInt L))
    (h : ∀ h', XRel [] [T] s.heap h' → ExS h' e T c (rawInt L) → E (.ref e) { s with heap := h' }) : notedBy M A env (cameBackBy M A' env E) (.ref e) s := by
  unfold notedBy
  refine note_again hf hx ?_
  refine came_back hx fun h₂ x2 ex2 => h h₂ x2 ?_
  rw [hf] at ex2; exact ex2
end

section
variable {prog : Program} {w : World} {A : Around} {E : Value → Shared → Prop} {s : Shared} {env : Env}

theorem while_once {test : PySem.Expr} {body : List Stmt} {pos : Pos} {Q : Flow → Shared → Prop}
    (h : wpAny (model prog w) A (isTrue test env (eval test env)) (fun b s₂ => Hd (b = false ∧ Q .next s₂)) (notedBy (model prog w) A env (cameBackBy (model prog w) A env E)) s) :
    wpAny (model prog w) A (exec (.While test body [] pos) env) Q E s := by
  refine wpAny_While ?_
  refine codeAny_whileLoop (fun _ s' => s' = s) ?_ 0 rfl
  rintro n s' rfl
  refine wpAny_mono h (fun b s₂ hb => ?_) fun _ _ x => x
  obtain ⟨rfl, hq⟩ := hb.out
  simp only [Bool.false_eq_true, if_false]
  exact wpAny_execs_nil hq

theorem tail_out {value slice : PySem.Expr} {l : Addr} {items : Array Value} {k : Int} {u : Tok} {Q : Value → Shared → Prop} (hA : A.handled = none) (hl : s.heap.IsList l items) (hout : (items.size : Int) ≤ k) (hhi : k < 2 ^ 63)
    (hE : ∀ h' tk e, (∀ b o, s.heap.get? b = some o → h'.get? b = some o) → s.heap.get? e = none → ExF h' e .none → E (.ref e) { s with heap := h', toks := tk })
    (hs : subscripted slice false (.ref l) (.int k u) = operate [.ref l, .int k u] (getItem (.ref l) (.int k u)) := by with_unfolding_all rfl) :
    wpAny (model prog w) A (subscriptTail value slice (.ref l) (.int k u)) Q E s :=
  tail_any hl.typeIs slot_list_getitem.lookup (wpAny_getItem_list_out hA hl (.inr hout) (by omega) hhi fun h' tk e x => hE h' tk e x.keeps x.new (ExF.of_new x)) hs
theorem tail_out_under {value slice : PySem.Expr} {e₁ : Addr} {o₁ : Obj} {vs₁ : Array Value} {l : Addr} {items : Array Value} {k : Int} {u : Tok} {Q : Value → Shared → Prop} (hh : A.handled = some (.ref e₁)) (h₁ : s.heap.get? e₁ = some o₁) (hd₁ : o₁.data = .fields vs₁) (hc₁ : vs₁[2]? = some .none)
    (hl : s.heap.IsList l items) (hout : (items.size : Int) ≤ k) (hhi : k < 2 ^ 63)
    (hE : ∀ h' tk e, (∀ b o, s.heap.get? b = some o → h'.get? b = some o) → s.heap.get? e = none → ExF h' e (.ref e₁) → E (.ref e) { s with heap := h', toks := tk })
    (hs : subscripted slice false (.ref l) (.int k u) = operate [.ref l, .int k u] (getItem (.ref l) (.int k u)) := by with_unfolding_all rfl) :
    wpAny (model prog w) A (subscriptTail value slice (.ref l) (.int k u)) Q E s :=
  tail_any hl.typeIs slot_list_getitem.lookup (item_out_under hh h₁ hd₁ hc₁ hl hout hhi hE) hs
end

/-- the two lists of sorted_list_difference -/
def sd : List Int → List Int → List Int × List Int
  | [], ys => ([], ys)
  | x :: xs, [] => (x :: xs, [])
  | x :: xs, y :: ys => if x < y then (x :: (sd xs (y :: ys)).1, (sd xs (y :: ys)).2) else if y < x then ((sd (x :: xs) ys).1, y :: (sd (x :: xs) ys).2) else sd xs ys
termination_by xs ys => xs.length + ys.length

theorem sd_nil_left (ys : List Int) : sd [] ys = ([], ys) := by rw [sd]
theorem sd_nil_right (xs : List Int) : sd xs [] = (xs, []) := by cases xs <;> rw [sd]
theorem sd_lt {x y : Int} {xs ys : List Int} (h : x < y) : sd (x :: xs) (y :: ys) = (x :: (sd xs (y :: ys)).1, (sd xs (y :: ys)).2) := by rw [sd, if_pos h]
theorem sd_gt {x y : Int} {xs ys : List Int} (h : y < x) : sd (x :: xs) (y :: ys) = ((sd (x :: xs) ys).1, y :: (sd (x :: xs) ys).2) := by rw [sd, if_neg (by omega), if_pos h]
theorem sd_eq {x : Int} {xs ys : List Int} : sd (x :: xs) (x :: ys) = sd xs ys := by rw [sd, if_neg (by omega), if_neg (by omega)]

theorem sd_end {a b : List Int} (h : a = [] ∨ b = []) : sd a b = (a, b) := by
  rcases h with rfl | rfl
  · exact sd_nil_left b
  · exact sd_nil_right a
theorem sd_len (xs ys : List Int) : (sd xs ys).1.length ≤ xs.length ∧ (sd xs ys).2.length ≤ ys.length := by
  induction xs, ys using sd.induct with
  | case1 ys => simp [sd_nil_left]
  | case2 x xs => simp [sd_nil_right]
  | case3 x xs y ys h ih => rw [sd_lt h]; simp at ih ⊢; omega
  | case4 x xs y ys h h' ih => rw [sd_gt h']; simp at ih ⊢; omega
  | case5 x xs y ys h h' ih =>
    have : x = y := by omega
    subst this
    rw [sd_eq]; simp at ih ⊢; omega

section
variable {prog : Program} {w : World} {A : Around} {E : Value → Shared → Prop} {s : Shared} {G : Heap} {L lm lu : Addr} {m : Str → Option Value} {U : Obj} {vm : List Value} {n1 : Nat} {frs : List (Addr × Obj)} {x : Value} {Q : Value → Shared → Prop}
theorem app_m (F : Fr G L s.heap m) (N : News G L s.heap ((lu, U) :: (lm, listOf vm.toArray n1) :: frs)) (hne : lu ≠ lm) (hoff : ∀ p ∈ frs, p.1 ≠ lm)
    (h : ∀ h', Fr G L h' m → News G L h' ((lu, U) :: (lm, listOf (vm ++ [x]).toArray (n1 + 1)) :: frs) → Q .none { s with heap := h' }) (hsz : vm.length < 1000) : wpAny (model prog w) A (call (.builtin "list.append") [.ref lm, x]) Q E s := by
  refine append_K F N (Upd.tail hne (Upd.head hoff)) (fun h' F' N' => h h' F' ?_) (by simp only [List.size_toArray, sizeLine_eq]; omega)
  simpa using N'
theorem app_u (F : Fr G L s.heap m) (N : News G L s.heap ((lm, listOf vm.toArray n1) :: frs)) (hoff : ∀ p ∈ frs, p.1 ≠ lm)
    (h : ∀ h', Fr G L h' m → News G L h' ((lm, listOf (vm ++ [x]).toArray (n1 + 1)) :: frs) → Q .none { s with heap := h' }) (hsz : vm.length < 1000) : wpAny (model prog w) A (call (.builtin "list.append") [.ref lm, x]) Q E s := by
  refine append_K F N (Upd.head hoff) (fun h' F' N' => h h' F' ?_) (by simp only [List.size_toArray, sizeLine_eq]; omega)
  simpa using N'
end
theorem ints_snoc {vs : List Value} {ns : List Int} {n : Int} {t : Tok} (h : IntsAre vs ns) : IntsAre (vs ++ [.int n t]) (ns ++ [n]) := by
  induction h with
  | nil => exact .cons _ _ .nil
  | cons a b _ ih => exact .cons _ _ ih
theorem ints_append {vs vs' : List Value} {ns ns' : List Int} (h : IntsAre vs ns) (h' : IntsAre vs' ns') : IntsAre (vs ++ vs') (ns ++ ns') := by
  induction h with
  | nil => exact h'
  | cons a b _ ih => exact .cons _ _ ih
theorem ints_drop {vs : List Value} {ns : List Int} (h : IntsAre vs ns) : ∀ k, IntsAre (vs.drop k) (ns.drop k) := by
  induction h with
  | nil => intro k; simp; exact .nil
  | cons a b hh ih => intro k; cases k with
    | zero => exact .cons _ _ hh
    | succ k => exact ih k

/-- the state between two turns -/
structure SI (g : Heap) (envs : List Env) (L lm lu le la : Addr) (i j : Nat) (ms us : List Int) (h : Heap) (m : Str → Option Value) (vm vu : List Value) (n1 n2 : Nat) (frs : List (Addr × Obj)) : Prop where
  F : Fr (gst g envs) L h m
  N : News (gst g envs) L h ((lu, listOf vu.toArray n2) :: (lm, listOf vm.toArray n1) :: frs)
  Fs : Frs g envs frs
  im : IntsAre vm ms
  iu : IntsAre vu us
  mi : ∃ t, m (Str.ofString "i") = some (.int i t)
  mj : ∃ t, m (Str.ofString "j") = some (.int j t)
  me : m (Str.ofString "expected") = some (.ref le)
  ma : m (Str.ofString "actual") = some (.ref la)
  mm : m (Str.ofString "missing") = some (.ref lm)
  mu : m (Str.ofString "unexpected") = some (.ref lu)
def SI1 (g : Heap) (envs : List Env) (L lm lu le la : Addr) (i j : Nat) (ms us : List Int) (h : Heap) (m : Str → Option Value) : Prop := ∃ vm vu n1 n2 frs, SI g envs L lm lu le la i j ms us h m vm vu n1 n2 frs

/-- an exception on its way out of the try's body -/
def XP (s : Shared) (envs : List Env) (L lm lu le la : Addr) (xs ys : List Int) (e : Value) (s₁ : Shared) : Prop :=
  ∃ a c i j ms us m, e = .ref a ∧ Off (gst s.heap envs) L (lu :: lm :: frOf envs) a ∧ (ExF s₁.heap a c ∨ ∃ T, Off (gst s.heap envs) L (lu :: lm :: frOf envs) T ∧ ExS s₁.heap a T c (rawInt L)) ∧
    SI1 s.heap envs L lm lu le la i j ms us s₁.heap m ∧ (∃ h tk, s₁ = { s with heap := h, toks := tk }) ∧ i ≤ xs.length ∧ j ≤ ys.length ∧ ms ++ xs.drop i = (sd xs ys).1 ∧ us ++ ys.drop j = (sd xs ys).2

theorem SI1.xrel {g base : Heap} {envs : List Env} {L lm lu le la : Addr} {i j : Nat} {ms us : List Int} {m : Str → Option Value} {h h' : Heap} {b : Addr} {fr : List Addr} (S : SI1 g envs L lm lu le la i j ms us h m) (X : XRel fr [b] h h')
    (hb : Off (gst g envs) L (lu :: lm :: frOf envs) b) (hfr : ∀ x ∈ fr, (gst g envs).get? x = none) (h1 : lu ∉ fr) (h2 : lm ∉ fr) : SI1 g envs L lm lu le la i j ms us h' m := by
  obtain ⟨vm, vu, n1, n2, frs, S⟩ := S
  have hadr : (([(lu, listOf vu.toArray n2), (lm, listOf vm.toArray n1)] : List (Addr × Obj)) ++ frs).map (·.1) = lu :: lm :: frOf envs := by simp [S.Fs.adr]
  have F' := xrel_fr S.F X (fun x hx => by rw [List.mem_singleton.mp hx]; exact ⟨hb.base, hb.loc⟩) hfr
  obtain ⟨frs', N', Fs'⟩ := xrel_news (led := [(lu, listOf vu.toArray n2), (lm, listOf vm.toArray n1)]) S.N X S.Fs (fun x hx => by rw [List.mem_singleton.mp hx, hadr]; exact hb.led) (fun p hp => by
    rcases List.mem_cons.mp hp with rfl | hp
    · exact h1
    · rcases List.mem_cons.mp hp with rfl | hp
      · exact h2
      · exact nomatch hp)
  exact ⟨vm, vu, n1, n2, frs', F', N', Fs', S.im, S.iu, S.mi, S.mj, S.me, S.ma, S.mm, S.mu⟩

theorem SI1.keeps {g : Heap} {envs : List Env} {L lm lu le la : Addr} {i j : Nat} {ms us : List Int} {m : Str → Option Value} {h h' : Heap} (S : SI1 g envs L lm lu le la i j ms us h m) (hk : ∀ b o, h.get? b = some o → h'.get? b = some o) : SI1 g envs L lm lu le la i j ms us h' m :=
  let ⟨vm, vu, n1, n2, frs, S⟩ := S
  ⟨vm, vu, n1, n2, frs, S.F.keeps hk, S.N.keeps hk, S.Fs, S.im, S.iu, S.mi, S.mj, S.me, S.ma, S.mm, S.mu⟩
theorem SI1.off {g : Heap} {envs : List Env} {L lm lu le la : Addr} {i j : Nat} {ms us : List Int} {m : Str → Option Value} {h : Heap} {b : Addr} (S : SI1 g envs L lm lu le la i j ms us h m) (hb : h.get? b = none) : Off (gst g envs) L (lu :: lm :: frOf envs) b := by
  obtain ⟨vm, vu, n1, n2, frs, S⟩ := S
  have := Off.fresh S.F S.N hb
  simpa [S.Fs.adr] using this
theorem SI1.frames {g base : Heap} {envs : List Env} {L lm lu le la : Addr} {i j : Nat} {ms us : List Int} {m : Str → Option Value} {h : Heap} {env : Env} (S : SI1 g envs L lm lu le la i j ms us h m) (hg : g.FunFrames base envs) (hf : env.frame = some L) (hk : env.scope.kind = .function) (hL : g.objs.size ≤ L) : h.FunFrames (gst g envs) (env :: envs) := by
  obtain ⟨vm, vu, n1, n2, frs, S⟩ := S
  refine .cons (by rw [hk]; decide) hf S.F.ns (Heap.get?_none_of_le (by rw [hideAll_size]; exact hL)) ?_
  refine frs_frames (led := [(lu, listOf vu.toArray n2), (lm, listOf vm.toArray n1)]) (frs := frs) hg (fun b hb => hideAll_none _ hb) (fun b hb => by rw [S.Fs.adr]; exact hb) S.Fs.old S.N
section
variable {M : Model} {A A' : Around} {E : Value → Shared → Prop} {s₁ : Shared} {env : Env} {g base : Heap} {envs : List Env} {L lm lu le la e T : Addr} {i j : Nat} {ms us : List Int} {m : Str → Option Value} {c : Value}
theorem si_fly (hfr : A.frames = some (env :: envs)) (hf : env.frame = some L) (hk : env.scope.kind = .function) (hL : g.objs.size ≤ L) (hB : g.FunFrames base envs) (h1 : lu ≠ L) (h2 : lu ∉ frOf envs) (h3 : lm ≠ L) (h4 : lm ∉ frOf envs)
    (S : SI1 g envs L lm lu le la i j ms us s₁.heap m) (off : Off (gst g envs) L (lu :: lm :: frOf envs) e) (hx : ExF s₁.heap e c)
    (h : ∀ h' T, Off (gst g envs) L (lu :: lm :: frOf envs) T → ExS h' e T c (rawInt L) → SI1 g envs L lm lu le la i j ms us h' m → E (.ref e) { s₁ with heap := h' }) : notedBy M A env (cameBackBy M A' env E) (.ref e) s₁ := by
  have e1 : frOf (env :: envs) = L :: frOf envs := by simp [frOf, hf]
  refine fly_out hfr (S.frames hB hf hk hL) hf hx fun h' T hT xr ex => h h' T (S.off hT) ex (S.xrel (base := base) xr off ?_ ?_ ?_)
  · intro x hx
    rw [e1] at hx
    rcases List.mem_cons.mp hx with rfl | hx
    · exact Heap.get?_none_of_le (by rw [hideAll_size]; exact hL)
    · exact hideAll_none _ hx
  · rw [e1]; exact fun q => (List.mem_cons.mp q).elim h1 h2
  · rw [e1]; exact fun q => (List.mem_cons.mp q).elim h3 h4
theorem si_note {Q : Unit → Shared → Prop} (hfr : A.frames = some (env :: envs)) (hf : env.frame = some L) (hk : env.scope.kind = .function) (hL : g.objs.size ≤ L) (hB : g.FunFrames base envs) (h1 : lu ≠ L) (h2 : lu ∉ frOf envs) (h3 : lm ≠ L) (h4 : lm ∉ frOf envs)
    (S : SI1 g envs L lm lu le la i j ms us s₁.heap m) (off : Off (gst g envs) L (lu :: lm :: frOf envs) e) (hx : ExF s₁.heap e c ∨ ∃ T, Off (gst g envs) L (lu :: lm :: frOf envs) T ∧ ExS s₁.heap e T c (rawInt L))
    (h : ∀ h' T, Off (gst g envs) L (lu :: lm :: frOf envs) T → ExS h' e T c (rawInt L) → SI1 g envs L lm lu le la i j ms us h' m → Q () { s₁ with heap := h' }) : wpAny M A (noteFrame (.ref e) env) Q E s₁ := by
  have e1 : frOf (env :: envs) = L :: frOf envs := by simp [frOf, hf]
  rcases hx with hx | ⟨T, oT, hx⟩
  · refine note_new hfr (S.frames hB hf hk hL) hf hx fun h' T xr hT ex => h h' T (S.off hT) ex (S.xrel (base := base) xr off ?_ ?_ ?_)
    · intro x hx
      rw [e1] at hx
      rcases List.mem_cons.mp hx with rfl | hx
      · exact Heap.get?_none_of_le (by rw [hideAll_size]; exact hL)
      · exact hideAll_none _ hx
    · rw [e1]; exact fun q => (List.mem_cons.mp q).elim h1 h2
    · rw [e1]; exact fun q => (List.mem_cons.mp q).elim h3 h4
  · exact note_again hf hx (h _ T oT hx S)
theorem si_again (hf : env.frame = some L) (S : SI1 g envs L lm lu le la i j ms us s₁.heap m) (off : Off (gst g envs) L (lu :: lm :: frOf envs) T) (hx : ExS s₁.heap e T c (rawInt L))
    (h : ∀ h', ExS h' e T c (rawInt L) → SI1 g envs L lm lu le la i j ms us h' m → E (.ref e) { s₁ with heap := h' }) : notedBy M A env (cameBackBy M A' env E) (.ref e) s₁ :=
  fly_again hf hx fun h' xr ex => h h' ex (S.xrel (base := g) xr off (fun _ h => nomatch h) (fun h => nomatch h) fun h => nomatch h)
end
end Mine
set_option maxHeartbeats 4000000
namespace Mine
local macro_rules | `(tactic| walk_at "eval Name") => `(tactic| (k_here; k_dflt (refine' ld ?k1 ?k2 ?_; (case k1 => k_asm); (case k2 => ((repeat (refine lk_ne (by decide) ?_)); first | exact lk_eq | assumption | exact rfl)); k_whole)))
local macro_rules | `(tactic| walk_at "exec While") => `(tactic| refine stopT ?_)
local macro_rules | `(tactic| walk_at "exec While Compare cons nil") => `(tactic| refine stopT ?_)
local macro_rules | `(tactic| walk_at "exec While Constant cons nil") => `(tactic| refine stopT ?_)
local macro_rules | `(tactic| walk_at "exec Try") => `(tactic| refine stopT ?_)
local macro_rules | `(tactic| walk_at "exec Try cons nil") => `(tactic| refine stopT ?_)
local macro_rules | `(tactic| walk_at "subscriptTail Name Name ref int") => `(tactic| refine stopT ?_)
local macro_rules | `(tactic| walk_at "call builtin:list.append") => `(tactic| refine stopT ?_)
local macro_rules | `(tactic| walk_at "call builtin:list.extend") => `(tactic| refine stopT ?_)
local macro_rules | `(tactic| walk_at "subscriptTail Name Slice ref ref") => `(tactic| refine stopT ?_)
local macro_rules | `(tactic| walk_at "loadName") => `(tactic| (k_here; k_dflt (refine' ldn ?k1 ?k2 ?_; (case k1 => k_asm); (case k2 => ((repeat (refine lk_ne (by decide) ?_)); first | exact lk_eq | assumption | exact rfl)); k_whole)))
local macro_rules | `(tactic| ktr_unf) => `(tactic| repeat' (first | walk1 | (dsimp only; walk1)))
theorem sld_spec {w : World} {p : Program} {loose : List Str} {mean : ExcName → Option Value} {mg mb : Str → Option Value} {A : Around} {s : Shared} {E : Value → Shared → Prop} {Q : Value → Shared → Prop} {base : Heap} {envs : List Env}
   {le la : Addr} {ve va : List Value} {xs ys : List Int}
   (B : Below A base envs s.heap) (X : (hd.heap_39 w.params).In base) (T : Top p loose mean mg mb base) (hh : A.handled = none) (hroom : A.depth + 5 < recursionLimit) (hun : A.units + 100 < cLine)
   (he : (gst s.heap envs).IsList le ve.toArray) (ie : IntsAre ve xs) (ha : (gst s.heap envs).IsList la va.toArray) (ia : IntsAre va ys)
   (hex : xs.Pairwise (· < ·)) (hay : ys.Pairwise (· < ·)) (hlx : xs.length < 100) (hly : ys.length < 100)
   (ret : ∀ (h' : Heap) (tk' : Nat) (lm lu lt : Addr) (vm vu : List Value) (n1 n2 : Nat), (∀ b o, s.heap.get? b = some o → b ∉ frOf envs → h'.get? b = some o) → (∀ b o, s.heap.get? b = some o → ∃ sl, h'.get? b = some { o with slots := sl }) →
     s.heap.get? lm = none → s.heap.get? lu = none → s.heap.get? lt = none → lm < lu → lu < lt → h'.get? lm = some (listOf vm.toArray n1) → h'.get? lu = some (listOf vu.toArray n2) → IntsAre vm (sd xs ys).1 → IntsAre vu (sd xs ys).2 →
     h'.get? lt = some { cls := .type "tuple", data := .seq #[.ref lm, .ref lu] } → Q (.ref lt) { s with heap := h', toks := tk' }) : wpAny (model PySem.Challenge.rw_oc0028_01.row.prog w) A (call (.ref 28) [.ref le, .ref la]) Q E s := by
  w_top off
  revert X
  k_fill
  intro X
  refine enterG (binds := [(Str.ofString "expected", .ref le), (Str.ofString "actual", .ref la)]) B X T (by k_is) (by k_is) (by omega) (BindsTo.of_eq rfl) (locs rfl) ?_ rfl rfl rfl (by decide)
  intro h' frs X' T' F' N' Fs
  ktr_unf
  rename_i tk1 h5 h4 lm h3 hlm h2 tk2 lu h1 hlu h0 F0 N0
  refine goT ?_
  have hhA : ∀ env, (A.deeper env).handled = none := fun _ => hh
  have hfrA : ∀ env, (A.deeper env).frames = some (env :: envs) := fun _ => Around.frames_deeper B.stack
  have hlen1 : ve.length = xs.length := ie.length
  have hlen2 : va.length = ys.length := ia.length
  have hltf : ∀ b ∈ frOf envs, b < lm := fun b hb => by
    rw [← Fs.adr] at hb
    obtain ⟨q, hq, e⟩ := List.mem_map.mp hb
    exact e ▸ hlm q hq
  have hlulm : lm < lu := hlu.1
  have hLlm : lm ≠ s.heap.objs.size := (N0 (lm, listOf #[] 0) (.tail _ (.head _))).2.1
  have hLlu : lu ≠ s.heap.objs.size := (N0 (lu, listOf #[] 0) (.head _)).2.1
  have hlmf : lm ∉ frOf envs := fun q => Nat.lt_irrefl _ (hltf lm q)
  have hluf : lu ∉ frOf envs := fun q => Nat.lt_irrefl _ (Nat.lt_trans (hltf lu q) hlulm)
  refine wpAny_While ?_
  refine codeAny_whileLoop (fun n s₁ => ∃ i j ms us m, SI1 s.heap envs s.heap.objs.size lm lu le la i j ms us s₁.heap m ∧ (∃ h tk, s₁ = { s with heap := h, toks := tk }) ∧ i ≤ xs.length ∧ j ≤ ys.length ∧
    ms ++ (sd (xs.drop i) (ys.drop j)).1 = (sd xs ys).1 ∧ us ++ (sd (xs.drop i) (ys.drop j)).2 = (sd xs ys).2 ∧ n = (xs.length - i) + (ys.length - j)) ?_ (xs.length + ys.length)
    ⟨0, 0, [], [], _, ⟨[], [], 0, 0, frs, F0, N0, Fs, .nil, .nil, ⟨_, rfl⟩, ⟨_, rfl⟩, rfl, rfl, rfl, rfl⟩, ⟨_, _, rfl⟩, Nat.zero_le _, Nat.zero_le _, rfl, rfl, rfl⟩
  rintro n s₁ ⟨i, j, ms, us, m, ⟨vm, vu, n1, n2, frs1, S⟩, ⟨h, tk, rfl⟩, hi, hj, hM, hU, hn⟩
  obtain ⟨F, N, Fs1, im, iu, ⟨ti, mi⟩, ⟨tj, mj⟩, me, ma, mm, mu⟩ := S
  clear F0 N0
  ktr_unf
  refine goT ?_
  refine wpAny_Try_except ?_
  refine wpAny_mono (Q := fun f s₂ => Hd (f = .next ∧ ∃ i j ms us m, SI1 s.heap envs s.heap.objs.size lm lu le la i j ms us s₂.heap m ∧ (∃ h tk, s₂ = { s with heap := h, toks := tk }) ∧ i ≤ xs.length ∧ j ≤ ys.length ∧
    ms ++ (sd (xs.drop i) (ys.drop j)).1 = (sd xs ys).1 ∧ us ++ (sd (xs.drop i) (ys.drop j)).2 = (sd xs ys).2 ∧ (xs.length - i) + (ys.length - j) < n)) (E := XP s envs s.heap.objs.size lm lu le la xs ys) ?body ?hq ?hand
  case body =>
    ktr_unf
    refine goT ?_
    have hoff : OwnOff frs1 [lu, lm] := by
      intro q hq b hb
      have hq' := hltf q.1 (by rw [← Fs1.adr]; exact List.mem_map_of_mem hq)
      rcases List.mem_cons.mp hb with rfl | hb
      · exact Nat.ne_of_lt (Nat.lt_trans hq' hlulm)
      · rw [List.mem_singleton.mp hb]; exact Nat.ne_of_lt hq'
    have hvm : vm.length ≤ 100 := by
      have h1 := im.length; have h2 := congrArg List.length hM; have h3 := (sd_len xs ys).1
      rw [List.length_append] at h2; omega
    have hvu : vu.length ≤ 100 := by
      have h1 := iu.length; have h2 := congrArg List.length hU; have h3 := (sd_len xs ys).2
      rw [List.length_append] at h2; omega
    by_cases hix : i < xs.length
    · obtain ⟨te, hte⟩ := ie.get i xs[i] (by simp [hix])
      refine item_litK (stays_list F.keep he) (by omega) (by omega) hte ?_
      ktr_unf
      refine goT ?_
      rename_i h1 F1 N1
      by_cases hjy : j < ys.length
      · obtain ⟨ta, hta⟩ := ia.get j ys[j] (by simp [hjy])
        refine item_litK (stays_list F1.keep ha) (by omega) (by omega) hta ?_
        ktr_unf
        · refine goT ?_
          rename_i h2 F2 N2 hlt
          refine app_m F2 N2 (Nat.ne_of_gt hlulm) (hoff.ne (.tail _ (.head _))) (fun h3 F3 N3 => ?_) (by omega)
          ktr_unf
          refine goT ?_
          rename_i h4 F4 N4
          have hx1 : xs.drop i = xs[i] :: xs.drop (i + 1) := List.drop_eq_getElem_cons hix
          have hy1 : ys.drop j = ys[j] :: ys.drop (j + 1) := List.drop_eq_getElem_cons hjy
          have hM1 : (ms ++ [xs[i]]) ++ (sd (xs.drop (i + 1)) (ys.drop j)).1 = (sd xs ys).1 := by rw [← hM, hx1, hy1, sd_lt hlt]; simp
          have hU1 : us ++ (sd (xs.drop (i + 1)) (ys.drop j)).2 = (sd xs ys).2 := by rw [← hU, hx1, hy1, sd_lt hlt]
          have S4 : SI1 s.heap envs s.heap.objs.size lm lu le la (i + 1) j (ms ++ [xs[i]]) us h4 _ := ⟨_, _, _, _, _, F4, N4, Fs1, ints_snoc im, iu, ⟨_, rfl⟩, ⟨tj, mj⟩, me, ma, mm, mu⟩
          refine while_once ?_
          ktr_unf
          refine goT ?_
          by_cases hi1 : i + 1 < xs.length
          · obtain ⟨te1, hte1⟩ := ie.get (i + 1) xs[i + 1] (by simp [hi1])
            refine item_litK (stays_list F4.keep he) (by omega) (by omega) hte1 ?_
            have hne : ¬ (xs[i + 1] = xs[i]) := by have := List.pairwise_iff_getElem.mp hex i (i + 1) hix hi1 (by omega); omega
            ktr_unf
            refine Hd.mk ⟨decide_eq_false hne, ?_⟩
            ktr_unf
            exact Hd.mk ⟨rfl, i + 1, j, _, _, _, S4, ⟨_, _, rfl⟩, by omega, hj, hM1, hU1, by omega⟩
          · refine tail_out (hhA _) (stays_list F4.keep he) (by simp; omega) (by omega) fun h5 tk5 e5 hk5 hn5 hx5 => ?_
            refine si_fly (hfrA _) rfl rfl (Nat.le_refl _) B.frames hLlu hluf hLlm hlmf (S4.keeps hk5) (S4.off hn5) hx5 fun h6 T6 oT ex S6 => ?_
            have hd : xs.drop (i + 1) = [] := List.drop_eq_nil_of_le (by omega)
            rw [sd_end (.inl hd)] at hM1 hU1
            exact ⟨e5, _, i + 1, j, _, _, _, rfl, S4.off hn5, .inr ⟨T6, oT, ex⟩, S6, ⟨_, _, rfl⟩, by omega, hj, hM1, hU1⟩
        · refine goT ?_
          rename_i h2 F2 N2 hnlt hlt
          refine app_u F2 N2 (fun q hq => (List.mem_cons.mp hq).elim (fun e => by rw [e]; exact Nat.ne_of_lt hlulm) (hoff.ne (.head _) q)) (fun h3 F3 N3 => ?_) (by omega)
          ktr_unf
          refine goT ?_
          rename_i h4 F4 N4
          have hx1 : xs.drop i = xs[i] :: xs.drop (i + 1) := List.drop_eq_getElem_cons hix
          have hy1 : ys.drop j = ys[j] :: ys.drop (j + 1) := List.drop_eq_getElem_cons hjy
          have hM1 : ms ++ (sd (xs.drop i) (ys.drop (j + 1))).1 = (sd xs ys).1 := by rw [← hM, hx1, hy1, sd_gt hlt]
          have hU1 : (us ++ [ys[j]]) ++ (sd (xs.drop i) (ys.drop (j + 1))).2 = (sd xs ys).2 := by rw [← hU, hx1, hy1, sd_gt hlt]; simp
          have S4 : SI1 s.heap envs s.heap.objs.size lm lu le la i (j + 1) ms (us ++ [ys[j]]) h4 _ := ⟨_, _, _, _, _, F4, N4, Fs1, im, ints_snoc iu, ⟨ti, mi⟩, ⟨_, rfl⟩, me, ma, mm, mu⟩
          refine while_once ?_
          ktr_unf
          refine goT ?_
          by_cases hj1 : j + 1 < ys.length
          · obtain ⟨te1, hte1⟩ := ia.get (j + 1) ys[j + 1] (by simp [hj1])
            refine item_litK (stays_list F4.keep ha) (by omega) (by omega) hte1 ?_
            have hne : ¬ (ys[j + 1] = ys[j]) := by have := List.pairwise_iff_getElem.mp hay j (j + 1) hjy hj1 (by omega); omega
            ktr_unf
            refine Hd.mk ⟨decide_eq_false hne, ?_⟩
            ktr_unf
            exact Hd.mk ⟨rfl, i, j + 1, _, _, _, S4, ⟨_, _, rfl⟩, hi, by omega, hM1, hU1, by omega⟩
          · refine tail_out (hhA _) (stays_list F4.keep ha) (by simp; omega) (by omega) fun h5 tk5 e5 hk5 hn5 hx5 => ?_
            refine si_fly (hfrA _) rfl rfl (Nat.le_refl _) B.frames hLlu hluf hLlm hlmf (S4.keeps hk5) (S4.off hn5) hx5 fun h6 T6 oT ex S6 => ?_
            have hd : ys.drop (j + 1) = [] := List.drop_eq_nil_of_le (by omega)
            rw [sd_end (.inr hd)] at hM1 hU1
            exact ⟨e5, _, i, j + 1, _, _, _, rfl, S4.off hn5, .inr ⟨T6, oT, ex⟩, S6, ⟨_, _, rfl⟩, hi, by omega, hM1, hU1⟩
        · refine goT ?_
          rename_i hn1 hn2 h4 F4 N4
          have hxy : xs[i] = ys[j] := by omega
          have hx1 : xs.drop i = xs[i] :: xs.drop (i + 1) := List.drop_eq_getElem_cons hix
          have hy1 : ys.drop j = ys[j] :: ys.drop (j + 1) := List.drop_eq_getElem_cons hjy
          have hM1 : ms ++ (sd (xs.drop (i + 1)) (ys.drop (j + 1))).1 = (sd xs ys).1 := by rw [← hM, hx1, hy1, hxy, sd_eq]
          have hU1 : us ++ (sd (xs.drop (i + 1)) (ys.drop (j + 1))).2 = (sd xs ys).2 := by rw [← hU, hx1, hy1, hxy, sd_eq]
          refine wpAny_Try_finally ?_
          ktr_unf
          refine goT ?_
          refine while_once ?_
          ktr_unf
          refine goT ?_
          by_cases hi1 : i + 1 < xs.length
          · obtain ⟨te1, hte1⟩ := ie.get (i + 1) xs[i + 1] (by simp [hi1])
            refine item_litK (stays_list F4.keep he) (by omega) (by omega) hte1 ?_
            have hne : ¬ (xs[i + 1] = xs[i]) := by have := List.pairwise_iff_getElem.mp hex i (i + 1) hix hi1 (by omega); omega
            ktr_unf
            refine Hd.mk ⟨decide_eq_false hne, ?_⟩
            ktr_unf
            refine goT ?_
            rename_i h5 F5 N5
            have S5 : SI1 s.heap envs s.heap.objs.size lm lu le la (i + 1) (j + 1) ms us h5 _ := ⟨_, _, _, _, _, F5, N5, Fs1, im, iu, ⟨_, rfl⟩, ⟨_, rfl⟩, me, ma, mm, mu⟩
            refine while_once ?_
            ktr_unf
            refine goT ?_
            by_cases hj1 : j + 1 < ys.length
            · obtain ⟨te2, hte2⟩ := ia.get (j + 1) ys[j + 1] (by simp [hj1])
              refine item_litK (stays_list F5.keep ha) (by omega) (by omega) hte2 ?_
              have hne : ¬ (ys[j + 1] = ys[j]) := by have := List.pairwise_iff_getElem.mp hay j (j + 1) hjy hj1 (by omega); omega
              ktr_unf
              refine Hd.mk ⟨decide_eq_false hne, ?_⟩
              ktr_unf
              exact Hd.mk ⟨rfl, i + 1, j + 1, _, _, _, S5, ⟨_, _, rfl⟩, by omega, by omega, hM1, hU1, by omega⟩
            · refine tail_out (hhA _) (stays_list F5.keep ha) (by simp; omega) (by omega) fun h6 tk6 e6 hk6 hn6 hx6 => ?_
              refine si_fly (hfrA _) rfl rfl (Nat.le_refl _) B.frames hLlu hluf hLlm hlmf (S5.keeps hk6) (S5.off hn6) hx6 fun h7 T7 oT ex S7 => ?_
              refine si_again rfl S7 oT ex fun h8 ex8 S8 => ?_
              have hd : ys.drop (j + 1) = [] := List.drop_eq_nil_of_le (by omega)
              rw [sd_end (.inr hd)] at hM1 hU1
              exact ⟨e6, _, i + 1, j + 1, _, _, _, rfl, S5.off hn6, .inr ⟨T7, oT, ex8⟩, S8, ⟨_, _, rfl⟩, by omega, by omega, hM1, hU1⟩
          · have hd : xs.drop (i + 1) = [] := List.drop_eq_nil_of_le (by omega)
            rw [sd_end (.inl hd)] at hM1 hU1
            have S4 : SI1 s.heap envs s.heap.objs.size lm lu le la (i + 1) j ms us h4 _ := ⟨_, _, _, _, _, F4, N4, Fs1, im, iu, ⟨_, rfl⟩, ⟨tj, mj⟩, me, ma, mm, mu⟩
            refine tail_out (hhA _) (stays_list F4.keep he) (by simp; omega) (by omega) fun h5 tk5 e5 hk5 hn5 hx5 => ?_
            refine si_fly (hfrA _) rfl rfl (Nat.le_refl _) B.frames hLlu hluf hLlm hlmf (S4.keeps hk5) (S4.off hn5) hx5 fun h6 T6 oT ex S6 => ?_
            refine note_again rfl ex ?_
            refine ⟨ref_ne_byPass _, ?_⟩
            refine note_again rfl ex ?_
            refine flight_set ex fun h7 xr7 ex7 => ?_
            have S7 := S6.xrel (base := base) xr7 oT (fun _ h => nomatch h) (fun h => nomatch h) fun h => nomatch h
            have off5 := S4.off hn5
            obtain ⟨vm7, vu7, n17, n27, frs7, F7, N7, Fs7, im7, iu7, -, -, -, -, -, -⟩ := S7
            obtain ⟨oe, vs, oT7, ts, ge, gc, gd, g1, g2, gTe, gT, gdT, g3⟩ := ex7
            have N7' : News (gst s.heap envs) s.heap.objs.size h7 ((e5, oe) :: (T6, oT7) :: (lu, listOf vu7.toArray n27) :: (lm, listOf vm7.toArray n17) :: frs7) := by
              intro q hq
              rcases List.mem_cons.mp hq with rfl | hq
              · exact ⟨ge, off5.loc, off5.base⟩
              · rcases List.mem_cons.mp hq with rfl | hq
                · exact ⟨gT, oT.loc, oT.base⟩
                · exact N7 q hq
            clear N7
            ktr_unf
            refine goT ?_
            rename_i h8 F8 N8
            have S8 : SI1 s.heap envs s.heap.objs.size lm lu le la (i + 1) (j + 1) ms us h8 _ := ⟨_, _, _, _, _, F8, fun q hq => N8 q (.tail _ (.tail _ hq)), Fs7, im7, iu7, ⟨_, rfl⟩, ⟨_, rfl⟩, me, ma, mm, mu⟩
            have ex8 : ExS h8 e5 T6 .none .none := ⟨oe, vs, oT7, ts, (N8 (e5, oe) (.head _)).1, gc, gd, g1, g2, gTe, (N8 (T6, oT7) (.tail _ (.head _))).1, gdT, g3⟩
            refine while_once ?_
            ktr_unf
            refine goT ?_
            by_cases hj1 : j + 1 < ys.length
            · obtain ⟨te2, hte2⟩ := ia.get (j + 1) ys[j + 1] (by simp [hj1])
              refine item_litK (stays_list F8.keep ha) (by omega) (by omega) hte2 ?_
              have hne : ¬ (ys[j + 1] = ys[j]) := by have := List.pairwise_iff_getElem.mp hay j (j + 1) hjy hj1 (by omega); omega
              ktr_unf
              refine Hd.mk ⟨decide_eq_false hne, ?_⟩
              ktr_unf
              refine pass_on ex8 fun h9 xr9 ex9 => ?_
              exact ⟨e5, _, i + 1, j + 1, _, _, _, rfl, off5, .inr ⟨T6, oT, ex9⟩, S8.xrel (base := base) xr9 oT (fun _ h => nomatch h) (fun h => nomatch h) (fun h => nomatch h), ⟨_, _, rfl⟩, by omega, by omega, hM1, hU1⟩
            · refine tail_out_under rfl (N8 (e5, oe) (.head _)).1 gd g2 (stays_list F8.keep ha) (by simp; omega) (by omega) fun h9 tk9 e9 hk9 hn9 hx9 => ?_
              refine si_fly (hfrA _) rfl rfl (Nat.le_refl _) B.frames hLlu hluf hLlm hlmf (S8.keeps hk9) (S8.off hn9) hx9 fun h10 T10 oT10 ex10 S10 => ?_
              refine si_again rfl S10 oT10 ex10 fun h11 ex11 S11 => ?_
              exact ⟨e9, _, i + 1, j + 1, _, _, _, rfl, S8.off hn9, .inr ⟨T10, oT10, ex11⟩, S11, ⟨_, _, rfl⟩, by omega, by omega, hM1, hU1⟩
      · refine tail_out (hhA _) (stays_list F1.keep ha) (by simp; omega) (by omega) fun h5 tk5 e5 hk5 hn5 hx5 => ?_
        have S1 : SI1 s.heap envs s.heap.objs.size lm lu le la i j ms us h1 _ := ⟨_, _, _, _, _, F1, N1, Fs1, im, iu, ⟨ti, mi⟩, ⟨tj, mj⟩, me, ma, mm, mu⟩
        have hd : ys.drop j = [] := List.drop_eq_nil_of_le (by omega)
        rw [sd_end (.inr hd)] at hM hU
        exact ⟨e5, _, i, j, _, _, _, rfl, S1.off hn5, .inl hx5, S1.keeps hk5, ⟨_, _, rfl⟩, hi, hj, hM, hU⟩
    · refine tail_out (hhA _) (stays_list F.keep he) (by simp; omega) (by omega) fun h5 tk5 e5 hk5 hn5 hx5 => ?_
      have S1 : SI1 s.heap envs s.heap.objs.size lm lu le la i j ms us h _ := ⟨_, _, _, _, _, F, N, Fs1, im, iu, ⟨ti, mi⟩, ⟨tj, mj⟩, me, ma, mm, mu⟩
      have hd : xs.drop i = [] := List.drop_eq_nil_of_le (by omega)
      rw [sd_end (.inl hd)] at hM hU
      exact ⟨e5, _, i, j, _, _, _, rfl, S1.off hn5, .inl hx5, S1.keeps hk5, ⟨_, _, rfl⟩, hi, hj, hM, hU⟩
  case hq =>
    rintro f s₂ hf
    obtain ⟨rfl, i2, j2, ms2, us2, m2, S2, hs2, hi2, hj2, hM2, hU2, hn2⟩ := hf.out
    exact wpAny_execs_nil (wpAny_execs_nil ⟨_, hn2, i2, j2, ms2, us2, m2, S2, hs2, hi2, hj2, hM2, hU2, rfl⟩)
  case hand =>
    rintro e s₂ ⟨a, c, i2, j2, ms2, us2, m2, rfl, off, hx, S2, ⟨h2, tk2, rfl⟩, hi2, hj2, hM2, hU2⟩
    clear F N Fs1 im iu me ma mm mu mi mj
    refine si_note (hfrA _) rfl rfl (Nat.le_refl _) B.frames hLlu hluf hLlm hlmf S2 off hx fun h3 T3 oT ex3 S3 => ?_
    refine flight_set ex3 fun h4 xr4 ex4 => ?_
    have S4 := S3.xrel (base := base) xr4 oT (fun _ h => nomatch h) (fun h => nomatch h) (fun h => nomatch h)
    obtain ⟨oe, vs, oT7, ts, ge, gc, gd, g1, g2, gTe, gT, gdT, g3⟩ := id ex4
    refine wpAny_handleBy_builtin (X := "IndexError") (T := "IndexError") (b := true) (by kernel_rfl) (by kernel_rfl) (by kernel_rfl) ?_
    obtain ⟨vm4, vu4, n14, n24, frs4, F4, N4, Fs4, im4, iu4, ⟨ti4, mi4⟩, ⟨tj4, mj4⟩, me4, ma4, mm4, mu4⟩ := id S4
    refine name_B F4 X' (topRead_of T') (by k_is) (by boot_by_name) (by decide) ⟨rfl, ⟨oe, ge, gc⟩, ?_⟩
    simp only [if_true]
    refine flight_set ex4 fun h5 xr5 ex5 => ?_
    have S5 := S4.xrel (base := base) xr5 oT (fun _ h => nomatch h) (fun h => nomatch h) (fun h => nomatch h)
    clear F4 N4 Fs4 im4 iu4 me4 ma4 mm4 mu4 mi4 mj4
    obtain ⟨vm5, vu5, n15, n25, frs5, F5, N5, Fs5, im5, iu5, ⟨ti5, mi5⟩, ⟨tj5, mj5⟩, me5, ma5, mm5, mu5⟩ := S5
    ktr_unf
    refine goT ?_
    refine kmk_slice_ints F5 N5 (stays_list F5.keep he) (IsPart.int _ _) IsPart.none ie (kmk_from ie (by omega)) rfl (fun D1 ws1 h6 F6 N6 lt1 iw1 hc1 hl1 => ?_) (by with_unfolding_all rfl) (by intro _; with_unfolding_all rfl) (by simp only [List.size_toArray, sizeLine_eq]; omega)
    ktr_unf
    refine goT ?_
    have hoff : ∀ q ∈ frs5, q.1 < lm := fun q hq => hltf q.1 (by rw [← Fs5.adr]; exact List.mem_map_of_mem hq)
    have hm5 : vm5.length ≤ 100 := by
      have h1 := im5.length; have h2 := congrArg List.length hM2; have h3 := (sd_len xs ys).1
      rw [List.length_append] at h2; omega
    have hu5 : vu5.length ≤ 100 := by
      have h1 := iu5.length; have h2 := congrArg List.length hU2; have h3 := (sd_len xs ys).2
      rw [List.length_append] at h2; omega
    have hw1 : ws1.length ≤ 100 := by have := iw1.length; omega
    have hD1 : lm < D1 := lt1 (lm, listOf vm5.toArray n15) (.tail _ (.head _))
    have hD1u : lu < D1 := lt1 (lu, listOf vu5.toArray n25) (.head _)
    refine extend_in (own := [(D1, listOf ws1.toArray 0), (lu, listOf vu5.toArray n25)]) F6 N6 (apart2 (Nat.ne_of_gt hD1) (Nat.ne_of_gt hlulm)) (fun q hq => Nat.ne_of_lt (hoff q hq)) (N6 _ (.head _)).1 (fun h7 n7 F7 N7 => ?_) (by simp only [List.size_toArray, sizeLine_eq]; omega)
    ktr_unf
    refine goT ?_
    refine kmk_slice_ints F7 N7 (stays_list F7.keep ha) (IsPart.int _ _) IsPart.none ia (kmk_from ia (by omega)) rfl (fun D2 ws2 h8 F8 N8 lt2 iw2 hc2 hl2 => ?_) (by with_unfolding_all rfl) (by intro _; with_unfolding_all rfl) (by simp only [List.size_toArray, sizeLine_eq]; omega)
    ktr_unf
    refine goT ?_
    have hw2 : ws2.length ≤ 100 := by have := iw2.length; omega
    have hD2 : D1 < D2 := lt2 (D1, listOf ws1.toArray 0) (.head _)
    refine extend_in (own := [(D2, listOf ws2.toArray 0), (D1, listOf ws1.toArray 0)]) F8 N8 (apart2 (Nat.ne_of_gt (Nat.lt_trans hD1u hD2)) (Nat.ne_of_gt hD1u)) (fun q hq => (List.mem_cons.mp hq).elim (fun e => by rw [e]; exact Nat.ne_of_lt hlulm) fun hq => Nat.ne_of_lt (Nat.lt_trans (hoff q hq) hlulm)) (N8 _ (.head _)).1 (fun h9 n9 F9 N9 => ?_) (by simp only [List.size_toArray, sizeLine_eq]; omega)
    ktr_unf
    rename_i lt h10 F10 N10 l10
    have hfr : ∀ b ∈ frOf envs, ∃ q ∈ frs5, q.1 = b := fun b hb => by
      rw [← Fs5.adr] at hb
      exact List.mem_map.mp hb
    have hnew : ∀ b, (gst s.heap envs).get? b = none → b ∉ frOf envs → s.heap.get? b = none := fun b hb hn => by
      cases q : s.heap.get? b with
      | none => rfl
      | some o => have := hideAll_get (frOf envs) q hn; rw [hb] at this; cases this
    have hkeep : ∀ b o, s.heap.get? b = some o → b ∉ frOf envs → h10.get? b = some o := fun b o e hn => F10.keep b o (hideAll_get _ e hn)
    have zt := N10 _ (.head _)
    have zu := N10 _ (.tail _ (.tail _ (.tail _ (.head _))))
    have zm := N10 _ (.tail _ (.tail _ (.tail _ (.tail _ (.head _)))))
    have hlt : lu < lt := l10.2.2.1
    have hltm : lm < lt := l10.2.2.2.1
    simp only [List.toList_toArray] at zu zm
    refine ret h10 _ lm lu lt _ _ _ _ hkeep (fun b o e => ?_) (hnew lm zm.2.2 hlmf) (hnew lu zu.2.2 hluf) (hnew lt zt.2.2 fun q => ?_) hlulm hlt zm.1 zu.1 ?_ ?_ zt.1
    · by_cases hn : b ∈ frOf envs
      · obtain ⟨q, hq, rfl⟩ := hfr b hn
        obtain ⟨o', ho', sl, e'⟩ := Fs5.old q hq
        rw [e] at ho'
        cases ho'
        exact ⟨sl, by rw [← e']; exact (N10 q (.tail _ (.tail _ (.tail _ (.tail _ (.tail _ hq)))))).1⟩
      · exact ⟨o.slots, hkeep b o e hn⟩
    · exact Nat.lt_irrefl _ (Nat.lt_trans (hltf lt q) hltm)
    · rw [← hM2]; exact ints_append im5 iw1
    · rw [← hU2]; exact ints_append iu5 iw2
end Mine
namespace Mine
section
variable {w : World} {p : Program} {loose : List Str} {mean : ExcName → Option Value} {mg mb : Str → Option Value} {A : Around} {s : Shared} {E : Value → Shared → Prop} {Q : Value → Shared → Prop}
  {name qual : Str} {params : Arguments} {body : List Stmt} {scope : Scope} {dV kV doc pm cdv ct oc : Value} {an od : Option Addr} {osl : Array (Option Value)} {f : Addr} {pos : List Value} {kw : List (Str × Value)} {binds : List (Str × Value)} {G : Heap} {led : List (Addr × Obj)}

/-- a call upon a base and a ledger -/
theorem enterL (hG : G.StaysIn s.heap) (hGs : G.objs.size ≤ s.heap.objs.size) (hled : ∀ q ∈ led, s.heap.get? q.1 = some q.2 ∧ G.get? q.1 = none) (X : (hd.heap_39 w.params).In G) (T : Top p loose mean mg mb G)
    (ho : (hd.heap_39 w.params).lookup f = some ⟨oc, od, .func (fnOf name qual params body scope dV kV doc pm an cdv ct), osl⟩) (hcd : codeIn (hd.heap_39 w.params) cdv qual = true) (hroom : A.depth < recursionLimit)
    (hbind : BindsTo s (fnOf name qual params body scope dV kV doc pm an cdv ct) ⟨pos, kw⟩ binds) (hloc : ∀ y ∈ binds, scope.names.lookup y.1 = some .local)
    (h : ∀ h₁, Fr G s.heap.objs.size h₁ (fun y => binds.reverse.lookup y) → News G s.heap.objs.size h₁ led → s.heap.StaysIn h₁ →
      wpAny (model PySem.Challenge.rw_oc0028_01.row.prog w) (A.deeper (envOf qual scope s.heap.objs.size f cdv)) (execs body (envOf qual scope s.heap.objs.size f cdv))
        (fun fl s' => Q (match fl with | .ret v => v | _ => .none) s')
        (fun e s' => wpAny (model PySem.Challenge.rw_oc0028_01.row.prog w) (A.deeper (envOf qual scope s.heap.objs.size f cdv)) (leaving (envOf qual scope s.heap.objs.size f cdv) e) (fun _ s'' => E e s'') (fun e' s'' => E e' s'') s')
        { s with heap := h₁, toks := s.toks + binds.length })
    (hco : scope.isCoroutine = false) (hgen : scope.isGenerator = false) (hk : scope.kind = .function)
    (hcell : ∀ x ∈ scope.names, x.2 ≠ .cell) : wpAny (model PySem.Challenge.rw_oc0028_01.row.prog w) A (call (.ref f) pos kw) Q E s :=
  enter (X.keeps hG) (T.keeps hG) ho hcd hroom hbind hloc (fun h₁ F => h h₁ ⟨F.ns, fun b o e => F.keep b o (hG b o e), hGs⟩ (fun q hq => ⟨F.keep _ _ (hled q hq).1, Nat.ne_of_lt (Heap.lt_size (hled q hq).1), (hled q hq).2⟩) F.keep) hco hgen hk hcell

/-- the same, for a def with cells -/
theorem enterC (hG : G.StaysIn s.heap) (hGs : G.objs.size ≤ s.heap.objs.size) (hled : ∀ q ∈ led, s.heap.get? q.1 = some q.2 ∧ G.get? q.1 = none) (X : (hd.heap_39 w.params).In G) (T : Top p loose mean mg mb G)
    (ho : (hd.heap_39 w.params).lookup f = some ⟨oc, od, .func (fnOf name qual params body scope dV kV doc pm an cdv ct), osl⟩) (hcd : codeIn (hd.heap_39 w.params) cdv qual = true) (hroom : A.depth < recursionLimit)
    (hbind : BindsTo s (fnOf name qual params body scope dV kV doc pm an cdv ct) ⟨pos, kw⟩ binds) (hkind : (binds.all fun y => scope.names.lookup y.1 == some .local || scope.names.lookup y.1 == some .cell) = true)
    (hnd : ((cellsFrom 0 scope.names []).map (·.1)).Nodup)
    (h : ∀ h₁ tk cells, Fr G s.heap.objs.size h₁ (bindL (envOfC qual scope s.heap.objs.size f cdv).kindOf binds fun _ => none) → News G s.heap.objs.size h₁ (cells ++ led) → s.heap.StaysIn h₁ →
      CellsAre (bindC (envOfC qual scope s.heap.objs.size f cdv).kindOf binds fun _ => none) (cellsFrom (s.heap.objs.size + 1) scope.names []) cells → (∀ q ∈ led, q.1 < s.heap.objs.size) →
      wpAny (model PySem.Challenge.rw_oc0028_01.row.prog w) (A.deeper (envOfC qual scope s.heap.objs.size f cdv)) (execs body (envOfC qual scope s.heap.objs.size f cdv))
        (fun fl s' => Q (match fl with | .ret v => v | _ => .none) s')
        (fun e s' => wpAny (model PySem.Challenge.rw_oc0028_01.row.prog w) (A.deeper (envOfC qual scope s.heap.objs.size f cdv)) (leaving (envOfC qual scope s.heap.objs.size f cdv) e) (fun _ s'' => E e s'') (fun e' s'' => E e' s'') s')
        { s with heap := h₁, toks := tk })
    (hco : scope.isCoroutine = false) (hgen : scope.isGenerator = false) (hk : scope.kind = .function) : wpAny (model PySem.Challenge.rw_oc0028_01.row.prog w) A (call (.ref f) pos kw) Q E s := by
  refine wpAny_call ?_
  have X' := X.keeps hG
  refine codeAny_call_function hroom (X' _ _ ho) rfl hco hgen rfl (codeRec_of X' hcd) (hbind _ _ _ _ ?_)
  refine wpAny_newFunctionEnv_cells hk (kindsX hkind _) fun env' he s' x => ?_
  subst he
  refine ⟨(T.nolimit.keeps hG).keeps x.toInCall.keep, codeAny_func ?_⟩
  obtain ⟨h₁, tk, rfl, _⟩ := x.done
  have hk₁ := x.toInCall.keep
  obtain ⟨cells, NC, Y⟩ := Cl.news (h₀ := s.heap) (Nat.le_refl _) fun n c hm => ⟨x.cell n c (lookup_of_mem_nodup (cellsFrom_names scope.names 0 (s.heap.objs.size + 1) [] [] rfl ▸ hnd) hm), x.above n c hm⟩
  refine h h₁ tk cells ⟨x.toInCall.ns, fun b o e => hk₁ b o (hG b o e), hGs⟩ (fun q hq => ?_) hk₁ Y (fun q hq => Heap.lt_size (hled q hq).1)
  rcases List.mem_append.mp hq with hq | hq
  · refine ⟨(NC q hq).1, (NC q hq).2.1, ?_⟩
    cases z : G.get? q.1 with
    | none => rfl
    | some o => have := hG _ _ z; rw [(NC q hq).2.2] at this; cases this
  · exact ⟨hk₁ _ _ (hled q hq).1, Nat.ne_of_lt (Heap.lt_size (hled q hq).1), (hled q hq).2⟩
end
end Mine
namespace Mine

def pV (pz : Int → Bool) : Value → Bool
  | .int k _ => pz k
  | _ => false
def FV (f : Int → Int) : Value → Value → Prop
  | .int k _, y => ∃ t, y = .int (f k) t
  | _, _ => False

theorem ints_of_paired {pz : Int → Bool} {f : Int → Int} : ∀ {vs : List Value} {ks : List Int} {ys : List Value}, IntsAre vs ks → Paired (FV f) (vs.filter (pV pz)) ys → IntsAre ys ((ks.filter pz).map f)
  | _, _, _, .nil, .nil => .nil
  | _, _, _, .cons (vs := vs) (ns := ns) n t r, hp => by
    cases hq : pz n with
    | false =>
      have e1 : (Value.int n t :: vs).filter (pV pz) = vs.filter (pV pz) := by simp [pV, hq]
      have e2 : (n :: ns).filter pz = ns.filter pz := by simp [hq]
      rw [e1] at hp
      rw [e2]
      exact ints_of_paired r hp
    | true =>
      have e1 : (Value.int n t :: vs).filter (pV pz) = .int n t :: vs.filter (pV pz) := by simp [pV, hq]
      have e2 : (n :: ns).filter pz = n :: ns.filter pz := by simp [hq]
      rw [e1] at hp
      rw [e2]
      cases hp with
      | cons h hr =>
        obtain ⟨u, rfl⟩ := h
        exact .cons _ _ (ints_of_paired r hr)

theorem ints_of_get : ∀ {vs : List Value} {ks : List Int}, vs.length = ks.length → (∀ (j : Nat) v, vs[j]? = some v → ∃ k t, ks[j]? = some k ∧ v = .int k t) → IntsAre vs ks
  | [], [], _, _ => .nil
  | [], _ :: _, h, _ => by simp at h
  | _ :: _, [], h, _ => by simp at h
  | v :: vs, k :: ks, h, hg => by
    obtain ⟨k', t, h1, h2⟩ := hg 0 v rfl
    simp at h1
    subst h1 h2
    exact .cons _ _ (ints_of_get (by simpa using h) fun j v hj => hg (j + 1) v (by simpa using hj))

section
variable {prog : Program} {w : World} {A : Around} {E : Value → Shared → Prop} {env : Env} {s₁ : Shared} {scope : Scope} {cl : List (Str × Addr)} {x : Str} {ifs : List PySem.Expr} {elt : PySem.Expr} {Q : Value → Shared → Prop} {o : Obj}
  {fp : List Addr} {n : Nat} {P : Nat → Value → Prop} {St : Nat → Heap → Prop} {ks : List Int} {pz : Int → Bool} {f : Int → Int}

/-- what a comprehension of ints wants of its test and its element -/
structure CQ (prog : Program) (w : World) (A : Around) (env : Env) (scope : Scope) (cl : List (Str × Addr)) (x : Str) (ifs : List PySem.Expr) (elt : PySem.Expr) (ks : List Int) (pz : Int → Bool) (f : Int → Int) (s₁ : Shared) : Prop where
  tests : ∀ C k t s₃ m₃ E', s₁.heap.objs.size < C → k ∈ ks → s₃.heap.Ns C m₃ → m₃ x = some (.int k t) → s₁.heap.StaysIn s₃.heap →
    wpAny (model prog w) A (forIn ifs true fun c r => if r = true then do let ok ← isTrue c (compEnvC scope cl C env) (eval c (compEnvC scope cl C env)); pure (ForInStep.yield ok) else pure (ForInStep.yield r))
      (fun ok s₄ => ok = pz k ∧ Keeps s₃ s₄) E' s₃
  elt : ∀ C k t s₃ m₃ E', s₁.heap.objs.size < C → k ∈ ks → pz k = true → s₃.heap.Ns C m₃ → m₃ x = some (.int k t) → s₁.heap.StaysIn s₃.heap →
    wpAny (model prog w) A (eval elt (compEnvC scope cl C env)) (fun y s₄ => (∃ u, y = .int (f k) u) ∧ Keeps s₃ s₄) E' s₃

theorem src_ex (W : Walks prog w A s₁.heap.objs.size fp [s₁.heap.objs.size] n P St) (hn : n = ks.length) (hP : ∀ i v, P i v → ∃ k t, ks[i]? = some k ∧ v = .int k t) (hst : St 0 (s₁.heap.push o)) (hfp : ∀ b ∈ fp, b < s₁.heap.objs.size + 1) (hsz : n ≤ sizeLine)
    (q : CQ prog w A env scope cl x ifs elt ks pz f s₁)
    (done : ∀ D h' tk ys c, s₁.heap.get? D = none → h'.get? D = some (listOf (List.toArray ys) c) → IntsAre ys ((ks.filter pz).map f) → s₁.heap.StaysIn h' → Q (.ref D) { s₁ with heap := h', toks := tk }) :
    ∃ I fp wr n P St, Value.ref s₁.heap.objs.size = .ref I ∧ Walks prog w A I fp wr n P St ∧ n ≤ sizeLine ∧ St 0 (s₁.heap.push o) ∧ (∀ b ∈ fp, b < (s₁.heap.push o).objs.size) ∧
      QuietOnC prog w A env scope cl x ifs elt wr P (pV pz) (FV f) { s₁ with heap := s₁.heap.push o } ∧
      (∀ D h' tk ys (vs : List Value), (s₁.heap.push o).get? D = none → h'.IsList D ys → h'.PlainList D ys → vs.length = n → (∀ j v, vs[j]? = some v → P j v) → Paired (FV f) (vs.filter (pV pz)) ys.toList →
        (∀ b o', b ∉ wr → (s₁.heap.push o).get? b = some o' → h'.get? b = some o') → Q (.ref D) { s₁ with heap := h', toks := tk }) := by
  have hs : (s₁.heap.push o).objs.size = s₁.heap.objs.size + 1 := Heap.size_push ..
  have keep : ∀ (h : Heap), (∀ b o', b ∉ [s₁.heap.objs.size] → (s₁.heap.push o).get? b = some o' → h.get? b = some o') → s₁.heap.StaysIn h := fun h hk b o' e =>
    hk b o' (fun hm => by rw [List.mem_singleton.mp hm] at e; exact absurd (Heap.lt_size e) (Nat.lt_irrefl _)) (Heap.get?_push_of_some _ e)
  refine ⟨_, fp, [s₁.heap.objs.size], n, P, St, rfl, W, hsz, hst, fun b hb => by rw [hs]; exact hfp b hb, ⟨?_, ?_⟩, ?_⟩
  · intro C i v s₃ m₃ E' hC hPv hns hm hk _
    obtain ⟨k, t, hk', rfl⟩ := hP i v hPv
    exact q.tests C k t s₃ m₃ E' (by rw [hs] at hC; exact hC) (List.mem_of_getElem? hk') hns hm (keep _ hk)
  · intro C i v s₃ m₃ E' hC hPv hp hns hm hk _
    obtain ⟨k, t, hk', rfl⟩ := hP i v hPv
    exact q.elt C k t s₃ m₃ E' (by rw [hs] at hC; exact hC) (List.mem_of_getElem? hk') hp hns hm (keep _ hk)
  · intro D h' tk ys vs hD _ hpl hlen hPv hpair hk
    obtain ⟨c, hpl⟩ := hpl
    have hD' : s₁.heap.get? D = none := by
      cases z : s₁.heap.get? D with
      | none => rfl
      | some o' => have := Heap.get?_push_of_some o z; rw [hD] at this; cases this
    refine done D h' tk ys.toList c hD' (by simpa using hpl) (ints_of_paired (ints_of_get (hlen.trans hn) fun j v hj => hP j v (hPv j v hj)) hpair) (keep _ hk)

theorem src_list {l : Addr} {vs : List Value} (hh : A.handled = none) (hl : s₁.heap.IsList l vs.toArray) (hi : IntsAre vs ks) (hsz : ks.length ≤ sizeLine)
    (q : CQ prog w A env scope cl x ifs elt ks pz f s₁)
    (done : ∀ D h' tk ys c, s₁.heap.get? D = none → h'.get? D = some (listOf (List.toArray ys) c) → IntsAre ys ((ks.filter pz).map f) → s₁.heap.StaysIn h' → Q (.ref D) { s₁ with heap := h', toks := tk }) :
    wpAny (model prog w) A (pyIter (.ref l)) (fun it s₂ => ∃ I fp wr n P St, it = .ref I ∧ Walks prog w A I fp wr n P St ∧ n ≤ sizeLine ∧ St 0 s₂.heap ∧ (∀ b ∈ fp, b < s₂.heap.objs.size) ∧
      QuietOnC prog w A env scope cl x ifs elt wr P (pV pz) (FV f) s₂ ∧
      (∀ D h' tk ys (vs : List Value), s₂.heap.get? D = none → h'.IsList D ys → h'.PlainList D ys → vs.length = n → (∀ j v, vs[j]? = some v → P j v) → Paired (FV f) (vs.filter (pV pz)) ys.toList →
        (∀ b o, b ∉ wr → s₂.heap.get? b = some o → h'.get? b = some o) → Q (.ref D) { s₂ with heap := h', toks := tk })) E s₁ := by
  obtain ⟨ol, hol, _⟩ := id hl
  have hlt := Heap.lt_size hol
  refine wpAny_pyIter_list hl ?_
  refine src_ex (Walks.list hh s₁.heap.objs.size l (Nat.ne_of_lt hlt) vs.toArray) (by simp [hi.length]) ?_ ⟨⟨_, Heap.get?_push_size _ rfl, rfl, rfl⟩, hl.at fun o e => Heap.get?_push_of_some _ e⟩ ?_ (by rw [List.size_toArray, hi.length]; exact hsz) q done
  · intro i v hv
    have hv' : vs[i]? = some v := by simpa using hv
    have hi' : i < vs.length := by
      rcases Nat.lt_or_ge i vs.length with h | h
      · exact h
      · rw [List.getElem?_eq_none h] at hv'; cases hv'
    have hi2 : i < ks.length := hi.length ▸ hi'
    obtain ⟨t, ht⟩ := hi.get i ks[i] (by simp [hi2])
    rw [hv'] at ht
    exact ⟨ks[i], t, by simp [hi2], Option.some.inj ht⟩
  · intro b hb
    rcases List.mem_cons.mp hb with rfl | hb
    · exact Nat.lt_succ_self _
    · rw [List.mem_singleton.mp hb]; exact Nat.lt_succ_of_lt hlt

theorem src_dict {d : Addr} {kvs : List (Int × Value)} (hh : A.handled = none) (hd : (d == sysModules) = false) (hl : s₁.heap.DictOf (intKind prog w) d kvs) (hsz : kvs.length ≤ sizeLine)
    (q : CQ prog w A env scope cl x ifs elt (kvs.map (·.1)) pz f s₁)
    (done : ∀ D h' tk ys c, s₁.heap.get? D = none → h'.get? D = some (listOf (List.toArray ys) c) → IntsAre ys (((kvs.map (·.1)).filter pz).map f) → s₁.heap.StaysIn h' → Q (.ref D) { s₁ with heap := h', toks := tk }) :
    wpAny (model prog w) A (pyIter (.ref d)) (fun it s₂ => ∃ I fp wr n P St, it = .ref I ∧ Walks prog w A I fp wr n P St ∧ n ≤ sizeLine ∧ St 0 s₂.heap ∧ (∀ b ∈ fp, b < s₂.heap.objs.size) ∧
      QuietOnC prog w A env scope cl x ifs elt wr P (pV pz) (FV f) s₂ ∧
      (∀ D h' tk ys (vs : List Value), s₂.heap.get? D = none → h'.IsList D ys → h'.PlainList D ys → vs.length = n → (∀ j v, vs[j]? = some v → P j v) → Paired (FV f) (vs.filter (pV pz)) ys.toList →
        (∀ b o, b ∉ wr → s₂.heap.get? b = some o → h'.get? b = some o) → Q (.ref D) { s₂ with heap := h', toks := tk })) E s₁ := by
  obtain ⟨ep, hat⟩ := hl.dictAt
  have hlt := hat.lt_size
  refine wpAny_pyIter_dict hd hat ?_
  refine src_ex (Walks.dictKeys (knd := intKind prog w) hh s₁.heap.objs.size d (Nat.ne_of_lt hlt) kvs ep) (by simp) ?_ ⟨⟨_, Heap.get?_push_size _ rfl, rfl, rfl⟩, hat.push _⟩ ?_ hsz q done
  · rintro i v ⟨k, xv, hk, hv⟩
    obtain ⟨t, rfl⟩ := Value.isInt_shape hv
    exact ⟨k, t, by simp [hk], rfl⟩
  · intro b hb
    rcases List.mem_cons.mp hb with rfl | hb
    · exact Nat.lt_succ_self _
    · rw [List.mem_singleton.mp hb]; exact Nat.lt_succ_of_lt hlt

def rangeL (a c : Int) (n : Nat) : List Int := (List.range n).map fun (i : Nat) => a + (i : Int) * c
theorem src_range {r : Addr} {a b c : Int} {t u v : Tok} (hh : A.handled = none) (hr : IsRange s₁.heap r a b c t u v) (hsmall : Builtin.Range.small a b c = true) (hn : Builtin.Range.rangeSize a b c = (n : Int)) (hsz : n ≤ sizeLine)
    (q : CQ prog w A env scope cl x ifs elt (rangeL a c n) pz f s₁)
    (done : ∀ D h' tk ys c', s₁.heap.get? D = none → h'.get? D = some (listOf (List.toArray ys) c') → IntsAre ys (((rangeL a c n).filter pz).map f) → s₁.heap.StaysIn h' → Q (.ref D) { s₁ with heap := h', toks := tk }) :
    wpAny (model prog w) A (pyIter (.ref r)) (fun it s₂ => ∃ I fp wr n P St, it = .ref I ∧ Walks prog w A I fp wr n P St ∧ n ≤ sizeLine ∧ St 0 s₂.heap ∧ (∀ b ∈ fp, b < s₂.heap.objs.size) ∧
      QuietOnC prog w A env scope cl x ifs elt wr P (pV pz) (FV f) s₂ ∧
      (∀ D h' tk ys (vs : List Value), s₂.heap.get? D = none → h'.IsList D ys → h'.PlainList D ys → vs.length = n → (∀ j v, vs[j]? = some v → P j v) → Paired (FV f) (vs.filter (pV pz)) ys.toList →
        (∀ b o, b ∉ wr → s₂.heap.get? b = some o → h'.get? b = some o) → Q (.ref D) { s₂ with heap := h', toks := tk })) E s₁ := by
  refine wpAny_pyIter_range hr hsmall ?_
  refine src_ex (Walks.range hh s₁.heap.objs.size a c n).bound (by simp [rangeL]) ?_ ?_ ?_ hsz q done
  · rintro i x ⟨hi, t, rfl⟩
    exact ⟨a + i * c, t, by simp [rangeL, hi], rfl⟩
  · show IsRangeIter _ _ _ _ _
    rw [hn]
    simpa using Heap.get?_push_size _ rfl
  · intro b hb
    rw [List.mem_singleton.mp hb]; exact Nat.lt_succ_self _
end
end Mine
set_option maxHeartbeats 4000000
namespace Mine
local macro_rules | `(tactic| walk_at "eval ListComp") => `(tactic| refine stopT ?_)
local macro_rules | `(tactic| walk_at "pyIter ref") => `(tactic| refine stopT ?_)
local macro_rules | `(tactic| ktr_unf) => `(tactic| repeat' (first | walk1 | (dsimp only; walk1)))
def lack (ks : List Int) : List Int := (rangeL 0 1 6).filter fun k => !(ks.any (· == k))
theorem lacking_spec {w : World} {p : Program} {loose : List Str} {mean : ExcName → Option Value} {mg mb : Str → Option Value} {A : Around} {s : Shared} {E : Value → Shared → Prop} {Q : Value → Shared → Prop}
   {lp : Addr} {vp : List Value} {ks : List Int}
   (C : CC w p loose mean mg mb 5 A s.heap) (hp : s.heap.IsList lp vp.toArray) (ip : IntsAre vp ks)
   (ret : ∀ D h' tk ys c, s.heap.get? D = none → h'.get? D = some (listOf (List.toArray ys) c) → IntsAre ys (lack ks) → s.heap.StaysIn h' → Q (.ref D) { s with heap := h', toks := tk }) : wpAny (model PySem.Challenge.rw_oc0028_01.row.prog w) A (call (.ref 87) [.ref lp]) Q E s := by
  w_top off
  have X := C.X
  have T := C.T
  have hroom := C.depth
  revert X
  k_fill
  intro X
  refine enterC (G := s.heap) (led := []) (binds := [(Str.ofString "places", .ref lp)]) (fun _ _ e => e) (Nat.le_refl _) (fun _ h => nomatch h) X T (by k_is) (by k_is) (by omega) (BindsTo.of_eq rfl) rfl (by decide +kernel) ?_ rfl rfl rfl
  intro h' tk cells F' N' hst Y hlt
  k_cells Y
  rename_i o' d1'
  replace d1' : o'.data = .cell (some (.ref lp)) := d1'
  ktr_unf
  refine goT ?_
  refine wpAny_ListComp_free (pV fun k => !(ks.any (· == k))) (FV id) (cl := [(Str.ofString "places", s.heap.objs.size + 1)]) rfl (by decide) rfl (by decide) rfl ?_
  ktr_unf
  refine goT ?_
  rename_i h1 tk1 t1 u1 v1 hr F1 N1 hk1
  refine src_range (n := 6) C.hh hr (by decide) (by decide) (by rw [sizeLine_eq]; decide) ⟨?_, ?_⟩ (fun D h2 tk2 ys c hD hg hi hst2 => ?_)
  · intro C' k t s₃ m₃ E' _ _ hns hm hst3
    refine wpAny_tests_one (wpAny_isTrue_Compare1 (wpAny_Name (wpAny_loadName_local rfl rfl hns hm (wpAny_Name (wpAny_loadName_cell rfl rfl rfl ⟨o', hst3 _ _ (N1 (_, o') (.head _)).1, d1'⟩ ?_)))))
    exact notin_list_ints (stays_list hst3 (stays_list F1.keep hp)) ip (wpAny_truthy_bool ⟨rfl, _, _, rfl, fun _ _ e => e⟩)
  · intro C' k t s₃ m₃ E' _ _ _ hns hm hst3
    exact wpAny_Name (wpAny_loadName_local rfl rfl hns hm ⟨⟨_, rfl⟩, _, _, rfl, fun _ _ e => e⟩)
  · have hD' : s.heap.get? D = none := by
      cases z : s.heap.get? D with
      | none => rfl
      | some o => have := F1.keep _ _ z; rw [hD] at this; cases this
    rw [List.map_id] at hi
    exact ret D h2 _ ys c hD' hg hi fun b o e => hst2 b o (F1.keep b o e)
end Mine
set_option maxHeartbeats 4000000
namespace Mine
local macro_rules | `(tactic| walk_at "exec For Name Name cons nil") => `(tactic| refine stopT ?_)
local macro_rules | `(tactic| walk_at "eval ListComp") => `(tactic| refine stopT ?_)
local macro_rules | `(tactic| walk_at "pyIter ref") => `(tactic| refine stopT ?_)
local macro_rules | `(tactic| walk_at "binaryOp Mult int int") => `(tactic| refine stopT ?_)
local macro_rules | `(tactic| walk_at "binaryOp Pow int int") => `(tactic| refine stopT ?_)
local macro_rules | `(tactic| walk_at "eval Name") => `(tactic| (k_here; k_dflt (refine' nameX_L ?F ?v ?_ ?a ?b; (case F => k_asm); (case a => exact rfl); (case b => exact rfl); (case v => ((repeat (refine lk_ne (by decide) ?_)); first | exact lk_eq | assumption | exact rfl)); k_whole)))
local macro_rules | `(tactic| ktr_unf) => `(tactic| repeat' (first | walk1 | (dsimp only; walk1)))
def val (os : List Int) : Int := os.foldl (fun a o => 256 * a + o) 0
theorem val_snoc (os : List Int) (o : Int) : val (os ++ [o]) = 256 * val os + o := by simp [val]
theorem log2_pow64 {k : Nat} (h : k ≤ 10) : ((64 : Int) ^ k).natAbs.log2 < 9000 := by
  rw [Int.natAbs_pow]
  show (64 ^ k).log2 < 9000
  have h1 : 64 ^ k ≤ 64 ^ 10 := Nat.pow_le_pow_right (by decide) h
  have h2 : 64 ^ k ≠ 0 := Nat.ne_of_gt (Nat.pow_pos (by decide))
  rw [Nat.log2_lt h2]
  exact Nat.lt_of_le_of_lt h1 (by decide +kernel)
theorem pow64_ne {k : Nat} : ((64 : Int) ^ k) ≠ 0 := by
  have : (0 : Int) < 64 ^ k := Int.pow_pos (by decide)
  omega
theorem bits_pow2 {e : Nat} (h : e ≤ 5) : Builtin.Int.intBits ((2 : Int) ^ e) ≤ 64 := by
  have : e = 0 ∨ e = 1 ∨ e = 2 ∨ e = 3 ∨ e = 4 ∨ e = 5 := by omega
  rcases this with rfl | rfl | rfl | rfl | rfl | rfl <;> decide +kernel
def fsize (os : List Int) : Nat := (8 * os.length + 5) / 6
def shifted (os : List Int) : Int := val os * 2 ^ (6 * (fsize os : Int) - 8 * (os.length : Int)).toNat
/-- the figures of a row of octets -/
def figs (os : List Int) : List Int := (rangeL ((fsize os : Int) - 1) (-1) (fsize os)).map fun k => ((shifted os).fdiv (64 ^ k.toNat)).fmod 64
theorem figures_spec {w : World} {p : Program} {loose : List Str} {mean : ExcName → Option Value} {mg mb : Str → Option Value} {A : Around} {s : Shared} {E : Value → Shared → Prop} {Q : Value → Shared → Prop}
   {lp : Addr} {vp : List Value} {os : List Int}
   (C : CC w p loose mean mg mb 5 A s.heap) (hp : s.heap.IsList lp vp.toArray) (ip : IntsAre vp os) (hlo : 1 ≤ os.length) (hlen : os.length ≤ 6) 
   (ret : ∀ D h' tk ys c, s.heap.get? D = none → h'.get? D = some (listOf (List.toArray ys) c) → IntsAre ys (figs os) → s.heap.StaysIn h' → Q (.ref D) { s with heap := h', toks := tk }) : wpAny (model PySem.Challenge.rw_oc0028_01.row.prog w) A (call (.ref 70) [.ref lp]) Q E s := by
  w_top off
  have X := C.X
  have T := C.T
  have hroom := C.depth
  revert X
  k_fill
  intro X
  refine enterC (G := s.heap) (led := []) (binds := [(Str.ofString "octets", .ref lp)]) (fun _ _ e => e) (Nat.le_refl _) (fun _ h => nomatch h) X T (by k_is) (by k_is) (by omega) (BindsTo.of_eq rfl) rfl (by decide +kernel) ?_ rfl rfl rfl
  intro h' tk cells F' N' hst Y hlt
  k_cells Y
  rename_i o' d1'
  replace d1' : o'.data = .cell none := d1'
  simp only [List.append_nil] at N'
  replace F' : Fr s.heap s.heap.objs.size h' (fun y => if y = Str.ofString "octets" then some (.ref lp) else none) := F'
  ktr_unf
  refine goT ?_
  rename_i h1 o1 F1 N1 d1
  refine For_invVF F1 rfl rfl ?_
  ktr_unf
  refine goT ?_
  refine iter_invN (fun i m nx => m (Str.ofString "octets") = some (.ref lp) ∧ ∃ o t, nx = [(s.heap.objs.size + 1, o)] ∧ o.data = .cell (some (.int (val (os.take i)) t))) C.hh hp ip F1 N1 ⟨rfl, o1, _, rfl, d1⟩ ?_ ?_
  · rintro i n t m₁ news₁ h tk own hi - hoff ⟨h1, o2, t2, rfl, d2⟩ F2 N2
    simp only [List.cons_append, List.nil_append] at N2
    replace hoff : OwnOff own [s.heap.objs.size + 1] := hoff
    ktr_unf
    refine goT ?_
    refine mul_int ?_ (.of_left (intBits_le_64 (by decide) (by decide)))
    ktr_unf
    rename_i h3 o3 F3 N3 d3
    have e : val (List.take (i + 1) os) = 256 * val (List.take i os) + n := by
      rw [List.take_add_one, hi]
      simp only [Option.toList_some, val_snoc]
    rw [← e] at d3
    refine InvEndN.intro (nx := [(s.heap.objs.size + 1, o3)]) F3 N3 ⟨lk_ne (by decide) h1, o3, _, rfl, d3⟩ rfl ?_ ?_
    · intro q hq; rw [List.mem_singleton.mp hq]; exact .head _
    · intro q hq; exact .tail _ hq
  · rintro m₁ nx h tk ⟨h1, o2, t2, rfl, d2⟩ F2 N2
    rw [List.take_length] at d2
    ktr_unf
    refine goT ?_
    refine mul_int ?_ (.of_left (intBits_le_64 (by decide) (by decide)))
    have hS : (8 * (os.length : Int) + 5).fdiv 6 = (((8 * os.length + 5) / 6 : Nat) : Int) := by rw [Int.fdiv_eq_ediv_of_nonneg _ (by decide)]; omega
    ktr_unf
    refine goT ?_
    rename_i h3 F3 N3
    obtain ⟨tS, F3⟩ : ∃ t, Fr s.heap s.heap.objs.size h3 (fun y => if y = Str.ofString "size" then some (.int (((8 * os.length + 5) / 6 : Nat) : Int) t) else m₁ y) := ⟨_, hS ▸ F3⟩
    rw [hS]
    refine mul_int ?_ (.of_left (intBits_le_64 (by decide) (by decide)))
    ktr_unf
    refine goT ?_
    refine mul_int ?_ (.of_left (intBits_le_64 (by decide) (by decide)))
    ktr_unf
    refine goT ?_
    have hE : (0 : Int) ≤ 6 * (((8 * os.length + 5) / 6 : Nat) : Int) - 8 * (os.length : Int) ∧ 6 * (((8 * os.length + 5) / 6 : Nat) : Int) - 8 * (os.length : Int) ≤ 5 := by omega
    refine pow_int_small hE.1 (by omega) (by decide) ?_
    refine mul_int ?_ (.of_right ?_)
    · ktr_unf
      refine goT ?_
      rename_i h4 o4 F4 N4 d4
      generalize hW : val os * 2 ^ (6 * (((8 * os.length + 5) / 6 : Nat) : Int) - 8 * (os.length : Int)).toNat = W at d4
      obtain ⟨tW, d4⟩ : ∃ t, o4.data = .cell (some (.int W t)) := ⟨_, d4⟩
      refine wpAny_ListComp_free (pV fun _ => true) (FV fun k => (W.fdiv (64 ^ k.toNat)).fmod 64) (cl := [(Str.ofString "number", s.heap.objs.size + 1)]) rfl (by decide) rfl (by decide) rfl ?_
      ktr_unf
      refine goT ?_
      rename_i h5 tk5 t5 u5 v5 hr F5 N5 hk5
      have hsz : 2 ≤ (8 * os.length + 5) / 6 ∧ (8 * os.length + 5) / 6 ≤ 8 := by omega
      refine src_range (n := (8 * os.length + 5) / 6) C.hh hr ?_ ?_ (by rw [sizeLine_eq]; omega) ⟨?_, ?_⟩ (fun D h2 tk2 ys c hD hg hi hst2 => ?_)
      · generalize (8 * os.length + 5) / 6 = z at hsz
        have hz : z = 2 ∨ z = 3 ∨ z = 4 ∨ z = 5 ∨ z = 6 ∨ z = 7 ∨ z = 8 := by omega
        rcases hz with rfl | rfl | rfl | rfl | rfl | rfl | rfl <;> decide
      · simp only [Builtin.Range.rangeSize]; rw [if_neg (by decide), if_pos (by omega), show -(-1 : Int) = 1 by decide, Int.ediv_one]; omega
      · intro C' k t s₃ m₃ E' _ _ hns hm hst3
        exact wpAny_tests_nil ⟨rfl, _, _, rfl, fun _ _ e => e⟩
      · intro C' k t s₃ m₃ E' _ hk _ hns hm hst3
        obtain ⟨i, hi, rfl⟩ := List.mem_map.mp hk
        have hi' := List.mem_range.mp hi
        refine wpAny_BinOp (wpAny_BinOp (wpAny_Name (wpAny_loadName_cell rfl rfl rfl ⟨o4, hst3 _ _ (N5 (_, o4) (.head _)).1, d4⟩ ?_)))
        refine wpAny_BinOp (wpAny_Constant_int ?_)
        refine wpAny_Name (wpAny_loadName_local rfl rfl hns hm ?_)
        refine pow_int_small (by omega) (by omega) (by decide) ?_
        refine floordiv_int pow64_ne ?_ (.inl (PyProof.noPylong_of_log2 (log2_pow64 (by omega))))
        refine wpAny_Constant_int ?_
        exact mod_int (by decide) ⟨⟨_, rfl⟩, _, _, rfl, fun _ _ e => e⟩
      · have hD' : s.heap.get? D = none := by
          cases z : s.heap.get? D with
          | none => rfl
          | some o => have := F5.keep _ _ z; rw [hD] at this; cases this
        rw [List.filter_eq_self.mpr fun _ _ => rfl] at hi
        refine ret D h2 _ ys c hD' hg ?_ fun b o e => hst2 b o (F5.keep b o e)
        rw [figs, shifted, fsize, hW]; exact hi
    · refine bits_pow2 ?_
      omega
end Mine
namespace Mine
section
variable {w : World} {p : Program} {loose : List Str} {mean : ExcName → Option Value} {mg mb : Str → Option Value} {A : Around} {s : Shared} {E : Value → Shared → Prop} {Q : Value → Shared → Prop}
  {name qual : Str} {params : Arguments} {body : List Stmt} {scope : Scope} {cl : List (Str × Addr)} {dV kV doc pm cdv ct : Value} {an : Option Addr} {f : Addr} {fo : Obj} {pos : List Value} {kw : List (Str × Value)} {binds : List (Str × Value)} {G : Heap} {led : List (Addr × Obj)}

/-- a call of a function object that the call has made -/
theorem enterF (hG : G.StaysIn s.heap) (hGs : G.objs.size ≤ s.heap.objs.size) (hled : ∀ q ∈ led, s.heap.get? q.1 = some q.2 ∧ G.get? q.1 = none) (T : Top p loose mean mg mb G)
    (ho : s.heap.get? f = some fo) (hd : fo.data = .func (fnX name qual params body scope cl dV kV doc pm an cdv ct)) (hcd : s.heap.CodeRec cdv qual) (hroom : A.depth < recursionLimit)
    (hbind : BindsTo s (fnX name qual params body scope cl dV kV doc pm an cdv ct) ⟨pos, kw⟩ binds) (hloc : ∀ y ∈ binds, scope.names.lookup y.1 = some .local)
    (h : ∀ h₁, Fr G s.heap.objs.size h₁ (fun y => binds.reverse.lookup y) → News G s.heap.objs.size h₁ led → s.heap.StaysIn h₁ →
      wpAny (model PySem.Challenge.rw_oc0028_01.row.prog w) (A.deeper (envX qual scope s.heap.objs.size f cdv cl)) (execs body (envX qual scope s.heap.objs.size f cdv cl))
        (fun fl s' => Q (match fl with | .ret v => v | _ => .none) s')
        (fun e s' => wpAny (model PySem.Challenge.rw_oc0028_01.row.prog w) (A.deeper (envX qual scope s.heap.objs.size f cdv cl)) (leaving (envX qual scope s.heap.objs.size f cdv cl) e) (fun _ s'' => E e s'') (fun e' s'' => E e' s'') s')
        { s with heap := h₁, toks := s.toks + binds.length })
    (hco : scope.isCoroutine = false) (hgen : scope.isGenerator = false) (hk : scope.kind = .function)
    (hcell : ∀ x ∈ scope.names, x.2 ≠ .cell) : wpAny (model PySem.Challenge.rw_oc0028_01.row.prog w) A (call (.ref f) pos kw) Q E s := by
  refine wpAny_call ?_
  refine codeAny_call_def (fd := fnX name qual params body scope cl dV kV doc pm an cdv ct) (body := body) (binds := binds) hroom ho hd (T.nolimit.keeps hG) hcd rfl hbind hcell hloc (fun h₁ hns hk₁ => ?_) hco hgen hk
  exact h h₁ ⟨hns, fun b o e => hk₁ b o (hG b o e), hGs⟩ (fun q hq => ⟨hk₁ _ _ (hled q hq).1, Nat.ne_of_lt (Heap.lt_size (hled q hq).1), (hled q hq).2⟩) hk₁
end

theorem fr_but {G h h' : Heap} {L a : Addr} {m : Str → Option Value} (F : Fr G L h m) (hk : ∀ b o, b ≠ a → h.get? b = some o → h'.get? b = some o) (hG : G.get? a = none) (hL : L ≠ a) : Fr G L h' m :=
  ⟨F.ns.at' fun o e => hk _ o hL e, fun b o e => hk b o (fun q => by rw [q, hG] at e; cases e) (F.keep b o e), F.above⟩
theorem news_but {G h h' : Heap} {L a : Addr} {o' : Obj} {rest : List (Addr × Obj)} (N : News G L h rest) (hk : ∀ b o, b ≠ a → h.get? b = some o → h'.get? b = some o) (hr : ∀ q ∈ rest, q.1 ≠ a) (ho : h'.get? a = some o') (hG : G.get? a = none) (hL : L ≠ a) : News G L h' ((a, o') :: rest) := by
  intro q hq
  rcases List.mem_cons.mp hq with rfl | hq
  · exact ⟨ho, hL.symm, hG⟩
  · exact ⟨hk _ _ (hr q hq) (N q hq).1, (N q hq).2⟩

theorem keep_of {h₀ h : Heap} {L D : Addr} {m : Str → Option Value} {adr : List Addr} (F : Fr (hideAll h₀ adr) L h m) (hl : ∀ b ∈ adr, b ≠ D → ∀ o, h₀.get? b = some o → h.get? b = some o) : ∀ b o, b ≠ D → h₀.get? b = some o → h.get? b = some o := fun b o hb e => by
  by_cases hm : b ∈ adr
  · exact hl b hm hb o e
  · exact F.keep b o (hideAll_get _ e hm)

/-- the bits of a number, the least first -/
def bitsN (x k : Nat) : List Nat := (List.range k).map fun i => x / 2 ^ i % 2
def bitsL (x k : Nat) : List Int := (bitsN x k).map fun (b : Nat) => (b : Int)
theorem bitsN_split (x s t : Nat) : bitsN x (s + t) = bitsN (x % 2 ^ s) s ++ bitsN (x / 2 ^ s) t := by
  unfold bitsN
  rw [List.range_add, List.map_append, List.map_map]
  refine congr (congrArg _ (List.map_congr_left fun i hi => ?_)) (List.map_congr_left fun i _ => ?_)
  · have hi' := List.mem_range.mp hi
    rw [← Nat.toNat_testBit, ← Nat.toNat_testBit, Nat.testBit_mod_two_pow, decide_eq_true hi', Bool.true_and]
  · show x / 2 ^ (s + i) % 2 = x / 2 ^ s / 2 ^ i % 2
    rw [Nat.div_div_eq_div_mul, ← Nat.pow_add]
theorem bitsL_split {x s t : Nat} (hx : x < 64) (hs : s < 7) (ht : t < 7) : bitsL x (s + t) = bitsL (x % 2 ^ s) s ++ bitsL (x / 2 ^ s) t := by
  rw [bitsL, bitsN_split x s t, List.map_append]; rfl
theorem bitsL_len (x k : Nat) : (bitsL x k).length = k := by simp [bitsL, bitsN]
theorem xor_low : ∀ x < (64 : Nat), ∀ s < (6 : Nat), Builtin.bitXor (x : Int) (((x : Int).fdiv (2 ^ s)) * 2 ^ s) = ((x % 2 ^ s : Nat) : Int) := by decide +kernel
theorem shr_up : ∀ x < (64 : Nat), ∀ s < (6 : Nat), (x : Int).fdiv (2 ^ s) = ((x / 2 ^ s : Nat) : Int) := by decide +kernel

/-- the digits written at the places from l to r -/
def putBits (ds : List Int) (l x k : Nat) : List Int := ds.take l ++ bitsL x k ++ ds.drop (l + k)
theorem putBits_len {ds : List Int} {l x k : Nat} (h : l + k ≤ ds.length) : (putBits ds l x k).length = ds.length := by
  simp [putBits, bitsL_len]; omega
theorem putBits_two {ds : List Int} {l x s t : Nat} (h : l + (s + t) ≤ ds.length) (hx : x < 64) (hs : s < 7) (ht : t < 7) : putBits (putBits ds l (x % 2 ^ s) s) (l + s) (x / 2 ^ s) t = putBits ds l x (s + t) := by
  unfold putBits
  rw [bitsL_split hx hs ht]
  have h1 : (List.take l ds ++ bitsL (x % 2 ^ s) s).length = l + s := by simp [bitsL_len]; omega
  rw [List.take_append_of_le_length (by omega), List.take_of_length_le (by omega)]
  rw [List.drop_append, List.drop_of_length_le (by omega), h1, List.nil_append, List.drop_drop]
  simp only [List.append_assoc]
  congr 4
  omega
theorem putBits_one {ds : List Int} {l x : Nat} (h : l < ds.length) (hx : x < 2) : putBits ds l x 1 = ds.set l (x : Int) := by
  unfold putBits
  have e : bitsL x 1 = [(x : Int)] := by
    have : x = 0 ∨ x = 1 := by omega
    rcases this with rfl | rfl <;> rfl
  rw [e, List.set_eq_take_append_cons_drop, if_pos h, List.append_assoc]; rfl
theorem ints_set {vs : List Value} {ns : List Int} {k : Nat} {n : Int} {t : Tok} (h : IntsAre vs ns) : IntsAre (vs.set k (.int n t)) (ns.set k n) := by
  induction h generalizing k with
  | nil => exact .nil
  | cons a b _ ih => cases k with
    | zero => exact .cons _ _ (by assumption)
    | succ k => exact .cons _ _ ih
theorem rep_flat (nb : Nat) : (List.replicate nb [(0 : Int)]).flatten = List.replicate nb 0 := by
  induction nb with
  | zero => rfl
  | succ n ih => rw [List.replicate_succ, List.flatten_cons, ih]; rfl
theorem setL_eq {v : Value} : ∀ {l : List Value} {k : Nat}, k < l.length → ki_setL l k v = some (l.set k v)
  | [], _, h => by simp at h
  | _ :: _, 0, _ => rfl
  | _ :: r, k + 1, h => by
    have := setL_eq (v := v) (l := r) (k := k) (by simpa using h)
    simp [ki_setL, this]

/-- the table of the code objects made so far: none, or the inner def's -/
def innerQ : Str := Str.ofString "_int2digits.<locals>.inner"
def TabMade (tl : List (Addr × Obj)) : Prop := ∃ c' oc vs t, tl = [(c', oc), (30, tabObj #[rawInt 41, rawInt 4, .ref c'])] ∧ oc.data = .fields vs ∧ vs[1]? = some (.str innerQ t)
def TabLed (tl : List (Addr × Obj)) : Prop := tl = [(30, tabObj #[])] ∨ TabMade tl

theorem updF_end {o : Obj} {P : Addr} : ∀ {rest : List (Addr × Obj)}, (∀ q ∈ rest, q.1 ≠ P) → UpdF P o (rest ++ [(P, o)]) fun o' => rest ++ [(P, o')]
  | [], _ => UpdF.head (by simp)
  | q :: r, h => UpdF.tail (h q (.head _)) (updF_end fun x hx => h x (.tail _ hx))

section
variable {M : Model} {A : Around} {E : Value → Shared → Prop} {s : Shared} {G : Heap} {L a : Addr} {m mg mb : Str → Option Value} {cn : Str} {cs : Scope} {cl : List (Str × Addr)} {rest tl : List (Addr × Obj)}
  {p : Program} {loose : List Str} {mean : ExcName → Option Value} {name : Str} {params : Arguments} {body : List Stmt} {scope : Scope} {pos : Pos} {firstLine : Nat} {clos : List (Str × Addr)}
theorem nest_any {Q : Value → Shared → Prop} (F : Fr G L s.heap m) (N : News G L s.heap (rest ++ tl)) (ht : TabLed tl) (hoff : OwnOff tl (rest.map (·.1))) (T : Top p loose mean mg mb G) (C : CodeHd G 34 30) (hl : pos.line = 41) (hc : pos.col = 4)
    (hcl : closureFor scope (envX cn cs L a (.ref 34) cl) = pure clos)
    (h : ∀ f c' ctv doc h' tk tl', Fr G L h' m → News G L h' (((f, fnMade name innerQ params body scope clos doc ((mg "__name__").getD .none) c' ctv) :: rest) ++ tl') → TabMade tl' → OwnOff tl' (f :: rest.map (·.1)) → (∀ q ∈ rest, q.1 < f) → (∃ oc vs t, (c', oc) ∈ tl' ∧ oc.data = .fields vs ∧ vs[1]? = some (.str innerQ t)) → (∀ q ∈ tl, q.1 ≠ 30 → q ∈ tl') →
      Q (.ref f) { s with heap := h', toks := tk }) :
    wpAny M A (makeFunction name innerQ params (.stmts body) scope (envX cn cs L a (.ref 34) cl) [] [] [] pos firstLine) Q E s := by
  rcases ht with rfl | ⟨c', oc, vs, t, rfl, hd, hv⟩
  · have hne : ∀ q ∈ rest, q.1 ≠ 30 := fun q hq e => hoff (30, tabObj #[]) (.head _) q.1 (List.mem_map_of_mem hq) e.symm
    refine nest_K F N T C rfl (updF_end hne) trivial rfl hcl fun f c' oc vs t ctv doc h' tk F' N' hd hv hlt hcf => ?_
    rw [hl, hc] at N'
    refine h f c' ctv doc h' tk [(c', oc), (30, tabObj #[rawInt 41, rawInt 4, .ref c'])] F' (fun q hq => N' q ?_) ⟨c', oc, vs, t, rfl, hd, hv⟩ ?_ (fun q hq => Nat.lt_trans (hlt q (List.mem_append_left _ hq)) hcf) ⟨oc, vs, t, .head _, hd, hv⟩ (fun q hq hn => by rw [List.mem_singleton.mp hq] at hn; exact absurd rfl hn)
    · rcases List.mem_append.mp hq with hq | hq
      · rcases List.mem_cons.mp hq with rfl | hq
        · exact .head _
        · exact .tail _ (.tail _ (List.mem_append_left _ hq))
      · rcases List.mem_cons.mp hq with rfl | hq
        · exact .tail _ (.head _)
        · exact .tail _ (.tail _ (List.mem_append_right _ hq))
    · have h30 := hlt (30, tabObj #[]) (List.mem_append_right _ (.head _))
      intro q hq b hb
      rcases List.mem_cons.mp hq with rfl | hq
      · rcases List.mem_cons.mp hb with rfl | hb
        · exact Nat.ne_of_lt hcf
        · obtain ⟨r, hr, rfl⟩ := List.mem_map.mp hb
          exact Nat.ne_of_gt (hlt r (List.mem_append_left _ hr))
      · rw [List.mem_singleton.mp hq]
        rcases List.mem_cons.mp hb with rfl | hb
        · exact Nat.ne_of_lt (Nat.lt_trans h30 hcf)
        · obtain ⟨r, hr, rfl⟩ := List.mem_map.mp hb
          exact (hne r hr).symm
  · refine nestHit_K (c' := c') F N T C rfl (List.mem_append_right _ (.tail _ (.head _))) trivial (by simp [codeAmong, rawInt, hl, hc]) hcl fun f ctv doc h' tk F' N' hlt => ?_
    refine h f c' ctv doc h' tk _ F' N' ⟨c', oc, vs, t, rfl, hd, hv⟩ ?_ (fun q hq => hlt q (List.mem_append_left _ hq)) ⟨oc, vs, t, .head _, hd, hv⟩ (fun q hq _ => hq)
    intro q hq b hb
    rcases List.mem_cons.mp hb with rfl | hb
    · exact Nat.ne_of_lt (hlt q (List.mem_append_right _ hq))
    · exact hoff q hq b hb
end
/-- the table of the code objects, as the heap has it -/
def TabSt (base h : Heap) : Prop := ∃ tl, TabLed tl ∧ ∀ q ∈ tl, h.get? q.1 = some q.2 ∧ base.get? q.1 = none
theorem bitsL_put (a nb : Nat) : putBits (List.replicate nb 0) 0 a nb = bitsL a nb := by
  simp [putBits]
end Mine
set_option maxHeartbeats 4000000
namespace Mine
local macro_rules | `(tactic| walk_at "exec FunctionDef") => `(tactic| refine stopT ?_)
local macro_rules | `(tactic| walk_at "binaryOp Mult ref int") => `(tactic| refine stopT ?_)
local macro_rules | `(tactic| walk_at "call ref") => `(tactic| refine stopT ?_)
local macro_rules | `(tactic| walk_at "setItem ref int") => `(tactic| refine stopT ?_)
local macro_rules | `(tactic| walk_at "binaryOp RShift int int") => `(tactic| refine stopT ?_)
local macro_rules | `(tactic| walk_at "binaryOp LShift int int") => `(tactic| refine stopT ?_)
local macro_rules | `(tactic| walk_at "binaryOp BitXor int int") => `(tactic| refine stopT ?_)
local macro_rules | `(tactic| walk_at "binaryOp Mult int int") => `(tactic| refine stopT ?_)
local macro_rules | `(tactic| walk_at "And") => `(tactic| ((with_reducible show FnAt _ _ ∧ _); refine Hd.out ?_))
local macro_rules | `(tactic| walk_at "callWith ref") => `(tactic| refine stopT ?_)
local macro_rules | `(tactic| ktr_unf) => `(tactic| repeat' (first | walk1 | (dsimp only; walk1)))
theorem nbits_le : ∀ a < (64 : Nat), Builtin.Int.intBits (a : Int) ≤ 6 ∧ a < 2 ^ (Builtin.Int.intBits (a : Int)) ∧ (a = 0 → Builtin.Int.intBits (a : Int) = 0) := by decide +kernel
theorem i2d_spec {w : World} {p : Program} {loose : List Str} {mean : ExcName → Option Value} {mg mb : Str → Option Value} {A : Around} {s : Shared} {E : Value → Shared → Prop} {Q : Value → Shared → Prop} {base : Heap} {a : Nat} {ta tn : Tok}
   (C : CC w p loose mean mg mb 12 A base) (hst : base.StaysIn s.heap) (hts : TabSt base s.heap) (hc : CodeHd base 34 30) (ha : a < 64)
   (ret : ∀ D h' tk' vs c, (∀ b o, b ≠ 30 → s.heap.get? b = some o → h'.get? b = some o) → TabSt base h' → s.heap.get? D = none → h'.get? D = some (listOf (List.toArray vs) c) → IntsAre vs (bitsL a (Builtin.Int.intBits (a : Int))) → Q (.ref D) { s with heap := h', toks := tk' }) : wpAny (model PySem.Challenge.rw_oc0028_01.row.prog w) A (call (.ref 35) [.int a ta, .int 1 tn]) Q E s := by
  w_top off
  obtain ⟨tl, htl, hlb⟩ := hts
  have hld : ∀ q ∈ tl, s.heap.get? q.1 = some q.2 := fun q hq => (hlb q hq).1
  have hbl : ∀ q ∈ tl, base.get? q.1 = none := fun q hq => (hlb q hq).2
  have X := C.X
  have T := C.T
  have hroom := C.depth
  revert X
  k_fill
  intro X
  have hG : base.StaysIn (hideAll s.heap (tl.map (·.1))) := fun b o e => hideAll_get _ (hst b o e) (fun hm => by
    obtain ⟨q, hq, rfl⟩ := List.mem_map.mp hm
    rw [hbl q hq] at e; cases e)
  have X' := X.keeps hG
  have T' := T.keeps hG
  have Ch := hc.keeps hG
  generalize hGG : hideAll s.heap (tl.map (·.1)) = G at hG X' T' Ch
  refine enterC (G := G) (led := tl) (binds := [(Str.ofString "a", .int a ta), (Str.ofString "n", .int 1 tn)]) (fun b o e => by rw [← hGG] at e; exact of_hideAll _ e) (by rw [← hGG]; exact Nat.le_of_eq (hideAll_size _ _)) (fun q hq => ⟨hld q hq, by rw [← hGG]; exact hideAll_none _ (List.mem_map_of_mem hq)⟩) X' T' (by k_is) (by k_is) (by omega) (BindsTo.of_eq rfl) rfl (by decide +kernel) ?_ rfl rfl rfl
  intro h' tk cells F' N' hst' Y hlt
  k_cells Y
  rename_i o1 o2 o3 d1 d2 d3
  replace F' : Fr G s.heap.objs.size h' (fun y => if y = Str.ofString "a" then some (.int a ta) else none) := F'
  replace d1 : o1.data = .cell none := d1
  replace d2 : o2.data = .cell none := d2
  replace d3 : o3.data = .cell (some (.int 1 tn)) := d3
  simp only [List.cons_append, List.nil_append] at N'
  have hoff : OwnOff tl [s.heap.objs.size + 1 + 1 + 1, s.heap.objs.size + 1 + 1, s.heap.objs.size + 1] := fun q hq b hb => by
    have := ltN (hlt q hq)
    simp only [List.mem_cons, List.not_mem_nil, or_false] at hb
    rcases hb with rfl | rfl | rfl <;> (refine neN ?_; omega)
  ktr_unf
  refine goT ?_
  rename_i l1 h1 F1 N1 hl1
  have hnb := nbits_le a ha
  have hbl : (((Builtin.Int.intBits (a : Int) : Nat) : Int) + 1 - 1).fdiv 1 = ((Builtin.Int.intBits (a : Int) : Nat) : Int) := by rw [Int.fdiv_one]; omega
  rw [hbl]
  generalize Builtin.Int.intBits (a : Int) = nb at hnb ret
  refine KM.mul F1 N1 (News.isList N1 (.head _)) (vs := [.int 0 tk]) (.cons _ _ .nil) (by omega) (by omega) (by simp; omega) fun D h2 F2 N2 hD iD _ _ _ _ _ => ?_
  rw [Int.toNat_natCast] at N2 iD
  generalize (List.replicate nb [Value.int 0 tk]).flatten = vD at N2 iD
  rw [rep_flat] at iD
  have hD2 : s.heap.objs.size + 1 + 1 + 1 < D := hD _ (.tail _ (.head _))
  have hDt : ∀ q ∈ tl, q.1 < D := fun q hq => hD q (.tail _ (.tail _ (.tail _ (.tail _ hq))))
  clear hD
  replace N2 : News G s.heap.objs.size h2 ((D, listOf vD.toArray 0) :: (s.heap.objs.size + 1 + 1 + 1, o1) :: (s.heap.objs.size + 1 + 1, o2) :: (s.heap.objs.size + 1, o3) :: tl) := fun q hq => N2 q (by
    rcases List.mem_cons.mp hq with rfl | hq
    · exact .head _
    · exact .tail _ (.tail _ hq))
  clear N1 F1
  ktr_unf
  refine goT ?_
  rename_i h3 o2' F3 N3 d2'
  refine nestDef_K rfl rfl rfl ?_
  refine nest_any (rest := [(D, listOf vD.toArray 0), (s.heap.objs.size + 1 + 1 + 1, o1), (s.heap.objs.size + 1 + 1, o2'), (s.heap.objs.size + 1, o3)]) F3 N3 htl ?_ T' Ch rfl rfl rfl fun f c' ctv doc h4 tk4 tl' F4 N4 htm hoff4 hf4 hrec hsub => ?_
  · intro q hq b hb
    simp only [List.map_cons, List.map_nil, List.mem_cons, List.not_mem_nil, or_false] at hb
    have h1 := ltN (hDt q hq)
    have h2 := ltN (hlt q hq)
    have h3 := ltN hD2
    rcases hb with rfl | rfl | rfl | rfl <;> (refine neN ?_; omega)
  replace hoff4 : OwnOff tl' [f, D, s.heap.objs.size + 1 + 1 + 1, s.heap.objs.size + 1 + 1, s.heap.objs.size + 1] := hoff4
  have hfD : D < f := hf4 _ (.head _)
  simp only [List.cons_append, List.nil_append] at N4
  generalize hfo : fnMade _ _ _ _ _ _ _ _ _ _ = fo at N4
  have hbase : ∀ b, G.get? b = none → base.get? b = none := fun b hb => by
    cases z : base.get? b with
    | none => rfl
    | some o => have := hG b o z; rw [hb] at this; cases this
  have b1 := hbase _ (N4 _ (.head _)).2.2
  have b2 := hbase _ (N4 _ (.tail _ (.head _))).2.2
  have b3 := hbase _ (N4 _ (.tail _ (.tail _ (.head _)))).2.2
  have b4 := hbase _ (N4 _ (.tail _ (.tail _ (.tail _ (.head _))))).2.2
  have b5 := hbase _ (N4 _ (.tail _ (.tail _ (.tail _ (.tail _ (.head _)))))).2.2
  have inner : ∀ (k : Nat) (A' : Around) (s' : Shared) (Q' E' : Value → Shared → Prop) (x l r : Nat) (tx t1 t2 : Tok) (vs : List Value) (ds : List Int) (n0 : Nat) (oI oA oN : Obj),
      A'.depth + k < recursionLimit → base.StaysIn s'.heap → s'.heap.get? f = some fo → s'.heap.get? (s.heap.objs.size + 1 + 1 + 1) = some oI → oI.data = .cell (some (.ref f)) → s'.heap.get? (s.heap.objs.size + 1 + 1) = some oA → oA.data = .cell (some (.ref D)) →
      s'.heap.get? (s.heap.objs.size + 1) = some oN → oN.data = .cell (some (.int 1 tn)) → s'.heap.CodeRec (.ref c') innerQ → s'.heap.get? D = some (listOf vs.toArray n0) → IntsAre vs ds → l + 1 ≤ r → r ≤ ds.length → r - l ≤ k → ds.length ≤ 6 → x < 2 ^ (r - l) →
      (∀ h' tk' vs', (∀ b o, b ≠ D → s'.heap.get? b = some o → h'.get? b = some o) → h'.get? D = some (listOf (List.toArray vs') n0) → IntsAre vs' (putBits ds l x (r - l)) → Q' .none { s' with heap := h', toks := tk' }) →
      wpAny (model PySem.Challenge.rw_oc0028_01.row.prog w) A' (call (.ref f) [.int x tx, .int l t1, .int r t2]) Q' E' s' := by
    clear N4 F4 d1 d2 d3 d2' hoff hoff4 hf4
    have hfd := congrArg Obj.data hfo.symm
    have hFn : ∀ h : Heap, h.get? f = some fo → FnAt f h := by
      intro h e
      rw [← hfo] at e
      exact ⟨_, _, _, _, e⟩
    intro k
    induction k with
    | zero => intros; omega
    | succ k ih =>
      intro A' s' Q' E' x l r tx t1 t2 vs ds n0 oI oA oN hdep hbs hf hI hId hA hAd hN hNd hrc hDl hids hlr hrl hk hle hx hret
      have hG2 : base.StaysIn (hideAll s'.heap [D, s.heap.objs.size + 1 + 1 + 1, s.heap.objs.size + 1 + 1, s.heap.objs.size + 1, f]) := fun b o e => hideAll_get _ (hbs b o e) (fun hm => by
        simp only [List.mem_cons, List.not_mem_nil, or_false] at hm
        rcases hm with rfl | rfl | rfl | rfl | rfl
        · rw [b2] at e; cases e
        · rw [b3] at e; cases e
        · rw [b4] at e; cases e
        · rw [b5] at e; cases e
        · rw [b1] at e; cases e)
      have X2 := X.keeps hG2
      have T2 := T.keeps hG2
      refine enterF (G := hideAll s'.heap [D, s.heap.objs.size + 1 + 1 + 1, s.heap.objs.size + 1 + 1, s.heap.objs.size + 1, f]) (led := [(D, listOf vs.toArray n0), (s.heap.objs.size + 1 + 1 + 1, oI), (s.heap.objs.size + 1 + 1, oA), (s.heap.objs.size + 1, oN), (f, fo)]) (binds := [(Str.ofString "x", .int x tx), (Str.ofString "L", .int l t1), (Str.ofString "R", .int r t2)])
        (fun b o e => of_hideAll _ e) (Nat.le_of_eq (hideAll_size _ _)) ?_ T2 hf hfd hrc (by omega) (BindsTo.of_eq rfl) (locs rfl) ?_ rfl rfl rfl (by decide)
      · intro q hq
        simp only [List.mem_cons, List.not_mem_nil, or_false] at hq
        rcases hq with rfl | rfl | rfl | rfl | rfl
        · exact ⟨hDl, hideAll_none _ (by simp)⟩
        · exact ⟨hI, hideAll_none _ (by simp)⟩
        · exact ⟨hA, hideAll_none _ (by simp)⟩
        · exact ⟨hN, hideAll_none _ (by simp)⟩
        · exact ⟨hf, hideAll_none _ (by simp)⟩
      · intro h5 F5 N5 hs5
        have hvs := hids.length
        have nD3 : D ≠ s.heap.objs.size + 1 + 1 + 1 := neN (by have := ltN hD2; omega)
        have nD2 : D ≠ s.heap.objs.size + 1 + 1 := neN (by have := ltN hD2; omega)
        have nD1 : D ≠ s.heap.objs.size + 1 := neN (by have := ltN hD2; omega)
        have nDf : D ≠ f := Nat.ne_of_lt hfD
        have nrest : ∀ q ∈ [(s.heap.objs.size + 1 + 1 + 1, oI), (s.heap.objs.size + 1 + 1, oA), (s.heap.objs.size + 1, oN), (f, fo)], q.1 ≠ D := by
          intro q hq
          simp only [List.mem_cons, List.not_mem_nil, or_false] at hq
          rcases hq with rfl | rfl | rfl | rfl
          · exact nD3.symm
          · exact nD2.symm
          · exact nD1.symm
          · exact nDf.symm
        have keeps : ∀ (h6 : Heap) (m6 : Str → Option Value), Fr (hideAll s'.heap [D, s.heap.objs.size + 1 + 1 + 1, s.heap.objs.size + 1 + 1, s.heap.objs.size + 1, f]) s'.heap.objs.size h6 m6 → News (hideAll s'.heap [D, s.heap.objs.size + 1 + 1 + 1, s.heap.objs.size + 1 + 1, s.heap.objs.size + 1, f]) s'.heap.objs.size h6 [(s.heap.objs.size + 1 + 1 + 1, oI), (s.heap.objs.size + 1 + 1, oA), (s.heap.objs.size + 1, oN), (f, fo)] →
            ∀ b o, b ≠ D → s'.heap.get? b = some o → h6.get? b = some o := by
          intro h6 m6 F6 N6
          refine keep_of F6 fun b hb hbD o e => ?_
          simp only [List.mem_cons, List.not_mem_nil, or_false] at hb
          rcases hb with rfl | rfl | rfl | rfl | rfl
          · exact absurd rfl hbD
          · rw [hI] at e; cases e; exact (N6 _ (.head _)).1
          · rw [hA] at e; cases e; exact (N6 _ (.tail _ (.head _))).1
          · rw [hN] at e; cases e; exact (N6 _ (.tail _ (.tail _ (.head _)))).1
          · rw [hf] at e; cases e; exact (N6 _ (.tail _ (.tail _ (.tail _ (.head _))))).1
        ktr_unf
        · refine goT ?_
          rename_i heq
          have hr1 : r = l + 1 := by omega
          subst hr1
          refine ki_set F5 N5 (by omega) (by omega) (setL_eq (by simp; omega)) (Upd.head nrest) fun h6 F6 N6 => ?_
          ktr_unf
          refine hret h6 _ _ (keeps h6 _ F6 fun q hq => N6 q (.tail _ hq)) (N6 _ (.head _)).1 ?_
          have hx2 : x < 2 := by simpa using hx
          rw [Nat.add_sub_cancel_left, putBits_one (by omega) hx2, Int.toNat_natCast]
          exact ints_set hids
        · refine goT ?_
          rename_i hneq
          have hmid : ((l : Int) + (r : Int)).fdiv (2 ^ (1 : Int).toNat) = (((l + r) / 2 : Nat) : Int) := by
            show Int.fdiv _ 2 = _
            rw [Int.fdiv_eq_ediv_of_nonneg _ (by decide)]; omega
          have hr2 : l + 2 ≤ r := by omega
          obtain ⟨sf, hsf⟩ : ∃ sf, (l + r) / 2 = l + sf := ⟨(l + r) / 2 - l, by omega⟩
          have hsf1 : 1 ≤ sf ∧ sf < r - l ∧ sf < 6 ∧ r - l - sf < 7 := by omega
          have hx64 : x < 64 := Nat.lt_of_lt_of_le hx (by have : 2 ^ (r - l) ≤ 2 ^ 6 := Nat.pow_le_pow_right (by decide) (by omega); exact this)
          have hlow : x % 2 ^ sf < 2 ^ sf := Nat.mod_lt _ (Nat.pow_pos (by decide))
          have hup : x / 2 ^ sf < 2 ^ (r - l - sf) := by
            rw [Nat.div_lt_iff_lt_mul (Nat.pow_pos (by decide)), ← Nat.pow_add]
            rw [show r - l - sf + sf = r - l by omega]; exact hx
          refine rshift_int (by decide) ?_
          rw [hmid, hsf]
          ktr_unf
          refine goT ?_
          rw [show ((l + sf : Nat) : Int) - (l : Int) = (sf : Int) by omega]
          refine mul_int ?_ (.of_right (intBits_le_64 (by decide) (by decide)))
          rw [Int.mul_one]
          ktr_unf
          refine goT ?_
          refine rshift_int (by omega) ?_
          rw [Int.toNat_natCast, shr_up x hx64 sf hsf1.2.2.1]
          ktr_unf
          refine goT ?_
          refine lshift_int_small (by omega) (by omega) (by rw [Int.natAbs_natCast]; exact Nat.lt_of_le_of_lt (Nat.div_le_self _ _) (Nat.lt_trans hx64 (by decide))) ?_
          refine xor_int ?_
          rw [Int.toNat_natCast, ← shr_up x hx64 sf hsf1.2.2.1, xor_low x hx64 sf hsf1.2.2.1]
          ktr_unf
          refine goT ?_
          rename_i h6 F6 N6
          refine callWith_F (hFn _ (N6 (f, fo) (.tail _ (.tail _ (.tail _ (.tail _ (.head _)))))).1) ?_
          ktr_unf
          refine Hd.mk ⟨hFn _ (N6 (f, fo) (.tail _ (.tail _ (.tail _ (.tail _ (.head _)))))).1, ?_⟩
          have hDs : s'.heap.objs.size ≠ D := Nat.ne_of_gt (Heap.lt_size hDl)
          have gD : (hideAll s'.heap [D, s.heap.objs.size + 1 + 1 + 1, s.heap.objs.size + 1 + 1, s.heap.objs.size + 1, f]).get? D = none := hideAll_none _ (.head _)
          have rec_keep : ∀ h : Heap, (∀ b o, b ≠ D → s'.heap.get? b = some o → h.get? b = some o) → h.CodeRec (.ref c') innerQ := by
            intro h hk
            obtain ⟨c₂, oc, vsc, tc, e2, hoc, hdc, hvc⟩ := hrc
            refine ⟨c₂, oc, vsc, tc, e2, hk _ _ (fun q => ?_) hoc, hdc, hvc⟩
            rw [q, hDl] at hoc
            cases hoc
            cases hdc
          have K6 := keeps h6 _ F6 fun q hq => N6 q (.tail _ hq)
          refine ih _ _ _ _ (x % 2 ^ sf) l (l + sf) _ _ _ vs ds n0 oI oA oN (by show A'.depth + 1 + k < _; omega) (fun b o e => F6.keep b o (hG2 b o e)) (K6 _ _ nDf.symm hf) (K6 _ _ nD3.symm hI) hId (K6 _ _ nD2.symm hA) hAd (K6 _ _ nD1.symm hN) hNd (rec_keep _ K6) (N6 _ (.head _)).1 hids (by omega) (by omega) (by omega) hle (by rw [Nat.add_sub_cancel_left]; exact hlow) fun h7 tk7 vs7 hk7 hD7 hi7 => ?_
          rw [Nat.add_sub_cancel_left] at hi7
          have F7 := fr_but F6 hk7 gD hDs
          have N7 := news_but (fun q hq => N6 q (.tail _ hq)) hk7 nrest hD7 gD hDs
          have K7 : ∀ b o, b ≠ D → s'.heap.get? b = some o → h7.get? b = some o := fun b o hb e => hk7 b o hb (K6 b o hb e)
          clear F6 N6
          ktr_unf
          refine goT ?_
          refine callWith_F (hFn _ (K7 _ _ nDf.symm hf)) ?_
          ktr_unf
          refine Hd.mk ⟨hFn _ (K7 _ _ nDf.symm hf), ?_⟩
          refine ih _ _ _ _ (x / 2 ^ sf) (l + sf) r _ _ _ vs7 (putBits ds l (x % 2 ^ sf) sf) n0 oI oA oN (by show A'.depth + 1 + k < _; omega) (fun b o e => F7.keep b o (hG2 b o e)) (K7 _ _ nDf.symm hf) (K7 _ _ nD3.symm hI) hId (K7 _ _ nD2.symm hA) hAd (K7 _ _ nD1.symm hN) hNd (rec_keep _ K7) hD7 hi7 (by omega) (by rw [putBits_len (by omega)]; omega) (by omega) (by rw [putBits_len (by omega)]; omega) (by rw [Nat.sub_add_eq]; exact hup) fun h8 tk8 vs8 hk8 hD8 hi8 => ?_
          ktr_unf
          refine hret h8 _ vs8 (fun b o hb e => hk8 b o hb (K7 b o hb e)) hD8 ?_
          rw [show r - (l + sf) = r - l - sf by omega, putBits_two (by omega) hx64 (by omega) (by omega), show sf + (r - l - sf) = r - l by omega] at hi8
          exact hi8
  have hfDn := ltN hfD
  have hD2n := ltN hD2
  have hFn : ∀ h : Heap, h.get? f = some fo → FnAt f h := by
    intro h e
    rw [← hfo] at e
    exact ⟨_, _, _, _, e⟩
  have btl : ∀ q ∈ tl', base.get? q.1 = none := fun q hq => hbase _ (N4 q (.tail _ (.tail _ (.tail _ (.tail _ (.tail _ hq)))))).2.2
  have hDf : s.heap.get? D = none := Heap.get?_none_of_le (Nat.le_of_lt (by have := hD2n; omega))
  have fin : ∀ (h6 : Heap) (m6 : Str → Option Value) (vs6 : List Value) (tk6 : Nat), Fr G s.heap.objs.size h6 m6 → (∀ q ∈ tl', h6.get? q.1 = some q.2) → h6.get? D = some (listOf vs6.toArray 0) → IntsAre vs6 (bitsL a nb) → Q (.ref D) { s with heap := h6, toks := tk6 } := by
    intro h6 m6 vs6 tk6 F6 ht6 hD6 hi6
    refine ret D h6 tk6 vs6 0 (fun b o hb e => ?_) ⟨tl', .inr htm, fun q hq => ⟨ht6 q hq, btl q hq⟩⟩ hDf hD6 hi6
    by_cases hm : b ∈ tl.map (·.1)
    · obtain ⟨q, hq, rfl⟩ := List.mem_map.mp hm
      rw [hld q hq] at e
      cases e
      exact ht6 q (hsub q hq hb)
    · exact F6.keep b o (by rw [← hGG]; exact hideAll_get _ e hm)
  ktr_unf
  · refine goT ?_
    rename_i h5 o5 F5 N5 d5 hne
    have hk5 : h5.get? f = some fo := (N5 _ (.head _)).1
    refine callWith_F (hFn _ hk5) ?_
    have hvD : vD.toArray.size = nb := by have := iD.length; simp at this ⊢; exact this
    have nDf : f ≠ D := Nat.ne_of_gt hfD
    have nD3 : s.heap.objs.size + 1 + 1 + 1 ≠ D := neN (by omega)
    have nD2 : s.heap.objs.size + 1 + 1 ≠ D := neN (by omega)
    have nD1 : s.heap.objs.size + 1 ≠ D := neN (by omega)
    ktr_unf
    refine Hd.mk ⟨hFn _ hk5, ?_⟩
    have hnb0 : 1 ≤ nb := by
      rcases Nat.eq_zero_or_pos nb with h | h
      · rw [h] at hnb; omega
      · exact h
    have hrec5 : h5.CodeRec (.ref c') innerQ := by
      obtain ⟨oc, vs, t, hmm, hdc, hvc⟩ := hrec
      exact codeRec_news N5 (.tail _ (.tail _ (.tail _ (.tail _ (.tail _ hmm))))) hdc hvc
    refine inner 6 _ _ _ _ a 0 nb _ _ _ vD (List.replicate nb 0) 0 o5 o2' o3 (by show A.depth + 1 + 6 < _; omega) (fun b o e => F5.keep b o (hG b o e)) hk5 (N5 _ (.tail _ (.tail _ (.head _)))).1 d5 (N5 _ (.tail _ (.tail _ (.tail _ (.head _))))).1 d2' (N5 _ (.tail _ (.tail _ (.tail _ (.tail _ (.head _)))))).1 d3 hrec5 (N5 _ (.tail _ (.head _))).1 iD (by omega) (by simp) (by omega) (by simp; omega) hnb.2.1 fun h6 tk6 vs6 hk6 hD6 hi6 => ?_
    have gD : G.get? D = none := (N5 _ (.tail _ (.head _))).2.2
    have hLD : s.heap.objs.size ≠ D := neN (by omega)
    have F6 := fr_but F5 hk6 gD hLD
    have htl6 : ∀ q ∈ tl', h6.get? q.1 = some q.2 := fun q hq => hk6 _ _ (hoff4 q hq D (.tail _ (.head _))) (N5 q (.tail _ (.tail _ (.tail _ (.tail _ (.tail _ hq)))))).1
    have N6 : News G s.heap.objs.size h6 [(s.heap.objs.size + 1 + 1, o2')] := fun q hq => by
      rw [List.mem_singleton.mp hq]
      have z := N5 _ (.tail _ (.tail _ (.tail _ (.head _))))
      exact ⟨hk6 _ _ nD2 z.1, z.2⟩
    clear N5 F5
    ktr_unf
    rw [Nat.sub_zero, bitsL_put] at hi6
    exact fin h6 _ vs6 _ F6 htl6 hD6 hi6
  · rename_i h5 o5 F5 N5 d5 ha0
    have ha0' : a = 0 := by omega
    subst ha0'
    have hnb0 : nb = 0 := hnb.2.2 rfl
    subst hnb0
    exact fin h5 _ vD _ F5 (fun q hq => (N5 q (.tail _ (.tail _ (.tail _ (.tail _ (.tail _ hq)))))).1) (N5 _ (.tail _ (.head _))).1 iD
end Mine
set_option maxHeartbeats 4000000
namespace Mine
local macro_rules | `(tactic| walk_at "call type:type cons nil") => `(tactic| refine stopT ?_)
local macro_rules | `(tactic| ktr_unf) => `(tactic| repeat' (first | walk1 | (dsimp only; walk1)))
theorem buffer_spec {w : World} {p : Program} {loose : List Str} {mean : ExcName → Option Value} {mg mb : Str → Option Value} {A : Around} {s : Shared} {E : Value → Shared → Prop} {Q : Value → Shared → Prop}
   {b : Array UInt8} {tb : Tok} (C : CC w p loose mean mg mb 3 A s.heap)
   (ret : ∀ h' tk', s.heap.StaysIn h' → Q (.bytes b tb) { s with heap := h', toks := tk' }) : wpAny (model PySem.Challenge.rw_oc0028_01.row.prog w) A (call (.ref 42) [.bytes b tb]) Q E s := by
  w_top off
  have X := C.X
  have T := C.T
  have hroom := C.depth
  revert X
  k_fill
  intro X
  refine enter (binds := [(Str.ofString "data", .bytes b tb)]) X T (by k_is) (by k_is) (by omega) (BindsTo.of_eq rfl) (locs rfl) ?_ rfl rfl rfl (by decide)
  intro h' F'
  have N' : News s.heap s.heap.objs.size h' [] := News.nil
  ktr_unf
  refine goT ?_
  refine call_type_of (Tx := "bytes") (by exact rfl) (by decide) ?_
  ktr_unf
  rename_i F N
  exact ret _ _ F.keep
theorem truth_spec {w : World} {p : Program} {loose : List Str} {mean : ExcName → Option Value} {mg mb : Str → Option Value} {A : Around} {s : Shared} {E : Value → Shared → Prop} {Q : Value → Shared → Prop}
   (C : CC w p loose mean mg mb 3 A s.heap)
   (ret : ∀ h' tk', s.heap.StaysIn h' → Q (.bool false) { s with heap := h', toks := tk' }) : wpAny (model PySem.Challenge.rw_oc0028_01.row.prog w) A (call (.ref 49) [.bool false]) Q E s := by
  w_top off
  have X := C.X
  have T := C.T
  have hroom := C.depth
  revert X
  k_fill
  intro X
  refine enter (binds := [(Str.ofString "x", .bool false)]) X T (by k_is) (by k_is) (by omega) (BindsTo.of_eq rfl) (locs rfl) ?_ rfl rfl rfl (by decide)
  intro h' F'
  have N' : News s.heap s.heap.objs.size h' [] := News.nil
  ktr_unf
  refine goT ?_
  refine call_type_of (Tx := "bool") (by exact rfl) (by decide) ?_
  ktr_unf
  rename_i F N
  exact ret _ _ F.keep
end Mine
set_option maxHeartbeats 4000000
namespace Mine
local macro_rules | `(tactic| walk_at "call ref") => `(tactic| refine stopT ?_)
local macro_rules | `(tactic| walk_at "exec For Name Name cons nil") => `(tactic| refine stopT ?_)
local macro_rules | `(tactic| walk_at "pyIter bytes") => `(tactic| refine stopT ?_)
local macro_rules | `(tactic| walk_at "eval Name") => `(tactic| (k_here; k_dflt (refine' ld ?k1 ?k2 ?_; (case k1 => k_asm); (case k2 => ((repeat (refine lk_ne (by decide) ?_)); first | exact lk_eq | assumption | exact rfl)); k_whole)))
local macro_rules | `(tactic| ktr_unf) => `(tactic| repeat' (first | walk1 | (dsimp only; walk1)))
/-- the sign of a six-bit figure -/
def sgnL : List Int := [65, 66, 67, 68, 69, 70, 71, 72, 73, 74, 75, 76, 77, 78, 79, 80, 81, 82, 83, 84, 85, 86, 87, 88, 89, 90, 97, 98, 99, 100, 101, 102, 103, 104, 105, 106, 107, 108, 109, 110, 111, 112, 113, 114, 115, 116, 117, 118, 119, 120, 121, 122, 48, 49, 50, 51, 52, 53, 54, 55, 56, 57, 43, 47]
def sgn (k : Int) : Int := sgnL.getD k.toNat 0
def b64L : List UInt8 := [65, 66, 67, 68, 69, 70, 71, 72, 73, 74, 75, 76, 77, 78, 79, 80, 81, 82, 83, 84, 85, 86, 87, 88, 89, 90, 97, 98, 99, 100, 101, 102, 103, 104, 105, 106, 107, 108, 109, 110, 111, 112, 113, 114, 115, 116, 117, 118, 119, 120, 121, 122, 48, 49, 50, 51, 52, 53, 54, 55, 56, 57, 43, 47]
theorem b64L_get : ∀ i < (64 : Nat), (((b64L.getD i 0).toNat : Nat) : Int) = sgnL.getD i 0 := by decide +kernel
theorem b64_item {w : World} {A : Around} {E : Value → Shared → Prop} {s : Shared} {prog : Program} {i : Int} {t ui : Tok} {value slice : PySem.Expr} {Q : Value → Shared → Prop} (h0 : 0 ≤ i) (h1 : i < 64) 
    (h : Q (.int (sgn i) s.toks) { s with toks := s.toks + 1 })
    (hs : subscripted slice false (.bytes b64L.toArray t) (.int i ui) = operate [.bytes b64L.toArray t, .int i ui] (getItem (.bytes b64L.toArray t) (.int i ui)) := by with_unfolding_all rfl)
    (ht : ∀ r, letTemporaryGo value (.bytes b64L.toArray t) r = pure () := by intro _; with_unfolding_all rfl) : wpAny (model prog w) A (subscriptTail value slice (.bytes b64L.toArray t) (.int i ui)) Q E s :=
  bytes_item_K (by decide) h0 (by show i < 64; exact h1) (b64L_get i.toNat (by omega)) h hs ht
theorem or_step {c k : Int} (hc : 0 ≤ c) (hk0 : 0 ≤ k) (hk1 : k < 256) : Builtin.bitAnd (Builtin.bitOr (c * 2 ^ Int.toNat 8) k) 65535 = (256 * c + k) % 65536 := by
  rw [bitAnd_m16, bitOr_and, show (2 : Int) ^ Int.toNat 8 = 256 from rfl]
  have : Builtin.bitAnd (c * 256) k = 0 := by
    rw [bitAnd_pp (by omega) hk0]
    have e1 : k.toNat = k.toNat &&& 255 := by
      rw [show (255 : Nat) = 2 ^ 8 - 1 from rfl, Nat.and_two_pow_sub_one_eq_mod]; omega
    have e2 : (c * 256).toNat &&& 255 = 0 := by
      rw [show (255 : Nat) = 2 ^ 8 - 1 from rfl, Nat.and_two_pow_sub_one_eq_mod]; omega
    rw [e1, Nat.and_comm k.toNat, ← Nat.and_assoc, e2, Nat.zero_and]; rfl
  rw [this]
  congr 1
  omega
theorem cut_step {c : Int} (n : Nat) (_ : 0 ≤ c) : Builtin.bitAnd (c.fdiv (2 ^ n)) 63 = c / 2 ^ n % 64 := by
  rw [bitAnd_m6, Int.fdiv_eq_ediv_of_nonneg _ (Int.le_of_lt (Int.pow_pos (by decide)))]
structure BSt where
  c : Int
  l : Int
  out : List Int
def bstep (a : BSt) (b : Int) : BSt :=
  let c' := (256 * a.c + b) % 65536
  if a.l = 0 then ⟨c', 2, a.out ++ [sgn (c' / 4 % 64)]⟩ else if a.l = 2 then ⟨c', 4, a.out ++ [sgn (c' / 16 % 64)]⟩ else ⟨c', 0, a.out ++ [sgn (c' / 64 % 64)] ++ [sgn (c' % 64)]⟩
def bpad (a : BSt) : List Int := if a.l = 2 then a.out ++ [sgn (a.c % 4 * 16)] ++ [61] ++ [61] else if a.l = 4 then a.out ++ [sgn (a.c % 16 * 4)] ++ [61] else a.out
theorem sgn_in (k : Int) : 0 ≤ sgn k ∧ sgn k < 256 := by
  have h : ∀ i < (64 : Nat), 0 ≤ sgnL.getD i 0 ∧ sgnL.getD i 0 < 256 := by decide +kernel
  by_cases hk : k.toNat < 64
  · exact h _ hk
  · have e : sgn k = 0 := by
      rw [sgn, List.getD_eq_getElem?_getD, List.getElem?_eq_none (by show (64 : Nat) ≤ _; omega)]; rfl
    rw [e]; decide
theorem bstep_in {a : BSt} {k : Int} (h : ∀ x ∈ a.out, 0 ≤ x ∧ x < 256) : ∀ x ∈ (bstep a k).out, 0 ≤ x ∧ x < 256 := by
  intro x hx
  unfold bstep at hx
  dsimp only at hx
  split at hx
  · rcases List.mem_append.mp hx with hx | hx
    · exact h x hx
    · rw [List.mem_singleton.mp hx]; exact sgn_in _
  · split at hx
    · rcases List.mem_append.mp hx with hx | hx
      · exact h x hx
      · rw [List.mem_singleton.mp hx]; exact sgn_in _
    · rcases List.mem_append.mp hx with hx | hx
      · rcases List.mem_append.mp hx with hx | hx
        · exact h x hx
        · rw [List.mem_singleton.mp hx]; exact sgn_in _
      · rw [List.mem_singleton.mp hx]; exact sgn_in _
theorem bfold_in (ks : List Int) : ∀ {a : BSt}, (∀ x ∈ a.out, 0 ≤ x ∧ x < 256) → ∀ x ∈ (ks.foldl bstep a).out, 0 ≤ x ∧ x < 256 := by
  induction ks with
  | nil => intro a h; exact h
  | cons k r ih => intro a h; exact ih (bstep_in h)
theorem bpad_in {a : BSt} (h : ∀ x ∈ a.out, 0 ≤ x ∧ x < 256) : ∀ x ∈ bpad a, 0 ≤ x ∧ x < 256 := by
  intro x hx
  unfold bpad at hx
  split at hx
  · simp only [List.mem_append, List.mem_singleton] at hx
    rcases hx with ((hx | rfl) | rfl) | rfl
    · exact h x hx
    · exact sgn_in _
    · decide
    · decide
  · split at hx
    · simp only [List.mem_append, List.mem_singleton] at hx
      rcases hx with (hx | rfl) | rfl
      · exact h x hx
      · exact sgn_in _
      · decide
    · exact h x hx
theorem back_ints (ns : List Int) (h : ∀ n ∈ ns, 0 ≤ n ∧ n < 256) : KBw.bInts (ns.map fun n => n.toNat.toUInt8).toArray = ns := by
  rw [KBw.ints_list, List.map_map]
  conv => rhs; rw [← List.map_id ns]
  exact List.map_congr_left fun n hn => byte_back (h n hn).1 (h n hn).2
def benc (os : List Int) : List Int := bpad (os.foldl bstep ⟨0, 0, []⟩)
section
variable {prog : Program} {w : World} {A : Around} {E : Value → Shared → Prop} {s : Shared} {env : Env} {h₀ : Heap} {x : PySem.Str} {body : List Stmt} {Q : Flow → Shared → Prop} {b : Array UInt8} {tb : Tok} {ks : List Int}
  {m₀ : PySem.Str → Option Value} {news : List (Addr × Obj)}
theorem iter_bytesN (J : Nat → (PySem.Str → Option Value) → List (Addr × Obj) → Prop)
    (hk : KBw.bInts b = ks) (hh : A.handled = none) (F : Fr h₀ env.locals s.heap m₀) (N : News h₀ env.locals s.heap news) (hj : J 0 m₀ news)
    (turn : ∀ i k t m₁ nx h tk own, ks[i]? = some k → 0 ≤ k → k < 256 → OwnOff own (news.map (·.1)) → J i m₁ nx → Fr h₀ env.locals h (fun y => if y = x then some (.int k t) else m₁ y) → News h₀ env.locals h (nx ++ own) →
      wpAny (model prog w) A (execs body env) (InvPostN h₀ env.locals (J (i + 1)) own (news.map (·.1)) { s with heap := h, toks := tk } Q) E { s with heap := h, toks := tk })
    (done : ∀ m₁ nx h tk, J ks.length m₁ nx → Fr h₀ env.locals h m₁ → News h₀ env.locals h nx → Q .next { s with heap := h, toks := tk }) :
    wpAny (model prog w) A (pyIter (.bytes b tb)) (fun it s₂ => LoopAtV prog w A h₀ env x body Q E it s₂) E s := by
  subst hk
  refine KBw.pyIter_bytes ?_
  have W := KBw.walks (prog := prog) (w := w) hh s.heap.objs.size b tb
  refine loop_invN J W ?_ ?_ ?_ ?_ ⟨_, Heap.get?_push_size _ rfl, rfl, rfl⟩ (F.push _) (fun p hp => ⟨Heap.get?_push_of_some _ (N p hp).1, (N p hp).2⟩) hj ?_ ?_
  · intro hm
    exact absurd F.ns.lt ((List.mem_singleton.mp hm) ▸ Nat.lt_irrefl _)
  · intro b' hb
    rw [List.mem_singleton.mp hb]
    exact next_is_new F
  · intro p hp hI
    exact absurd (Heap.lt_size (N p hp).1) ((List.mem_singleton.mp hI) ▸ Nat.lt_irrefl _)
  · intro p hp hI
    exact absurd (Heap.lt_size (N p hp).1) ((List.mem_singleton.mp hI) ▸ Nat.lt_irrefl _)
  · rintro i v m₁ nx h tk own hi ⟨n, u, hn, rfl⟩ _ hoff hJ F₁ N₁
    have hn' := KBw.ints_get hn
    have hb := KBw.ints_in (List.mem_of_getElem? hn')
    exact turn i _ u m₁ nx h tk own hn' hb.1 hb.2 hoff hJ F₁ N₁
  · rw [KBw.ints_length] at done; exact done
end
def BJ (ks : List Int) (L : Addr) (i : Nat) (m : Str → Option Value) (nx : List (Addr × Obj)) : Prop :=
  ∃ a : BSt, a = (ks.take i).foldl bstep ⟨0, 0, []⟩ ∧ (∃ t, m (Str.ofString "leftchar") = some (.int a.c t)) ∧ (∃ t, m (Str.ofString "leftbits") = some (.int a.l t)) ∧ m (Str.ofString "newline") = some (.bool false) ∧ m (Str.ofString "out") = some (.ref L) ∧ (∃ ys c, nx = [(L, listOf (List.toArray ys) c)] ∧ IntsAre ys a.out) ∧ 0 ≤ a.c ∧ a.c < 65536 ∧ (a.l = 0 ∨ a.l = 2 ∨ a.l = 4) ∧ a.out.length ≤ 2 * i
theorem bj_end {h₀ h' : Heap} {L lo : Addr} {m' : Str → Option Value} {own : List (Addr × Obj)} {ys : List Value} {c tk i : Nat} {ks : List Int} {s₁ : Shared} {a : BSt} (F : Fr h₀ L h' m') (N : News h₀ L h' ((lo, listOf (List.toArray ys) c) :: own))
    (ha : (ks.take (i + 1)).foldl bstep ⟨0, 0, []⟩ = a) (hys : IntsAre ys a.out) (h1 : ∃ t, m' (Str.ofString "leftchar") = some (.int a.c t)) (h2 : ∃ t, m' (Str.ofString "leftbits") = some (.int a.l t)) (h3 : m' (Str.ofString "newline") = some (.bool false)) (h4 : m' (Str.ofString "out") = some (.ref lo))
    (hc0 : 0 ≤ a.c) (hc1 : a.c < 65536) (hl : a.l = 0 ∨ a.l = 2 ∨ a.l = 4) (ho : a.out.length ≤ 2 * (i + 1)) : InvEndN h₀ L (BJ ks lo (i + 1)) own [lo] s₁ { s₁ with heap := h', toks := tk } := by
  refine InvEndN.intro (nx := [(lo, listOf (List.toArray ys) c)]) F N ⟨a, ha.symm, h1, h2, h3, h4, ⟨_, _, rfl, hys⟩, hc0, hc1, hl, ho⟩ rfl ?_ ?_
  · intro q hq; rw [List.mem_singleton.mp hq]; exact .head _
  · intro q hq; exact .tail _ hq
theorem b2a_spec {w : World} {p : Program} {loose : List Str} {mean : ExcName → Option Value} {mg mb : Str → Option Value} {A : Around} {s : Shared} {E : Value → Shared → Prop} {Q : Value → Shared → Prop}
   {b : Array UInt8} {tb : Tok} (C : CC w p loose mean mg mb 5 A s.heap) (hlen : b.size ≤ 6)
   (ret : ∀ r t h' tk', KBw.bInts r = benc (KBw.bInts b) → s.heap.StaysIn h' → Q (.bytes r t) { s with heap := h', toks := tk' }) : wpAny (model PySem.Challenge.rw_oc0028_01.row.prog w) A (call (.ref 57) [.bytes b tb] [(Str.ofString "newline", .bool false)]) Q E s := by
  w_top off
  have X := C.X
  have T := C.T
  have hroom := C.depth
  revert X
  k_fill
  intro X
  refine enter (binds := [(Str.ofString "data", .bytes b tb), (Str.ofString "newline", .bool false)]) X T (by k_is) (by k_is) (by omega) (BindsTo.of_eq rfl) (locs rfl) ?_ rfl rfl rfl (by decide)
  intro h' F'
  have N' : News s.heap s.heap.objs.size h' [] := News.nil
  ktr_unf
  refine goT ?_
  refine buffer_spec ((C.push F' rfl rfl).less (by omega)) (fun h2 tk2 hk2 => ?_)
  have F2 := F'.keeps hk2
  have N2 : News s.heap s.heap.objs.size h2 [] := News.nil
  clear F' N' hk2
  ktr_unf
  refine goT ?_
  rename_i F3 N3
  refine truth_spec ((C.push F3 rfl rfl).less (by omega)) (fun h4 tk4 hk4 => ?_)
  have F4 := F3.keeps hk4
  have N4 : News s.heap s.heap.objs.size h4 [] := News.nil
  clear F3 N3 hk4
  ktr_unf
  refine goT ?_
  rename_i lo _ _ _ _ h5 F5 N5
  refine For_invVF F5 rfl rfl ?_
  ktr_unf
  refine goT ?_
  refine iter_bytesN (ks := KBw.bInts b) (BJ (KBw.bInts b) lo) rfl C.hh F5 N5 ?_ ?_ ?_
  · exact ⟨⟨0, 0, []⟩, rfl, ⟨_, rfl⟩, ⟨_, rfl⟩, rfl, rfl, ⟨[], _, rfl, .nil⟩, by decide, by decide, .inl rfl, by decide⟩
  · rintro i k t m₁ nx h tk own hi hk0 hk1 hoff ⟨⟨c, l, out⟩, ha, ⟨t1, h1⟩, ⟨t2, h2⟩, h3, h4, ⟨ys, cc, rfl, hys⟩, hc0, hc1, hl, hlo⟩ F6 N6
    dsimp only at h1 h2 hys hc0 hc1 hl hlo
    have hi6 : i < 6 := by have := (List.getElem?_eq_some_iff.mp hi).1; rw [KBw.ints_length] at this; omega
    have hyl := hys.length
    have hstep : ((KBw.bInts b).take (i + 1)).foldl bstep ⟨0, 0, []⟩ = bstep ⟨c, l, out⟩ k := by
      rw [List.take_add_one, hi, Option.toList_some, List.foldl_append, ← ha]; rfl
    simp only [List.cons_append, List.nil_append] at N6
    have hoff' : ∀ p ∈ own, p.1 ≠ lo := fun p hp => hoff p hp lo (.head _)
    have e1 := or_step hc0 hk0 hk1
    have hC1 : 0 ≤ (256 * c + k) % 65536 ∧ (256 * c + k) % 65536 < 65536 := by omega
    rcases hl with rfl | rfl | rfl
    · ktr_unf
      rename_i h7 F7 N7
      rw [e1] at F7
      rw [e1]
      rw [cut_step _ hC1.1]
      refine b64_item (by omega) (by omega) ?_
      ktr_unf
      rename_i F9 N9
      simp only [List.push_toArray] at N9
      refine bj_end F9 N9 hstep (ints_snoc hys) ⟨_, rfl⟩ ⟨_, rfl⟩ (by (repeat (refine lk_ne (by decide) ?_)); exact h3) (by (repeat (refine lk_ne (by decide) ?_)); exact h4) hC1.1 hC1.2 (.inr (.inl rfl)) ?_
      show (out ++ [_]).length ≤ _; simp; omega
    · ktr_unf
      rename_i h7 F7 N7
      rw [e1] at F7
      rw [e1]
      rw [cut_step _ hC1.1]
      refine b64_item (by omega) (by omega) ?_
      ktr_unf
      rename_i F9 N9
      simp only [List.push_toArray] at N9
      refine bj_end F9 N9 hstep (ints_snoc hys) ⟨_, rfl⟩ ⟨_, rfl⟩ (by (repeat (refine lk_ne (by decide) ?_)); exact h3) (by (repeat (refine lk_ne (by decide) ?_)); exact h4) hC1.1 hC1.2 (.inr (.inr rfl)) ?_
      show (out ++ [_]).length ≤ _; simp; omega
    · ktr_unf
      rename_i h7 F7 N7
      rw [e1] at F7
      rw [e1]
      rw [cut_step _ hC1.1]
      refine b64_item (by omega) (by omega) ?_
      ktr_unf
      rename_i F8 N8
      rw [cut_step _ hC1.1]
      refine b64_item (by omega) (by omega) ?_
      ktr_unf
      rename_i F9 N9
      have e0 : (256 * c + k) % 65536 / 2 ^ (4 + 8 - 6 - 6 : Int).toNat % 64 = (256 * c + k) % 65536 % 64 := by rw [show (2 : Int) ^ (4 + 8 - 6 - 6 : Int).toNat = 1 from rfl, Int.ediv_one]
      rw [e0] at N9
      simp only [List.push_toArray] at N9
      refine bj_end F9 N9 hstep (ints_snoc (ints_snoc hys)) ⟨_, rfl⟩ ⟨_, rfl⟩ (by (repeat (refine lk_ne (by decide) ?_)); exact h3) (by (repeat (refine lk_ne (by decide) ?_)); exact h4) hC1.1 hC1.2 (.inl rfl) ?_
      show (out ++ [_] ++ [_]).length ≤ _; simp; omega
  · rintro m₁ nx h tk ⟨⟨c, l, out⟩, ha, ⟨t1, h1⟩, ⟨t2, h2⟩, h3, h4, ⟨ys, cc, rfl, hys⟩, hc0, hc1, hl, hlo⟩ F6 N6
    dsimp only at h1 h2 hys hc0 hc1 hl hlo
    rw [List.take_length] at ha
    rw [KBw.ints_length] at hlo
    have hyl := hys.length
    rcases hl with rfl | rfl | rfl
    · ktr_unf
      have hin : ∀ x ∈ out, 0 ≤ x ∧ x < 256 := by have := bfold_in (KBw.bInts b) (a := ⟨0, 0, []⟩) (fun _ h => nomatch h); rw [← ha] at this; exact this
      have he : out = benc (KBw.bInts b) := by unfold benc; rw [← ha]; rfl
      refine bytes_K F6 N6 (N6.isList (.head _)) hys hin (by rw [sizeLine_eq]; omega) C.hh (fun h7 t7 k7 F7 N7 _ => ?_)
      exact ret _ _ _ _ ((back_ints _ hin).trans he) F7.keep
    · ktr_unf
      rw [bitAnd_m2]
      refine lshift_int_small (n := 4) (by decide) (by decide) (by omega) ?_
      ktr_unf
      rw [show (2 : Int) ^ Int.toNat 4 = 16 from rfl]
      refine b64_item (i := c % 4 * 16) (by omega) (by omega) ?_
      ktr_unf
      rename_i F8 N8
      simp only [List.push_toArray] at N8
      have hin : ∀ x ∈ out ++ [sgn (c % 4 * 16)] ++ [61] ++ [61], 0 ≤ x ∧ x < 256 := by have := bpad_in (bfold_in (KBw.bInts b) (a := ⟨0, 0, []⟩) (fun _ h => nomatch h)); rw [← ha] at this; exact this
      have he : out ++ [sgn (c % 4 * 16)] ++ [61] ++ [61] = benc (KBw.bInts b) := by unfold benc; rw [← ha]; rfl
      refine bytes_K F8 N8 (N8.isList (.head _)) (ints_snoc (ints_snoc (ints_snoc hys))) hin (by rw [sizeLine_eq]; simp only [List.length_append, List.length_singleton]; omega) C.hh (fun h9 t9 k9 F9 N9 _ => ?_)
      exact ret _ _ _ _ ((back_ints _ hin).trans he) F9.keep
    · ktr_unf
      rw [bitAnd_m4]
      refine lshift_int_small (n := 2) (by decide) (by decide) (by omega) ?_
      ktr_unf
      rw [show (2 : Int) ^ Int.toNat 2 = 4 from rfl]
      refine b64_item (i := c % 16 * 4) (by omega) (by omega) ?_
      ktr_unf
      rename_i F8 N8
      simp only [List.push_toArray] at N8
      have hin : ∀ x ∈ out ++ [sgn (c % 16 * 4)] ++ [61], 0 ≤ x ∧ x < 256 := by have := bpad_in (bfold_in (KBw.bInts b) (a := ⟨0, 0, []⟩) (fun _ h => nomatch h)); rw [← ha] at this; exact this
      have he : out ++ [sgn (c % 16 * 4)] ++ [61] = benc (KBw.bInts b) := by unfold benc; rw [← ha]; rfl
      refine bytes_K F8 N8 (N8.isList (.head _)) (ints_snoc (ints_snoc hys)) hin (by rw [sizeLine_eq]; simp only [List.length_append, List.length_singleton]; omega) C.hh (fun h9 t9 k9 F9 N9 _ => ?_)
      exact ret _ _ _ _ ((back_ints _ hin).trans he) F9.keep
end Mine
set_option maxHeartbeats 4000000
namespace Mine
local macro_rules | `(tactic| walk_at "call ref cons nil") => `(tactic| refine stopT ?_)
local macro_rules | `(tactic| walk_at "call ref") => `(tactic| refine stopT ?_)
local macro_rules | `(tactic| ktr_unf) => `(tactic| repeat' (first | walk1 | (dsimp only; walk1)))
theorem b64_spec {w : World} {p : Program} {loose : List Str} {mean : ExcName → Option Value} {mg mb : Str → Option Value} {A : Around} {s : Shared} {E : Value → Shared → Prop} {Q : Value → Shared → Prop}
   {b : Array UInt8} {tb : Tok} (C : CC w p loose mean mg mb 7 A s.heap) (hlen : b.size ≤ 6)
   (ret : ∀ r t h' tk', KBw.bInts r = benc (KBw.bInts b) → s.heap.StaysIn h' → Q (.bytes r t) { s with heap := h', toks := tk' }) : wpAny (model PySem.Challenge.rw_oc0028_01.row.prog w) A (call (.ref 65) [.bytes b tb]) Q E s := by
  w_top off
  have X := C.X
  have T := C.T
  have hroom := C.depth
  revert X
  k_fill
  intro X
  refine enter (binds := [(Str.ofString "s", .bytes b tb), (Str.ofString "altchars", .none)]) X T (by k_is) (by k_is) (by omega) (binds_K (by k_in) rfl (by k_is) rfl rfl rfl) (locs rfl) ?_ rfl rfl rfl (by decide)
  intro h' F'
  have N' : News s.heap s.heap.objs.size h' [] := News.nil
  ktr_unf
  refine goT ?_
  refine b2a_spec ((C.push F' rfl rfl).less (by omega)) hlen (fun r t h2 tk2 hr hk2 => ?_)
  have F2 := F'.keeps hk2
  have N2 : News s.heap s.heap.objs.size h2 [] := News.nil
  clear F' N' hk2
  ktr_unf
  rename_i F3 N3
  exact ret _ _ _ _ hr F3.keep
end Mine
set_option maxHeartbeats 400000
set_option linter.unusedVariables false
set_option linter.unusedSimpArgs false
namespace Mine
theorem fdm (a b : Int) (hb : 0 < b) : (a.fdiv b).fmod 64 = a / b % 64 := by
  rw [Int.fdiv_eq_ediv_of_nonneg _ (Int.le_of_lt hb), Int.fmod_eq_emod_of_nonneg _ (by decide)]
theorem bstep0 (c : Int) (o : List Int) (k : Int) : bstep ⟨c, 0, o⟩ k = ⟨(256 * c + k) % 65536, 2, o ++ [sgn ((256 * c + k) % 65536 / 4 % 64)]⟩ := rfl
theorem bstep2 (c : Int) (o : List Int) (k : Int) : bstep ⟨c, 2, o⟩ k = ⟨(256 * c + k) % 65536, 4, o ++ [sgn ((256 * c + k) % 65536 / 16 % 64)]⟩ := rfl
theorem bstep4 (c : Int) (o : List Int) (k : Int) : bstep ⟨c, 4, o⟩ k = ⟨(256 * c + k) % 65536, 0, o ++ [sgn ((256 * c + k) % 65536 / 64 % 64)] ++ [sgn ((256 * c + k) % 65536 % 64)]⟩ := rfl
theorem bpad0 (c : Int) (o : List Int) : bpad ⟨c, 0, o⟩ = o := rfl
theorem bpad2 (c : Int) (o : List Int) : bpad ⟨c, 2, o⟩ = o ++ [sgn (c % 4 * 16)] ++ [61] ++ [61] := rfl
theorem bpad4 (c : Int) (o : List Int) : bpad ⟨c, 4, o⟩ = o ++ [sgn (c % 16 * 4)] ++ [61] := rfl
theorem cons_eq {a b : Int} {l m : List Int} (h : a = b) (h' : l = m) : sgn a :: l = sgn b :: m := by rw [h, h']
theorem m_in (x y : Int) : (256 * (x % 65536) + y) % 65536 = (256 * x + y) % 65536 := by omega
theorem m_4 (x : Int) : x % 65536 / 4 % 64 = x / 2 ^ 2 % 64 := by omega
theorem m_16 (x : Int) : x % 65536 / 16 % 64 = x / 2 ^ 4 % 64 := by omega
theorem m_64 (x : Int) : x % 65536 / 64 % 64 = x / 2 ^ 6 % 64 := by omega
theorem m_0 (x : Int) : x % 65536 % 64 = x / 2 ^ 0 % 64 := by omega
theorem m_p2 (x : Int) : x % 65536 % 4 * 16 = x * 16 % 64 := by omega
theorem m_p4 (x : Int) : x % 65536 % 16 * 4 = x * 4 % 64 := by omega
theorem peel {x y : Int} (t : Nat) (h : 0 ≤ y ∧ y < 256) : (256 * x + y) / 2 ^ (t + 8) = x / 2 ^ t := by
  have e : (2 : Int) ^ (t + 8) = 256 * 2 ^ t := by rw [Int.pow_add, Int.mul_comm]; rfl
  rw [e, ← Int.ediv_ediv_of_nonneg (by decide)]
  congr 1
  omega
theorem fshift (V : Int) (s t k : Nat) (h : 6 * k = t + s) : ((V * 2 ^ s).fdiv (64 ^ k)).fmod 64 = V / 2 ^ t % 64 := by
  have e : (64 : Int) ^ k = 2 ^ t * 2 ^ s := by rw [← Int.pow_add, ← h, Int.pow_mul]; rfl
  rw [fdm _ _ (Int.pow_pos (by decide)), e, Int.mul_ediv_mul_of_pos_left _ _ (Int.pow_pos (by decide))]
theorem flast (V : Int) (s : Nat) : ((V * 2 ^ s).fdiv (64 ^ 0)).fmod 64 = V * 2 ^ s % 64 := by
  rw [fdm _ _ (by decide), Int.pow_zero, Int.ediv_one]
theorem figs_1 (a : Int) : figs [a] = [(((256 * 0 + a) * 2 ^ 4).fdiv (64 ^ 1)).fmod 64, (((256 * 0 + a) * 2 ^ 4).fdiv (64 ^ 0)).fmod 64] := by
  have h1 : fsize [a] = 2 := by simp [fsize]
  have h2 : rangeL (((2 : Nat) : Int) - 1) (-1) 2 = [1, 0] := by decide
  have h3 : (6 * ((2 : Nat) : Int) - 8 * (([a] : List Int).length : Int)).toNat = 4 := rfl
  rw [figs, shifted, h1, h2, h3]; rfl
theorem enc_1 (a : Int) (ha : 0 ≤ a ∧ a < 256) : benc [a] = (figs [a]).map sgn ++ [61, 61] := by
  rw [figs_1]
  simp only [benc, List.foldl_cons, List.foldl_nil, bstep0, bstep2, bstep4, bpad0, bpad2, bpad4, List.nil_append, List.cons_append, List.map_cons, List.map_nil, m_in, m_4, m_16, m_64, m_0, m_p2, m_p4]
  refine cons_eq (by rw [fshift _ 4 2 1 rfl]) ?_
  refine cons_eq (by rw [flast]; rfl) ?_
  rfl
theorem figs_2 (a b : Int) : figs [a, b] = [(((256 * (256 * 0 + a) + b) * 2 ^ 2).fdiv (64 ^ 2)).fmod 64, (((256 * (256 * 0 + a) + b) * 2 ^ 2).fdiv (64 ^ 1)).fmod 64, (((256 * (256 * 0 + a) + b) * 2 ^ 2).fdiv (64 ^ 0)).fmod 64] := by
  have h1 : fsize [a, b] = 3 := by simp [fsize]
  have h2 : rangeL (((3 : Nat) : Int) - 1) (-1) 3 = [2, 1, 0] := by decide
  have h3 : (6 * ((3 : Nat) : Int) - 8 * (([a, b] : List Int).length : Int)).toNat = 2 := rfl
  rw [figs, shifted, h1, h2, h3]; rfl
theorem enc_2 (a b : Int) (ha : 0 ≤ a ∧ a < 256) (hb : 0 ≤ b ∧ b < 256) : benc [a, b] = (figs [a, b]).map sgn ++ [61] := by
  rw [figs_2]
  simp only [benc, List.foldl_cons, List.foldl_nil, bstep0, bstep2, bstep4, bpad0, bpad2, bpad4, List.nil_append, List.cons_append, List.map_cons, List.map_nil, m_in, m_4, m_16, m_64, m_0, m_p2, m_p4]
  refine cons_eq (by rw [fshift _ 2 10 2 rfl, peel 2 hb]) ?_
  refine cons_eq (by rw [fshift _ 2 4 1 rfl]) ?_
  refine cons_eq (by rw [flast]; rfl) ?_
  rfl
theorem figs_3 (a b c : Int) : figs [a, b, c] = [(((256 * (256 * (256 * 0 + a) + b) + c) * 2 ^ 0).fdiv (64 ^ 3)).fmod 64, (((256 * (256 * (256 * 0 + a) + b) + c) * 2 ^ 0).fdiv (64 ^ 2)).fmod 64, (((256 * (256 * (256 * 0 + a) + b) + c) * 2 ^ 0).fdiv (64 ^ 1)).fmod 64, (((256 * (256 * (256 * 0 + a) + b) + c) * 2 ^ 0).fdiv (64 ^ 0)).fmod 64] := by
  have h1 : fsize [a, b, c] = 4 := by simp [fsize]
  have h2 : rangeL (((4 : Nat) : Int) - 1) (-1) 4 = [3, 2, 1, 0] := by decide
  have h3 : (6 * ((4 : Nat) : Int) - 8 * (([a, b, c] : List Int).length : Int)).toNat = 0 := rfl
  rw [figs, shifted, h1, h2, h3]; rfl
theorem enc_3 (a b c : Int) (ha : 0 ≤ a ∧ a < 256) (hb : 0 ≤ b ∧ b < 256) (hc : 0 ≤ c ∧ c < 256) : benc [a, b, c] = (figs [a, b, c]).map sgn ++ [] := by
  rw [figs_3]
  simp only [benc, List.foldl_cons, List.foldl_nil, bstep0, bstep2, bstep4, bpad0, bpad2, bpad4, List.nil_append, List.cons_append, List.map_cons, List.map_nil, m_in, m_4, m_16, m_64, m_0, m_p2, m_p4]
  refine cons_eq (by rw [fshift _ 0 18 3 rfl, peel 10 hc, peel 2 hb]) ?_
  refine cons_eq (by rw [fshift _ 0 12 2 rfl, peel 4 hc]) ?_
  refine cons_eq (by rw [fshift _ 0 6 1 rfl]) ?_
  refine cons_eq (by rw [fshift _ 0 0 0 rfl]) ?_
  rfl
theorem figs_4 (a b c d : Int) : figs [a, b, c, d] = [(((256 * (256 * (256 * (256 * 0 + a) + b) + c) + d) * 2 ^ 4).fdiv (64 ^ 5)).fmod 64, (((256 * (256 * (256 * (256 * 0 + a) + b) + c) + d) * 2 ^ 4).fdiv (64 ^ 4)).fmod 64, (((256 * (256 * (256 * (256 * 0 + a) + b) + c) + d) * 2 ^ 4).fdiv (64 ^ 3)).fmod 64, (((256 * (256 * (256 * (256 * 0 + a) + b) + c) + d) * 2 ^ 4).fdiv (64 ^ 2)).fmod 64, (((256 * (256 * (256 * (256 * 0 + a) + b) + c) + d) * 2 ^ 4).fdiv (64 ^ 1)).fmod 64, (((256 * (256 * (256 * (256 * 0 + a) + b) + c) + d) * 2 ^ 4).fdiv (64 ^ 0)).fmod 64] := by
  have h1 : fsize [a, b, c, d] = 6 := by simp [fsize]
  have h2 : rangeL (((6 : Nat) : Int) - 1) (-1) 6 = [5, 4, 3, 2, 1, 0] := by decide
  have h3 : (6 * ((6 : Nat) : Int) - 8 * (([a, b, c, d] : List Int).length : Int)).toNat = 4 := rfl
  rw [figs, shifted, h1, h2, h3]; rfl
theorem enc_4 (a b c d : Int) (ha : 0 ≤ a ∧ a < 256) (hb : 0 ≤ b ∧ b < 256) (hc : 0 ≤ c ∧ c < 256) (hd : 0 ≤ d ∧ d < 256) : benc [a, b, c, d] = (figs [a, b, c, d]).map sgn ++ [61, 61] := by
  rw [figs_4]
  simp only [benc, List.foldl_cons, List.foldl_nil, bstep0, bstep2, bstep4, bpad0, bpad2, bpad4, List.nil_append, List.cons_append, List.map_cons, List.map_nil, m_in, m_4, m_16, m_64, m_0, m_p2, m_p4]
  refine cons_eq (by rw [fshift _ 4 26 5 rfl, peel 18 hd, peel 10 hc, peel 2 hb]) ?_
  refine cons_eq (by rw [fshift _ 4 20 4 rfl, peel 12 hd, peel 4 hc]) ?_
  refine cons_eq (by rw [fshift _ 4 14 3 rfl, peel 6 hd]) ?_
  refine cons_eq (by rw [fshift _ 4 8 2 rfl, peel 0 hd]) ?_
  refine cons_eq (by rw [fshift _ 4 2 1 rfl]) ?_
  refine cons_eq (by rw [flast]; rfl) ?_
  rfl
theorem figs_5 (a b c d e : Int) : figs [a, b, c, d, e] = [(((256 * (256 * (256 * (256 * (256 * 0 + a) + b) + c) + d) + e) * 2 ^ 2).fdiv (64 ^ 6)).fmod 64, (((256 * (256 * (256 * (256 * (256 * 0 + a) + b) + c) + d) + e) * 2 ^ 2).fdiv (64 ^ 5)).fmod 64, (((256 * (256 * (256 * (256 * (256 * 0 + a) + b) + c) + d) + e) * 2 ^ 2).fdiv (64 ^ 4)).fmod 64, (((256 * (256 * (256 * (256 * (256 * 0 + a) + b) + c) + d) + e) * 2 ^ 2).fdiv (64 ^ 3)).fmod 64, (((256 * (256 * (256 * (256 * (256 * 0 + a) + b) + c) + d) + e) * 2 ^ 2).fdiv (64 ^ 2)).fmod 64, (((256 * (256 * (256 * (256 * (256 * 0 + a) + b) + c) + d) + e) * 2 ^ 2).fdiv (64 ^ 1)).fmod 64, (((256 * (256 * (256 * (256 * (256 * 0 + a) + b) + c) + d) + e) * 2 ^ 2).fdiv (64 ^ 0)).fmod 64] := by
  have h1 : fsize [a, b, c, d, e] = 7 := by simp [fsize]
  have h2 : rangeL (((7 : Nat) : Int) - 1) (-1) 7 = [6, 5, 4, 3, 2, 1, 0] := by decide
  have h3 : (6 * ((7 : Nat) : Int) - 8 * (([a, b, c, d, e] : List Int).length : Int)).toNat = 2 := rfl
  rw [figs, shifted, h1, h2, h3]; rfl
theorem enc_5 (a b c d e : Int) (ha : 0 ≤ a ∧ a < 256) (hb : 0 ≤ b ∧ b < 256) (hc : 0 ≤ c ∧ c < 256) (hd : 0 ≤ d ∧ d < 256) (he : 0 ≤ e ∧ e < 256) : benc [a, b, c, d, e] = (figs [a, b, c, d, e]).map sgn ++ [61] := by
  rw [figs_5]
  simp only [benc, List.foldl_cons, List.foldl_nil, bstep0, bstep2, bstep4, bpad0, bpad2, bpad4, List.nil_append, List.cons_append, List.map_cons, List.map_nil, m_in, m_4, m_16, m_64, m_0, m_p2, m_p4]
  refine cons_eq (by rw [fshift _ 2 34 6 rfl, peel 26 he, peel 18 hd, peel 10 hc, peel 2 hb]) ?_
  refine cons_eq (by rw [fshift _ 2 28 5 rfl, peel 20 he, peel 12 hd, peel 4 hc]) ?_
  refine cons_eq (by rw [fshift _ 2 22 4 rfl, peel 14 he, peel 6 hd]) ?_
  refine cons_eq (by rw [fshift _ 2 16 3 rfl, peel 8 he, peel 0 hd]) ?_
  refine cons_eq (by rw [fshift _ 2 10 2 rfl, peel 2 he]) ?_
  refine cons_eq (by rw [fshift _ 2 4 1 rfl]) ?_
  refine cons_eq (by rw [flast]; rfl) ?_
  rfl
theorem figs_6 (a b c d e f : Int) : figs [a, b, c, d, e, f] = [(((256 * (256 * (256 * (256 * (256 * (256 * 0 + a) + b) + c) + d) + e) + f) * 2 ^ 0).fdiv (64 ^ 7)).fmod 64, (((256 * (256 * (256 * (256 * (256 * (256 * 0 + a) + b) + c) + d) + e) + f) * 2 ^ 0).fdiv (64 ^ 6)).fmod 64, (((256 * (256 * (256 * (256 * (256 * (256 * 0 + a) + b) + c) + d) + e) + f) * 2 ^ 0).fdiv (64 ^ 5)).fmod 64, (((256 * (256 * (256 * (256 * (256 * (256 * 0 + a) + b) + c) + d) + e) + f) * 2 ^ 0).fdiv (64 ^ 4)).fmod 64, (((256 * (256 * (256 * (256 * (256 * (256 * 0 + a) + b) + c) + d) + e) + f) * 2 ^ 0).fdiv (64 ^ 3)).fmod 64, (((256 * (256 * (256 * (256 * (256 * (256 * 0 + a) + b) + c) + d) + e) + f) * 2 ^ 0).fdiv (64 ^ 2)).fmod 64, (((256 * (256 * (256 * (256 * (256 * (256 * 0 + a) + b) + c) + d) + e) + f) * 2 ^ 0).fdiv (64 ^ 1)).fmod 64, (((256 * (256 * (256 * (256 * (256 * (256 * 0 + a) + b) + c) + d) + e) + f) * 2 ^ 0).fdiv (64 ^ 0)).fmod 64] := by
  have h1 : fsize [a, b, c, d, e, f] = 8 := by simp [fsize]
  have h2 : rangeL (((8 : Nat) : Int) - 1) (-1) 8 = [7, 6, 5, 4, 3, 2, 1, 0] := by decide
  have h3 : (6 * ((8 : Nat) : Int) - 8 * (([a, b, c, d, e, f] : List Int).length : Int)).toNat = 0 := rfl
  rw [figs, shifted, h1, h2, h3]; rfl
theorem enc_6 (a b c d e f : Int) (ha : 0 ≤ a ∧ a < 256) (hb : 0 ≤ b ∧ b < 256) (hc : 0 ≤ c ∧ c < 256) (hd : 0 ≤ d ∧ d < 256) (he : 0 ≤ e ∧ e < 256) (hf : 0 ≤ f ∧ f < 256) : benc [a, b, c, d, e, f] = (figs [a, b, c, d, e, f]).map sgn ++ [] := by
  rw [figs_6]
  simp only [benc, List.foldl_cons, List.foldl_nil, bstep0, bstep2, bstep4, bpad0, bpad2, bpad4, List.nil_append, List.cons_append, List.map_cons, List.map_nil, m_in, m_4, m_16, m_64, m_0, m_p2, m_p4]
  refine cons_eq (by rw [fshift _ 0 42 7 rfl, peel 34 hf, peel 26 he, peel 18 hd, peel 10 hc, peel 2 hb]) ?_
  refine cons_eq (by rw [fshift _ 0 36 6 rfl, peel 28 hf, peel 20 he, peel 12 hd, peel 4 hc]) ?_
  refine cons_eq (by rw [fshift _ 0 30 5 rfl, peel 22 hf, peel 14 he, peel 6 hd]) ?_
  refine cons_eq (by rw [fshift _ 0 24 4 rfl, peel 16 hf, peel 8 he, peel 0 hd]) ?_
  refine cons_eq (by rw [fshift _ 0 18 3 rfl, peel 10 hf, peel 2 he]) ?_
  refine cons_eq (by rw [fshift _ 0 12 2 rfl, peel 4 hf]) ?_
  refine cons_eq (by rw [fshift _ 0 6 1 rfl]) ?_
  refine cons_eq (by rw [fshift _ 0 0 0 rfl]) ?_
  rfl
theorem enc_figs (os : List Int) (hlo : 1 ≤ os.length) (hlen : os.length ≤ 6) (hb : ∀ o ∈ os, 0 ≤ o ∧ o < 256) : ∃ pad, benc os = (figs os).map sgn ++ pad ∧ pad.length ≤ 2 := by
  rcases os with _ | ⟨a, _ | ⟨b, _ | ⟨c, _ | ⟨d, _ | ⟨e, _ | ⟨f, _ | ⟨g, r⟩⟩⟩⟩⟩⟩⟩ <;> simp only [List.forall_mem_cons, List.not_mem_nil, false_implies, implies_true, and_true] at hb
  · exact absurd hlo (by decide)
  · exact ⟨_, enc_1 a hb, by decide⟩
  · exact ⟨_, enc_2 a b hb.1 hb.2, by decide⟩
  · exact ⟨_, enc_3 a b c hb.1 hb.2.1 hb.2.2, by decide⟩
  · exact ⟨_, enc_4 a b c d hb.1 hb.2.1 hb.2.2.1 hb.2.2.2, by decide⟩
  · exact ⟨_, enc_5 a b c d e hb.1 hb.2.1 hb.2.2.1 hb.2.2.2.1 hb.2.2.2.2, by decide⟩
  · exact ⟨_, enc_6 a b c d e f hb.1 hb.2.1 hb.2.2.1 hb.2.2.2.1 hb.2.2.2.2.1 hb.2.2.2.2.2, by decide⟩
  · simp only [List.length_cons] at hlen; omega
end Mine
namespace Mine
/-- the end of a turn whose ledger may have grown -/
def InvEndV (h₀ : Heap) (L I : Addr) (J : (Str → Option Value) → List (Addr × Obj) → Prop) (own : List (Addr × Obj)) (s₁ s₂ : Shared) : Prop :=
  ∃ h' tk m' nx, s₂ = { s₁ with heap := h', toks := tk } ∧ Fr h₀ L h' m' ∧ News h₀ L h' nx ∧ (∀ p ∈ own, h'.get? p.1 = some p.2) ∧ (∀ p ∈ nx, p.1 ≠ I) ∧ J m' nx
def InvPostV (h₀ : Heap) (L I : Addr) (J : (Str → Option Value) → List (Addr × Obj) → Prop) (own : List (Addr × Obj)) (s₁ : Shared) (Q : Flow → Shared → Prop) (f : Flow) (s₂ : Shared) : Prop :=
  match f with
  | .ret v => Q (.ret v) s₂
  | .brk => Q .next s₂
  | _ => InvEndV h₀ L I J own s₁ s₂
section
variable {prog : Program} {w : World} {A : Around} {E : Value → Shared → Prop} {s : Shared} {env : Env} {h₀ : Heap} {x : Str} {body : List Stmt} {Q : Flow → Shared → Prop}
theorem loop_var {I : Addr} {fp : List Addr} {n : Nat} {P : Nat → Value → Prop} {St : Nat → Heap → Prop} {m₀ : Str → Option Value} {news : List (Addr × Obj)} (J : Nat → (Str → Option Value) → List (Addr × Obj) → Prop)
    (W : Walks prog w A I fp [I] n P St) (hLf : env.locals ∉ fp) (hI : h₀.get? I = none) (hfp : ∀ b ∈ fp, h₀.get? b = none → b = I) (hst0 : ∀ i h, St i h → ∃ o, h.get? I = some o) (hnw : ∀ p ∈ news, p.1 ≠ I) (hst : St 0 s.heap) (F : Fr h₀ env.locals s.heap m₀) (N : News h₀ env.locals s.heap news) (hj : J 0 m₀ news)
    (turn : ∀ i v m₁ nx h tk own, i < n → P i v → OwnOff own (nx.map (·.1)) → (∃ o, (I, o) ∈ own) → J i m₁ nx → Fr h₀ env.locals h (fun y => if y = x then some v else m₁ y) → News h₀ env.locals h (nx ++ own) →
      wpAny (model prog w) A (execs body env) (InvPostV h₀ env.locals I (J (i + 1)) own { s with heap := h, toks := tk } Q) E { s with heap := h, toks := tk })
    (done : ∀ m₁ nx h tk, J n m₁ nx → Fr h₀ env.locals h m₁ → News h₀ env.locals h nx → Q .next { s with heap := h, toks := tk }) :
    LoopAtV prog w A h₀ env x body Q E (.ref I) s := by
  refine ⟨I, fp, [I], n, P, St, m₀, news, J, rfl, W, hLf, fun b hb => by rw [List.mem_singleton.mp hb]; exact hI, fun p hp hm => hnw p hp (List.mem_singleton.mp hm), hst, F, N, hj, ?_, ?_⟩
  · rintro i v m₁ news₁ s₁ own ⟨hh', tk', rfl⟩ hin hP hJ hoff hown hgot hall hst₁ F₁ N₁
    have hII : I ∈ fp := W.sub I (.head _)
    have hown1 : ∀ p ∈ own, p.1 = I := fun p hp => hfp p.1 (hown p hp) (N₁ p (List.mem_append_left _ hp)).2.2
    have hsep : OwnOff own (news₁.map (·.1)) := by
      intro p hp b hb e
      obtain ⟨q, hq, rfl⟩ := List.mem_map.mp hb
      exact hoff q hq (List.mem_singleton.mpr (e ▸ hown1 p hp))
    obtain ⟨oI, hoI⟩ := hst0 _ _ hst₁
    have N₂ : News h₀ env.locals hh' (news₁ ++ own) := fun p hp => N₁ p ((List.mem_append.mp hp).elim (fun h => List.mem_append.mpr (.inr h)) fun h => List.mem_append.mpr (.inl h))
    refine wpAny_mono (turn i v m₁ news₁ hh' tk' own hin hP hsep ⟨oI, hall I hII hI oI hoI⟩ hJ F₁ N₂) (fun f s₂ p => ?_) fun _ _ e => e
    have fin : InvEndV h₀ env.locals I (J (i + 1)) own { s with heap := hh', toks := tk' } s₂ → LoopStepU h₀ env.locals [I] own (J (i + 1)) { s with heap := hh', toks := tk' } .next s₂ := by
      rintro ⟨h', tk, m', nx, e, F', N', ho, ha, hm⟩
      refine ⟨rfl, h', tk, m', nx, e, F', fun p hp => ?_, fun p hp hq => ha p hp (List.mem_singleton.mp hq), hm⟩
      rcases List.mem_append.mp hp with hp | hp
      · exact ⟨ho p hp, (N₁ p (List.mem_append_left _ hp)).2⟩
      · exact N' p hp
    cases f with
    | ret v => exact .ret p
    | brk => exact .brk p
    | next => exact .next (fin p)
    | cont => exact .cont (fin p)
  · rintro h' tk m' news' F' N' _ hJ
    exact done m' news' h' tk hJ F' N'
theorem iter_rangeV {r : Addr} {b₀ : Int} {t₀ u₀ v₀ : Tok} {n : Nat} {m₀ : Str → Option Value} {news : List (Addr × Obj)} (J : Addr → Nat → (Str → Option Value) → List (Addr × Obj) → Prop)
    (hh : A.handled = none) (hr : IsRange s.heap r 0 b₀ 1 t₀ u₀ v₀) (hb : b₀ = (n : Int)) (hsmall : Builtin.Range.small 0 b₀ 1 = true) (F : Fr h₀ env.locals s.heap m₀) (N : News h₀ env.locals s.heap news) (hj : ∀ I, J I 0 m₀ news)
    (turn : ∀ I i t m₁ nx h tk own, i < n → OwnOff own (nx.map (·.1)) → (∃ o, (I, o) ∈ own) → J I i m₁ nx → Fr h₀ env.locals h (fun y => if y = x then some (.int (i : Int) t) else m₁ y) → News h₀ env.locals h (nx ++ own) →
      wpAny (model prog w) A (execs body env) (InvPostV h₀ env.locals I (J I (i + 1)) own { s with heap := h, toks := tk } Q) E { s with heap := h, toks := tk })
    (done : ∀ I m₁ nx h tk, J I n m₁ nx → Fr h₀ env.locals h m₁ → News h₀ env.locals h nx → Q .next { s with heap := h, toks := tk }) :
    wpAny (model prog w) A (pyIter (.ref r)) (fun it s₂ => LoopAtV prog w A h₀ env x body Q E it s₂) E s := by
  subst hb
  refine wpAny_pyIter_range hr hsmall ?_
  refine loop_var (J s.heap.objs.size) (Walks.range hh s.heap.objs.size 0 1 n) ?_ (next_is_new F) ?_ ?_ ?_ ?_ (F.push _) (fun p hp => ⟨Heap.get?_push_of_some _ (N p hp).1, (N p hp).2⟩) (hj _) ?_ (fun m₁ nx h tk => done _ m₁ nx h tk)
  · intro hm
    exact absurd F.ns.lt ((List.mem_singleton.mp hm) ▸ Nat.lt_irrefl _)
  · intro b hb _; exact List.mem_singleton.mp hb
  · intro i h st; exact ⟨_, st⟩
  · intro p hp; exact Nat.ne_of_lt (Heap.lt_size (N p hp).1)
  · show IsRangeIter _ _ _ _ _
    have e : Builtin.Range.rangeSize 0 (n : Int) 1 = (n : Int) := by
      simp only [Builtin.Range.rangeSize]
      split
      · split <;> omega
      · split <;> omega
    rw [e]
    simpa using Heap.get?_push_size _ rfl
  · rintro i v m₁ nx h tk own hi ⟨t, rfl⟩ hoff hI hJ F₁ N₁
    have e : (0 : Int) + (i : Int) * 1 = i := by omega
    rw [e] at F₁
    exact turn _ i t m₁ nx h tk own hi hoff hI hJ F₁ N₁
end
end Mine
set_option maxHeartbeats 4000000
namespace Mine
/-- the text of one sign -/
def oneS (k : Int) : Str := ⟨#[k.toNat]⟩
def FS (g : Int → Str) : Value → Value → Prop
  | .int k _, y => ∃ t, y = .str (g k) t
  | _, _ => False
theorem carried_of_paired {g : Int → Str} : ∀ {vs : List Value} {ks : List Int} {ys : List Value}, IntsAre vs ks → Paired (FS g) (vs.filter (pV fun _ => true)) ys → CarriedAll ys (ks.map fun a => PyData.str (g a))
  | _, _, _, .nil, .nil => .nil
  | _, _, _, .cons (vs := vs) (ns := ns) n t r, hp => by
    have e1 : (Value.int n t :: vs).filter (pV fun _ => true) = .int n t :: vs.filter (pV fun _ => true) := rfl
    rw [e1] at hp
    cases hp with
    | cons h hr =>
      obtain ⟨u, rfl⟩ := h
      exact .cons (.str _ _) (carried_of_paired r hr)
section
variable {prog : Program} {w : World} {A : Around} {E : Value → Shared → Prop} {env : Env} {s₁ : Shared} {scope : Scope} {cl : List (Str × Addr)} {x : Str} {ifs : List PySem.Expr} {elt : PySem.Expr} {Q : Value → Shared → Prop} {o : Obj}
  {ks : List Int} {g : Int → Str}
theorem src_bytesS {b : Array UInt8} {tb : Tok} (hh : A.handled = none) (hks : KBw.bInts b = ks) (hsz : b.size ≤ sizeLine)
    (tests : ∀ C k t s₃ m₃ E', s₁.heap.objs.size < C → k ∈ ks → s₃.heap.Ns C m₃ → m₃ x = some (.int k t) → s₁.heap.StaysIn s₃.heap →
      wpAny (model prog w) A (forIn ifs true fun c r => if r = true then do let ok ← isTrue c (compEnvC scope cl C env) (eval c (compEnvC scope cl C env)); pure (ForInStep.yield ok) else pure (ForInStep.yield r))
        (fun ok s₄ => ok = true ∧ Keeps s₃ s₄) E' s₃)
    (el : ∀ C k t s₃ m₃ E', s₁.heap.objs.size < C → k ∈ ks → s₃.heap.Ns C m₃ → m₃ x = some (.int k t) → s₁.heap.StaysIn s₃.heap →
      wpAny (model prog w) A (eval elt (compEnvC scope cl C env)) (fun y s₄ => (∃ u, y = .str (g k) u) ∧ Keeps s₃ s₄) E' s₃)
    (done : ∀ D h' tk ys c, s₁.heap.get? D = none → h'.get? D = some (listOf (List.toArray ys) c) → CarriedAll ys (ks.map fun a => PyData.str (g a)) → s₁.heap.StaysIn h' → Q (.ref D) { s₁ with heap := h', toks := tk }) :
    wpAny (model prog w) A (pyIter (.bytes b tb)) (fun it s₂ => ∃ I fp wr n P St, it = .ref I ∧ Walks prog w A I fp wr n P St ∧ n ≤ sizeLine ∧ St 0 s₂.heap ∧ (∀ b ∈ fp, b < s₂.heap.objs.size) ∧
      QuietOnC prog w A env scope cl x ifs elt wr P (pV fun _ => true) (FS g) s₂ ∧
      (∀ D h' tk ys (vs : List Value), s₂.heap.get? D = none → h'.IsList D ys → h'.PlainList D ys → vs.length = n → (∀ j v, vs[j]? = some v → P j v) → Paired (FS g) (vs.filter (pV fun _ => true)) ys.toList →
        (∀ b o, b ∉ wr → s₂.heap.get? b = some o → h'.get? b = some o) → Q (.ref D) { s₂ with heap := h', toks := tk })) E s₁ := by
  subst hks
  refine KBw.pyIter_bytes ?_
  generalize ho : ({ cls := .type "bytes_iterator", data := .fields #[.bytes b tb, .int 0 0] } : Obj) = o
  have hs : (s₁.heap.push o).objs.size = s₁.heap.objs.size + 1 := Heap.size_push ..
  have keep : ∀ (h : Heap), (∀ b o', b ∉ [s₁.heap.objs.size] → (s₁.heap.push o).get? b = some o' → h.get? b = some o') → s₁.heap.StaysIn h := fun h hk b o' e =>
    hk b o' (fun hm => by rw [List.mem_singleton.mp hm] at e; exact absurd (Heap.lt_size e) (Nat.lt_irrefl _)) (Heap.get?_push_of_some _ e)
  have hP : ∀ (i : Nat) v, (∃ c u, b[i]? = some c ∧ v = Value.int (c.toNat : Int) u) → ∃ k t, (KBw.bInts b)[i]? = some k ∧ v = .int k t := by
    rintro i v ⟨c, u, hc, rfl⟩; exact ⟨_, u, KBw.ints_get hc, rfl⟩
  refine ⟨_, _, [s₁.heap.objs.size], b.size, _, _, rfl, KBw.walks (prog := prog) (w := w) hh s₁.heap.objs.size b tb, hsz, ⟨o, Heap.get?_push_size _ (by rw [← ho]; rfl), by rw [← ho], by rw [← ho]; rfl⟩, fun b hb => by rw [hs, List.mem_singleton.mp hb]; exact Nat.lt_succ_self _, ⟨?_, ?_⟩, ?_⟩
  · intro C i v s₃ m₃ E' hC hPv hns hm hk _
    obtain ⟨k, t, hk', rfl⟩ := hP i v hPv
    exact tests C k t s₃ m₃ E' (by rw [hs] at hC; exact hC) (List.mem_of_getElem? hk') hns hm (keep _ hk)
  · intro C i v s₃ m₃ E' hC hPv hp hns hm hk _
    obtain ⟨k, t, hk', rfl⟩ := hP i v hPv
    exact el C k t s₃ m₃ E' (by rw [hs] at hC; exact hC) (List.mem_of_getElem? hk') hns hm (keep _ hk)
  · intro D h' tk ys vs hD _ hpl hlen hPv hpair hk
    obtain ⟨c, hpl⟩ := hpl
    have hD' : s₁.heap.get? D = none := by
      cases z : s₁.heap.get? D with
      | none => rfl
      | some o' => have := Heap.get?_push_of_some o z; rw [hD] at this; cases this
    refine done D h' tk ys.toList c hD' (by simpa using hpl) (carried_of_paired (ints_of_get (hlen.trans (KBw.ints_length b).symm) fun j v hj => hP j v (hPv j v hj)) hpair) (keep _ hk)
end
theorem app_one (a : Str) (k : Int) (l : List Nat) (h : a.cps.toList = l) : (oneS k ++ Str.ofString "" ++ a).cps.toList = k.toNat :: l := by
  subst h
  show ((#[k.toNat] ++ (Str.ofString "").cps) ++ a.cps).toList = _
  rw [show (Str.ofString "").cps = #[] from rfl]
  simp
/-- the text that the signs make -/
theorem join_ones_cps : ∀ l : List Int, (PySem.Txt.join (Str.ofString "") (l.map oneS)).cps.toList = l.map (·.toNat) := by
  intro l
  show (Builtin.Str.glued (Str.ofString "") (l.map oneS)).cps.toList = _
  rw [StrLaws.glued_eq_join]
  induction l with
  | nil => rfl
  | cons k r ih =>
    cases r with
    | nil => rfl
    | cons k2 r2 => exact app_one _ k _ ih
def alphaS : Str := Str.ofString "ABCDEFGHIJKLMNOPQRSTUVWXYZabcdefghijklmnopqrstuvwxyz0123456789+/"
theorem alpha_index : ∀ i < (64 : Nat), Builtin.Str.occurrences alphaS ⟨#[(sgnL.getD i 0).toNat]⟩ 0 alphaS.length 1 = [i] := by decide +kernel
end Mine
set_option maxHeartbeats 4000000
namespace Mine
theorem cutR {α : Type} {M : Model} {A : Around} {t : Sem α} {Q : α → Shared → Prop} {E : Value → Shared → Prop} {s : Shared} (P : α → Shared → Prop) (h1 : ∀ R : α → Shared → Prop, (∀ a s', P a s' → R a s') → wpAny M A t R E s) (h2 : ∀ a s', P a s' → Q a s') : wpAny M A t Q E s := h1 Q h2
theorem news_add {G h h' : Heap} {L D : Addr} {m : Str → Option Value} {nx : List (Addr × Obj)} {o : Obj} (F : Fr G L h m) (N : News G L h nx) (hk : h.StaysIn h') (hD : h.get? D = none) (hg : h'.get? D = some o) : Fr G L h' m ∧ News G L h' ((D, o) :: nx) ∧ (∀ q ∈ nx, q.1 ≠ D) := by
  refine ⟨F.keeps hk, fun q hq => ?_, fun q hq e => ?_⟩
  · rcases List.mem_cons.mp hq with rfl | hq
    · refine ⟨hg, fun e => ?_, ?_⟩
      · obtain ⟨o', _, _, ho', _⟩ := F.ns
        rw [← e, hD] at ho'; cases ho'
      · cases z : G.get? D with
        | none => rfl
        | some o' => have := F.keep _ _ z; rw [hD] at this; cases this
    · exact ⟨hk _ _ (N q hq).1, (N q hq).2⟩
  · have := (N q hq).1; rw [e, hD] at this; cases this

theorem hide_led {G h : Heap} {L : Addr} {m : Str → Option Value} {Z tl : List (Addr × Obj)} (F : Fr G L h m) (N : News G L h (Z ++ tl)) (hZ : ∀ q ∈ Z, ∀ p ∈ tl, q.1 ≠ p.1) :
    Fr G L (hideAll h (tl.map (·.1))) m ∧ News G L (hideAll h (tl.map (·.1))) Z := by
  have hin : ∀ b o, h.get? b = some o → (∀ p ∈ tl, b ≠ p.1) → (hideAll h (tl.map (·.1))).get? b = some o := fun b o e hb => hideAll_get _ e (fun hm => by
    obtain ⟨p, hp, e'⟩ := List.mem_map.mp hm
    exact hb p hp e'.symm)
  refine ⟨⟨F.ns.at' fun o e => hin _ o e fun p hp e' => (N p (List.mem_append_right _ hp)).2.1 e'.symm, fun b o e => hin b o (F.keep b o e) fun p hp e' => ?_, F.above⟩, fun q hq => ⟨hin _ _ (N q (List.mem_append_left _ hq)).1 (hZ q hq), (N q (List.mem_append_left _ hq)).2⟩⟩
  have := (N p (List.mem_append_right _ hp)).2.2
  rw [← e', e] at this; cases this
theorem led30 {tl : List (Addr × Obj)} (h : TabLed tl) : ∃ o, (30, o) ∈ tl := by
  rcases h with rfl | ⟨c', oc, vs, t, rfl, _⟩
  · exact ⟨_, .head _⟩
  · exact ⟨_, .tail _ (.head _)⟩
/-- the call of _int2digits, upon a ledger -/
theorem i2d_led {w : World} {p : Program} {loose : List Str} {mean : ExcName → Option Value} {mg mb : Str → Option Value} {A : Around} {s : Shared} {E : Value → Shared → Prop} {Q : Value → Shared → Prop} {G : Heap} {L : Addr} {m : Str → Option Value} {Z tl : List (Addr × Obj)} {env : Env} {a : Nat} {ta tn : Tok}
   (C : CC w p loose mean mg mb 13 A G) (hc : CodeHd G 34 30) (F : Fr G L s.heap m) (N : News G L s.heap (Z ++ tl)) (ht : TabLed tl) (hZ : ∀ q ∈ Z, ∀ p ∈ tl, q.1 ≠ p.1) (hf : env.frame = some L) (hk : env.scope.kind = .function) (ha : a < 64)
   (ret : ∀ D h' tk vs c tl', Fr G L h' m → News G L h' ((D, listOf (List.toArray vs) c) :: (Z ++ tl')) → TabLed tl' → (∀ q ∈ (D, listOf (List.toArray vs) c) :: Z, ∀ p ∈ tl', q.1 ≠ p.1) → (∀ q ∈ Z, q.1 ≠ D) → IntsAre vs (bitsL a (Builtin.Int.intBits (a : Int))) → Q (.ref D) { s with heap := h', toks := tk }) :
   wpAny (model PySem.Challenge.rw_oc0028_01.row.prog w) (A.deeper env) (call (.ref 35) [.int a ta, .int 1 tn]) Q E s := by
  obtain ⟨FB, NB⟩ := hide_led F N hZ
  have hst : (hideAll s.heap (tl.map (·.1))).StaysIn s.heap := fun b o e => of_hideAll _ e
  have hts : TabSt (hideAll s.heap (tl.map (·.1))) s.heap := ⟨tl, ht, fun q hq => ⟨(N q (List.mem_append_right _ hq)).1, hideAll_none _ (List.mem_map.mpr ⟨q, hq, rfl⟩)⟩⟩
  obtain ⟨o30, h30⟩ := led30 ht
  have hc' : CodeHd (hideAll s.heap (tl.map (·.1))) 34 30 := by
    obtain ⟨o, vs, file, tf, flags, tg, inF, text, tt, h1, r⟩ := hc
    exact ⟨o, vs, file, tf, flags, tg, inF, text, tt, FB.keep _ _ h1, r⟩
  refine i2d_spec (C.push FB hf hk) hst hts hc' ha (fun D h' tk vs c hkp hts' hD hg hi => ?_)
  obtain ⟨tl', ht', hl'⟩ := hts'
  have hn30 : ∀ q ∈ Z, q.1 ≠ 30 := fun q hq => hZ q hq _ h30
  have hD30 : D ≠ 30 := fun e => by
    have := (N _ (List.mem_append_right _ h30)).1
    rw [e] at hD; rw [hD] at this; cases this
  have hDL : D ≠ L := fun e => by
    obtain ⟨o', _, _, ho', _⟩ := F.ns
    rw [← e, hD] at ho'; cases ho'
  have hL30 : L ≠ 30 := fun e => (N _ (List.mem_append_right _ h30)).2.1 e.symm
  have hG30 : G.get? 30 = none := (N _ (List.mem_append_right _ h30)).2.2
  have hDZ : ∀ q ∈ Z, q.1 ≠ D := fun q hq e => by
    have := (N q (List.mem_append_left _ hq)).1; rw [e, hD] at this; cases this
  have hGB : ∀ b, (hideAll s.heap (tl.map (·.1))).get? b = none → G.get? b = none := fun b hb => by
    cases z : G.get? b with
    | none => rfl
    | some o => have := FB.keep _ _ z; rw [hb] at this; cases this
  have hZ' : ∀ q ∈ Z, ∀ p ∈ tl', q.1 ≠ p.1 := fun q hq p hp e => by
    have h1 := (NB q hq).1
    have h2 := (hl' p hp).2
    rw [e, h2] at h1; cases h1
  have hDt : ∀ p ∈ tl', D ≠ p.1 := fun p hp e => by
    have h1 := (hl' p hp).1
    rw [← e, hg] at h1
    have h2 : listOf (List.toArray vs) c = p.2 := Option.some.inj h1
    rcases ht' with rfl | ⟨c', oc, vs', t', rfl, hoc, _⟩
    · rw [List.mem_singleton.mp hp] at e; exact hD30 e
    · rcases List.mem_cons.mp hp with rfl | hp
      · have h3 : (listOf (List.toArray vs) c).data = .fields vs' := by rw [h2]; exact hoc
        cases h3
      · rw [List.mem_singleton.mp hp] at e; exact hD30 e
  refine ret D h' tk vs c tl' (fr_but F hkp hG30 hL30) (fun q hq => ?_) ht' (fun q hq p hp => ?_) hDZ hi
  · rcases List.mem_cons.mp hq with rfl | hq
    · refine ⟨hg, hDL, ?_⟩
      cases z : G.get? D with
      | none => rfl
      | some o => have := F.keep _ _ z; rw [hD] at this; cases this
    · rcases List.mem_append.mp hq with hq | hq
      · exact ⟨hkp _ _ (hn30 q hq) (N q (List.mem_append_left _ hq)).1, (N q (List.mem_append_left _ hq)).2⟩
      · refine ⟨(hl' q hq).1, fun e => ?_, hGB _ (hl' q hq).2⟩
        obtain ⟨o', _, _, ho', _⟩ := FB.ns
        rw [← e, (hl' q hq).2] at ho'; cases ho'
  · rcases List.mem_cons.mp hq with rfl | hq
    · exact hDt p hp
    · exact hZ' q hq p hp
end Mine
namespace Mine
/-- the sum over all rows of n bits -/
def SB : Nat → (List Bool → Int) → Int
  | 0, f => f []
  | n + 1, f => SB n fun l => f (false :: l) + f (true :: l)
theorem SB_congr {n : Nat} : ∀ {f g : List Bool → Int}, (∀ l, l.length = n → f l = g l) → SB n f = SB n g := by
  induction n with
  | zero => intro f g h; exact h [] rfl
  | succ n ih => intro f g h; exact ih fun l hl => by rw [h _ (by simp [hl]), h _ (by simp [hl])]
theorem SB_zero {n : Nat} : SB n (fun _ => 0) = 0 := by
  induction n with
  | zero => rfl
  | succ n ih => exact ih
theorem SB_add {n : Nat} : ∀ {f g : List Bool → Int}, SB n (fun l => f l + g l) = SB n f + SB n g := by
  induction n with
  | zero => intros; rfl
  | succ n ih =>
    intro f g
    show SB n _ = SB n _ + SB n _
    rw [← ih]
    exact SB_congr fun l _ => by dsimp only; omega
theorem SB_one {n : Nat} : ∀ {l₀ : List Bool} {g : List Bool → Int}, l₀.length = n → SB n (fun l => if l = l₀ then g l else 0) = g l₀ := by
  induction n with
  | zero => intro l₀ g h; rw [List.length_eq_zero_iff.mp h]; rfl
  | succ n ih =>
    intro l₀ g h
    cases l₀ with
    | nil => simp at h
    | cons b r =>
      have hr : r.length = n := by simpa using h
      show SB n _ = _
      rw [← ih (g := fun l => g (b :: l)) hr]
      refine SB_congr fun l _ => ?_
      cases b <;> simp
theorem four_one {a0 a1 b0 b1 c0 c1 d0 d1 : Int} (pa0 : 0 ≤ a0) (pa1 : 0 ≤ a1) (pb0 : 0 ≤ b0) (pb1 : 0 ≤ b1) (pc0 : 0 ≤ c0) (pc1 : 0 ≤ c1) (pd0 : 0 ≤ d0) (pd1 : 0 ≤ d1)
    (h00 : a0 * b0 ≤ c0 * d0) (h01 : a0 * b1 ≤ c0 * d1) (h10 : a1 * b0 ≤ c0 * d1) (h11 : a1 * b1 ≤ c1 * d1) : (a0 + a1) * (b0 + b1) ≤ (c0 + c1) * (d0 + d1) := by
  have hu := Int.mul_nonneg pa0 pb1
  have hv := Int.mul_nonneg pa1 pb0
  have hX := Int.mul_nonneg pc0 pd1
  have hY := Int.mul_nonneg pc1 pd0
  have hm : (a0 * b1) * (a1 * b0) ≤ (c0 * d1) * (c1 * d0) := by
    have := Int.mul_le_mul h00 h11 (Int.mul_nonneg pa1 pb1) (Int.mul_nonneg pc0 pd0)
    have e1 : (a0 * b1) * (a1 * b0) = a0 * b0 * (a1 * b1) := by grind
    have e2 : (c0 * d1) * (c1 * d0) = c0 * d0 * (c1 * d1) := by grind
    rw [e1, e2]; exact this
  have key : a0 * b1 + a1 * b0 ≤ c0 * d1 + c1 * d0 := by
    generalize a0 * b1 = u at *
    generalize a1 * b0 = v at *
    generalize c0 * d1 = X at *
    generalize c1 * d0 = Y at *
    rcases Int.lt_or_eq_of_le hX with hp | rfl
    · have h1 := Int.mul_nonneg (a := X - u) (b := X - v) (by omega) (by omega)
      have e1 : (X - u) * (X - v) = X * X - X * (u + v) + u * v := by grind
      have h2 : X * (u + v) ≤ X * (X + Y) := by
        have e2 : X * (X + Y) = X * X + X * Y := by grind
        omega
      exact Int.le_of_mul_le_mul_left h2 hp
    · omega
  have e1 : (a0 + a1) * (b0 + b1) = a0 * b0 + a1 * b1 + (a0 * b1 + a1 * b0) := by grind
  have e2 : (c0 + c1) * (d0 + d1) = c0 * d0 + c1 * d1 + (c0 * d1 + c1 * d0) := by grind
  omega
/-- four functions -/
theorem four {n : Nat} : ∀ {f1 f2 f3 f4 : List Bool → Int}, (∀ l, 0 ≤ f1 l) → (∀ l, 0 ≤ f2 l) → (∀ l, 0 ≤ f3 l) → (∀ l, 0 ≤ f4 l) →
    (∀ a b, a.length = n → b.length = n → f1 a * f2 b ≤ f3 (List.zipWith and a b) * f4 (List.zipWith or a b)) → SB n f1 * SB n f2 ≤ SB n f3 * SB n f4 := by
  induction n with
  | zero => intro f1 f2 f3 f4 _ _ _ _ h; exact h [] [] rfl rfl
  | succ n ih =>
    intro f1 f2 f3 f4 p1 p2 p3 p4 h
    refine ih (fun l => Int.add_nonneg (p1 _) (p1 _)) (fun l => Int.add_nonneg (p2 _) (p2 _)) (fun l => Int.add_nonneg (p3 _) (p3 _)) (fun l => Int.add_nonneg (p4 _) (p4 _)) fun a b ha hb => ?_
    refine four_one (p1 _) (p1 _) (p2 _) (p2 _) (p3 _) (p3 _) (p4 _) (p4 _) ?_ ?_ ?_ ?_
    · exact h (false :: a) (false :: b) (by simp [ha]) (by simp [hb])
    · exact h (false :: a) (true :: b) (by simp [ha]) (by simp [hb])
    · exact h (true :: a) (false :: b) (by simp [ha]) (by simp [hb])
    · exact h (true :: a) (true :: b) (by simp [ha]) (by simp [hb])
/-- the price of a row of bits -/
def WB : List Int → List Bool → Int
  | p :: ps, b :: l => (if b then p else 1) * WB ps l
  | _, _ => 1
theorem WB_pos : ∀ {ps : List Int} {l : List Bool}, (∀ p ∈ ps, 0 ≤ p) → 0 ≤ WB ps l
  | [], _, _ => by simp [WB]
  | _ :: _, [], _ => by simp [WB]
  | p :: ps, b :: l, h => by
    refine Int.mul_nonneg ?_ (WB_pos fun q hq => h q (.tail _ hq))
    have := h p (.head _)
    cases b <;> simp [this]
theorem WB_mod : ∀ {ps : List Int} {a b : List Bool}, a.length = b.length → WB ps a * WB ps b = WB ps (List.zipWith and a b) * WB ps (List.zipWith or a b)
  | [], _, _, _ => by simp [WB]
  | _ :: _, [], [], _ => by simp [WB]
  | _ :: _, [], _ :: _, h => by simp at h
  | _ :: _, _ :: _, [], h => by simp at h
  | p :: ps, x :: a, y :: b, h => by
    have ih := WB_mod (ps := ps) (a := a) (b := b) (by simpa using h)
    cases x <;> cases y <;> simp only [WB, List.zipWith, Bool.and_true, Bool.and_false, Bool.or_true, Bool.or_false, Bool.false_eq_true, if_true, if_false] <;> grind
theorem sum_SB {n : Nat} (g : List Bool → Int) : ∀ {K : List (List Bool)}, K.Nodup → (∀ l ∈ K, l.length = n) → (K.map g).sum = SB n fun l => if l ∈ K then g l else 0
  | [], _, _ => by simp [SB_zero]
  | k :: K, hn, hl => by
    have hk : k ∉ K := (List.nodup_cons.mp hn).1
    rw [List.map_cons, List.sum_cons, sum_SB g (List.nodup_cons.mp hn).2 fun l h => hl l (.tail _ h), ← SB_one (g := g) (hl k (.head _)), ← SB_add]
    refine SB_congr fun l _ => ?_
    by_cases h1 : l = k
    · subst h1; simp [hk]
    · simp [h1]
theorem ad_fam {n : Nat} {ps : List Int} {A B C D : List (List Bool)} (hp : ∀ p ∈ ps, 0 ≤ p) (nA : A.Nodup) (nB : B.Nodup) (nC : C.Nodup) (nD : D.Nodup) (lA : ∀ l ∈ A, l.length = n) (lB : ∀ l ∈ B, l.length = n) (lC : ∀ l ∈ C, l.length = n) (lD : ∀ l ∈ D, l.length = n)
    (h : ∀ a ∈ A, ∀ b ∈ B, List.zipWith and a b ∈ C ∧ List.zipWith or a b ∈ D) : (A.map (WB ps)).sum * (B.map (WB ps)).sum ≤ (C.map (WB ps)).sum * (D.map (WB ps)).sum := by
  rw [sum_SB _ nA lA, sum_SB _ nB lB, sum_SB _ nC lC, sum_SB _ nD lD]
  have pos : ∀ (K : List (List Bool)) l, 0 ≤ (if l ∈ K then WB ps l else 0) := fun K l => by
    split
    · exact WB_pos hp
    · exact Int.le_refl _
  refine four (pos _) (pos _) (pos _) (pos _) fun a b ha hb => ?_
  by_cases h1 : a ∈ A
  · by_cases h2 : b ∈ B
    · have := h a h1 b h2
      rw [if_pos h1, if_pos h2, if_pos this.1, if_pos this.2, WB_mod (ha.trans hb.symm)]
      exact Int.le_refl _
    · rw [if_neg h2, Int.mul_zero]; exact Int.mul_nonneg (pos _ _) (pos _ _)
  · rw [if_neg h1, Int.zero_mul]; exact Int.mul_nonneg (pos _ _) (pos _ _)

/-- the places of a figure -/
def places (f : Int) : List Int := (rangeL 0 1 (Builtin.Int.intBits f)).filter fun k => f.toNat / 2 ^ k.toNat % 2 == 1
def bitAt (a : Nat) (k : Nat) : Bool := a / 2 ^ k % 2 == 1
def bitsB (a : Nat) : List Bool := [bitAt a 0, bitAt a 1, bitAt a 2, bitAt a 3, bitAt a 4, bitAt a 5]
/-- what the one mask has and the other has not -/
def dm (a b : Int) : Int := ((a.toNat &&& (63 - b.toNat) : Nat) : Int)
theorem places_eq : ∀ a < (64 : Nat), places (a : Int) = [0, 1, 2, 3, 4, 5].filter fun k => bitAt a k.toNat := by decide +kernel
theorem lack_eq : ∀ a < (64 : Nat), lack (places (a : Int)) = [0, 1, 2, 3, 4, 5].filter fun k => !(bitAt a k.toNat) := by decide +kernel
theorem places_sum : ∀ a < (64 : Nat), ((places (a : Int)).map fun k => (2 : Int) ^ k.toNat).sum = a := by decide +kernel
theorem bitAt_test (a k : Nat) : bitAt a k = a.testBit k := by
  rw [bitAt, Nat.testBit_eq_decide_div_mod_eq]; rfl
theorem dm_nat (a b : Nat) : (dm a b).toNat = a &&& (63 - b) := by simp [dm]
theorem dm_bit {a b k : Nat} (hb : b < 64) (hk : k < 6) : bitAt (dm a b).toNat k = (bitAt a k && !bitAt b k) := by
  rw [dm_nat, bitAt_test, bitAt_test, bitAt_test, Nat.testBit_and, show 63 - b = 2 ^ 6 - (b + 1) by omega, Nat.testBit_two_pow_sub_succ (by omega)]
  simp [hk]
theorem bits_and {a b : Nat} (hb : b < 64) : List.zipWith and (bitsB a) ((bitsB b).map not) = bitsB (dm a b).toNat := by
  rw [bitsB, bitsB, bitsB, dm_bit hb (by decide), dm_bit hb (by decide), dm_bit hb (by decide), dm_bit hb (by decide), dm_bit hb (by decide), dm_bit hb (by decide)]; rfl
theorem bits_or {a b : Nat} (ha : a < 64) : List.zipWith or (bitsB a) ((bitsB b).map not) = (bitsB (dm b a).toNat).map not := by
  rw [bitsB, bitsB, bitsB, dm_bit ha (by decide), dm_bit ha (by decide), dm_bit ha (by decide), dm_bit ha (by decide), dm_bit ha (by decide), dm_bit ha (by decide)]
  simp only [List.map, List.zipWith, Bool.not_and, Bool.not_not, Bool.or_comm]
theorem dm_back : ∀ a < (64 : Nat), ∀ b < (64 : Nat), (a : Int) - dm a b + dm b a = b := by decide +kernel
theorem dm_in (a : Nat) (_ : a < 64) (b : Nat) (_ : b < 64) : 0 ≤ dm a b ∧ dm a b < 64 := by
  have h : (a : Int).toNat &&& (63 - (b : Int).toNat) ≤ 63 - (b : Int).toNat := Nat.and_le_right
  unfold dm
  omega
theorem bitsB_num : ∀ a < (64 : Nat), ((bitsB a).zip [1, 2, 4, 8, 16, 32]).foldl (fun n p => if p.1 then n + p.2 else n) 0 = a := by decide +kernel
theorem bitsB_inj {a b : Nat} (ha : a < 64) (hb : b < 64) (h : bitsB a = bitsB b) : a = b := by
  rw [← bitsB_num a ha, ← bitsB_num b hb, h]
theorem prod_filter (p0 p1 p2 p3 p4 p5 : Int) (q : Nat → Bool) : prod [p0, p1, p2, p3, p4, p5] ([0, 1, 2, 3, 4, 5].filter fun k => q k.toNat) = WB [p0, p1, p2, p3, p4, p5] [q 0, q 1, q 2, q 3, q 4, q 5] := by
  have e : ∀ ks : List Int, prod [p0, p1, p2, p3, p4, p5] (ks.filter fun k => q k.toNat) = ks.foldl (fun a k => if q k.toNat then a * [p0, p1, p2, p3, p4, p5].getD k.toNat 0 else a) 1 := fun ks => by
    rw [prod, List.foldl_filter]
  rw [e]
  have f : ∀ (b : Bool) (a x : Int), (if b = true then a * x else a) = a * (if b = true then x else 1) := by intro b a x; cases b <;> simp
  simp only [List.foldl, f]
  simp only [WB, Int.one_mul, Int.mul_one, Int.mul_assoc]
  rfl
theorem six {ps : List Int} (h : ps.length = 6) : ∃ p0 p1 p2 p3 p4 p5, ps = [p0, p1, p2, p3, p4, p5] := by
  match ps, h with
  | [p0, p1, p2, p3, p4, p5], _ => exact ⟨p0, p1, p2, p3, p4, p5, rfl⟩
theorem prod_places {ps : List Int} (h : ps.length = 6) {a : Nat} (ha : a < 64) : prod ps (places (a : Int)) = WB ps (bitsB a) := by
  obtain ⟨p0, p1, p2, p3, p4, p5, rfl⟩ := six h
  rw [places_eq a ha, prod_filter _ _ _ _ _ _ (bitAt a)]; rfl
theorem prod_lack {ps : List Int} (h : ps.length = 6) {a : Nat} (ha : a < 64) : prod ps (lack (places (a : Int))) = WB ps ((bitsB a).map not) := by
  obtain ⟨p0, p1, p2, p3, p4, p5, rfl⟩ := six h
  rw [lack_eq a ha, prod_filter _ _ _ _ _ _ fun k => !(bitAt a k)]; rfl
/-- the items of the one list that the other has not -/
def nc (xs ys : List Int) : List Int := xs.filter fun x => !ys.contains x
theorem nc_nil (xs : List Int) : nc xs [] = xs := by
  refine List.filter_eq_self.mpr fun _ _ => rfl
theorem nc_skip {xs ys : List Int} {y : Int} (h : ∀ z ∈ xs, z ≠ y) : nc xs (y :: ys) = nc xs ys := by
  refine List.filter_congr fun z hz => ?_
  rw [List.contains_cons, beq_eq_false_iff_ne.mpr (h z hz), Bool.false_or]
theorem nc_take {xs ys : List Int} {x : Int} (h : x ∉ ys) : nc (x :: xs) ys = x :: nc xs ys := by
  refine List.filter_cons_of_pos ?_
  simp [h]
theorem nc_drop {xs ys : List Int} {x : Int} (h : x ∈ ys) : nc (x :: xs) ys = nc xs ys := by
  refine List.filter_cons_of_neg ?_
  simp [h]
/-- the lists of sorted_list_difference on sorted lists -/
theorem sd_filter : ∀ (xs ys : List Int), xs.Pairwise (· < ·) → ys.Pairwise (· < ·) → sd xs ys = (nc xs ys, nc ys xs)
  | [], ys, _, _ => by rw [sd_nil_left, nc_nil]; rfl
  | x :: xs, [], _, _ => by rw [sd_nil_right, nc_nil]; rfl
  | x :: xs, y :: ys, hx, hy => by
    have hx1 := List.pairwise_cons.mp hx
    have hy1 := List.pairwise_cons.mp hy
    rcases Int.lt_trichotomy x y with h | h | h
    · have h1 : ∀ z ∈ y :: ys, z ≠ x := fun z hz => by
        rcases List.mem_cons.mp hz with rfl | hz
        · omega
        · have := hy1.1 z hz; omega
      rw [sd_lt h, sd_filter xs (y :: ys) hx1.2 hy, nc_take (fun hm => h1 x hm rfl), nc_skip h1]
    · subst h
      rw [sd_eq, sd_filter xs ys hx1.2 hy1.2, nc_drop (.head _), nc_drop (.head _), nc_skip fun z hz => ?_, nc_skip fun z hz => ?_]
      · have := hy1.1 z hz; omega
      · have := hx1.1 z hz; omega
    · have h1 : ∀ z ∈ x :: xs, z ≠ y := fun z hz => by
        rcases List.mem_cons.mp hz with rfl | hz
        · omega
        · have := hx1.1 z hz; omega
      rw [sd_gt h, sd_filter (x :: xs) ys hx hy1.2, nc_take (fun hm => h1 y hm rfl), nc_skip h1]
termination_by xs ys => xs.length + ys.length
theorem places_sorted : ∀ a < (64 : Nat), (places (a : Int)).Pairwise (· < ·) := by decide +kernel
theorem places_in : ∀ a < (64 : Nat), (∀ k ∈ places (a : Int), 0 ≤ k ∧ k < 6) ∧ (places (a : Int)).length ≤ 6 := by decide +kernel
theorem lack_in (ks : List Int) : (∀ k ∈ lack ks, 0 ≤ k ∧ k < 6) ∧ (lack ks).length ≤ 6 := by
  refine ⟨fun k hk => ?_, ?_⟩
  · have := (List.mem_filter.mp hk).1
    have e : ∀ k ∈ rangeL 0 1 6, 0 ≤ k ∧ k < 6 := by decide +kernel
    exact e k this
  · exact Nat.le_trans (List.length_filter_le _ _) (by decide +kernel)
theorem nc_filter {L : List Int} {p q : Int → Bool} : nc (L.filter p) (L.filter q) = L.filter fun k => p k && !q k := by
  rw [nc, List.filter_filter]
  refine List.filter_congr fun k hk => ?_
  cases hp : p k
  · simp
  · cases hq : q k
    · simp [hq]
    · simp [hq, hk]
theorem places_diff {a b : Nat} (ha : a < 64) (hb : b < 64) : nc (places (a : Int)) (places (b : Int)) = places (dm a b) := by
  have hd := dm_in a ha b hb
  obtain ⟨d, hd'⟩ := Int.eq_ofNat_of_zero_le hd.1
  have e : ∀ k < 6, bitAt d k = (bitAt a k && !bitAt b k) := fun k hk => by
    rw [← dm_bit hb hk, hd', Int.toNat_natCast]
  rw [hd', places_eq a ha, places_eq b hb, places_eq d (by omega), nc_filter]
  refine List.filter_congr fun k hk => ?_
  rw [e]
  have : ∀ k ∈ [(0 : Int), 1, 2, 3, 4, 5], k.toNat < 6 := by decide
  exact this k hk
theorem sd_places {a b : Int} (ha : 0 ≤ a ∧ a < 64) (hb : 0 ≤ b ∧ b < 64) : sd (places a) (places b) = (places (dm a b), places (dm b a)) := by
  obtain ⟨a, rfl⟩ := Int.eq_ofNat_of_zero_le ha.1
  obtain ⟨b, rfl⟩ := Int.eq_ofNat_of_zero_le hb.1
  have ha' : a < 64 := by omega
  have hb' : b < 64 := by omega
  rw [sd_filter _ _ (places_sorted a ha') (places_sorted b hb'), places_diff ha' hb', places_diff hb' ha']
theorem nodup_map {α β : Type} {f : α → β} : ∀ {l : List α}, l.Nodup → (∀ a ∈ l, ∀ b ∈ l, f a = f b → a = b) → (l.map f).Nodup
  | [], _, _ => by simp
  | x :: l, h, hi => by
    have h1 := List.nodup_cons.mp h
    rw [List.map_cons, List.nodup_cons]
    refine ⟨fun hm => ?_, nodup_map h1.2 fun a ha b hb => hi a (.tail _ ha) b (.tail _ hb)⟩
    obtain ⟨a, ha, e⟩ := List.mem_map.mp hm
    exact h1.1 (hi a (.tail _ ha) x (.head _) e ▸ ha)
theorem map_not_inj {a b : List Bool} (h : a.map not = b.map not) : a = b := by
  have h2 := congrArg (List.map not) h
  have e : (not ∘ not) = (id : Bool → Bool) := by funext b; cases b <;> rfl
  rwa [List.map_map, List.map_map, e, List.map_id, List.map_id] at h2
/-- Ahlswede and Daykin, as the law asks it -/
theorem plain_law {ps K1 K2 gk ck : List Int} (hl : ps.length = 6) (hp : ∀ p ∈ ps, 0 ≤ p) (n1 : K1.Nodup) (n2 : K2.Nodup) (ng : gk.Nodup) (nk : ck.Nodup) (b1 : ∀ a ∈ K1, 0 ≤ a ∧ a < 64) (b2 : ∀ a ∈ K2, 0 ≤ a ∧ a < 64)
    (hg : ∀ k, k ∈ gk ↔ ∃ a ∈ K1, ∃ b ∈ K2, k = dm a b) (hc : ∀ k, k ∈ ck ↔ ∃ a ∈ K1, ∃ b ∈ K2, k = dm b a) :
    (K1.map fun k => prod ps (places k)).sum * (K2.map fun k => prod ps (lack (places k))).sum ≤ (gk.map fun k => prod ps (places k)).sum * (ck.map fun k => prod ps (lack (places k))).sum := by
  have dmi : ∀ a b : Int, 0 ≤ a ∧ a < 64 → 0 ≤ b ∧ b < 64 → 0 ≤ dm a b ∧ dm a b < 64 := fun a b ha hb => by
    obtain ⟨a, rfl⟩ := Int.eq_ofNat_of_zero_le ha.1
    obtain ⟨b, rfl⟩ := Int.eq_ofNat_of_zero_le hb.1
    exact dm_in a (by omega) b (by omega)
  have bg : ∀ k ∈ gk, 0 ≤ k ∧ k < 64 := fun k hk => by
    obtain ⟨a, ha, b, hb, rfl⟩ := (hg k).mp hk
    exact dmi a b (b1 a ha) (b2 b hb)
  have bc : ∀ k ∈ ck, 0 ≤ k ∧ k < 64 := fun k hk => by
    obtain ⟨a, ha, b, hb, rfl⟩ := (hc k).mp hk
    exact dmi b a (b2 b hb) (b1 a ha)
  have hP : ∀ K : List Int, (∀ a ∈ K, 0 ≤ a ∧ a < 64) → (K.map fun k => prod ps (places k)) = (K.map fun k => bitsB k.toNat).map (WB ps) := fun K hK => by
    rw [List.map_map]
    refine List.map_congr_left fun k hk => ?_
    obtain ⟨a, rfl⟩ := Int.eq_ofNat_of_zero_le (hK k hk).1
    exact prod_places hl (by have := (hK _ hk).2; omega)
  have hQ : ∀ K : List Int, (∀ a ∈ K, 0 ≤ a ∧ a < 64) → (K.map fun k => prod ps (lack (places k))) = (K.map fun k => (bitsB k.toNat).map not).map (WB ps) := fun K hK => by
    rw [List.map_map]
    refine List.map_congr_left fun k hk => ?_
    obtain ⟨a, rfl⟩ := Int.eq_ofNat_of_zero_le (hK k hk).1
    exact prod_lack hl (by have := (hK _ hk).2; omega)
  have inj : ∀ K : List Int, (∀ a ∈ K, 0 ≤ a ∧ a < 64) → ∀ a ∈ K, ∀ b ∈ K, bitsB a.toNat = bitsB b.toNat → a = b := fun K hK a ha b hb e => by
    have h1 := hK a ha
    have h2 := hK b hb
    have := bitsB_inj (a := a.toNat) (b := b.toNat) (by omega) (by omega) e
    omega
  have nP : ∀ K : List Int, K.Nodup → (∀ a ∈ K, 0 ≤ a ∧ a < 64) → (K.map fun k => bitsB k.toNat).Nodup := fun K hn hK => nodup_map hn (inj K hK)
  have nQ : ∀ K : List Int, K.Nodup → (∀ a ∈ K, 0 ≤ a ∧ a < 64) → (K.map fun k => (bitsB k.toNat).map not).Nodup := fun K hn hK => nodup_map hn fun a ha b hb e => inj K hK a ha b hb (map_not_inj e)
  have lP : ∀ (K : List Int), ∀ l ∈ K.map (fun k => bitsB k.toNat), l.length = 6 := fun K l hm => by
    obtain ⟨k, _, rfl⟩ := List.mem_map.mp hm; rfl
  have lQ : ∀ (K : List Int), ∀ l ∈ K.map (fun k => (bitsB k.toNat).map not), l.length = 6 := fun K l hm => by
    obtain ⟨k, _, rfl⟩ := List.mem_map.mp hm; rfl
  rw [hP K1 b1, hP gk bg, hQ K2 b2, hQ ck bc]
  refine ad_fam hp (nP _ n1 b1) (nQ _ n2 b2) (nP _ ng bg) (nQ _ nk bc) (lP _) (lQ _) (lP _) (lQ _) fun u hu v hv => ?_
  obtain ⟨a, ha, rfl⟩ := List.mem_map.mp hu
  obtain ⟨b, hb, rfl⟩ := List.mem_map.mp hv
  have ia := b1 a ha
  have ib := b2 b hb
  obtain ⟨x, rfl⟩ := Int.eq_ofNat_of_zero_le ia.1
  obtain ⟨y, rfl⟩ := Int.eq_ofNat_of_zero_le ib.1
  simp only [Int.toNat_natCast]
  rw [bits_and (by omega), bits_or (by omega)]
  exact ⟨List.mem_map.mpr ⟨_, (hg _).mpr ⟨_, ha, _, hb, rfl⟩, rfl⟩, List.mem_map.mpr ⟨_, (hc _).mpr ⟨_, ha, _, hb, rfl⟩, rfl⟩⟩
end Mine
set_option maxHeartbeats 4000000
namespace Mine
local macro_rules | `(tactic| walk_at "exec For Name Call cons cons nil") => `(tactic| refine stopT ?_)
local macro_rules | `(tactic| walk_at "exec For Name Call cons nil") => `(tactic| refine stopT ?_)
local macro_rules | `(tactic| walk_at "eval ListComp") => `(tactic| refine stopT ?_)
local macro_rules | `(tactic| walk_at "pyIter ref") => `(tactic| refine stopT ?_)
local macro_rules | `(tactic| walk_at "pyIter bytes") => `(tactic| refine stopT ?_)
local macro_rules | `(tactic| walk_at "call ref") => `(tactic| refine stopT ?_)
local macro_rules | `(tactic| walk_at "subscriptTail Name Name str int") => `(tactic| refine stopT ?_)
local macro_rules | `(tactic| walk_at "subscriptTail Name Name ref int") => `(tactic| refine stopT ?_)
local macro_rules | `(tactic| walk_at "call builtin:str.index") => `(tactic| refine stopT ?_)
local macro_rules | `(tactic| walk_at "exec Assign cons ListComp") => `(tactic| refine stopT ?_)
local macro_rules | `(tactic| walk_at "setItem ref int") => `(tactic| refine stopT ?_)
local macro_rules | `(tactic| walk_at "call type:bytes") => `(tactic| refine stopT ?_)
local macro_rules | `(tactic| walk_at "eval Name") => `(tactic| (k_here; k_dflt (refine' nameX_L ?F ?v ?_ ?a ?b; (case F => k_asm); (case a => exact rfl); (case b => exact rfl); (case v => ((repeat (refine lk_ne (by decide) ?_)); first | exact lk_eq | assumption | exact rfl)); k_whole)))
local macro_rules | `(tactic| ktr_unf) => `(tactic| repeat' (first | walk1 | (dsimp only; walk1)))
/-- the sets of a row of octets, as they lie in the ledger -/
def FamOf (R : List (Addr × Obj)) (fs : List Int) (kvs : List (Int × Value)) : Prop :=
  (∀ f, f ∈ kvs.map (·.1) ↔ f ∈ fs) ∧ kvs.length ≤ fs.length ∧ ∀ kv ∈ kvs, ∃ l vs c, kv.2 = .ref l ∧ (l, listOf (List.toArray vs) c) ∈ R ∧ IntsAre vs (places kv.1)
theorem stored_key {kvs : List (Int × Value)} {k : Int} {v : Value} (x : Int) : x ∈ (stored kvs k v).map (·.1) ↔ x ∈ kvs.map (·.1) ∨ x = k := by
  unfold stored
  split
  · rename_i h
    obtain ⟨kv, hkv, e⟩ := List.any_eq_true.mp h
    have e' : kv.1 = k := of_decide_eq_true e
    have : (kvs.map fun kv => if kv.1 = k then (kv.1, v) else kv).map (·.1) = kvs.map (·.1) := by
      rw [List.map_map]
      refine List.map_congr_left fun p _ => ?_
      show (if p.1 = k then (p.1, v) else p).1 = p.1
      split <;> rfl
    rw [this]
    constructor
    · exact .inl
    · rintro (h1 | rfl)
      · exact h1
      · exact e' ▸ List.mem_map_of_mem hkv
  · rw [List.map_append, List.mem_append]
    simp
theorem stored_mem {kvs : List (Int × Value)} {k : Int} {v : Value} {kv : Int × Value} (h : kv ∈ stored kvs k v) : kv = (k, v) ∨ kv ∈ kvs := by
  unfold stored at h
  split at h
  · obtain ⟨p, hp, e⟩ := List.mem_map.mp h
    split at e
    · rename_i e2; left; rw [← e, e2]
    · right; exact e ▸ hp
  · rcases List.mem_append.mp h with h | h
    · exact .inr h
    · exact .inl (List.mem_singleton.mp h)
theorem allLt_get {d : Nat} {l : List (Addr × Obj)} (h : AllLt d l) : ∀ p ∈ l, @LT.lt Nat _ p.1 d := by
  induction l with
  | nil => intro p hp; cases hp
  | cons q r ih =>
    intro p hp
    rcases List.mem_cons.mp hp with rfl | hp
    · exact h.1
    · exact ih h.2 p hp
theorem figs_in {os : List Int} {f : Int} (h : f ∈ figs os) : 0 ≤ f ∧ f < 64 := by
  obtain ⟨k, _, rfl⟩ := List.mem_map.mp h
  exact ⟨Int.fmod_nonneg_of_pos _ (by decide), Int.fmod_lt_of_pos _ (by decide)⟩
theorem text_item {os : List Int} (hlo : 1 ≤ os.length) (hlen : os.length ≤ 6) (hb : ∀ o ∈ os, 0 ≤ o ∧ o < 256) {i : Nat} {f : Int} (hi : (figs os)[i]? = some f) :
    PySem.Txt.item (PySem.Txt.join (Str.ofString "") ((benc os).map oneS)) (i : Int) = ⟨#[(sgnL.getD f.toNat 0).toNat]⟩ := by
  obtain ⟨pad, hpad, _⟩ := enc_figs os hlo hlen hb
  refine item_meets (by omega) ?_
  rw [Int.toNat_natCast, ← Array.getElem?_toList, join_ones_cps, hpad, List.getElem?_map, List.getElem?_append_left (by have := (List.getElem?_eq_some_iff.mp hi).1; simpa using this), List.getElem?_map, hi]
  rfl
theorem str_len (x : Str) : x.length = x.cps.toList.length := rfl
theorem join_len (l : List Int) : (PySem.Txt.join (Str.ofString "") (l.map oneS)).length = l.length := by
  rw [str_len, join_ones_cps, List.length_map]
def FJ (prog : Program) (w : World) (cb D Df : Addr) (yf : List Value) (cf : Nat) (fs : List Int) (tx : Str) (i : Nat) (m : Str → Option Value) (nx : List (Addr × Obj)) : Prop :=
  (∃ t, m (Str.ofString "text") = some (.str tx t)) ∧ (∃ t, m (Str.ofString "alphabet") = some (.str alphaS t)) ∧ m (Str.ofString "figures") = some (.ref Df) ∧ m (Str.ofString "family") = some (.ref D) ∧
  ∃ oc od R tl kvs, nx = (cb, oc) :: (D, od) :: (R ++ tl) ∧ (∃ v, oc.data = .cell v) ∧ TabLed tl ∧ (∀ q ∈ R, q.1 ≠ cb ∧ q.1 ≠ D) ∧ (∀ q ∈ (cb, oc) :: (D, od) :: R, ∀ p ∈ tl, q.1 ≠ p.1) ∧ (Df, listOf (List.toArray yf) cf) ∈ R ∧ od.IsDictOf (intKind prog w) kvs ∧ kvs.length ≤ i ∧
    (∀ f, f ∈ kvs.map (·.1) ↔ f ∈ fs.take i) ∧ ∀ kv ∈ kvs, ∃ l vs c, kv.2 = .ref l ∧ (l, listOf (List.toArray vs) c) ∈ R ∧ IntsAre vs (places kv.1)
theorem family_spec {w : World} {p : Program} {loose : List Str} {mean : ExcName → Option Value} {mg mb : Str → Option Value} {A : Around} {s : Shared} {E : Value → Shared → Prop} {Q : Value → Shared → Prop}
   {lp : Addr} {vp : List Value} {os : List Int} {G : Heap}
   (C : CC w p loose mean mg mb 20 A G) (hG : G.StaysIn s.heap) (hGs : G.objs.size ≤ s.heap.objs.size) (hts : TabSt G s.heap) (hc : CodeHd G 34 30) (hp : G.IsList lp vp.toArray) (ip : IntsAre vp os) (hlo : 1 ≤ os.length) (hlen : os.length ≤ 6) (hb : ∀ o ∈ os, 0 ≤ o ∧ o < 256)
   (ret : ∀ D od R tl' h' tk kvs, G.StaysIn h' → TabLed tl' → (∀ q ∈ (D, od) :: (R ++ tl'), h'.get? q.1 = some q.2 ∧ G.get? q.1 = none) → (∀ q ∈ (D, od) :: R, ∀ p ∈ tl', q.1 ≠ p.1) → (∀ q ∈ R, q.1 ≠ D) → (D == sysModules) = false → od.IsDictOf (intKind PySem.Challenge.rw_oc0028_01.row.prog w) kvs → FamOf R (figs os) kvs → Q (.ref D) { s with heap := h', toks := tk }) : wpAny (model PySem.Challenge.rw_oc0028_01.row.prog w) A (call (.ref 75) [.ref lp]) Q E s := by
  w_top off
  obtain ⟨tl, htl, hlb⟩ := hts
  have X := C.X
  have T := C.T
  have hroom := C.depth
  revert X
  k_fill
  intro X
  refine enterC (G := G) (led := tl) (binds := [(Str.ofString "octets", .ref lp)]) hG hGs hlb X T (by k_is) (by k_is) (by omega) (BindsTo.of_eq rfl) rfl (by decide +kernel) ?_ rfl rfl rfl
  intro h' tk cells F' N' hst Y hlt
  k_cells Y
  rename_i o' d1'
  replace d1' : o'.data = .cell none := d1'
  replace F' : Fr G s.heap.objs.size h' (fun y => if y = Str.ofString "octets" then some (.ref lp) else none) := F'
  replace N' : News G s.heap.objs.size h' ((s.heap.objs.size + 1, o') :: tl) := N'
  have hoff : OwnOff tl [s.heap.objs.size + 1] := fun q hq b hb => by
    rw [List.mem_singleton.mp hb]; exact Nat.ne_of_lt (Nat.lt_succ_of_lt (hlt q hq))
  ktr_unf
  refine goT ?_
  rename_i h1 F1 N1
  have hbl : (benc os).length ≤ 20 := by
    obtain ⟨pad, hpad, hpl⟩ := enc_figs os hlo hlen hb
    rw [hpad]
    have e2 : (figs os).length = fsize os := by simp [figs, rangeL]
    simp only [List.length_append, List.length_map, e2, fsize]
    omega
  refine cutR (fun v s' => Hd (∃ D h' tk ys c, v = .ref D ∧ s' = { s with heap := h', toks := tk } ∧ h1.StaysIn h' ∧ h'.get? D = some (listOf (List.toArray ys) c) ∧ CarriedAll ys ((benc os).map fun a => PyData.str (oneS a)))) (fun R hR => ?_) ?_
  · refine wpAny_ListComp_free (pV fun _ => true) (FS oneS) (cl := []) rfl (by decide) rfl (by decide) rfl ?_
    ktr_unf
    refine goT ?_
    refine call_bytes_ints (F1.lst hp) ip hb (by rw [ip.length, sizeLine_eq]; omega) C.hh (fun h2 t2 k2 hk2 => ?_)
    have F2 := F1.keeps hk2
    have N2 := N1.grown hk2
    ktr_unf
    refine goT ?_
    refine b64_spec ((C.push F2 rfl rfl).less (by omega)) (by rw [show byteArr os = (os.map fun n => n.toNat.toUInt8).toArray from rfl]; simp; omega) (fun r t3 h3 tk3 hr hk3 => ?_)
    rw [show byteArr os = (os.map fun n => n.toNat.toUInt8).toArray from rfl, back_ints _ hb] at hr
    have F3 := F2.keeps hk3
    have N3 := N2.grown hk3
    ktr_unf
    refine goT ?_
    refine src_bytesS C.hh hr ?_ ?_ ?_ (fun D h4 tk4 ys c hD hDg hcy hk4 => hR _ _ ⟨D, h4, tk4, ys, c, rfl, rfl, fun b o e => hk4 b o (hk3 b o (hk2 b o e)), hDg, hcy⟩)
    · have e := KBw.ints_length r
      rw [hr] at e
      rw [sizeLine_eq]; omega
    · intro C' k t s₃ m₃ E' _ _ hns hm hst3
      exact wpAny_tests_nil ⟨rfl, _, _, rfl, fun _ _ e => e⟩
    · intro C' k t s₃ m₃ E' hC' hk hns hm hst3
      have F5 : Fr G C' s₃.heap m₃ := ⟨hns, fun b o e => hst3 b o (F3.keep b o e), Nat.le_trans F3.above (Nat.le_trans (Nat.le_of_lt F3.ns.lt) (Nat.le_of_lt hC'))⟩
      have hk1 : 0 ≤ k ∧ k < 256 := KBw.ints_in (hr ▸ hk)
      refine PySem.Call_name1 rfl ?_
      refine LCgL.ld_built F5 X T (by k_is) boot_chr (by decide) ?_
      refine PySem.callWith_builtin1 ?_
      refine wpAny_Name (wpAny_loadName_local rfl rfl hns hm ?_)
      exact chr_of_range hk1.1 (by omega) ⟨⟨_, rfl⟩, _, _, rfl, fun _ _ e => e⟩
  · rintro v s' ⟨D, h4, tk4, ys, c, rfl, rfl, hk4, hDg, hcy⟩
    have F4 := F1.keeps hk4
    have N4 := N1.grown hk4
    have hDl : h4.IsList D ys.toArray := ⟨_, hDg, rfl, _, rfl⟩
    ktr_unf
    refine goT ?_
    rename_i F5 N5
    refine figures_spec ((C.push F5 rfl rfl).less (by omega)) (F5.lst hp) ip hlo hlen (fun Df h5 tk5 yf cf hDf hDfg hyf hk5 => ?_)
    obtain ⟨F6, N6, hne6⟩ := news_add F5 N5 hk5 hDf hDfg
    ktr_unf
    refine goT ?_
    rename_i D _ od hDm _ _ hdi _ hDlt h7 F7 N7
    have hneD : D ≠ s.heap.objs.size + 1 := Nat.ne_of_gt hDlt.2.1
    have hneDf : D ≠ Df := Nat.ne_of_gt hDlt.1
    have hDft : ∀ q ∈ tl, q.1 ≠ Df := fun q hq => hne6 q (.tail _ hq)
    have hfl : (figs os).length = fsize os := by simp [figs, rangeL]
    have hf8 : fsize os ≤ 8 := by simp only [fsize]; omega
    have hlf := hyf.length
    refine For_invVF F7 rfl rfl ?_
    ktr_unf
    refine goT ?_
    rename_i hr8 F8 N8 _
    refine iter_rangeV (n := (figs os).length) (fun _ => FJ PySem.Challenge.rw_oc0028_01.row.prog w (s.heap.objs.size + 1) D Df yf cf (figs os) (PySem.Txt.join (Str.ofString "") ((benc os).map oneS))) (by exact C.hh) hr8 rfl ?_ F8 (News.perm (news' := (s.heap.objs.size + 1, o') :: (D, od) :: ([(Df, listOf (List.toArray yf) cf)] ++ tl)) N8 ?_) (fun _ => ?_) ?_ ?_
    · rw [hfl]
      have hz : fsize os = 0 ∨ fsize os = 1 ∨ fsize os = 2 ∨ fsize os = 3 ∨ fsize os = 4 ∨ fsize os = 5 ∨ fsize os = 6 ∨ fsize os = 7 ∨ fsize os = 8 := by omega
      rcases hz with h | h | h | h | h | h | h | h | h <;> rw [h] <;> decide
    · intro q hq
      simp only [List.mem_cons, List.mem_append, List.not_mem_nil, or_false] at hq ⊢
      rcases hq with h | h | h | h
      · exact .inr (.inr (.inl h))
      · exact .inl h
      · exact .inr (.inl h)
      · exact .inr (.inr (.inr h))
    · refine ⟨⟨_, rfl⟩, ⟨_, rfl⟩, rfl, rfl, o', od, [(Df, listOf (List.toArray yf) cf)], tl, [], rfl, ⟨_, d1'⟩, htl, ?_, ?_, .head _, hdi, Nat.le_refl _, fun f => by simp, fun _ h => nomatch h⟩
      · intro q hq
        rw [List.mem_singleton.mp hq]
        exact ⟨(hne6 _ (.head _)).symm, hneDf.symm⟩
      · intro q hq p hp
        simp only [List.mem_cons, List.not_mem_nil, or_false] at hq
        rcases hq with rfl | rfl | rfl
        · exact (hoff p hp _ (.head _)).symm
        · exact (Nat.ne_of_lt (allLt_get hDlt.2.2 p hp)).symm
        · exact (hDft p hp).symm
    · rintro I i ti m₁ nx h tk8 own hi hown ⟨oI, hoI⟩ ⟨⟨tt, h1⟩, ⟨ta, h2⟩, h3, h4, oc, od1, R, tl1, kvs, rfl, ⟨vc, hvc⟩, htl1, hR, hRt, hDfR, hod1, hkl, hkeys, hkv⟩ F9 N9
      ktr_unf
      refine goT ?_
      have hfi : ∃ f, (figs os)[i]? = some f := ⟨_, List.getElem?_eq_getElem hi⟩
      obtain ⟨f, hf⟩ := hfi
      have hf64 := figs_in (List.mem_of_getElem? hf)
      have hblen : (figs os).length ≤ (benc os).length := by
        obtain ⟨pad, hpad, _⟩ := enc_figs os hlo hlen hb
        rw [hpad]; simp
      have hjl := join_len (benc os)
      refine KXi.item hjl (by omega) (by omega) (by omega) (fun _ => ?_)
      rw [text_item hlo hlen hb hf]
      clear hjl hblen
      ktr_unf
      refine goT ?_
      refine SC.index (alpha_index f.toNat (by omega)) ?_
      ktr_unf
      refine goT ?_
      have N9' : News G s.heap.objs.size h (((s.heap.objs.size + 1, oc) :: (D, od1) :: (R ++ own)) ++ tl1) := News.perm N9 (by
        intro q hq
        simp only [List.mem_cons, List.mem_append, List.cons_append] at hq ⊢
        rcases hq with h | h | (h | h) | h
        · exact .inl h
        · exact .inr (.inl h)
        · exact .inr (.inr (.inl (.inl h)))
        · exact .inr (.inr (.inr h))
        · exact .inr (.inr (.inl (.inr h))))
      have hZ : ∀ q ∈ (s.heap.objs.size + 1, oc) :: (D, od1) :: (R ++ own), ∀ p ∈ tl1, q.1 ≠ p.1 := by
        intro q hq p hp
        by_cases ho : q ∈ own
        · exact hown q ho p.1 (List.mem_map.mpr ⟨p, .tail _ (.tail _ (List.mem_append_right _ hp)), rfl⟩)
        · refine hRt q ?_ p hp
          simp only [List.mem_cons, List.mem_append] at hq ⊢
          rcases hq with h | h | h | h
          · exact .inl h
          · exact .inr (.inl h)
          · exact .inr (.inr h)
          · exact absurd h ho
      refine i2d_led (Z := (s.heap.objs.size + 1, oc) :: (D, od1) :: (R ++ own)) (C.less (by omega)) hc F9 N9' htl1 hZ rfl rfl (by omega) (fun Db h10 tk10 vb cb tl2 F10 N10 htl2 hZ2 hDbZ hib => ?_)
      have hbs : (bitsL f.toNat (Builtin.Int.intBits (f.toNat : Int))).length ≤ 6 ∧ (bitsL f.toNat (Builtin.Int.intBits (f.toNat : Int))).length = Builtin.Int.intBits f ∧ ∀ k : Nat, k < Builtin.Int.intBits f → (bitsL f.toNat (Builtin.Int.intBits (f.toNat : Int)))[k]? = some ((f.toNat / 2 ^ k % 2 : Nat) : Int) := by
        have e : ((f.toNat : Nat) : Int) = f := by omega
        have h6 := (nbits_le f.toNat (by omega)).1
        rw [bitsL_len, e] at *
        refine ⟨h6, rfl, fun k hk => ?_⟩
        simp [bitsL, bitsN, hk]
      generalize bitsL f.toNat (Builtin.Int.intBits (f.toNat : Int)) = bs at hib hbs
      obtain ⟨hbs6, hbsn, hbsk⟩ := hbs
      have hcbD : Db ≠ s.heap.objs.size + 1 := fun e => hDbZ _ (.head _) e.symm
      have N10' : News G s.heap.objs.size h10 ((s.heap.objs.size + 1, oc) :: (Db, listOf (List.toArray vb) cb) :: (D, od1) :: (R ++ own ++ tl2)) := News.perm N10 (by
        intro q hq
        simp only [List.mem_cons, List.mem_append, List.cons_append] at hq ⊢
        rcases hq with h | h | h | (h | h) | h
        · exact .inr (.inl h)
        · exact .inl h
        · exact .inr (.inr (.inl h))
        · exact .inr (.inr (.inr (.inl (.inl h))))
        · exact .inr (.inr (.inr (.inl (.inr h))))
        · exact .inr (.inr (.inr (.inr h))))
      have hW : ∀ q ∈ (Db, listOf (List.toArray vb) cb) :: (D, od1) :: (R ++ own ++ tl2), q.1 ≠ s.heap.objs.size + 1 := by
        intro q hq
        simp only [List.mem_cons, List.mem_append] at hq
        rcases hq with rfl | rfl | (h | h) | h
        · exact hcbD
        · exact hneD
        · exact (hR q h).1
        · exact hown q h _ (.head _)
        · exact (hZ2 _ (.tail _ (.head _)) q h).symm
      refine storeX_C F10 N10' rfl (UpdF.head hW) hvc (fun h11 oc' F11 N11 d11 => ?_)
      clear F9 N9 N9' F10 N10 N10' F8 N8 hr8
      ktr_unf
      refine goT ?_
      refine wpAny_Assign_Subscript ?_
      refine cutR (fun v s' => Hd (∃ Dp h' tk yp c, v = .ref Dp ∧ s' = { s with heap := h', toks := tk } ∧ h11.get? Dp = none ∧ h11.StaysIn h' ∧ h'.get? Dp = some (listOf (List.toArray yp) c) ∧ IntsAre yp (places f))) (fun R' hR' => ?_) ?_
      · refine wpAny_ListComp_free (pV fun k => f.toNat / 2 ^ k.toNat % 2 == 1) (FV id) (cl := [(Str.ofString "bits", s.heap.objs.size + 1)]) rfl (by decide) rfl (by decide) rfl ?_
        ktr_unf
        refine goT ?_
        rename_i h13 tk13 t13 u13 v13 hr13 F13 N13 hk13
        refine src_range (n := bs.length) C.hh hr13 ?_ ?_ (by rw [sizeLine_eq]; omega) ⟨?_, ?_⟩ (fun D2 h2 tk2 ys2 c2 hD2 hg2 hi2 hst2 => ?_)
        · generalize bs.length = z at hbs6
          have hz : z = 0 ∨ z = 1 ∨ z = 2 ∨ z = 3 ∨ z = 4 ∨ z = 5 ∨ z = 6 := by omega
          rcases hz with rfl | rfl | rfl | rfl | rfl | rfl | rfl <;> decide
        · simp only [Builtin.Range.rangeSize]
          split
          · split <;> omega
          · split <;> omega
        · intro C' k t s₃ m₃ E' _ hk hns hm hst3
          obtain ⟨j, hj, rfl⟩ := List.mem_map.mp hk
          have hj' := List.mem_range.mp hj
          have ek : (0 + (j : Int) * 1).toNat = j := by omega
          obtain ⟨tb, htb⟩ := hib.get j _ (hbsk j (by omega))
          refine wpAny_tests_one (wpAny_isTrue_Compare1 (Subscript_ (wpAny_Name (wpAny_loadName_cell rfl rfl rfl ⟨oc', hst3 _ _ (N13 (_, oc') (.head _)).1, d11⟩ (wpAny_Name (wpAny_loadName_local rfl rfl hns hm ?_))))))
          refine item_litK (stays_list hst3 (News.isList N13 (.tail _ (.head _)))) (by omega) (by omega) (by rw [ek]; exact htb) ?_
          refine wpAny_Constant_int ?_
          refine eq_int (wpAny_truthy_bool ⟨?_, _, _, rfl, fun _ _ e => e⟩)
          rw [ek]
          have h2 : f.toNat / 2 ^ j % 2 = 0 ∨ f.toNat / 2 ^ j % 2 = 1 := by omega
          rcases h2 with h | h <;> rw [h] <;> rfl
        · intro C' k t s₃ m₃ E' _ _ _ hns hm hst3
          exact wpAny_Name (wpAny_loadName_local rfl rfl hns hm ⟨⟨_, rfl⟩, _, _, rfl, fun _ _ e => e⟩)
        · rw [List.map_id] at hi2
          refine hR' _ _ ⟨D2, h2, tk2, ys2, c2, rfl, rfl, ?_, fun b o e => hst2 b o (hk13 b o e), hg2, ?_⟩
          · cases z : h11.get? D2 with
            | none => rfl
            | some o => have := hk13 _ _ z; rw [hD2] at this; cases this
          · rw [places, ← hbsn]; exact hi2
      · rintro v s' ⟨Dp, h12, tk12, yp, cp, rfl, rfl, hDp, hk12, hDpg, hip⟩
        have F12 := F11.keeps hk12
        have N12 := N11.grown hk12
        ktr_unf
        refine goT ?_
        obtain ⟨tf, htf⟩ := hyf.get i f hf
        have hDfm : (Df, listOf (List.toArray yf) cf) ∈ (s.heap.objs.size + 1, oc') :: (Db, listOf (List.toArray vb) cb) :: (D, od1) :: (R ++ own ++ tl2) := .tail _ (.tail _ (.tail _ (List.mem_append_left _ (List.mem_append_left _ hDfR))))
        refine item_litK (News.isList N12 hDfm) (by omega) (by omega) (by rw [Int.toNat_natCast]; exact htf) ?_
        have hDpn : ∀ q ∈ (s.heap.objs.size + 1, oc') :: (Db, listOf (List.toArray vb) cb) :: (D, od1) :: (R ++ own ++ tl2), q.1 ≠ Dp := fun q hq e => by
          have := (N11 q hq).1; rw [e, hDp] at this; cases this
        obtain ⟨_, N13, _⟩ := news_add F11 N11 hk12 hDp hDpg
        have N14 : News G s.heap.objs.size h12 ((D, od1) :: ((s.heap.objs.size + 1, oc') :: (Dp, listOf (List.toArray yp) cp) :: (Db, listOf (List.toArray vb) cb) :: (R ++ own ++ tl2))) := News.perm N13 (by
          intro q hq
          simp only [List.mem_cons] at hq ⊢
          rcases hq with h | h | h | h | h
          · exact .inr (.inr (.inr (.inl h)))
          · exact .inr (.inl h)
          · exact .inl h
          · exact .inr (.inr (.inl h))
          · exact .inr (.inr (.inr (.inr h))))
        have hW2 : ∀ q ∈ ((s.heap.objs.size + 1, oc') :: (Dp, listOf (List.toArray yp) cp) :: (Db, listOf (List.toArray vb) cb) :: (R ++ own ++ tl2)), q.1 ≠ D := by
          intro q hq
          simp only [List.mem_cons, List.mem_append] at hq
          rcases hq with rfl | rfl | rfl | (h | h) | h
          · exact hneD.symm
          · exact (hDpn (D, od1) (.tail _ (.tail _ (.head _)))).symm
          · exact (hDbZ (D, od1) (.tail _ (.head _))).symm
          · exact (hR q h).2
          · exact hown q h D (.tail _ (.head _))
          · exact (hZ2 (D, od1) (.tail _ (.tail _ (.head _))) q h).symm
        refine kda_set (knd := intKind _ _) F12 N14 (UpdF.head hW2) hod1 (intKind_is _ _ _ _) (by rw [sizeLine_eq]; omega) (fun h15 od2 F15 N15 hod2 => ?_)
        clear F11 N11 F12 N12 N13 N14
        ktr_unf
        have hDpcb : Dp ≠ s.heap.objs.size + 1 := fun e => hDpn _ (.head _) e.symm
        have hDpD : Dp ≠ D := fun e => hDpn (D, od1) (.tail _ (.tail _ (.head _))) e.symm
        have hDbD : Db ≠ D := fun e => hDbZ (D, od1) (.tail _ (.head _)) e.symm
        refine ⟨h15, _, _, (s.heap.objs.size + 1, oc') :: (D, od2) :: ((Dp, listOf (List.toArray yp) cp) :: (Db, listOf (List.toArray vb) cb) :: R ++ tl2), rfl, F15, fun q hq => N15 q ?_, fun q hq => (N15 q ?_).1, ?_, ⟨_, lk_ne (by decide) h1⟩, ⟨_, lk_ne (by decide) h2⟩, lk_ne (by decide) h3, lk_ne (by decide) h4, oc', od2, (Dp, listOf (List.toArray yp) cp) :: (Db, listOf (List.toArray vb) cb) :: R, tl2, _, rfl, ⟨_, d11⟩, htl2, ?_, ?_, .tail _ (.tail _ hDfR), hod2, ?_, ?_, ?_⟩
        · simp only [List.mem_cons, List.mem_append, List.cons_append] at hq ⊢
          rcases hq with h | h | h | h | h | h
          · exact .inr (.inl h)
          · exact .inl h
          · exact .inr (.inr (.inl h))
          · exact .inr (.inr (.inr (.inl h)))
          · exact .inr (.inr (.inr (.inr (.inl (.inl h)))))
          · exact .inr (.inr (.inr (.inr (.inr h))))
        · simp only [List.mem_cons, List.mem_append]
          exact .inr (.inr (.inr (.inr (.inl (.inr hq)))))
        · intro q hq e
          simp only [List.mem_cons, List.mem_append, List.cons_append] at hq
          rcases hq with rfl | rfl | rfl | rfl | h | h
          · exact hown _ hoI _ (.head _) e.symm
          · exact hown _ hoI _ (.tail _ (.head _)) e.symm
          · exact hDpn _ (.tail _ (.tail _ (.tail _ (List.mem_append_left _ (List.mem_append_right _ hoI))))) e.symm
          · exact hDbZ _ (.tail _ (.tail _ (List.mem_append_right _ hoI))) e.symm
          · exact hown _ hoI _ (.tail _ (.tail _ (List.mem_map.mpr ⟨q, List.mem_append_left _ h, rfl⟩))) e.symm
          · exact hZ2 _ (.tail _ (.tail _ (.tail _ (List.mem_append_right _ hoI)))) q h e.symm
        · intro q hq
          simp only [List.mem_cons] at hq
          rcases hq with rfl | rfl | h
          · exact ⟨hDpcb, hDpD⟩
          · exact ⟨hcbD, hDbD⟩
          · exact hR q h
        · intro q hq p hp
          simp only [List.mem_cons] at hq
          rcases hq with rfl | rfl | rfl | rfl | h
          · exact hZ2 (s.heap.objs.size + 1, oc) (.tail _ (.head _)) p hp
          · exact hZ2 (D, od1) (.tail _ (.tail _ (.head _))) p hp
          · exact (hDpn p (.tail _ (.tail _ (.tail _ (List.mem_append_right _ hp))))).symm
          · exact hZ2 _ (.head _) p hp
          · exact hZ2 q (.tail _ (.tail _ (.tail _ (List.mem_append_left _ h)))) p hp
        · exact Nat.le_trans (stored_length_le _ _ _) (Nat.succ_le_succ hkl)
        · intro x
          rw [stored_key, hkeys x, List.take_add_one, hf, Option.toList_some, List.mem_append, List.mem_singleton]
        · intro kv hm
          rcases stored_mem hm with rfl | hm
          · exact ⟨Dp, yp, cp, rfl, .head _, hip⟩
          · obtain ⟨l, vs, c, h1, h2, h3⟩ := hkv kv hm
            exact ⟨l, vs, c, h1, .tail _ (.tail _ h2), h3⟩
    · rintro I m₁ nx h tk8 ⟨⟨tt, h1⟩, ⟨ta, h2⟩, h3, h4, oc, od1, R, tl1, kvs, rfl, ⟨vc, hvc⟩, htl1, hR, hRt, hDfR, hod1, hkl, hkeys, hkv⟩ F9 N9
      clear F8 N8 hr8
      ktr_unf
      rw [List.take_length] at hkeys
      refine ret D od1 R tl1 h _ kvs F9.keep htl1 (fun q hq => ?_) (fun q hq p hp => hRt q (.tail _ hq) p hp) (fun q hq => (hR q hq).2) hDm hod1 ⟨hkeys, hkl, hkv⟩
      have := N9 q (.tail _ hq)
      exact ⟨this.1, this.2.2⟩
end Mine
set_option maxHeartbeats 4000000
namespace Mine
/-- what a def wants of its caller whose callees raise -/
structure LC (w : World) (p : Program) (loose : List Str) (mean : ExcName → Option Value) (mg mb : Str → Option Value) (A : Around) (g base : Heap) (envs : List Env) : Prop where
  B : Below A base envs g
  X : (hd.heap_39 w.params).In base
  T : Top p loose mean mg mb base
  hh : A.handled = none
  depth : A.depth + 20 < recursionLimit
  units : A.units + 400 < cLine
section
variable {w : World} {p : Program} {loose : List Str} {mean : ExcName → Option Value} {mg mb : Str → Option Value} {A : Around} {g base h : Heap} {envs : List Env} {env : Env} {L : Addr} {m : Str → Option Value} {led frs : List (Addr × Obj)} {n : Nat}
theorem LC.XG (K : LC w p loose mean mg mb A g base envs) : (hd.heap_39 w.params).In (gst g envs) := K.X.keeps (gst_stays K.B.stays K.B.frames)
theorem LC.TG (K : LC w p loose mean mg mb A g base envs) : Top p loose mean mg mb (gst g envs) := K.T.keeps (gst_stays K.B.stays K.B.frames)
theorem LC.below (K : LC w p loose mean mg mb A g base envs) (F : Fr (gst g envs) L h m) (N : News (gst g envs) L h (led ++ frs)) (Fs : Frs g envs frs) (hf : env.frame = some L) (hk : env.scope.kind = .function) (hL : g.objs.size ≤ L) : Below (A.deeper env) (gst g envs) (env :: envs) h :=
  ⟨Around.frames_deeper K.B.stack, F.keep, .cons (by rw [hk]; decide) hf F.ns (Heap.get?_none_of_le (by rw [hideAll_size]; exact hL)) (frs_frames K.B.frames (fun b hb => hideAll_none _ hb) (fun b hb => by rw [Fs.adr]; exact hb) Fs.old N)⟩
theorem LC.cc (K : LC w p loose mean mg mb A g base envs) (F : Fr (gst g envs) L h m) (N : News (gst g envs) L h (led ++ frs)) (Fs : Frs g envs frs) (hf : env.frame = some L) (hk : env.scope.kind = .function) (hL : g.objs.size ≤ L) (hn : n ≤ 10) : CC w p loose mean mg mb n (A.deeper env) h :=
  ⟨K.hh, ⟨_, _, K.below F N Fs hf hk hL⟩, K.XG.keeps F.keep, K.TG.keeps F.keep, by have := K.depth; show A.depth + 1 + n < _; omega, by have := K.units; show A.units + 3 + 20 * n < _; omega⟩
variable {s : Shared} {E Q : Value → Shared → Prop}
/-- the call of sorted_list_difference, upon a ledger -/
theorem sld_led (K : LC w p loose mean mg mb A g base envs) (F : Fr (gst g envs) L s.heap m) (N : News (gst g envs) L s.heap (led ++ frs)) (Fs : Frs g envs frs) (hf : env.frame = some L) (hk : env.scope.kind = .function) (hL : g.objs.size ≤ L) (hlf : ∀ q ∈ led, q.1 ∉ frOf envs)
   {le la : Addr} {ve va : List Value} {xs ys : List Int} (he : (gst g envs).IsList le ve.toArray) (ie : IntsAre ve xs) (ha : (gst g envs).IsList la va.toArray) (ia : IntsAre va ys) (hex : xs.Pairwise (· < ·)) (hay : ys.Pairwise (· < ·)) (hlx : xs.length < 100) (hly : ys.length < 100)
   (ret : ∀ h' tk' lm lu lt vm vu n1 n2 frs', Fr (gst g envs) L h' m → News (gst g envs) L h' ((lt, ({ cls := .type "tuple", data := .seq #[.ref lm, .ref lu] } : Obj)) :: (lu, listOf (List.toArray vu) n2) :: (lm, listOf (List.toArray vm) n1) :: (led ++ frs')) → Frs g envs frs' → (∀ q ∈ led ++ frs', q.1 ≠ lm ∧ q.1 ≠ lu ∧ q.1 ≠ lt) → lm < lu → lu < lt →
     IntsAre vm (sd xs ys).1 → IntsAre vu (sd xs ys).2 → Q (.ref lt) { s with heap := h', toks := tk' }) :
   wpAny (model PySem.Challenge.rw_oc0028_01.row.prog w) (A.deeper env) (call (.ref 28) [.ref le, .ref la]) Q E s := by
  have B' := K.below F N Fs hf hk hL
  have hGL : (gst g envs).get? L = none := Heap.get?_none_of_le (by rw [hideAll_size]; exact hL)
  have efr : frOf (env :: envs) = L :: frOf envs := by simp [frOf, hf]
  have hGfr : ∀ b ∈ frOf (env :: envs), (gst g envs).get? b = none := fun b hb => by
    rw [efr] at hb
    rcases List.mem_cons.mp hb with rfl | hb
    · exact hGL
    · exact hideAll_none _ hb
  have hGG : (gst g envs).StaysIn (gst s.heap (env :: envs)) := fun b o e => hideAll_get _ (F.keep b o e) fun hm => by
    rw [hGfr b hm] at e; cases e
  refine sld_spec B' K.XG K.TG K.hh (by have := K.depth; show A.depth + 1 + 5 < _; omega) (by have := K.units; show A.units + 3 + 100 < _; omega) (stays_list hGG he) ie (stays_list hGG ha) ia hex hay hlx hly ?_
  intro h' tk' lm lu lt vm vu n1 n2 hkeep hslots nlm nlu nlt l1 l2 glm glu im iu glt
  have X' : XRel (frOf (env :: envs)) [] s.heap h' := ⟨fun b o _ hb e => hkeep b o e hb, fun b o _ e => hslots b o e⟩
  have F' := xrel_fr F X' (fun _ h => nomatch h) hGfr
  obtain ⟨frs', N', Fs'⟩ := xrel_news N X' Fs (fun _ h => nomatch h) (fun q hq => by
    rw [efr]
    intro hm
    rcases List.mem_cons.mp hm with h1 | h1
    · exact (N q (List.mem_append_left _ hq)).2.1 h1
    · exact hlf q hq h1)
  have nG : ∀ b, s.heap.get? b = none → (gst g envs).get? b = none := fun b hb => by
    cases z : (gst g envs).get? b with
    | none => rfl
    | some o => have := F.keep _ _ z; rw [hb] at this; cases this
  have nL : ∀ b, s.heap.get? b = none → b ≠ L := fun b hb e => by
    obtain ⟨o', _, _, ho', _⟩ := F.ns
    rw [e, ho'] at hb; cases hb
  have ne : ∀ q ∈ led ++ frs', ∀ b, s.heap.get? b = none → q.1 ≠ b := fun q hq b hb e => by
    have : ∃ o, s.heap.get? q.1 = some o := by
      rcases List.mem_append.mp hq with hq | hq
      · exact ⟨_, (N q (List.mem_append_left _ hq)).1⟩
      · have hm : q.1 ∈ frs.map (·.1) := by rw [Fs.adr, ← Fs'.adr]; exact List.mem_map_of_mem hq
        obtain ⟨r, hr, er⟩ := List.mem_map.mp hm
        exact ⟨_, er ▸ (N r (List.mem_append_right _ hr)).1⟩
    obtain ⟨o, ho⟩ := this
    rw [e, hb] at ho; cases ho
  refine ret h' tk' lm lu lt vm vu n1 n2 frs' F' (fun q hq => ?_) Fs' (fun q hq => ?_) l1 l2 im iu
  · simp only [List.mem_cons] at hq
    rcases hq with rfl | rfl | rfl | hq
    · exact ⟨glt, nL _ nlt, nG _ nlt⟩
    · exact ⟨glu, nL _ nlu, nG _ nlu⟩
    · exact ⟨glm, nL _ nlm, nG _ nlm⟩
    · exact N' q hq
  · exact ⟨ne q hq _ nlm, ne q hq _ nlu, ne q hq _ nlt⟩
end
section
variable {prog : Program} {w : World} {A : Around} {E : Value → Shared → Prop} {s : Shared} {env : Env} {h₀ : Heap} {x : Str} {body : List Stmt} {Q : Flow → Shared → Prop}
/-- a loop over the keys of a dict of the base's, whose ledger may grow -/
theorem iter_dictV {d : Addr} {kvs : List (Int × Value)} {m₀ : Str → Option Value} {news : List (Addr × Obj)} (J : Addr → Nat → (Str → Option Value) → List (Addr × Obj) → Prop)
    (hh : A.handled = none) (hd : (d == sysModules) = false) (hl : h₀.DictOf (intKind prog w) d kvs) (F : Fr h₀ env.locals s.heap m₀) (N : News h₀ env.locals s.heap news) (hj : ∀ I, J I 0 m₀ news)
    (turn : ∀ I i k v t m₁ nx h tk own, kvs[i]? = some (k, v) → OwnOff own (nx.map (·.1)) → (∃ o, (I, o) ∈ own) → J I i m₁ nx → Fr h₀ env.locals h (fun y => if y = x then some (.int k t) else m₁ y) → News h₀ env.locals h (nx ++ own) →
      wpAny (model prog w) A (execs body env) (InvPostV h₀ env.locals I (J I (i + 1)) own { s with heap := h, toks := tk } Q) E { s with heap := h, toks := tk })
    (done : ∀ I m₁ nx h tk, J I kvs.length m₁ nx → Fr h₀ env.locals h m₁ → News h₀ env.locals h nx → Q .next { s with heap := h, toks := tk }) :
    wpAny (model prog w) A (pyIter (.ref d)) (fun it s₂ => LoopAtV prog w A h₀ env x body Q E it s₂) E s := by
  have hl' := hl.keep F.keep
  obtain ⟨ep, hat⟩ := hl'.dictAt
  have hlt := hat.lt_size
  have hd0 : ∃ o, h₀.get? d = some o := let ⟨o, _, _, ho, _⟩ := hl; ⟨o, ho⟩
  obtain ⟨od, hod⟩ := hd0
  refine wpAny_pyIter_dict hd hat ?_
  refine loop_var (J s.heap.objs.size) (Walks.dictKeys (knd := intKind prog w) hh s.heap.objs.size d (Nat.ne_of_lt hlt) kvs ep) ?_ (next_is_new F) ?_ ?_ ?_ ⟨⟨_, Heap.get?_push_size _ rfl, rfl, rfl⟩, hat.push _⟩ (F.push _) (fun p hp => ⟨Heap.get?_push_of_some _ (N p hp).1, (N p hp).2⟩) (hj _) ?_ (fun m₁ nx h tk => done _ m₁ nx h tk)
  · intro hm
    rcases List.mem_cons.mp hm with e | hm
    · exact absurd F.ns.lt (e ▸ Nat.lt_irrefl _)
    · have e := List.mem_singleton.mp hm
      exact absurd (Nat.lt_of_lt_of_le (Heap.lt_size hod) F.above) (e ▸ Nat.lt_irrefl _)
  · intro b hb hn
    rcases List.mem_cons.mp hb with e | hb
    · exact e
    · rw [List.mem_singleton.mp hb, hod] at hn; cases hn
  · rintro i h ⟨⟨o, ho, _⟩, _⟩; exact ⟨o, ho⟩
  · intro p hp; exact Nat.ne_of_lt (Heap.lt_size (N p hp).1)
  · rintro i v m₁ nx h tk own hi ⟨k, xv, hk, hv⟩ hoff hI hJ F₁ N₁
    obtain ⟨t, rfl⟩ := Value.isInt_shape hv
    exact turn _ i k xv t m₁ nx h tk own hk hoff hI hJ F₁ N₁
end
theorem sum_K {prog : Program} {w : World} {A : Around} {E : Value → Shared → Prop} {s : Shared} {l : Addr} {vs : List Value} {ns : List Int} {Q : Value → Shared → Prop} (hh : A.handled = none) (hl : s.heap.IsList l vs.toArray) (hi : IntsAre vs ns)
    (h : ∀ h' tk t', s.heap.StaysIn h' → Q (.int ns.sum t') { s with heap := h', toks := tk }) : wpAny (model prog w) A (call (.builtin "sum") [.ref l]) Q E s := by
  obtain ⟨xs, hx⟩ := hi.allInts.items
  have hl' : s.heap.IsList l (intItems xs) := hx ▸ hl
  refine sum_intListG hh hl' fun h' tk t' hk => ?_
  have e1 : ns = numsOf (intItems xs).toList := by rw [← hx, show vs.toArray.toList = vs from rfl, hi.numsOf]
  have := h h' tk t' hk
  rw [e1, nums_intItems] at this
  rw [preSum_eq, List.take_of_length_le (by simp)]; exact this
/-- an item of a dict of ints -/
theorem item_dictK {prog : Program} {w : World} {A : Around} {E : Value → Shared → Prop} {s : Shared} {d : Addr} {kvs : List (Int × Value)} {i : Nat} {k : Int} {u : Tok} {v : Value} {value slice : PySem.Expr} {Q : Value → Shared → Prop} (hD : s.heap.DictOf (intKind prog w) d kvs) (hv : kvs[i]? = some (k, v)) (h : Q v { s with toks := s.toks + 1 })
    (hs : subscripted slice false (.ref d) (.int k u) = operate [.ref d, .int k u] (getItem (.ref d) (.int k u)) := by with_unfolding_all rfl) (hg : ∀ r, letTemporaryGo value (.ref d) r = pure () := by intro _; with_unfolding_all rfl) :
    wpAny (model prog w) A (subscriptTail value slice (.ref d) (.int k u)) Q E s :=
  have hn : (kvs.map (·.1)).Nodup := let ⟨_, _, _, _, _, _, _, _, hn⟩ := hD; hn
  subscriptTail_builtin hD.typeIs slot_dict_getitem.lookup (wpAny_getItem_of (intKind_is _ _ _ _) hD.mapOf (valueAt_of_get hn hv) h) hs hg
def LM (D1 D2 lq : Addr) (m : Str → Option Value) : Prop := m (Str.ofString "first") = some (.ref D1) ∧ m (Str.ofString "second") = some (.ref D2) ∧ m (Str.ofString "prices") = some (.ref lq)
/-- the two tables of the unlike lists, the pairs of P gone through -/
def LN (prog : Program) (w : World) (g : Heap) (envs : List Env) (cc cg Dg Dc : Addr) (ocg occ : Obj) (ps : List Int) (P : Int → Int → Prop) (n : Nat) (nx : List (Addr × Obj)) : Prop :=
  ∃ og oc frs gkv ckv, nx = (Dg, og) :: (Dc, oc) :: (cc, occ) :: (cg, ocg) :: frs ∧ Frs g envs frs ∧ og.IsDictOf (intKind prog w) gkv ∧ oc.IsDictOf (intKind prog w) ckv ∧ gkv.length ≤ n ∧ ckv.length ≤ n ∧
    (∀ x, x ∈ gkv.map (·.1) ↔ ∃ a b, P a b ∧ x = dm a b) ∧ (∀ x, x ∈ ckv.map (·.1) ↔ ∃ a b, P a b ∧ x = dm b a) ∧
    (∀ kv ∈ gkv, ∃ t, kv.2 = .int (prod ps (places kv.1)) t) ∧ ∀ kv ∈ ckv, ∃ t, kv.2 = .int (prod ps (lack (places kv.1))) t
theorem LN.to {prog : Program} {w : World} {g : Heap} {envs : List Env} {cc cg Dg Dc : Addr} {ocg occ : Obj} {ps : List Int} {P P' : Int → Int → Prop} {n n' : Nat} {nx : List (Addr × Obj)} (h : LN prog w g envs cc cg Dg Dc ocg occ ps P n nx) (hP : ∀ a b, P a b ↔ P' a b) (hn : n ≤ n') : LN prog w g envs cc cg Dg Dc ocg occ ps P' n' nx := by
  obtain ⟨og, oc, frs, gkv, ckv, h1, h2, h3, h4, h5, h6, h7, h8, h9⟩ := h
  refine ⟨og, oc, frs, gkv, ckv, h1, h2, h3, h4, Nat.le_trans h5 hn, Nat.le_trans h6 hn, fun x => (h7 x).trans ?_, fun x => (h8 x).trans ?_, h9⟩
  · simp only [hP]
  · simp only [hP]
theorem keys_step {kvs : List (Int × Value)} {v : Value} {a b : Int} {P : Int → Int → Prop} {f : Int → Int → Int} (h : ∀ x, x ∈ kvs.map (·.1) ↔ ∃ a b, P a b ∧ x = f a b) (x : Int) :
    x ∈ (stored kvs (f a b) v).map (·.1) ↔ ∃ a' b', (P a' b' ∨ (a' = a ∧ b' = b)) ∧ x = f a' b' := by
  rw [stored_key, h]
  constructor
  · rintro (⟨a', b', h1, h2⟩ | h1)
    · exact ⟨a', b', .inl h1, h2⟩
    · exact ⟨a, b, .inr ⟨rfl, rfl⟩, h1⟩
  · rintro ⟨a', b', h1 | ⟨rfl, rfl⟩, h2⟩
    · exact .inl ⟨a', b', h1, h2⟩
    · exact .inr h2
theorem vals_step {kvs : List (Int × Value)} {k : Int} {t : Tok} {f : Int → Int} (h : ∀ kv ∈ kvs, ∃ t, kv.2 = Value.int (f kv.1) t) : ∀ kv ∈ stored kvs k (.int (f k) t), ∃ t, kv.2 = Value.int (f kv.1) t := by
  intro kv hm
  rcases stored_mem hm with rfl | hm
  · exact ⟨t, rfl⟩
  · exact h kv hm
theorem WB_le : ∀ {ps : List Int} {l : List Bool}, (∀ p ∈ ps, 0 ≤ p ∧ p < 2 ^ 40) → WB ps l ≤ (2 ^ 40) ^ ps.length
  | [], _, _ => by simp [WB]
  | _ :: ps, [], _ => by
    show (1 : Int) ≤ _
    have : (0 : Int) < (2 ^ 40) ^ (ps.length + 1) := Int.pow_pos (by decide)
    exact this
  | p :: ps, b :: l, h => by
    have h0 := h p (.head _)
    have ih := WB_le (ps := ps) (l := l) fun q hq => h q (.tail _ hq)
    have h1 : (if b then p else 1) ≤ (2 : Int) ^ 40 ∧ 0 ≤ (if b then p else 1) := by cases b <;> simp <;> omega
    rw [List.length_cons, Int.pow_succ, Int.mul_comm ((2 ^ 40) ^ ps.length)]
    exact Int.mul_le_mul h1.1 ih (WB_pos fun q hq => (h q (.tail _ hq)).1) (by decide)
theorem prod_bound {ps : List Int} (hl : ps.length = 6) (h : ∀ p ∈ ps, 0 ≤ p ∧ p < 2 ^ 40) {k : Int} (hk : 0 ≤ k ∧ k < 64) : (0 ≤ prod ps (places k) ∧ prod ps (places k) ≤ 2 ^ 240) ∧ 0 ≤ prod ps (lack (places k)) ∧ prod ps (lack (places k)) ≤ 2 ^ 240 := by
  obtain ⟨a, rfl⟩ := Int.eq_ofNat_of_zero_le hk.1
  have ha : a < 64 := by omega
  rw [prod_places hl ha, prod_lack hl ha]
  have e : ((2 : Int) ^ 40) ^ ps.length = 2 ^ 240 := by rw [hl]; decide
  exact ⟨⟨WB_pos fun p hp => (h p hp).1, e ▸ WB_le h⟩, WB_pos fun p hp => (h p hp).1, e ▸ WB_le h⟩
theorem sum_bound {f : Int → Int} {B : Int} : ∀ {ks : List Int}, (∀ k ∈ ks, 0 ≤ f k ∧ f k ≤ B) → 0 ≤ (ks.map f).sum ∧ (ks.map f).sum ≤ ks.length * B
  | [], _ => by simp
  | k :: ks, h => by
    have ih := sum_bound (f := f) (B := B) (ks := ks) fun k hk => h k (.tail _ hk)
    have h0 := h k (.head _)
    rw [List.map_cons, List.sum_cons, List.length_cons]
    have e : ((ks.length + 1 : Nat) : Int) * B = ks.length * B + B := by rw [Int.natCast_add, Int.add_mul]; simp
    rw [e]
    omega
theorem bits_300 {k : Int} (h1 : 0 ≤ k) (h2 : k < 2 ^ 300) : Builtin.Int.intBits k ≤ 300 := by
  unfold Builtin.Int.intBits
  split
  · exact Nat.zero_le _
  · have hn : k.natAbs < 2 ^ 300 := by omega
    have : k.natAbs.log2 < 300 := by
      rcases Nat.eq_zero_or_pos k.natAbs with h0 | hp
      · rw [h0]; decide
      · exact (Nat.log2_lt (Nat.ne_of_gt hp)).mpr hn
    omega
theorem mul_ok {a b : Int} (h1 : 0 ≤ a) (h2 : a < 2 ^ 300) (h3 : 0 ≤ b) (h4 : b < 2 ^ 300) : IntMulOk a b := by
  have e1 := bits_300 h1 h2
  have e2 := bits_300 h3 h4
  unfold IntMulOk
  have : Builtin.Int.intTooBig (Builtin.Int.intBits a + Builtin.Int.intBits b) = false := by
    unfold Builtin.Int.intTooBig
    rw [bitsLine_eq]
    exact decide_eq_false (by omega)
  rw [this]; simp
end Mine
set_option maxHeartbeats 4000000
namespace Mine
local macro_rules | `(tactic| walk_at "exec For Name Name cons nil") => `(tactic| refine stopT ?_)
local macro_rules | `(tactic| walk_at "eval ListComp") => `(tactic| refine stopT ?_)
local macro_rules | `(tactic| walk_at "pyIter ref") => `(tactic| refine stopT ?_)
local macro_rules | `(tactic| walk_at "call ref") => `(tactic| refine stopT ?_)
local macro_rules | `(tactic| walk_at "subscriptTail Name Name ref int") => `(tactic| refine stopT ?_)
local macro_rules | `(tactic| walk_at "setItem ref int") => `(tactic| refine stopT ?_)
local macro_rules | `(tactic| walk_at "call builtin:sum") => `(tactic| refine stopT ?_)
local macro_rules | `(tactic| walk_at "binaryOp Mult int int") => `(tactic| refine stopT ?_)
local macro_rules | `(tactic| walk_at "compareOp NotEq int int") => `(tactic| refine stopT ?_)
local macro_rules | `(tactic| walk_at "assign Tuple") => `(tactic| (k_here; (with_reducible show wpAny _ _ (assign (Expr.Tuple _ _ _) _ (Value.ref _)) _ _ _); k_dflt (refine' unpackN_ ?k1 ?k2 ?k3 ?k4 ?k5 ?k6 ?_; (case k1 => k_asm); (case k2 => k_asm); (case k3 => exact News.isTup (by k_asm) (by k_mem)); (case k4 => assumption); (case k5 => exact rfl); (case k6 => exact rfl); k_whole); intro h' F' N'; (try k_sweep)))
local macro_rules | `(tactic| walk_at "unpackItems ref") => `(tactic| (k_here; k_dflt (refine' unpackItemsN_ ?k1 ?k2 ?k3 ?k4 ?k5 ?_; (case k1 => k_asm); (case k2 => k_asm); (case k3 => kun_tup); (case k4 => assumption); (case k5 => exact rfl); k_whole); intro h' F' N'; (try k_sweep)))
local macro_rules | `(tactic| walk_at "eval Name") => `(tactic| (k_here; k_dflt (refine' nameX_L ?F ?v ?_ ?a ?b; (case F => k_asm); (case a => exact rfl); (case b => exact rfl); (case v => ((repeat (refine lk_ne (by decide) ?_)); first | exact lk_eq | assumption | exact rfl)); k_whole)))
local macro_rules | `(tactic| ktr_unf) => `(tactic| repeat' (first | walk1 | (dsimp only; walk1)))
/-- the sets of a family, as the base has them -/
def FamIn (G : Heap) (kvs : List (Int × Value)) : Prop := ∀ kv ∈ kvs, (0 ≤ kv.1 ∧ kv.1 < 64) ∧ ∃ l vs, kv.2 = .ref l ∧ G.IsList l (List.toArray vs) ∧ IntsAre vs (places kv.1)
theorem lists_spec {w : World} {p : Program} {loose : List Str} {mean : ExcName → Option Value} {mg mb : Str → Option Value} {A : Around} {s : Shared} {E : Value → Shared → Prop} {Q : Value → Shared → Prop} {base : Heap} {envs : List Env}
   {D1 D2 lq : Addr} {kv1 kv2 : List (Int × Value)} {vq : List Value} {ps : List Int}
   (K : LC w p loose mean mg mb A s.heap base envs) (h1 : (gst s.heap envs).DictOf (intKind PySem.Challenge.rw_oc0028_01.row.prog w) D1 kv1) (s1 : (D1 == sysModules) = false) (h2 : (gst s.heap envs).DictOf (intKind PySem.Challenge.rw_oc0028_01.row.prog w) D2 kv2) (s2 : (D2 == sysModules) = false)
   (f1 : FamIn (gst s.heap envs) kv1) (f2 : FamIn (gst s.heap envs) kv2) (hq : (gst s.heap envs).IsList lq vq.toArray) (iq : IntsAre vq ps) (hl : ps.length = 6) (hpp : ∀ x ∈ ps, 0 ≤ x ∧ x < 2 ^ 40) (l1 : kv1.length ≤ 8) (l2 : kv2.length ≤ 8)
   (ret : ∀ (h' : Heap) (tk' : Nat) (t : Tok) (gk ck : List Int), (∀ b o, s.heap.get? b = some o → b ∉ frOf envs → h'.get? b = some o) → (∀ b o, s.heap.get? b = some o → ∃ sl, h'.get? b = some { o with slots := sl }) → gk.Nodup → ck.Nodup →
     (∀ k, k ∈ gk ↔ ∃ a ∈ kv1.map (·.1), ∃ b ∈ kv2.map (·.1), k = dm a b) → (∀ k, k ∈ ck ↔ ∃ a ∈ kv1.map (·.1), ∃ b ∈ kv2.map (·.1), k = dm b a) →
     Q (.int ((gk.map fun k => prod ps (places k)).sum * (ck.map fun k => prod ps (lack (places k))).sum) t) { s with heap := h', toks := tk' }) :
   wpAny (model PySem.Challenge.rw_oc0028_01.row.prog w) A (call (.ref 92) [.ref D1, .ref D2, .ref lq]) Q E s := by
  w_top off
  obtain ⟨frs, Fs, hfs⟩ := frs_start K.B.frames
  have X := K.XG
  have T := K.TG
  have hroom := K.depth
  have hh := K.hh
  have hq' := Hd.mk hq
  revert X
  k_fill
  intro X
  refine enterC (G := gst s.heap envs) (led := frs) (binds := [(Str.ofString "first", .ref D1), (Str.ofString "second", .ref D2), (Str.ofString "prices", .ref lq)]) (fun b o e => of_hideAll _ e) (Nat.le_of_eq (hideAll_size _ _)) (fun q hq => ⟨hfs q hq, hideAll_none _ (by rw [← Fs.adr]; exact List.mem_map_of_mem hq)⟩) X T (by k_is) (by k_is) (by omega) (BindsTo.of_eq rfl) rfl (by decide +kernel) ?_ rfl rfl rfl
  intro h' tk cells F' N' hst Y hlt
  k_cells Y
  rename_i o1 o2 d1 d2
  replace d1 : o1.data = .cell none := d1
  replace d2 : o2.data = .cell none := d2
  simp only [List.cons_append, List.nil_append] at N'
  replace F' : Fr (gst s.heap envs) s.heap.objs.size h' (fun y => if y = Str.ofString "prices" then some (.ref lq) else if y = Str.ofString "second" then some (.ref D2) else if y = Str.ofString "first" then some (.ref D1) else none) := F'
  have hfr1 : ∀ q ∈ frs, q.1 ≠ s.heap.objs.size + 1 := fun q hq => Nat.ne_of_lt (Nat.lt_succ_of_lt (hlt q hq))
  have hfr2 : ∀ q ∈ frs, q.1 ≠ s.heap.objs.size + 1 + 1 := fun q hq => Nat.ne_of_lt (Nat.lt_succ_of_lt (Nat.lt_succ_of_lt (hlt q hq)))
  have hoff : OwnOff frs [s.heap.objs.size + 1 + 1, s.heap.objs.size + 1] := fun q hq b hb => by
    simp only [List.mem_cons, List.not_mem_nil, or_false] at hb
    rcases hb with rfl | rfl
    · exact hfr2 q hq
    · exact hfr1 q hq
  ktr_unf
  refine goT ?_
  rename_i Dg _ og sg _ _ hgi _ ltg Dc _ oc sc _ _ hci _ ltc Dt _ ltt _ _ ocg dcg h7 occ F7 N7 dcc
  have hfa : ∀ q ∈ frs, q.1 ∈ frOf envs := fun q hq => by rw [← Fs.adr]; exact List.mem_map_of_mem hq
  have hfg : ∀ b ∈ frOf envs, b ≠ Dg ∧ b ≠ Dc ∧ b ≠ s.heap.objs.size + 1 + 1 ∧ b ≠ s.heap.objs.size + 1 := fun b hb => by
    rw [← Fs.adr] at hb
    obtain ⟨q, hq, rfl⟩ := List.mem_map.mp hb
    exact ⟨Nat.ne_of_lt (allLt_get ltg.2.2 q hq), Nat.ne_of_lt (allLt_get ltc.2.2.2 q hq), hfr2 q hq, hfr1 q hq⟩
  have nDc : Dc ≠ Dg := Nat.ne_of_gt ltc.1
  have nDgc : Dg ≠ s.heap.objs.size + 1 + 1 := Nat.ne_of_gt ltg.1
  have nDgg : Dg ≠ s.heap.objs.size + 1 := Nat.ne_of_gt ltg.2.1
  have nDcc : Dc ≠ s.heap.objs.size + 1 + 1 := Nat.ne_of_gt ltc.2.1
  have nDcg : Dc ≠ s.heap.objs.size + 1 := Nat.ne_of_gt ltc.2.2.1
  have ncc : s.heap.objs.size + 1 + 1 ≠ s.heap.objs.size + 1 := Nat.succ_ne_self _
  have N8 : News (gst s.heap envs) s.heap.objs.size h7 ((Dg, og) :: (Dc, oc) :: (s.heap.objs.size + 1 + 1, occ) :: (s.heap.objs.size + 1, ocg) :: frs) := News.perm N7 (by
    intro q hq
    simp only [List.mem_cons] at hq ⊢
    rcases hq with h | h | h | h | h
    · exact .inr (.inr (.inl h))
    · exact .inr (.inl h)
    · exact .inr (.inr (.inr (.inl h)))
    · exact .inr (.inr (.inr (.inr (.inl h))))
    · exact .inr (.inr (.inr (.inr (.inr h)))))
  clear N7
  refine For_invVF F7 rfl rfl ?_
  ktr_unf
  refine goT ?_
  refine iter_dictV (fun _ i m nx => LM D1 D2 lq m ∧ LN PySem.Challenge.rw_oc0028_01.row.prog w s.heap envs (s.heap.objs.size + 1 + 1) (s.heap.objs.size + 1) Dg Dc ocg occ ps (fun a b => a ∈ (kv1.take i).map (·.1) ∧ b ∈ kv2.map (·.1)) (8 * i) nx) hh s1 h1 F7 N8 ?_ ?_ ?_
  · intro _
    refine ⟨⟨rfl, rfl, rfl⟩, og, oc, frs, [], [], rfl, Fs, hgi, hci, Nat.zero_le _, Nat.zero_le _, fun x => ?_, fun x => ?_, (fun _ h => nomatch h), (fun _ h => nomatch h)⟩
    · simp
    · simp
  · rintro I1 i1 k1 v1 t1 m1 nx1 h9 tk9 own1 hi1 hoff1 ⟨oI1, hI1⟩ ⟨⟨ma, mb', mc⟩, hLN⟩ F9 N9
    clear F7 N8 hgi hci
    have hLNa := hLN
    obtain ⟨og1, oc1, frs1, gkv1, ckv1, rfl, Fs1, -⟩ := hLNa
    have ho1 : ∀ q ∈ own1, q.1 ≠ Dg ∧ q.1 ≠ Dc ∧ q.1 ≠ s.heap.objs.size + 1 + 1 ∧ q.1 ≠ s.heap.objs.size + 1 ∧ q.1 ∉ frOf envs := fun q hq => ⟨hoff1 q hq _ (.head _), hoff1 q hq _ (.tail _ (.head _)), hoff1 q hq _ (.tail _ (.tail _ (.head _))), hoff1 q hq _ (.tail _ (.tail _ (.tail _ (.head _)))), fun hm => by
      rw [← Fs1.adr] at hm
      exact hoff1 q hq _ (.tail _ (.tail _ (.tail _ (.tail _ hm)))) rfl⟩
    ktr_unf
    refine goT ?_
    refine For_invVF F9 rfl rfl ?_
    ktr_unf
    refine goT ?_
    refine iter_dictV (fun _ j m nx => ∃ nx', nx = nx' ++ own1 ∧ (∃ t, m (Str.ofString "one") = some (.int k1 t)) ∧ LM D1 D2 lq m ∧ LN PySem.Challenge.rw_oc0028_01.row.prog w s.heap envs (s.heap.objs.size + 1 + 1) (s.heap.objs.size + 1) Dg Dc ocg occ ps (fun a b => (a ∈ (kv1.take i1).map (·.1) ∧ b ∈ kv2.map (·.1)) ∨ (a = k1 ∧ b ∈ (kv2.take j).map (·.1))) (8 * i1 + j) nx') hh s2 h2 F9 N9 ?_ ?_ ?_
    · intro _
      exact ⟨_, rfl, ⟨_, lk_eq⟩, ⟨lk_ne (by decide) ma, lk_ne (by decide) mb', lk_ne (by decide) mc⟩, hLN.to (fun a b => by simp) (by omega)⟩
    · rintro I2 j2 k2 v2 t2 m2 nx2 h10 tk10 own2 hi2 hoff2 ⟨oI2, hI2⟩ ⟨nx', rfl, ⟨t1', mo⟩, ⟨ma2, mb2, mc2⟩, og2, oc2, frs2, gkv, ckv, rfl, Fs2, hgk, hck, hgl, hcl, hgm, hcm, hgv, hcv⟩ F10 N10
      clear F9 N9 hLN
      have ho2 : ∀ q ∈ own2, q.1 ≠ Dg ∧ q.1 ≠ Dc ∧ q.1 ≠ s.heap.objs.size + 1 + 1 ∧ q.1 ≠ s.heap.objs.size + 1 ∧ q.1 ∉ frOf envs := fun q hq => ⟨hoff2 q hq _ (.head _), hoff2 q hq _ (.tail _ (.head _)), hoff2 q hq _ (.tail _ (.tail _ (.head _))), hoff2 q hq _ (.tail _ (.tail _ (.tail _ (.head _)))), fun hm => by
        rw [← Fs2.adr] at hm
        obtain ⟨r, hr, e⟩ := List.mem_map.mp hm
        exact hoff2 q hq _ (List.mem_map.mpr ⟨r, List.mem_append_left _ (.tail _ (.tail _ (.tail _ (.tail _ hr)))), rfl⟩) e.symm⟩
      have hI12 : ∀ q ∈ own1, q.1 ≠ I2 := fun q hq e => hoff2 _ hI2 _ (List.mem_map.mpr ⟨q, List.mem_append_right _ hq, rfl⟩) e.symm
      obtain ⟨ha, la, va, rfl, hla, iva⟩ := f1 _ (List.mem_of_getElem? hi1)
      obtain ⟨hb, lb, vb, rfl, hlb, ivb⟩ := f2 _ (List.mem_of_getElem? hi2)
      dsimp only at ha hb iva ivb
      have hW : ∀ q ∈ own1 ++ own2, q.1 ≠ Dg ∧ q.1 ≠ Dc ∧ q.1 ≠ s.heap.objs.size + 1 + 1 ∧ q.1 ≠ s.heap.objs.size + 1 ∧ q.1 ∉ frOf envs := fun q hq => (List.mem_append.mp hq).elim (ho1 q) (ho2 q)
      have N11 : News (gst s.heap envs) s.heap.objs.size h10 (((Dg, og2) :: (Dc, oc2) :: (s.heap.objs.size + 1 + 1, occ) :: (s.heap.objs.size + 1, ocg) :: (own1 ++ own2)) ++ frs2) := News.perm N10 (by
        intro q hq
        simp only [List.mem_cons, List.mem_append, List.cons_append] at hq ⊢
        rcases hq with h | h | h | h | (h | h) | h
        · exact .inl h
        · exact .inr (.inl h)
        · exact .inr (.inr (.inl h))
        · exact .inr (.inr (.inr (.inl h)))
        · exact .inr (.inr (.inr (.inr (.inl (.inr h)))))
        · exact .inr (.inr (.inr (.inr (.inr h))))
        · exact .inr (.inr (.inr (.inr (.inl (.inl h))))))
      clear N10
      ktr_unf
      refine goT ?_
      refine item_dictK (h1.keep F10.keep) hi1 ?_
      ktr_unf
      refine goT ?_
      refine item_dictK (h2.keep F10.keep) hi2 ?_
      ktr_unf
      refine goT ?_
      have pa := places_in k1.toNat (by omega)
      have pb := places_in k2.toNat (by omega)
      have sa := places_sorted k1.toNat (by omega)
      have sb := places_sorted k2.toNat (by omega)
      rw [show ((k1.toNat : Nat) : Int) = k1 by omega] at pa sa
      rw [show ((k2.toNat : Nat) : Int) = k2 by omega] at pb sb
      refine sld_led K F10 N11 Fs2 rfl rfl (Nat.le_refl _) (fun q hq => ?_) hla iva hlb ivb sa sb (by omega) (by omega) ?_
      · simp only [List.mem_cons] at hq
        rcases hq with rfl | rfl | rfl | rfl | hq
        · exact fun hm => (hfg _ hm).1 rfl
        · exact fun hm => (hfg _ hm).2.1 rfl
        · exact fun hm => (hfg _ hm).2.2.1 rfl
        · exact fun hm => (hfg _ hm).2.2.2 rfl
        · exact (hW q hq).2.2.2.2
      intro h12 tk12 lm lu lt vm vu n1 n2 frs3 F12 N12 Fs3 hne3 hlmu hlut im iu
      rw [sd_places ha hb] at im iu
      dsimp only at im iu
      clear F10 N11
      ktr_unf
      refine goT ?_
      rename_i h13 F13 N13
      have N14 : News (gst s.heap envs) s.heap.objs.size h13 ((lu, listOf (List.toArray vu) n2) :: (lm, listOf (List.toArray vm) n1) :: (((Dg, og2) :: (Dc, oc2) :: (s.heap.objs.size + 1 + 1, occ) :: (s.heap.objs.size + 1, ocg) :: (own1 ++ own2)) ++ frs3)) := fun q hq => N13 q (.tail _ hq)
      try clear N13
      try clear N12
      try clear F12
      have pd := places_in (dm k1 k2).toNat
      have pe := places_in (dm k2 k1).toNat
      have ds := places_sum (dm k1 k2).toNat
      have es := places_sum (dm k2 k1).toNat
      have di : (0 ≤ dm k1 k2 ∧ dm k1 k2 < 64) ∧ (0 ≤ dm k2 k1 ∧ dm k2 k1 < 64) ∧ k1 - dm k1 k2 + dm k2 k1 = k2 := by
        have e1 : ((k1.toNat : Nat) : Int) = k1 := by omega
        have e2 : ((k2.toNat : Nat) : Int) = k2 := by omega
        rw [← e1, ← e2]
        exact ⟨dm_in _ (by omega) _ (by omega), dm_in _ (by omega) _ (by omega), dm_back _ (by omega) _ (by omega)⟩
      obtain ⟨di1, di2, hback⟩ := di
      rw [show (((dm k1 k2).toNat : Nat) : Int) = dm k1 k2 by omega] at pd ds
      rw [show (((dm k2 k1).toNat : Nat) : Int) = dm k2 k1 by omega] at pe es
      replace pd := pd (by omega)
      replace pe := pe (by omega)
      replace ds := ds (by omega)
      replace es := es (by omega)
      refine cutR (fun v s' => Hd (∃ D h' tk ys c, v = .ref D ∧ s' = { s with heap := h', toks := tk } ∧ h13.StaysIn h' ∧ h'.get? D = some (listOf (List.toArray ys) c) ∧ IntsAre ys ((places (dm k1 k2)).map fun k => (2 : Int) ^ k.toNat))) (fun R hR => ?_) ?_
      · refine wpAny_ListComp_free (pV fun _ => true) (FV fun k => (2 : Int) ^ k.toNat) (cl := []) rfl (by decide) rfl (by decide) rfl ?_
        ktr_unf
        refine goT ?_
        refine src_list hh (News.isList N14 (.tail _ (.head _))) im (by rw [sizeLine_eq]; omega) ⟨?_, ?_⟩ (fun D2 h2 tk2 ys2 c2 hD2 hg2 hi2 hst2 => ?_)
        · intro C' k t s₃ m₃ E' _ _ hns hm hst3
          exact wpAny_tests_nil ⟨rfl, _, _, rfl, fun _ _ e => e⟩
        · intro C' k t s₃ m₃ E' _ hk _ hns hm hst3
          have hk6 := pd.1 k hk
          refine wpAny_BinOp (wpAny_Constant_int (wpAny_Name (wpAny_loadName_local rfl rfl hns hm ?_)))
          exact pow_int_small hk6.1 (by omega) (by decide) ⟨⟨_, rfl⟩, _, _, rfl, fun _ _ e => e⟩
        · rw [List.filter_eq_self.mpr fun _ _ => rfl] at hi2
          exact hR _ _ ⟨D2, h2, tk2, ys2, c2, rfl, rfl, hst2, hg2, hi2⟩
      rintro v s' ⟨Ds, h15, tk15, ys, cs, rfl, rfl, hk15, hg15, hi15⟩
      have F15 := F13.keeps hk15
      have N15 := N14.grown hk15
      try clear F13
      try clear N14
      ktr_unf
      refine goT ?_
      refine sum_K hh ⟨_, hg15, rfl, _, rfl⟩ hi15 (fun h16 tk16 t16 hk16 => ?_)
      rw [ds]
      have F16 := F15.keeps hk16
      have N16 := N15.grown hk16
      try clear F15
      try clear N15
      ktr_unf
      refine goT ?_
      refine cutR (fun v s' => Hd (∃ D h' tk ys c, v = .ref D ∧ s' = { s with heap := h', toks := tk } ∧ h16.StaysIn h' ∧ h'.get? D = some (listOf (List.toArray ys) c) ∧ IntsAre ys ((places (dm k2 k1)).map fun k => (2 : Int) ^ k.toNat))) (fun R hR => ?_) ?_
      · refine wpAny_ListComp_free (pV fun _ => true) (FV fun k => (2 : Int) ^ k.toNat) (cl := []) rfl (by decide) rfl (by decide) rfl ?_
        ktr_unf
        refine goT ?_
        refine src_list hh (News.isList N16 (.head _)) iu (by rw [sizeLine_eq]; omega) ⟨?_, ?_⟩ (fun D2 h2 tk2 ys2 c2 hD2 hg2 hi2 hst2 => ?_)
        · intro C' k t s₃ m₃ E' _ _ hns hm hst3
          exact wpAny_tests_nil ⟨rfl, _, _, rfl, fun _ _ e => e⟩
        · intro C' k t s₃ m₃ E' _ hk _ hns hm hst3
          have hk6 := pe.1 k hk
          refine wpAny_BinOp (wpAny_Constant_int (wpAny_Name (wpAny_loadName_local rfl rfl hns hm ?_)))
          exact pow_int_small hk6.1 (by omega) (by decide) ⟨⟨_, rfl⟩, _, _, rfl, fun _ _ e => e⟩
        · rw [List.filter_eq_self.mpr fun _ _ => rfl] at hi2
          exact hR _ _ ⟨D2, h2, tk2, ys2, c2, rfl, rfl, hst2, hg2, hi2⟩
      rintro v s' ⟨Dz, h17, tk17, yz, cz, rfl, rfl, hk17, hg17, hi17⟩
      have F17 := F16.keeps hk17
      have N17 := N16.grown hk17
      try clear F16
      try clear N16
      ktr_unf
      refine goT ?_
      refine sum_K hh ⟨_, hg17, rfl, _, rfl⟩ hi17 (fun h18 tk18 t18 hk18 => ?_)
      rw [es]
      have F18 := F17.keeps hk18
      have N18 := N17.grown hk18
      try clear F17
      try clear N17
      ktr_unf
      refine goT ?_
      refine ne_int ?_
      rw [show (k1 - dm k1 k2 + dm k2 k1 != k2) = false by rw [hback]; simp]
      ktr_unf
      refine goT ?_
      rename_i h19 F19 N19 _
      have N20 : News (gst s.heap envs) s.heap.objs.size h19 ((Dg, og2) :: (((lu, listOf (List.toArray vu) n2) :: (lm, listOf (List.toArray vm) n1) :: (Dc, oc2) :: (s.heap.objs.size + 1 + 1, occ) :: (s.heap.objs.size + 1, ocg) :: (own1 ++ own2)) ++ frs3)) := News.perm N19 (by
        intro q hq
        simp only [List.mem_cons, List.mem_append, List.cons_append] at hq ⊢
        rcases hq with h | h | h | h | h | h | h
        · exact .inr (.inr (.inr (.inl h)))
        · exact .inr (.inl h)
        · exact .inr (.inr (.inl h))
        · exact .inr (.inr (.inr (.inr (.inl h))))
        · exact .inr (.inr (.inr (.inr (.inr (.inl h)))))
        · exact .inr (.inr (.inr (.inr (.inr (.inr (.inl h))))))
        · exact .inr (.inr (.inr (.inr (.inr (.inr (.inr h)))))))
      have hf3 : ∀ q ∈ frs3, q.1 ∈ frOf envs := fun q hq => by rw [← Fs3.adr]; exact List.mem_map_of_mem hq
      have neg : ∀ q ∈ ((lu, listOf (List.toArray vu) n2) :: (lm, listOf (List.toArray vm) n1) :: (Dc, oc2) :: (s.heap.objs.size + 1 + 1, occ) :: (s.heap.objs.size + 1, ocg) :: (own1 ++ own2)) ++ frs3, q.1 ≠ Dg := by
        intro q hq
        rcases List.mem_append.mp hq with hq | hq
        · simp only [List.mem_cons] at hq
          rcases hq with rfl | rfl | rfl | rfl | rfl | hq
          · exact fun e => (hne3 _ (.head _)).2.1 e.symm
          · exact fun e => (hne3 _ (.head _)).1 e.symm
          · exact nDc
          · exact nDgc.symm
          · exact nDgg.symm
          · exact (hW q hq).1
        · exact (hfg _ (hf3 q hq)).1
      try clear N19
      refine price_spec (K.cc F19 (led := (Dg, og2) :: (lu, listOf (List.toArray vu) n2) :: (lm, listOf (List.toArray vm) n1) :: (Dc, oc2) :: (s.heap.objs.size + 1 + 1, occ) :: (s.heap.objs.size + 1, ocg) :: (own1 ++ own2)) N20 Fs3 rfl rfl (Nat.le_refl _) (by decide)) (News.isList N20 (.tail _ (.tail _ (.head _)))) im (stays_list F19.keep hq'.out) iq (fun k hk => ⟨(pd.1 k hk).1, by have := (pd.1 k hk).2; rw [hl]; exact this⟩) (by omega) hpp (fun t20 h20 tk20 hk20 => ?_)
      have F20 := F19.keeps hk20
      have N21 := N20.grown hk20
      try clear F19
      try clear N20
      ktr_unf
      refine goT ?_
      have hj2 : j2 < kv2.length := (List.getElem?_eq_some_iff.mp hi2).1
      have hj1 : i1 < kv1.length := (List.getElem?_eq_some_iff.mp hi1).1
      refine kda_set (knd := intKind _ _) F20 N21 (UpdF.head neg) hgk (intKind_is _ _ _ _) (by rw [sizeLine_eq]; omega) (fun h21 og3 F21 N22 hgk3 => ?_)
      try clear F20
      try clear N21
      ktr_unf
      refine goT ?_
      refine lacking_spec (K.cc F21 (led := (Dg, og3) :: (lu, listOf (List.toArray vu) n2) :: (lm, listOf (List.toArray vm) n1) :: (Dc, oc2) :: (s.heap.objs.size + 1 + 1, occ) :: (s.heap.objs.size + 1, ocg) :: (own1 ++ own2)) N22 Fs3 rfl rfl (Nat.le_refl _) (by decide)) (News.isList N22 (.tail _ (.head _))) iu (fun Dl h22 tk22 yl cl hDl hgl' hil hk22 => ?_)
      have F22 := F21.keeps hk22
      have N23 := N22.grown hk22
      have hgl2 : h22.IsList Dl yl.toArray := ⟨_, hgl', rfl, _, rfl⟩
      try clear F21
      try clear N22
      ktr_unf
      refine goT ?_
      refine price_spec (K.cc F22 (led := (Dg, og3) :: (lu, listOf (List.toArray vu) n2) :: (lm, listOf (List.toArray vm) n1) :: (Dc, oc2) :: (s.heap.objs.size + 1 + 1, occ) :: (s.heap.objs.size + 1, ocg) :: (own1 ++ own2)) N23 Fs3 rfl rfl (Nat.le_refl _) (by decide)) hgl2 hil (stays_list F22.keep hq'.out) iq (fun k hk => ⟨((lack_in _).1 k hk).1, by have := ((lack_in _).1 k hk).2; rw [hl]; exact this⟩) (by omega) hpp (fun t23 h23 tk23 hk23 => ?_)
      have F23 := F22.keeps hk23
      have N24 := N23.grown hk23
      try clear F22
      try clear N23
      ktr_unf
      refine goT ?_
      have N25 : News (gst s.heap envs) s.heap.objs.size h23 ((Dc, oc2) :: ((Dg, og3) :: (s.heap.objs.size + 1 + 1, occ) :: (s.heap.objs.size + 1, ocg) :: ((own1 ++ own2) ++ frs3))) := News.perm N24 (by
        intro q hq
        simp only [List.mem_cons, List.mem_append, List.cons_append] at hq ⊢
        rcases hq with h | h | h | h | h
        · exact .inr (.inr (.inr (.inl h)))
        · exact .inl h
        · exact .inr (.inr (.inr (.inr (.inl h))))
        · exact .inr (.inr (.inr (.inr (.inr (.inl h)))))
        · exact .inr (.inr (.inr (.inr (.inr (.inr h))))))
      have nec : ∀ q ∈ (Dg, og3) :: (s.heap.objs.size + 1 + 1, occ) :: (s.heap.objs.size + 1, ocg) :: ((own1 ++ own2) ++ frs3), q.1 ≠ Dc := by
        intro q hq
        simp only [List.mem_cons] at hq
        rcases hq with rfl | rfl | rfl | hq
        · exact nDc.symm
        · exact nDcc.symm
        · exact nDcg.symm
        · rcases List.mem_append.mp hq with hq | hq
          · exact (hW q hq).2.1
          · exact (hfg _ (hf3 q hq)).2.1
      refine kda_set (knd := intKind _ _) F23 N25 (UpdF.head nec) hck (intKind_is _ _ _ _) (by rw [sizeLine_eq]; omega) (fun h24 oc3 F24 N26 hck3 => ?_)
      try clear F23
      try clear N24
      try clear N25
      ktr_unf
      refine ⟨h24, _, _, ((Dg, og3) :: (Dc, oc3) :: (s.heap.objs.size + 1 + 1, occ) :: (s.heap.objs.size + 1, ocg) :: frs3) ++ own1, rfl, F24, fun q hq => N26 q ?_, fun q hq => (N26 q ?_).1, ?_, _, rfl, ⟨t1', by (repeat (refine lk_ne (by decide) ?_)); exact mo⟩, ⟨by (repeat (refine lk_ne (by decide) ?_)); exact ma2, by (repeat (refine lk_ne (by decide) ?_)); exact mb2, by (repeat (refine lk_ne (by decide) ?_)); exact mc2⟩, og3, oc3, frs3, _, _, rfl, Fs3, hgk3, hck3, Nat.le_trans (stored_length_le _ _ _) (Nat.succ_le_succ hgl), Nat.le_trans (stored_length_le _ _ _) (Nat.succ_le_succ hcl), ?_, ?_, vals_step (f := fun k => prod ps (places k)) hgv, vals_step (f := fun k => prod ps (lack (places k))) hcv⟩
      · simp only [List.mem_cons, List.mem_append, List.cons_append] at hq ⊢
        rcases hq with h | h | h | h | h | h
        · exact .inr (.inl h)
        · exact .inl h
        · exact .inr (.inr (.inl h))
        · exact .inr (.inr (.inr (.inl h)))
        · exact .inr (.inr (.inr (.inr (.inr h))))
        · exact .inr (.inr (.inr (.inr (.inl (.inl h)))))
      · simp only [List.mem_cons, List.mem_append]
        exact .inr (.inr (.inr (.inr (.inl (.inr hq)))))
      · intro q hq e
        simp only [List.mem_cons, List.mem_append, List.cons_append] at hq
        have hI := ho2 _ hI2
        rcases hq with rfl | rfl | rfl | rfl | h | h
        · exact hI.1 e.symm
        · exact hI.2.1 e.symm
        · exact hI.2.2.1 e.symm
        · exact hI.2.2.2.1 e.symm
        · exact hI.2.2.2.2 (e ▸ hf3 q h)
        · exact hI12 q h e
      · intro x
        rw [keys_step (f := dm) (a := k1) (b := k2) hgm x]
        refine exists_congr fun a => exists_congr fun b => and_congr_left fun _ => ?_
        rw [List.take_add_one, hi2]
        simp only [Option.toList_some, List.map_append, List.mem_append, List.map_cons, List.map_nil, List.mem_singleton]
        constructor
        · rintro ((h | ⟨h1, h2⟩) | ⟨h1, h2⟩)
          · exact .inl h
          · exact .inr ⟨h1, .inl h2⟩
          · exact .inr ⟨h1, .inr h2⟩
        · rintro (h | ⟨h1, h2 | h2⟩)
          · exact .inl (.inl h)
          · exact .inl (.inr ⟨h1, h2⟩)
          · exact .inr ⟨h1, h2⟩
      · intro x
        rw [keys_step (f := fun a b => dm b a) (a := k1) (b := k2) hcm x]
        refine exists_congr fun a => exists_congr fun b => and_congr_left fun _ => ?_
        rw [List.take_add_one, hi2]
        simp only [Option.toList_some, List.map_append, List.mem_append, List.map_cons, List.map_nil, List.mem_singleton]
        constructor
        · rintro ((h | ⟨h1, h2⟩) | ⟨h1, h2⟩)
          · exact .inl h
          · exact .inr ⟨h1, .inl h2⟩
          · exact .inr ⟨h1, .inr h2⟩
        · rintro (h | ⟨h1, h2 | h2⟩)
          · exact .inl (.inl h)
          · exact .inl (.inr ⟨h1, h2⟩)
          · exact .inr ⟨h1, h2⟩
    · rintro I2 m2 nx2 h10 tk10 ⟨nx', rfl, ⟨t1', mo⟩, hLM2, hLN2⟩ F10 N10
      clear F9 N9
      ktr_unf
      obtain ⟨og2, oc2, frs2, gkv, ckv, rfl, Fs2, hgk, hck, hgl, hcl, hgm, hcm, hgv, hcv⟩ := id hLN2
      refine ⟨h10, _, _, _, rfl, F10, fun q hq => N10 q (List.mem_append_left _ hq), fun q hq => (N10 q (List.mem_append_right _ hq)).1, ?_, hLM2, hLN2.to (fun a b => ?_) (by omega)⟩
      · intro q hq e
        simp only [List.mem_cons] at hq
        have hI := ho1 _ hI1
        rcases hq with rfl | rfl | rfl | rfl | h
        · exact hI.1 e.symm
        · exact hI.2.1 e.symm
        · exact hI.2.2.1 e.symm
        · exact hI.2.2.2.1 e.symm
        · have hm : q.1 ∈ frOf envs := by rw [← Fs2.adr]; exact List.mem_map_of_mem h
          rw [e] at hm
          exact hI.2.2.2.2 hm
      · rw [List.take_length, List.take_add_one, hi1]
        simp only [Option.toList_some, List.map_append, List.mem_append, List.map_cons, List.map_nil, List.mem_singleton]
        constructor
        · rintro (⟨h1, h2⟩ | ⟨h1, h2⟩)
          · exact ⟨.inl h1, h2⟩
          · exact ⟨.inr h1, h2⟩
        · rintro ⟨h1 | h1, h2⟩
          · exact .inl ⟨h1, h2⟩
          · exact .inr ⟨h1, h2⟩
  · rintro I1 m1 nx1 h9 tk9 ⟨⟨ma, mb', mc⟩, og1, oc1, frs1, gkv, ckv, rfl, Fs1, hgk, hck, hgl, hcl, hgm, hcm, hgv, hcv⟩ F9 N9
    clear F7 N8 hgi hci
    rw [List.take_length] at hgm hcm
    ktr_unf
    refine goT ?_
    have hin : ∀ x ∈ gkv.map (·.1), 0 ≤ x ∧ x < 64 := fun x hx => by
      obtain ⟨a, b, ⟨h1, h2⟩, rfl⟩ := (hgm x).mp hx
      obtain ⟨p, hp, rfl⟩ := List.mem_map.mp h1
      obtain ⟨q, hq, rfl⟩ := List.mem_map.mp h2
      have e1 := (f1 p hp).1
      have e2 := (f2 q hq).1
      rw [show p.1 = ((p.1.toNat : Nat) : Int) by omega, show q.1 = ((q.1.toNat : Nat) : Int) by omega]
      exact dm_in _ (by omega) _ (by omega)
    have hin2 : ∀ x ∈ ckv.map (·.1), 0 ≤ x ∧ x < 64 := fun x hx => by
      obtain ⟨a, b, ⟨h1, h2⟩, rfl⟩ := (hcm x).mp hx
      obtain ⟨p, hp, rfl⟩ := List.mem_map.mp h1
      obtain ⟨q, hq, rfl⟩ := List.mem_map.mp h2
      have e1 := (f1 p hp).1
      have e2 := (f2 q hq).1
      rw [show p.1 = ((p.1.toNat : Nat) : Int) by omega, show q.1 = ((q.1.toNat : Nat) : Int) by omega]
      exact dm_in _ (by omega) _ (by omega)
    refine cutR (fun v s' => Hd (∃ D h' tk ys c, v = .ref D ∧ s' = { s with heap := h', toks := tk } ∧ h9.StaysIn h' ∧ h'.get? D = some (listOf (List.toArray ys) c) ∧ IntsAre ys ((gkv.map (·.1)).map fun k => prod ps (places k)))) (fun R hR => ?_) ?_
    · refine wpAny_ListComp_free (pV fun _ => true) (FV fun k => prod ps (places k)) (cl := [(Str.ofString "gone", s.heap.objs.size + 1)]) rfl (by decide) rfl (by decide) rfl ?_
      ktr_unf
      refine goT ?_
      have hD : h9.DictOf (intKind PySem.Challenge.rw_oc0028_01.row.prog w) Dg gkv := Heap.dictOf_iff.mpr ⟨og1, (N9 _ (.head _)).1, hgk⟩
      refine src_dict hh sg hD (by rw [sizeLine_eq]; omega) ⟨?_, ?_⟩ (fun D2 h2 tk2 ys2 c2 hD2 hg2 hi2 hst2 => ?_)
      · intro C' k t s₃ m₃ E' _ _ hns hm hst3
        exact wpAny_tests_nil ⟨rfl, _, _, rfl, fun _ _ e => e⟩
      · intro C' k t s₃ m₃ E' _ hk _ hns hm hst3
        obtain ⟨kv, hkv, rfl⟩ := List.mem_map.mp hk
        obtain ⟨ix, hix⟩ := List.getElem?_of_mem hkv
        obtain ⟨t', e'⟩ := hgv kv hkv
        refine Subscript_ (wpAny_Name (wpAny_loadName_cell rfl rfl rfl ⟨ocg, hst3 _ _ (N9 (_, ocg) (.tail _ (.tail _ (.tail _ (.head _))))).1, dcg⟩ (wpAny_Name (wpAny_loadName_local rfl rfl hns hm ?_))))
        exact item_dictK (hD.keep hst3) (v := kv.2) hix ⟨⟨t', e'⟩, _, _, rfl, fun _ _ e => e⟩
      · rw [List.filter_eq_self.mpr fun _ _ => rfl] at hi2
        exact hR _ _ ⟨D2, h2, tk2, ys2, c2, rfl, rfl, hst2, hg2, hi2⟩
    rintro v s' ⟨Ds, h15, tk15, ys, cs, rfl, rfl, hk15, hg15, hi15⟩
    have F15 := F9.keeps hk15
    have N15 := N9.grown hk15
    try clear F9
    try clear N9
    ktr_unf
    refine goT ?_
    refine sum_K hh ⟨_, hg15, rfl, _, rfl⟩ hi15 (fun h16 tk16 t16 hk16 => ?_)
    have F16 := F15.keeps hk16
    have N16 := N15.grown hk16
    try clear F15
    try clear N15
    ktr_unf
    refine goT ?_
    refine cutR (fun v s' => Hd (∃ D h' tk ys c, v = .ref D ∧ s' = { s with heap := h', toks := tk } ∧ h16.StaysIn h' ∧ h'.get? D = some (listOf (List.toArray ys) c) ∧ IntsAre ys ((ckv.map (·.1)).map fun k => prod ps (lack (places k))))) (fun R hR => ?_) ?_
    · refine wpAny_ListComp_free (pV fun _ => true) (FV fun k => prod ps (lack (places k))) (cl := [(Str.ofString "come", s.heap.objs.size + 1 + 1)]) rfl (by decide) rfl (by decide) rfl ?_
      ktr_unf
      refine goT ?_
      have hD : h16.DictOf (intKind PySem.Challenge.rw_oc0028_01.row.prog w) Dc ckv := Heap.dictOf_iff.mpr ⟨oc1, (N16 _ (.tail _ (.head _))).1, hck⟩
      refine src_dict hh sc hD (by rw [sizeLine_eq]; omega) ⟨?_, ?_⟩ (fun D2 h2 tk2 ys2 c2 hD2 hg2 hi2 hst2 => ?_)
      · intro C' k t s₃ m₃ E' _ _ hns hm hst3
        exact wpAny_tests_nil ⟨rfl, _, _, rfl, fun _ _ e => e⟩
      · intro C' k t s₃ m₃ E' _ hk _ hns hm hst3
        obtain ⟨kv, hkv, rfl⟩ := List.mem_map.mp hk
        obtain ⟨ix, hix⟩ := List.getElem?_of_mem hkv
        obtain ⟨t', e'⟩ := hcv kv hkv
        refine Subscript_ (wpAny_Name (wpAny_loadName_cell rfl rfl rfl ⟨occ, hst3 _ _ (N16 (_, occ) (.tail _ (.tail _ (.head _)))).1, dcc⟩ (wpAny_Name (wpAny_loadName_local rfl rfl hns hm ?_))))
        exact item_dictK (hD.keep hst3) (v := kv.2) hix ⟨⟨t', e'⟩, _, _, rfl, fun _ _ e => e⟩
      · rw [List.filter_eq_self.mpr fun _ _ => rfl] at hi2
        exact hR _ _ ⟨D2, h2, tk2, ys2, c2, rfl, rfl, hst2, hg2, hi2⟩
    rintro v s' ⟨Dz, h17, tk17, yz, cz, rfl, rfl, hk17, hg17, hi17⟩
    have F17 := F16.keeps hk17
    have N17 := N16.grown hk17
    try clear F16
    try clear N16
    ktr_unf
    refine goT ?_
    refine sum_K hh ⟨_, hg17, rfl, _, rfl⟩ hi17 (fun h18 tk18 t18 hk18 => ?_)
    have F18 := F17.keeps hk18
    have N18 := N17.grown hk18
    try clear F17
    try clear N17
    ktr_unf
    refine goT ?_
    have b1 := sum_bound (f := fun k => prod ps (places k)) (B := 2 ^ 240) (ks := gkv.map (·.1)) fun k hk => (prod_bound hl hpp (hin k hk)).1
    have b2 := sum_bound (f := fun k => prod ps (lack (places k))) (B := 2 ^ 240) (ks := ckv.map (·.1)) fun k hk => (prod_bound hl hpp (hin2 k hk)).2
    rw [List.length_map] at b1 b2
    refine mul_int ?_ (mul_ok b1.1 (by omega) b2.1 (by omega))
    ktr_unf
    refine ret h18 _ _ (gkv.map (·.1)) (ckv.map (·.1)) (fun b o e hn => F18.keep b o (hideAll_get _ e hn)) (fun b o e => ?_) (let ⟨_, _, _, _, _, _, hn⟩ := hgk; hn) (let ⟨_, _, _, _, _, _, hn⟩ := hck; hn) (fun k => ?_) (fun k => ?_)
    · by_cases hn : b ∈ frOf envs
      · rw [← Fs1.adr] at hn
        obtain ⟨q, hq, rfl⟩ := List.mem_map.mp hn
        obtain ⟨o', ho', sl, e'⟩ := Fs1.old q hq
        rw [e] at ho'
        cases ho'
        exact ⟨sl, by rw [← e']; exact (N18 q (.tail _ (.tail _ (.tail _ (.tail _ hq))))).1⟩
      · exact ⟨o.slots, F18.keep b o (hideAll_get _ e hn)⟩
    · rw [hgm k]
      constructor
      · rintro ⟨a, b, ⟨h1, h2⟩, h3⟩; exact ⟨a, h1, b, h2, h3⟩
      · rintro ⟨a, h1, b, h2, h3⟩; exact ⟨a, b, ⟨h1, h2⟩, h3⟩
    · rw [hcm k]
      constructor
      · rintro ⟨a, b, ⟨h1, h2⟩, h3⟩; exact ⟨a, h1, b, h2, h3⟩
      · rintro ⟨a, h1, b, h2, h3⟩; exact ⟨a, b, ⟨h1, h2⟩, h3⟩
end Mine
set_option maxHeartbeats 4000000
namespace Mine
/-- the call of _law_family, upon a ledger -/
theorem fam_led {w : World} {p : Program} {loose : List Str} {mean : ExcName → Option Value} {mg mb : Str → Option Value} {A : Around} {s : Shared} {E : Value → Shared → Prop} {Q : Value → Shared → Prop} {G : Heap} {L : Addr} {m : Str → Option Value} {Z tl : List (Addr × Obj)} {env : Env} {lp : Addr} {vp : List Value} {cp : Nat} {os : List Int}
   (C : CC w p loose mean mg mb 21 A G) (hc : CodeHd G 34 30) (F : Fr G L s.heap m) (N : News G L s.heap (Z ++ tl)) (ht : TabLed tl) (hZ : ∀ q ∈ Z, ∀ p ∈ tl, q.1 ≠ p.1) (hf : env.frame = some L) (hk : env.scope.kind = .function) (hp : (lp, listOf vp.toArray cp) ∈ Z) (ip : IntsAre vp os) (hlo : 1 ≤ os.length) (hlen : os.length ≤ 6) (hb : ∀ o ∈ os, 0 ≤ o ∧ o < 256)
   (ret : ∀ D od R tl' h' tk kvs, Fr G L h' m → News G L h' ((D, od) :: (R ++ (Z ++ tl'))) → TabLed tl' → (∀ q ∈ (D, od) :: (R ++ Z), ∀ p ∈ tl', q.1 ≠ p.1) → (∀ q ∈ R, q.1 ≠ D) → (∀ q ∈ Z, ∀ r ∈ (D, od) :: R, q.1 ≠ r.1) → (D == sysModules) = false → od.IsDictOf (intKind PySem.Challenge.rw_oc0028_01.row.prog w) kvs → FamOf R (figs os) kvs → Q (.ref D) { s with heap := h', toks := tk }) :
   wpAny (model PySem.Challenge.rw_oc0028_01.row.prog w) (A.deeper env) (call (.ref 75) [.ref lp]) Q E s := by
  obtain ⟨FB, NB⟩ := hide_led F N hZ
  have hst : (hideAll s.heap (tl.map (·.1))).StaysIn s.heap := fun b o e => of_hideAll _ e
  have hts : TabSt (hideAll s.heap (tl.map (·.1))) s.heap := ⟨tl, ht, fun q hq => ⟨(N q (List.mem_append_right _ hq)).1, hideAll_none _ (List.mem_map.mpr ⟨q, hq, rfl⟩)⟩⟩
  have hc' : CodeHd (hideAll s.heap (tl.map (·.1))) 34 30 := hc.keeps FB.keep
  refine family_spec (C.push FB hf hk) hst (Nat.le_of_eq (hideAll_size _ _)) hts hc' (News.isList NB hp) ip hlo hlen hb (fun D od R tl' h' tk kvs hkp ht' hl' hRt hRD hDs hod hfam => ?_)
  have hL : ∃ o, (hideAll s.heap (tl.map (·.1))).get? L = some o := let ⟨o, _, _, ho, _⟩ := FB.ns; ⟨o, ho⟩
  obtain ⟨oL, hoL⟩ := hL
  refine ret D od R tl' h' tk kvs (FB.keeps hkp) (fun q hq => ?_) ht' (fun q hq p hp => ?_) hRD (fun q hq r hr e => ?_) hDs hod hfam
  · have one : q ∈ (D, od) :: (R ++ tl') → h'.get? q.1 = some q.2 ∧ q.1 ≠ L ∧ G.get? q.1 = none := fun hq => by
      have z := hl' q hq
      refine ⟨z.1, fun e => ?_, ?_⟩
      · rw [← e, z.2] at hoL; cases hoL
      · cases y : G.get? q.1 with
        | none => rfl
        | some o => have := FB.keep _ _ y; rw [z.2] at this; cases this
    simp only [List.mem_cons, List.mem_append] at hq one
    rcases hq with h | h | h | h
    · exact one (.inl h)
    · exact one (.inr (.inl h))
    · exact ⟨hkp _ _ (NB q h).1, (NB q h).2⟩
    · exact one (.inr (.inr h))
  · simp only [List.mem_cons, List.mem_append] at hq
    rcases hq with h | h | h
    · exact hRt q (by rw [h]; exact .head _) p hp
    · exact hRt q (.tail _ h) p hp
    · intro e
      have h1 := (NB q h).1
      have h2 := (hl' p (.tail _ (List.mem_append_right _ hp))).2
      rw [e, h2] at h1; cases h1
  · have h1 := (NB q hq).1
    have h2 := (hl' r (by
      rcases List.mem_cons.mp hr with rfl | hr
      · exact .head _
      · exact .tail _ (List.mem_append_left _ hr))).2
    rw [e, h2] at h1; cases h1
end Mine
namespace Mine
local macro_rules | `(tactic| walk_at "eval IfExp") => `(tactic| refine stopT ?_)
local macro_rules | `(tactic| walk_at "eval ListComp") => `(tactic| refine stopT ?_)
local macro_rules | `(tactic| walk_at "pyIter ref") => `(tactic| refine stopT ?_)
local macro_rules | `(tactic| walk_at "call ref") => `(tactic| refine stopT ?_)
local macro_rules | `(tactic| walk_at "subscriptTail Name Name ref int") => `(tactic| refine stopT ?_)
local macro_rules | `(tactic| walk_at "binaryOp Mult ref int") => `(tactic| refine stopT ?_)
local macro_rules | `(tactic| walk_at "binaryOp Add ref ref") => `(tactic| refine stopT ?_)
local macro_rules | `(tactic| walk_at "compareOp LtE int int") => `(tactic| refine stopT ?_)
local macro_rules | `(tactic| walk_at "call builtin:sum") => `(tactic| refine stopT ?_)
local macro_rules | `(tactic| walk_at "binaryOp Mult int int") => `(tactic| refine stopT ?_)
local macro_rules | `(tactic| ktr_unf) => `(tactic| repeat' (first | walk1 | (dsimp only; walk1)))
theorem post_true (args : List WData) : PySem.Challenge.rw_oc0028_01.row.claim.post args (.bool true) args = true := by
  wrow_post
theorem three_ints {G h : Heap} {L D : Addr} {a b c : Int} {t1 t2 t3 : Tok} {rest : List (Addr × Obj)} (N : News G L h ((D, listOf #[.int a t1, .int b t2, .int c t3] 0) :: rest)) : ∃ vs : List Value, IntsAre vs [a, b, c] ∧ News G L h ((D, listOf vs.toArray 0) :: rest) :=
  ⟨[.int a t1, .int b t2, .int c t3], .cons _ _ (.cons _ _ (.cons _ _ .nil)), N⟩
theorem Call_nameN {M : Model} {A : Around} {E : Value → Shared → Prop} {s : Shared} {env : Env} {x : Str} {np pos : Pos} {args : List PySem.Expr} {Q : Value → Shared → Prop} (h : wpAny M A (eval (.Name x np) env) (fun f s₁ => wpAny M A (callWith pos f [] (backTo pos (starEach args env)) []) Q E s₁) E s) : wpAny M A (eval (.Call (.Name x np) args [] pos) env) Q E s := by
  show wpAny M A (do callWith pos (← eval (.Name x np) env) [] (backTo pos (starEach args env)) (backToKw pos (keywordEach [] env))) Q E s
  exact wpAny_bind h
theorem rep_one (nb : Nat) : (List.replicate nb [(1 : Int)]).flatten = List.replicate nb 1 := by
  induction nb with
  | zero => rfl
  | succ n ih => rw [List.replicate_succ, List.flatten_cons, ih]; rfl
set_option maxHeartbeats 8000000 in
theorem law_holds : PySem.Challenge.rw_oc0028_01.Holds := hd (by
  k_go0
  rename_i w s0 s1 mg mb Gd Yh fa ofa pm cd doc ho hcd hgens Xm V T0 B0 TE TW ns hs0 hlay hL1 hr1 hl2 a7 a6 ls vs a3 hL ra w1 r0 hI hr hcond htrue hD h1 tk1 o2 o1 o0 dl2 dl1 dl0 X0 X T K F N l0
  replace dl2 : o2.data = .cell none := dl2
  replace dl1 : o1.data = .cell none := dl1
  replace dl0 : o0.data = .cell none := dl0
  clear X0
  have codeHd' : CodeHd (ghostOf s1.heap [(34, 30)]) 34 30 := codeHd
  clear codeHd
  have hGsz : (ghostOf s1.heap [(34, 30)]).objs.size = s1.heap.objs.size := hideAll_size _ _
  clear hT8 hT9 hL ra w1 r0 hs0 hlay hL1 hr1 hl2 hr
  generalize ghostOf s1.heap [(34, 30)] = G at X T K F N lifted codeHd' hGsz
  replace F : Fr G s1.heap.objs.size h1 (fun y => if y = Str.ofString "script" then some (.ref ls) else none) := F
  ktr_unf
  refine goT ?_
  have hnl : ns.length ≤ 63 := by omega
  replace N : News G s1.heap.objs.size h1 [(s1.heap.objs.size + 1 + 1 + 1, o2), (s1.heap.objs.size + 1 + 1, o1), (s1.heap.objs.size + 1, o0), (30, tabObj #[])] := N
  refine cutR (fun v s' => Hd (∃ D h' tk vn c nn, v = .ref D ∧ s' = { s1 with heap := h', toks := tk } ∧ Fr G s1.heap.objs.size h' (fun y => if y = Str.ofString "script" then some (.ref ls) else none) ∧ News G s1.heap.objs.size h' [(D, listOf (List.toArray vn) c), (s1.heap.objs.size + 1 + 1 + 1, o2), (s1.heap.objs.size + 1 + 1, o1), (s1.heap.objs.size + 1, o0), (30, tabObj #[])] ∧ (s1.heap.objs.size + 1 + 1 + 1 < D ∧ s1.heap.objs.size + 1 + 1 < D ∧ s1.heap.objs.size + 1 < D ∧ 30 < D) ∧ IntsAre vn nn ∧ 1 ≤ nn.length ∧ nn.length ≤ 6)) (fun R hR => ?_) ?_
  · refine wpAny_IfExp ?_
    ktr_unf
    · rename_i D h' F' N' l1
      obtain ⟨v3, i3, N3⟩ := three_ints N'
      refine hR _ _ ⟨D, h', _, v3, 0, [68620, 168529, 301191], rfl, rfl, F', fun q hq => N3 q ?_, l1.2, i3, by decide, by decide⟩
      rcases List.mem_cons.mp hq with h | h
      · exact h ▸ .head _
      · exact .tail _ (.tail _ h)
    · rename_i hne D ws h' F' N' hI' hC' hL' l1
      have hn1 : 1 ≤ ns.length := by
        cases ns with
        | nil => simp at hne
        | cons _ _ => simp
      refine hR _ _ ⟨D, h', _, ws, 0, _, rfl, rfl, F', fun q hq => N' q ?_, l1.2, hI', by omega, by omega⟩
      rcases List.mem_cons.mp hq with h | h
      · exact h ▸ .head _
      · exact .tail _ (.tail _ h)
  rintro v s' ⟨Dn, h2, tk2, vn, cn, nn, rfl, rfl, F2, N2, ltn, hin, hn1, hn6⟩
  clear F N
  ktr_unf
  refine goT ?_
  rename_i h3 F3 N3
  refine cutR (fun v s' => Hd (∃ D h' tk ys c, v = .ref D ∧ s' = { s1 with heap := h', toks := tk } ∧ h3.StaysIn h' ∧ h3.get? D = none ∧ h'.get? D = some (listOf (List.toArray ys) c) ∧ IntsAre ys (nn.map fun x => (x.fdiv 65536 + 1).fmod 1000003))) (fun R hR => ?_) ?_
  · refine wpAny_ListComp_free (pV fun _ => true) (FV fun x => (x.fdiv 65536 + 1).fmod 1000003) (cl := []) rfl (by decide) rfl (by decide) rfl ?_
    ktr_unf
    refine goT ?_
    refine src_list rfl (News.isList N3 (.head _)) hin (by rw [sizeLine_eq]; omega) ⟨?_, ?_⟩ (fun D2 h2 tk2 ys2 c2 hD2 hg2 hi2 hst2 => ?_)
    · intro C' k t s₃ m₃ E' _ _ hns hm hst3
      exact wpAny_tests_nil ⟨rfl, _, _, rfl, fun _ _ e => e⟩
    · intro C' k t s₃ m₃ E' _ hk _ hns hm hst3
      refine wpAny_BinOp (wpAny_BinOp (wpAny_BinOp (wpAny_Name (wpAny_loadName_local rfl rfl hns hm (wpAny_Constant_int ?_)))))
      refine floordiv_int (by decide) ?_ (.inl (PyProof.noPylong_of_log2 (by decide +kernel)))
      refine wpAny_Constant_int (add_int (wpAny_Constant_int ?_))
      exact mod_int (by decide) ⟨⟨_, rfl⟩, _, _, rfl, fun _ _ e => e⟩
    · rw [List.filter_eq_self.mpr fun _ _ => rfl] at hi2
      exact hR _ _ ⟨D2, h2, tk2, ys2, c2, rfl, rfl, hst2, hD2, hg2, hi2⟩
  rintro v s' ⟨Da, h4, tk4, ya, ca, rfl, rfl, hk4, hDa, hga, hia⟩
  obtain ⟨F4, N4, hne4⟩ := news_add F3 N3 hk4 hDa hga
  try clear F3
  try clear N3
  ktr_unf
  refine goT ?_
  rename_i l5 h5 F5 N5 lt5
  refine KM.mul F5 N5 (News.isList N5 (.head _)) (vs := [.int 1 _]) (.cons _ _ .nil) (by omega) (by omega) (by simp; omega) (fun Db h6 F6 N6 ltb iDb _ _ _ _ _ => ?_)
  rw [rep_one] at iDb
  generalize (List.replicate (6 - (nn.length : Int)).toNat [Value.int 1 _]).flatten = vDb at N6 iDb
  try clear F5
  try clear N5
  ktr_unf
  refine goT ?_
  refine kmk_add_ints F6 N6 (News.isList N6 (.tail _ (.tail _ (.head _)))) (News.isList N6 (.head _)) hia iDb (fun Dp vp h7 F7 N7 ltp ipp => ?_) (by rw [sizeLine_eq, List.length_map, List.length_replicate]; omega)
  have hps : ((nn.map fun x : Int => (x.fdiv 65536 + 1).fmod 1000003) ++ List.replicate (6 - (nn.length : Int)).toNat 1).length = 6 ∧ ∀ p ∈ (nn.map fun x : Int => (x.fdiv 65536 + 1).fmod 1000003) ++ List.replicate (6 - (nn.length : Int)).toNat 1, 0 ≤ p ∧ p < 2 ^ 40 := by
    refine ⟨?_, fun p hp => ?_⟩
    · rw [List.length_append, List.length_map, List.length_replicate]; omega
    · rcases List.mem_append.mp hp with hp | hp
      · obtain ⟨x, _, rfl⟩ := List.mem_map.mp hp
        have h1 := Int.fmod_nonneg_of_pos (x.fdiv 65536 + 1) (b := 1000003) (by decide)
        have h2 := Int.fmod_lt_of_pos (x.fdiv 65536 + 1) (b := 1000003) (by decide)
        exact ⟨h1, by omega⟩
      · rw [(List.mem_replicate.mp hp).2]; decide
  generalize ((nn.map fun x : Int => (x.fdiv 65536 + 1).fmod 1000003) ++ List.replicate (6 - (nn.length : Int)).toNat 1) = ps at ipp hps
  obtain ⟨hps6, hpp⟩ := hps
  have ltpn : Dn < Dp := ltp (Dn, listOf (List.toArray vn) cn) (.tail _ (.tail _ (.tail _ (.head _))))
  have l30 : @LT.lt Nat _ 30 s1.heap.objs.size := l0
  have N8 : News G s1.heap.objs.size h7 [(s1.heap.objs.size + 1, o0), (Dn, listOf (List.toArray vn) cn), (Dp, listOf (List.toArray vp) 0), (s1.heap.objs.size + 1 + 1 + 1, o2), (s1.heap.objs.size + 1 + 1, o1), (30, tabObj #[])] := News.perm N7 (by
    intro q hq
    simp only [List.mem_cons, List.not_mem_nil, or_false] at hq ⊢
    rcases hq with h | h | h | h | h | h
    · exact .inr (.inr (.inr (.inr (.inr (.inr (.inr (.inl h)))))))
    · exact .inr (.inr (.inr (.inr (.inl h))))
    · exact .inl h
    · exact .inr (.inr (.inr (.inr (.inr (.inl h)))))
    · exact .inr (.inr (.inr (.inr (.inr (.inr (.inl h))))))
    · exact .inr (.inr (.inr (.inr (.inr (.inr (.inr (.inr h))))))))
  have g1 := ltN ltn.1
  have g2 := ltN ltpn
  refine storeX_C F7 N8 rfl (UpdF.head ?_) dl0 (fun h8 o0' F8 N9 d0' => ?_)
  · intro q hq
    simp only [List.mem_cons, List.not_mem_nil, or_false] at hq
    rcases hq with rfl | rfl | rfl | rfl | rfl <;> (refine neN ?_; omega)
  clear F7 N7 N8 F6 N6
  ktr_unf
  refine goT ?_
  refine cutR (fun v s' => Hd (∃ D h' tk ys c, v = .ref D ∧ s' = { s1 with heap := h', toks := tk } ∧ h8.StaysIn h' ∧ h8.get? D = none ∧ h'.get? D = some (listOf (List.toArray ys) c) ∧ IntsAre ys (nn.map fun x => x.fmod 256))) (fun R hR => ?_) ?_
  · refine wpAny_ListComp_free (pV fun _ => true) (FV fun x => x.fmod 256) (cl := []) rfl (by decide) rfl (by decide) rfl ?_
    ktr_unf
    refine goT ?_
    refine src_list rfl (News.isList N9 (.tail _ (.head _))) hin (by rw [sizeLine_eq]; omega) ⟨?_, ?_⟩ (fun D2 h2 tk2 ys2 c2 hD2 hg2 hi2 hst2 => ?_)
    · intro C' k t s₃ m₃ E' _ _ hns hm hst3
      exact wpAny_tests_nil ⟨rfl, _, _, rfl, fun _ _ e => e⟩
    · intro C' k t s₃ m₃ E' _ hk _ hns hm hst3
      refine wpAny_BinOp (wpAny_Name (wpAny_loadName_local rfl rfl hns hm (wpAny_Constant_int ?_)))
      exact mod_int (by decide) ⟨⟨_, rfl⟩, _, _, rfl, fun _ _ e => e⟩
    · rw [List.filter_eq_self.mpr fun _ _ => rfl] at hi2
      exact hR _ _ ⟨D2, h2, tk2, ys2, c2, rfl, rfl, hst2, hD2, hg2, hi2⟩
  rintro v s' ⟨Do, h10, tk10, yo, co, rfl, rfl, hk10, hDo, hgo, hio⟩
  obtain ⟨F10, N10, hne10⟩ := news_add F8 N9 hk10 hDo hgo
  try clear F8
  try clear N9
  ktr_unf
  refine goT ?_
  have C30 : CC w topProg _ _ mg mb 30 callerA G := ⟨rfl, ⟨G, [], K⟩, X, T, by decide, by decide⟩
  have C := C30.less (k := 21) (by decide)
  have hoct : ∀ (f : Int → Int), (∀ x, 0 ≤ f x ∧ f x < 256) → ∀ o ∈ nn.map f, 0 ≤ o ∧ o < 256 := fun f hf o ho => by
    obtain ⟨x, _, rfl⟩ := List.mem_map.mp ho
    exact hf x
  have hf1 : ∀ x : Int, 0 ≤ x.fmod 256 ∧ x.fmod 256 < 256 := fun x => ⟨Int.fmod_nonneg_of_pos x (by decide), Int.fmod_lt_of_pos x (by decide)⟩
  have hne30 : ∀ q ∈ [(Do, listOf (List.toArray yo) co), (s1.heap.objs.size + 1, o0'), (Dn, listOf (List.toArray vn) cn), (Dp, listOf (List.toArray vp) 0), (s1.heap.objs.size + 1 + 1 + 1, o2), (s1.heap.objs.size + 1 + 1, o1)], ∀ p ∈ [((30 : Addr), tabObj #[])], q.1 ≠ p.1 := by
    intro q hq p hp
    rw [List.mem_singleton.mp hp]
    simp only [List.mem_cons, List.not_mem_nil, or_false] at hq
    rcases hq with rfl | rfl | rfl | rfl | rfl | rfl
    · exact (hne10 (30, tabObj #[]) (.tail _ (.tail _ (.tail _ (.tail _ (.tail _ (.head _))))))).symm
    all_goals (refine neN ?_; omega)
  refine fam_led (Z := [(Do, listOf (List.toArray yo) co), (s1.heap.objs.size + 1, o0'), (Dn, listOf (List.toArray vn) cn), (Dp, listOf (List.toArray vp) 0), (s1.heap.objs.size + 1 + 1 + 1, o2), (s1.heap.objs.size + 1 + 1, o1)]) (tl := [(30, tabObj #[])]) C codeHd' F10 N10 (.inl rfl) hne30 rfl rfl (.head _) hio (by rw [List.length_map]; omega) (by rw [List.length_map]; omega) (hoct _ hf1) ?_
  intro D1 od1 R1 tl1 h11 tk11 kv1 F11 N11 htl1 hZt1 hRD1 hZ1 hs1 hod1 hfam1
  clear hne30
  have N12 : News G s1.heap.objs.size h11 ((s1.heap.objs.size + 1 + 1, o1) :: (s1.heap.objs.size + 1 + 1 + 1, o2) :: (s1.heap.objs.size + 1, o0') :: (Dn, listOf (List.toArray vn) cn) :: (Dp, listOf (List.toArray vp) 0) :: (D1, od1) :: (R1 ++ tl1)) := News.perm N11 (by
    intro q hq
    simp only [List.mem_cons, List.mem_append, List.not_mem_nil, or_false] at hq ⊢
    rcases hq with h | h | h | h | h | h | h | h
    · exact .inr (.inr (.inl (.inr (.inr (.inr (.inr (.inr h)))))))
    · exact .inr (.inr (.inl (.inr (.inr (.inr (.inr (.inl h)))))))
    · exact .inr (.inr (.inl (.inr (.inl h))))
    · exact .inr (.inr (.inl (.inr (.inr (.inl h)))))
    · exact .inr (.inr (.inl (.inr (.inr (.inr (.inl h))))))
    · exact .inl h
    · exact .inr (.inl h)
    · exact .inr (.inr (.inr h)))
  refine storeX_C F11 N12 rfl (UpdF.head ?_) dl1 (fun h13 o1' F13 N13 d1' => ?_)
  · intro q hq
    simp only [List.mem_cons, List.mem_append] at hq
    rcases hq with rfl | rfl | rfl | rfl | rfl | h | h
    · refine neN ?_; omega
    · refine neN ?_; omega
    · refine neN ?_; omega
    · refine neN ?_; omega
    · exact (hZ1 (s1.heap.objs.size + 1 + 1, o1) (by simp) (D1, od1) (.head _)).symm
    · exact (hZ1 (s1.heap.objs.size + 1 + 1, o1) (by simp) q (.tail _ h)).symm
    · exact (hZt1 (s1.heap.objs.size + 1 + 1, o1) (by simp) q h).symm
  try clear F11
  try clear N11
  try clear N12
  ktr_unf
  refine goT ?_
  refine cutR (fun v s' => Hd (∃ D h' tk ys c, v = .ref D ∧ s' = { s1 with heap := h', toks := tk } ∧ h13.StaysIn h' ∧ h13.get? D = none ∧ h'.get? D = some (listOf (List.toArray ys) c) ∧ IntsAre ys (nn.map fun x => (x.fdiv 256).fmod 256))) (fun R hR => ?_) ?_
  · refine wpAny_ListComp_free (pV fun _ => true) (FV fun x => (x.fdiv 256).fmod 256) (cl := []) rfl (by decide) rfl (by decide) rfl ?_
    ktr_unf
    refine goT ?_
    refine src_list rfl (News.isList N13 (.tail _ (.tail _ (.tail _ (.head _))))) hin (by rw [sizeLine_eq]; omega) ⟨?_, ?_⟩ (fun D2 h2 tk2 ys2 c2 hD2 hg2 hi2 hst2 => ?_)
    · intro C' k t s₃ m₃ E' _ _ hns hm hst3
      exact wpAny_tests_nil ⟨rfl, _, _, rfl, fun _ _ e => e⟩
    · intro C' k t s₃ m₃ E' _ hk _ hns hm hst3
      refine wpAny_BinOp (wpAny_BinOp (wpAny_Name (wpAny_loadName_local rfl rfl hns hm (wpAny_Constant_int ?_))))
      refine floordiv_int (by decide) ?_ (.inl (PyProof.noPylong_of_log2 (by decide +kernel)))
      refine wpAny_Constant_int ?_
      exact mod_int (by decide) ⟨⟨_, rfl⟩, _, _, rfl, fun _ _ e => e⟩
    · rw [List.filter_eq_self.mpr fun _ _ => rfl] at hi2
      exact hR _ _ ⟨D2, h2, tk2, ys2, c2, rfl, rfl, hst2, hD2, hg2, hi2⟩
  rintro v s' ⟨Dq, h14, tk14, yq, cq, rfl, rfl, hk14, hDq, hgq, hiq⟩
  obtain ⟨F14, N14, hne14⟩ := news_add F13 N13 hk14 hDq hgq
  try clear F13
  try clear N13
  ktr_unf
  refine goT ?_
  have hf2 : ∀ x : Int, 0 ≤ (x.fdiv 256).fmod 256 ∧ (x.fdiv 256).fmod 256 < 256 := fun x => ⟨Int.fmod_nonneg_of_pos _ (by decide), Int.fmod_lt_of_pos _ (by decide)⟩
  have hZt2 : ∀ q ∈ (Dq, listOf (List.toArray yq) cq) :: (s1.heap.objs.size + 1 + 1, o1') :: (s1.heap.objs.size + 1 + 1 + 1, o2) :: (s1.heap.objs.size + 1, o0') :: (Dn, listOf (List.toArray vn) cn) :: (Dp, listOf (List.toArray vp) 0) :: (D1, od1) :: R1, ∀ p ∈ tl1, q.1 ≠ p.1 := by
    intro q hq p hp
    simp only [List.mem_cons] at hq
    rcases hq with rfl | rfl | rfl | rfl | rfl | rfl | rfl | h
    · exact (hne14 p (.tail _ (.tail _ (.tail _ (.tail _ (.tail _ (.tail _ (List.mem_append_right _ hp)))))))).symm
    · exact hZt1 (s1.heap.objs.size + 1 + 1, o1) (by simp) p hp
    · exact hZt1 (s1.heap.objs.size + 1 + 1 + 1, o2) (by simp) p hp
    · exact hZt1 (s1.heap.objs.size + 1, o0') (by simp) p hp
    · exact hZt1 (Dn, listOf (List.toArray vn) cn) (by simp) p hp
    · exact hZt1 (Dp, listOf (List.toArray vp) 0) (by simp) p hp
    · exact hZt1 (D1, od1) (.head _) p hp
    · exact hZt1 q (.tail _ (List.mem_append_left _ h)) p hp
  refine fam_led (Z := (Dq, listOf (List.toArray yq) cq) :: (s1.heap.objs.size + 1 + 1, o1') :: (s1.heap.objs.size + 1 + 1 + 1, o2) :: (s1.heap.objs.size + 1, o0') :: (Dn, listOf (List.toArray vn) cn) :: (Dp, listOf (List.toArray vp) 0) :: (D1, od1) :: R1) (tl := tl1) C codeHd' F14 N14 htl1 hZt2 rfl rfl (.head _) hiq (by rw [List.length_map]; omega) (by rw [List.length_map]; omega) (hoct _ hf2) ?_
  intro D2 od2 R2 tl2 h15 tk15 kv2 F15 N15 htl2 hZt3 hRD2 hZ2 hs2 hod2 hfam2
  have N16 : News G s1.heap.objs.size h15 ((s1.heap.objs.size + 1 + 1 + 1, o2) :: (s1.heap.objs.size + 1 + 1, o1') :: (s1.heap.objs.size + 1, o0') :: (Dp, listOf (List.toArray vp) 0) :: (D1, od1) :: (D2, od2) :: (R1 ++ R2 ++ tl2)) := News.perm N15 (by
    intro q hq
    simp only [List.mem_cons, List.mem_append] at hq ⊢
    rcases hq with h | h | h | h | h | h | (h | h) | h
    · exact .inr (.inr (.inl (.inr (.inr (.inl h)))))
    · exact .inr (.inr (.inl (.inr (.inl h))))
    · exact .inr (.inr (.inl (.inr (.inr (.inr (.inl h))))))
    · exact .inr (.inr (.inl (.inr (.inr (.inr (.inr (.inr (.inl h))))))))
    · exact .inr (.inr (.inl (.inr (.inr (.inr (.inr (.inr (.inr (.inl h)))))))))
    · exact .inl h
    · exact .inr (.inr (.inl (.inr (.inr (.inr (.inr (.inr (.inr (.inr h)))))))))
    · exact .inr (.inl h)
    · exact .inr (.inr (.inr h)))
  have nc2 : ∀ q ∈ (s1.heap.objs.size + 1 + 1, o1') :: (s1.heap.objs.size + 1, o0') :: (Dp, listOf (List.toArray vp) 0) :: (D1, od1) :: (D2, od2) :: (R1 ++ R2 ++ tl2), q.1 ≠ s1.heap.objs.size + 1 + 1 + 1 := by
    intro q hq
    simp only [List.mem_cons, List.mem_append] at hq
    rcases hq with rfl | rfl | rfl | rfl | rfl | (h | h) | h
    · refine neN ?_; omega
    · refine neN ?_; omega
    · refine neN ?_; omega
    · exact (hZ1 (s1.heap.objs.size + 1 + 1 + 1, o2) (by simp) (D1, od1) (.head _)).symm
    · exact (hZ2 (s1.heap.objs.size + 1 + 1 + 1, o2) (by simp) (D2, od2) (.head _)).symm
    · exact (hZ1 (s1.heap.objs.size + 1 + 1 + 1, o2) (by simp) q (.tail _ h)).symm
    · exact (hZ2 (s1.heap.objs.size + 1 + 1 + 1, o2) (by simp) q (.tail _ h)).symm
    · exact (hZt3 (s1.heap.objs.size + 1 + 1 + 1, o2) (by simp) q h).symm
  refine storeX_C F15 N16 rfl (UpdF.head nc2) dl2 (fun h17 o2' F17 N17 d2' => ?_)
  try clear F15
  try clear N15
  try clear N16
  try clear F14
  try clear N14
  ktr_unf
  refine goT ?_
  have hGL : G.get? s1.heap.objs.size = none := Heap.get?_none_of_le (Nat.le_of_eq hGsz)
  have mD1 : (D1, od1) ∈ (s1.heap.objs.size + 1 + 1 + 1, o2') :: (s1.heap.objs.size + 1 + 1, o1') :: (s1.heap.objs.size + 1, o0') :: (Dp, listOf (List.toArray vp) 0) :: (D1, od1) :: (D2, od2) :: (R1 ++ R2 ++ tl2) := .tail _ (.tail _ (.tail _ (.tail _ (.head _))))
  have mD2 : (D2, od2) ∈ (s1.heap.objs.size + 1 + 1 + 1, o2') :: (s1.heap.objs.size + 1 + 1, o1') :: (s1.heap.objs.size + 1, o0') :: (Dp, listOf (List.toArray vp) 0) :: (D1, od1) :: (D2, od2) :: (R1 ++ R2 ++ tl2) := .tail _ (.tail _ (.tail _ (.tail _ (.tail _ (.head _)))))
  have mR1 : ∀ q ∈ R1, q ∈ (s1.heap.objs.size + 1 + 1 + 1, o2') :: (s1.heap.objs.size + 1 + 1, o1') :: (s1.heap.objs.size + 1, o0') :: (Dp, listOf (List.toArray vp) 0) :: (D1, od1) :: (D2, od2) :: (R1 ++ R2 ++ tl2) := fun q hq => .tail _ (.tail _ (.tail _ (.tail _ (.tail _ (.tail _ (List.mem_append_left _ (List.mem_append_left _ hq)))))))
  have mR2 : ∀ q ∈ R2, q ∈ (s1.heap.objs.size + 1 + 1 + 1, o2') :: (s1.heap.objs.size + 1 + 1, o1') :: (s1.heap.objs.size + 1, o0') :: (Dp, listOf (List.toArray vp) 0) :: (D1, od1) :: (D2, od2) :: (R1 ++ R2 ++ tl2) := fun q hq => .tail _ (.tail _ (.tail _ (.tail _ (.tail _ (.tail _ (List.mem_append_left _ (List.mem_append_right _ hq)))))))
  have hid : ∀ q ∈ (s1.heap.objs.size + 1 + 1 + 1, o2') :: (s1.heap.objs.size + 1 + 1, o1') :: (s1.heap.objs.size + 1, o0') :: (Dp, listOf (List.toArray vp) 0) :: (D1, od1) :: (D2, od2) :: (R1 ++ R2 ++ tl2), (hideAll h17 [s1.heap.objs.size]).get? q.1 = some q.2 := fun q hq => hideAll_get _ (N17 q hq).1 (fun hm => (N17 q hq).2.1 (List.mem_singleton.mp hm))
  have hfs : ∀ os : List Int, os.length ≤ 6 → (figs os).length ≤ 8 := fun os hos => by
    have : (figs os).length = fsize os := by simp [figs, rangeL]
    rw [this, fsize]; omega
  have hfi1 : FamIn (hideAll h17 [s1.heap.objs.size]) kv1 := fun kv hkv => by
    obtain ⟨l, v, c, e1, e2, e3⟩ := hfam1.2.2 kv hkv
    exact ⟨figs_in ((hfam1.1 kv.1).mp (List.mem_map_of_mem hkv)), l, v, e1, ⟨_, hid _ (mR1 _ e2), rfl, _, rfl⟩, e3⟩
  have hfi2 : FamIn (hideAll h17 [s1.heap.objs.size]) kv2 := fun kv hkv => by
    obtain ⟨l, v, c, e1, e2, e3⟩ := hfam2.2.2 kv hkv
    exact ⟨figs_in ((hfam2.1 kv.1).mp (List.mem_map_of_mem hkv)), l, v, e1, ⟨_, hid _ (mR2 _ e2), rfl, _, rfl⟩, e3⟩
  refine lists_spec (D1 := D1) (D2 := D2) (lq := Dp) (kv1 := kv1) (kv2 := kv2) ⟨pushX K F17 rfl rfl, X, T, rfl, by have := C30.depth; show callerA.depth + 1 + 20 < _; omega, by have := C30.units; show callerA.units + 3 + 400 < _; omega⟩ (Heap.dictOf_iff.mpr ⟨od1, hid _ mD1, hod1⟩) hs1 (Heap.dictOf_iff.mpr ⟨od2, hid _ mD2, hod2⟩) hs2 hfi1 hfi2 ⟨_, hid (Dp, listOf (List.toArray vp) 0) (.tail _ (.tail _ (.tail _ (.head _)))), rfl, _, rfl⟩ ipp hps6 hpp (Nat.le_trans hfam1.2.1 (hfs _ (by rw [List.length_map]; omega))) (Nat.le_trans hfam2.2.1 (hfs _ (by rw [List.length_map]; omega))) ?_
  intro h18 tk18 t18 gk ck hkeep hslots ng nck hgm hcm
  have F18 := xrel_fr F17 (fr := [s1.heap.objs.size]) (mine := []) ⟨fun b o _ hb e => hkeep b o e hb, fun b o _ e => hslots b o e⟩ (fun _ h => nomatch h) (fun b hb => by rw [List.mem_singleton.mp hb]; exact hGL)
  have N18 : News G s1.heap.objs.size h18 ((s1.heap.objs.size + 1 + 1 + 1, o2') :: (s1.heap.objs.size + 1 + 1, o1') :: (s1.heap.objs.size + 1, o0') :: (Dp, listOf (List.toArray vp) 0) :: (D1, od1) :: (D2, od2) :: (R1 ++ R2 ++ tl2)) := fun q hq => ⟨hkeep _ _ (N17 q hq).1 (fun hm => (N17 q hq).2.1 (List.mem_singleton.mp hm)), (N17 q hq).2⟩
  try clear F17
  try clear N17
  clear hkeep hslots hid hfi1 hfi2
  ktr_unf
  refine goT ?_
  rename_i h19 F19 N19
  have hl18 : kv1.length ≤ 8 := Nat.le_trans hfam1.2.1 (hfs _ (by rw [List.length_map]; omega))
  have hl28 : kv2.length ≤ 8 := Nat.le_trans hfam2.2.1 (hfs _ (by rw [List.length_map]; omega))
  replace mD1 : (D1, od1) ∈ (s1.heap.objs.size + 1 + 1 + 1, o2') :: (s1.heap.objs.size + 1 + 1, o1') :: (s1.heap.objs.size + 1, o0') :: (Dp, listOf (List.toArray vp) 0) :: (D1, od1) :: (D2, od2) :: (R1 ++ R2 ++ tl2) := mD1
  refine cutR (fun v s' => Hd (∃ D h' tk ys c, v = .ref D ∧ s' = { s1 with heap := h', toks := tk } ∧ h19.StaysIn h' ∧ h'.get? D = some (listOf (List.toArray ys) c) ∧ IntsAre ys ((kv1.map (·.1)).map fun k => prod ps (places k)))) (fun R hR => ?_) ?_
  · have hD : h19.DictOf (intKind PySem.Challenge.rw_oc0028_01.row.prog w) D1 kv1 := Heap.dictOf_iff.mpr ⟨od1, (N19 _ mD1).1, hod1⟩
    have CE := fun (env : Env) (hf : env.frame = some s1.heap.objs.size) (hk : env.scope.kind = .function) => (C30.less (k := 20) (by decide)).push (env := env) F19 hf hk
    refine wpAny_ListComp_free (pV fun _ => true) (FV fun k => prod ps (places k)) (cl := [(Str.ofString "prices", s1.heap.objs.size + 1), (Str.ofString "first", s1.heap.objs.size + 1 + 1)]) rfl (by decide) rfl (by decide) rfl ?_
    ktr_unf
    refine goT ?_
    refine src_dict rfl hs1 hD (by rw [sizeLine_eq]; omega) ⟨?_, ?_⟩ (fun D2 h2 tk2 ys2 c2 hD2 hg2 hi2 hst2 => ?_)
    · intro C' k t s₃ m₃ E' _ _ hns hm hst3
      exact wpAny_tests_nil ⟨rfl, _, _, rfl, fun _ _ e => e⟩
    · intro C' k t s₃ m₃ E' hC' hk _ hns hm hst3
      obtain ⟨kv, hkv, rfl⟩ := List.mem_map.mp hk
      obtain ⟨ix, hix⟩ := List.getElem?_of_mem hkv
      obtain ⟨l, vl, cl, e1, e2, e3⟩ := hfam1.2.2 kv hkv
      have hk64 := figs_in ((hfam1.1 kv.1).mp (List.mem_map_of_mem hkv))
      have hpin := places_in kv.1.toNat (by omega)
      rw [show ((kv.1.toNat : Nat) : Int) = kv.1 by omega] at hpin
      have FE : Fr G C' s₃.heap m₃ := ⟨hns, fun b o e => hst3 b o (F19.keep b o e), Nat.le_trans F19.above (Nat.le_trans (Nat.le_of_lt F19.ns.lt) (Nat.le_of_lt hC'))⟩
      have hlist : s₃.heap.IsList l vl.toArray := stays_list hst3 (News.isList N19 (mR1 _ e2))
      have hprice : s₃.heap.IsList Dp vp.toArray := stays_list hst3 (News.isList N19 (.tail _ (.tail _ (.tail _ (.head _)))))
      refine Call_nameN (LCgL.ld_global FE X T (by k_is) ?_)
      refine callWith_K X (by k_is) ?_
      refine spliced_more (Subscript_ (wpAny_Name (wpAny_loadName_cell rfl rfl rfl ⟨o1', hst3 _ _ (N19 (_, o1') (.tail _ (.head _))).1, d1'⟩ (wpAny_Name (wpAny_loadName_local rfl rfl hns hm ?_)))))
      refine item_dictK (hD.keep hst3) (v := kv.2) hix ?_
      rw [e1]
      refine spliced_more (wpAny_Name (wpAny_loadName_cell rfl rfl rfl ⟨o0', hst3 _ _ (N19 (_, o0') (.tail _ (.tail _ (.head _)))).1, d0'⟩ ?_))
      refine spliced_none ⟨X.keeps FE.keep, ?_⟩
      exact price_spec (((CE _ rfl rfl).less (by decide)).keeps hst3) hlist e3 hprice ipp (fun k hk => ⟨(hpin.1 k hk).1, by have := (hpin.1 k hk).2; rw [hps6]; exact this⟩) (by omega) hpp (fun t h' tk' hk' => ⟨⟨t, rfl⟩, _, _, rfl, hk'⟩)
    · rw [List.filter_eq_self.mpr fun _ _ => rfl] at hi2
      exact hR _ _ ⟨D2, h2, tk2, ys2, c2, rfl, rfl, hst2, hg2, hi2⟩
  rintro v s' ⟨Ds, h20, tk20, ys, cs, rfl, rfl, hk20, hg20, hi20⟩
  have F20 := F19.keeps hk20
  have N20 := N19.grown hk20
  try clear F19
  try clear N19
  ktr_unf
  refine goT ?_
  refine sum_K rfl ⟨_, hg20, rfl, _, rfl⟩ hi20 (fun h21 tk21 t21 hk21 => ?_)
  have F21 := F20.keeps hk21
  have N21 := N20.grown hk21
  try clear F20
  try clear N20
  ktr_unf
  refine goT ?_
  rename_i h23 F23 N23
  refine cutR (fun v s' => Hd (∃ D h' tk ys c, v = .ref D ∧ s' = { s1 with heap := h', toks := tk } ∧ h23.StaysIn h' ∧ h'.get? D = some (listOf (List.toArray ys) c) ∧ IntsAre ys ((kv2.map (·.1)).map fun k => prod ps (lack (places k))))) (fun R hR => ?_) ?_
  · have hD : h23.DictOf (intKind PySem.Challenge.rw_oc0028_01.row.prog w) D2 kv2 := Heap.dictOf_iff.mpr ⟨od2, (N23 _ mD2).1, hod2⟩
    have CE := fun (env : Env) (hf : env.frame = some s1.heap.objs.size) (hk : env.scope.kind = .function) => (C30.less (k := 20) (by decide)).push (env := env) F23 hf hk
    refine wpAny_ListComp_free (pV fun _ => true) (FV fun k => prod ps (lack (places k))) (cl := [(Str.ofString "second", s1.heap.objs.size + 1 + 1 + 1), (Str.ofString "prices", s1.heap.objs.size + 1)]) rfl (by decide) rfl (by decide) rfl ?_
    ktr_unf
    refine goT ?_
    refine src_dict rfl hs2 hD (by rw [sizeLine_eq]; omega) ⟨?_, ?_⟩ (fun D2 h2 tk2 ys2 c2 hD2 hg2 hi2 hst2 => ?_)
    · intro C' k t s₃ m₃ E' _ _ hns hm hst3
      exact wpAny_tests_nil ⟨rfl, _, _, rfl, fun _ _ e => e⟩
    · intro C' k t s₃ m₃ E' hC' hk _ hns hm hst3
      obtain ⟨kv, hkv, rfl⟩ := List.mem_map.mp hk
      obtain ⟨ix, hix⟩ := List.getElem?_of_mem hkv
      obtain ⟨l, vl, cl, e1, e2, e3⟩ := hfam2.2.2 kv hkv
      have hk64 := figs_in ((hfam2.1 kv.1).mp (List.mem_map_of_mem hkv))
      have hpin := places_in kv.1.toNat (by omega)
      rw [show ((kv.1.toNat : Nat) : Int) = kv.1 by omega] at hpin
      have FE : Fr G C' s₃.heap m₃ := ⟨hns, fun b o e => hst3 b o (F23.keep b o e), Nat.le_trans F23.above (Nat.le_trans (Nat.le_of_lt F23.ns.lt) (Nat.le_of_lt hC'))⟩
      have hlist : s₃.heap.IsList l vl.toArray := stays_list hst3 (News.isList N23 (mR2 _ e2))
      have hprice : s₃.heap.IsList Dp vp.toArray := stays_list hst3 (News.isList N23 (.tail _ (.tail _ (.tail _ (.head _)))))
      refine Call_nameN (LCgL.ld_global FE X T (by k_is) ?_)
      refine callWith_K X (by k_is) ?_
      refine spliced_more (Call_nameN (LCgL.ld_global FE X T (by k_is) ?_))
      refine callWith_K X (by k_is) ?_
      refine spliced_more (Subscript_ (wpAny_Name (wpAny_loadName_cell rfl rfl rfl ⟨o2', hst3 _ _ (N23 (_, o2') (.head _)).1, d2'⟩ (wpAny_Name (wpAny_loadName_local rfl rfl hns hm ?_)))))
      refine item_dictK (hD.keep hst3) (v := kv.2) hix ?_
      rw [e1]
      refine spliced_none ⟨X.keeps FE.keep, ?_⟩
      refine lacking_spec (((CE _ rfl rfl).less (by decide)).keeps hst3) hlist e3 (fun Dl h' tk' yl c' hDl hgl hil hk' => ?_)
      refine spliced_more (wpAny_Name (wpAny_loadName_cell rfl rfl rfl ⟨o0', hk' _ _ (hst3 _ _ (N23 (_, o0') (.tail _ (.tail _ (.head _)))).1), d0'⟩ ?_))
      refine spliced_none ⟨X.keeps fun b o e => hk' b o (FE.keep b o e), ?_⟩
      exact price_spec (((CE _ rfl rfl).less (by decide)).keeps fun b o e => hk' b o (hst3 b o e)) ⟨_, hgl, rfl, _, rfl⟩ hil (stays_list hk' hprice) ipp (fun k hk => ⟨((lack_in _).1 k hk).1, by have := ((lack_in _).1 k hk).2; rw [hps6]; exact this⟩) (by omega) hpp (fun t h'' tk'' hk'' => ⟨⟨t, rfl⟩, _, _, rfl, fun b o e => hk'' b o (hk' b o e)⟩)
    · rw [List.filter_eq_self.mpr fun _ _ => rfl] at hi2
      exact hR _ _ ⟨D2, h2, tk2, ys2, c2, rfl, rfl, hst2, hg2, hi2⟩
  rintro v s' ⟨Dz, h24, tk24, yz, cz, rfl, rfl, hk24, hg24, hi24⟩
  have F24 := F23.keeps hk24
  have N24 := N23.grown hk24
  try clear F23
  try clear N23
  ktr_unf
  refine goT ?_
  refine sum_K rfl ⟨_, hg24, rfl, _, rfl⟩ hi24 (fun h25 tk25 t25 hk25 => ?_)
  have F25 := F24.keeps hk25
  have N25 := N24.grown hk25
  try clear F24
  try clear N24
  ktr_unf
  refine goT ?_
  have hin1 : ∀ k ∈ kv1.map (·.1), 0 ≤ k ∧ k < 64 := fun k hk => figs_in ((hfam1.1 k).mp hk)
  have hin2 : ∀ k ∈ kv2.map (·.1), 0 ≤ k ∧ k < 64 := fun k hk => figs_in ((hfam2.1 k).mp hk)
  have b1 := sum_bound (f := fun k => prod ps (places k)) (B := 2 ^ 240) (ks := kv1.map (·.1)) fun k hk => (prod_bound hps6 hpp (hin1 k hk)).1
  have b2 := sum_bound (f := fun k => prod ps (lack (places k))) (B := 2 ^ 240) (ks := kv2.map (·.1)) fun k hk => (prod_bound hps6 hpp (hin2 k hk)).2
  rw [List.length_map] at b1 b2
  have hn1' : (kv1.map (·.1)).Nodup := let ⟨_, _, _, _, _, _, hn⟩ := hod1; hn
  have hn2' : (kv2.map (·.1)).Nodup := let ⟨_, _, _, _, _, _, hn⟩ := hod2; hn
  have hlaw := Hd.mk (plain_law hps6 (fun p hp => (hpp p hp).1) hn1' hn2' ng nck hin1 hin2 hgm hcm)
  refine mul_int ?_ (mul_ok b1.1 (by omega) b2.1 (by omega))
  clear b1 b2
  ktr_unf
  refine goT ?_
  refine le_int ?_
  rw [decide_eq_true hlaw.out]
  rename_i h26 F26 N26
  have h30 : ∃ psT, ((30 : Addr), tabObj psT) ∈ tl2 := by
    rcases htl2 with rfl | ⟨c', oc', vs', t', rfl, _⟩
    · exact ⟨_, .head _⟩
    · exact ⟨_, .tail _ (.head _)⟩
  obtain ⟨psT, hpsT⟩ := h30
  have hgr : GrownAt 30 h26 := ⟨psT, (N26 _ (.tail _ (.tail _ (.tail _ (.tail _ (.tail _ (.tail _ (List.mem_append_right _ hpsT)))))))).1⟩
  clear hlaw hgm hcm N26
  refine And.intro (goodW_bool F26 hgens (fun _ => rfl) (post_true _) rfl) (And.intro hgr trivial))
end Mine

theorem PySem.Challenge.cw_oc0028_01_holds : PySem.Challenge.rw_oc0028_01.Holds := by
  exact Mine.law_holds
